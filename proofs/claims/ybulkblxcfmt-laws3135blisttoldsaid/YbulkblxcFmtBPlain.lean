import Derived.Test.YbulkblxcFmtBOwn
namespace Go.Proofs.YbulkblxcFmt
open Go.RowKit
set_option linter.unusedVariables false

/-! ### The plain model of the list of slices -/
/-- An entry of the table: which of the seven cputypes, the offset, the declared size. -/
structure En where
  k : Nat
  off : Nat
  size : Nat
/-- A slice that is listed. -/
structure Mb where
  k : Nat
  off : Nat
  size : Nat

def meets (a n b m : Nat) : Bool := decide (0 < n) && (decide (0 < m) && (decide (a < b + m) && decide (b < a + n)))

def heldOf (fs : Nat) (e : En) : Nat := if e.size ≤ fs - e.off then e.size else fs - e.off
def clash (ms : List Mb) (a n : Nat) : Bool := ms.any fun p => meets a n p.off p.size
def bstep (fs he : Nat) (st : List Mb × Nat) (e : En) : List Mb × Nat :=
  if fs < e.off then (st.1, st.2 + 1)
  else
    if meets e.off (heldOf fs e) 0 he then (st.1, st.2 + (if heldOf fs e < e.size then 1 else 0) + 1)
    else if clash st.1 e.off (heldOf fs e) then (st.1, st.2 + (if heldOf fs e < e.size then 1 else 0) + 1)
    else (st.1 ++ [⟨e.k, e.off, heldOf fs e⟩], st.2 + (if heldOf fs e < e.size then 1 else 0))
def bfold (fs he : Nat) (es : List En) : List Mb × Nat := es.foldl (bstep fs he) ([], 0)

theorem bfold_step (fs he : Nat) (es : List En) (i : Nat) (hi : i < es.length) : bfold fs he (es.take (i + 1)) = bstep fs he (bfold fs he (es.take i)) es[i] := by
  unfold bfold
  rw [List.take_succ_eq_append_getElem hi, List.foldl_append]
  rfl

/-- What each listed slice keeps to. -/
def MbOk (fs : Nat) (m : Mb) : Prop := m.off + m.size ≤ fs ∧ m.k < 7
theorem bstep_ok {fs he : Nat} {st : List Mb × Nat} {e : En} (h : ∀ m ∈ st.1, MbOk fs m) (hk : e.k < 7) : ∀ m ∈ (bstep fs he st e).1, MbOk fs m := by
  unfold bstep
  split
  · exact h
  · split
    · exact h
    · split
      · exact h
      · intro m hm
        rcases List.mem_append.1 hm with hm | hm
        · exact h m hm
        · obtain rfl := List.mem_singleton.1 hm
          refine ⟨?_, hk⟩
          show e.off + heldOf fs e ≤ fs
          unfold heldOf
          split <;> omega
theorem bstep_len {fs he : Nat} {st : List Mb × Nat} {e : En} : (bstep fs he st e).1.length ≤ st.1.length + 1 ∧ (bstep fs he st e).2 ≤ st.2 + 2 := by
  unfold bstep
  have : (if heldOf fs e < e.size then 1 else 0) ≤ 1 := by split <;> omega
  split
  · exact ⟨by simp, by simp⟩
  · split
    · exact ⟨by simp, by simp only; omega⟩
    · split
      · exact ⟨by simp, by simp only; omega⟩
      · exact ⟨by simp, by simp only; omega⟩
theorem bfold_ok (fs he : Nat) (es : List En) (hk : ∀ e ∈ es, e.k < 7) : ∀ i, i ≤ es.length → (∀ m ∈ (bfold fs he (es.take i)).1, MbOk fs m) ∧ (bfold fs he (es.take i)).1.length ≤ i ∧ (bfold fs he (es.take i)).2 ≤ 2 * i := by
  intro i
  induction i with
  | zero => intro _; simp [bfold]
  | succ i ih =>
    intro hi
    obtain ⟨h1, h2, h3⟩ := ih (by omega)
    rw [bfold_step fs he es i (by omega)]
    refine ⟨bstep_ok h1 (hk _ (List.getElem_mem _)), ?_, ?_⟩
    · have := (bstep_len (fs := fs) (he := he) (st := bfold fs he (es.take i)) (e := es[i])).1
      omega
    · have := (bstep_len (fs := fs) (he := he) (st := bfold fs he (es.take i)) (e := es[i])).2
      omega

/-- The name of a machine. -/
def nameK (k : Nat) : ByteArray :=
  if k = 0 then ⟨#[105, 51, 56, 54]⟩ else if k = 1 then ⟨#[97, 114, 109]⟩ else if k = 2 then ⟨#[112, 112, 99]⟩ else if k = 3 then ⟨#[120, 56, 54, 45, 54, 52]⟩ else if k = 4 then ⟨#[97, 97, 114, 99, 104, 54, 52]⟩ else if k = 5 then ⟨#[112, 112, 99, 54, 52]⟩ else ⟨#[117, 110, 107, 110, 111, 119, 110]⟩
def cpuK (k : Nat) : Int :=
  if k = 0 then 7 else if k = 1 then 12 else if k = 2 then 18 else if k = 3 then 16777223 else if k = 4 then 16777228 else if k = 5 then 16777234 else 99

/-- The cells of a slice that is listed. -/
def mbCells (m : Mb) : List Value := [.string (nameK m.k), .int .u64 (m.off : Int), .int .u64 (m.size : Int)]
def msCells (ms : List Mb) : List Value := ms.flatMap mbCells
theorem msCells_append (ms : List Mb) (m : Mb) : msCells (ms ++ [m]) = msCells ms ++ mbCells m := by simp [msCells]
theorem msCells_length (ms : List Mb) : (msCells ms).length = ms.length * 3 := by
  induction ms with
  | nil => rfl
  | cons a l ih =>
    show (mbCells a ++ msCells l).length = _
    rw [List.length_append, ih, List.length_cons]
    show 3 + _ = _
    omega
theorem msCells_at : ∀ (ms : List Mb) (j : Nat) (hj : j < ms.length), (msCells ms)[j * 3]? = some (.string (nameK ms[j].k)) ∧ (msCells ms)[j * 3 + 1]? = some (.int .u64 (ms[j].off : Int)) ∧ (msCells ms)[j * 3 + 2]? = some (.int .u64 (ms[j].size : Int))
  | [], j, hj => by simp at hj
  | a :: l, 0, hj => ⟨rfl, rfl, rfl⟩
  | a :: l, j + 1, hj => by
    have ih := msCells_at l j (by simpa using hj)
    have e : msCells (a :: l) = mbCells a ++ msCells l := rfl
    have e1 : (j + 1) * 3 = 3 + j * 3 := by omega
    have hlen : (mbCells a).length = 3 := rfl
    rw [e, e1]
    refine ⟨?_, ?_, ?_⟩
    · rw [List.getElem?_append_right (by omega), hlen, show 3 + j * 3 - 3 = j * 3 from by omega]; exact ih.1
    · rw [List.getElem?_append_right (by omega), hlen, show 3 + j * 3 + 1 - 3 = j * 3 + 1 from by omega]; exact ih.2.1
    · rw [List.getElem?_append_right (by omega), hlen, show 3 + j * 3 + 2 - 3 = j * 3 + 2 from by omega]; exact ih.2.2

theorem meets_max (a n b m : Nat) : meets a n b m = (decide (0 < n) && (decide (0 < m) && decide (max a b < min (a + n) (b + m)))) := by
  unfold meets
  by_cases h1 : 0 < n
  · by_cases h2 : 0 < m
    · simp only [h1, h2, decide_true, Bool.true_and]
      rw [Bool.eq_iff_iff]
      simp only [Bool.and_eq_true, decide_eq_true_eq]
      omega
    · simp [h2]
  · simp [h1]

end Go.Proofs.YbulkblxcFmt
