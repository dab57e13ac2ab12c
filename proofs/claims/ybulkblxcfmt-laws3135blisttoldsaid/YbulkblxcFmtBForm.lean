import Derived.Test.YbulkblxcFmtLaid
import Derived.Lib.SmallJoins
namespace Go.Proofs.YbulkblxcFmt
open Go.ChangeShapes Go.WideShapes Go.ChangeAt Go.WideElems Go.RowKit Go.Joins
set_option linter.unusedVariables false

/-- The two forms of the universal header, by the magic number. -/
def isForm (q : Int) : Bool := decide (q = 3405691582) || decide (q = 3405691583)
def fEs (q : Int) : Int := if q = 3405691582 then 20 else if q = 3405691583 then 32 else 0
def fOf (q : Int) : Int := if q = 3405691582 then 8 else if q = 3405691583 then 8 else 0
def fSz (q : Int) : Int := if q = 3405691582 then 12 else if q = 3405691583 then 16 else 0
def fWd (q : Int) : Int := if q = 3405691582 then 4 else if q = 3405691583 then 8 else 0

/-- The package-level variables as laid: the table of forms, errors.errorType. -/
structure MoW (B0 bf : Nat) (w : World) : Prop where
  forms : w.cell? ⟨4, 0, none⟩ = some (.map (some bf))
  look : ∀ w', w'.heap[bf]? = w.heap[bf]? → ∀ q : Int, 0 ≤ q → q ≤ 4294967295 → (Instr.lookup 103 (.map (some bf)) (.int .u32 q) true).run Ybaf.prog w' = .ok (.tuple #[.agg #[.int .u64 (fEs q), .int .i64 (fOf q), .int .i64 (fSz q), .int .i64 (fWd q)], .bool (isForm q)]) w'
  errT : ErrT w
  hbf : bf < B0
  h9 : 9 ≤ B0
  hB : B0 ≤ w.heap.size

theorem MoW.below {B0 bf : Nat} {w w' : World} (h : MoW B0 bf w) (hb : Below B0 w w') : MoW B0 bf w' := by
  have h9 := h.h9
  exact ⟨(hb.cell (p := ⟨4, 0, none⟩) (by simp; omega)).trans h.forms, fun w2 h3 => h.look w2 (h3.trans (hb.block bf h.hbf)), h.errT.below hb (by omega), h.hbf, h9, Nat.le_trans h.hB hb.size⟩

def formAt (q : Int) : DataW Unit := (Rows.laid_example_com_objsight_objsight_macho_sliceForms (H := Unit)).atKey (.int .u32 q) .nil

theorem formAt_no {q : Int} (h : isForm q = false) (z : DataW Unit) : (Rows.laid_example_com_objsight_objsight_macho_sliceForms (H := Unit)).atKey (.int .u32 q) z = z := by
  simp [isForm] at h
  simp [DataW.atKey, Rows.laid_example_com_objsight_objsight_macho_sliceForms, List.find?, Lit.sameKey, h, eq_comm]
theorem formAt_yes {q : Int} (h : isForm q = true) : formAt q = .agg [.lit (.int .u64 (fEs q)), .lit (.int .i64 (fOf q)), .lit (.int .i64 (fSz q)), .lit (.int .i64 (fWd q))] := by
  simp [isForm] at h
  rcases h with h | h <;> subst h <;> rfl
theorem form_zero {q : Int} (h : isForm q = false) : fEs q = 0 ∧ fOf q = 0 ∧ fSz q = 0 ∧ fWd q = 0 := by
  simp [isForm] at h
  simp [fEs, fOf, fSz, fWd, h]

theorem Ybaf.cells72 : Ybaf.prog.cellsOf 72 = 4 := by kernel_rfl
theorem Ybaf.cells24 : Ybaf.prog.cellsOf 24 = 1 := by kernel_rfl
theorem Ybaf.u72 : ∃ f0 f1 f2 f3, Ybaf.prog.underlying 72 = some (.struct #[f0, f1, f2, f3]) ∧ f0.type = 24 ∧ f0.offset = 0 ∧ f1.type = 3 ∧ f1.offset = 1 ∧ f2.type = 3 ∧ f2.offset = 2 ∧ f3.type = 3 ∧ f3.offset = 3 := ⟨_, _, _, _, Ybaf.underlying72, rfl, rfl, rfl, rfl, rfl, rfl, rfl, rfl⟩

theorem form_elem {W : World} {base : Nat} {sp : Nat → Bool} {held : Bool} {n : Nat} {v : Value} {a b c d : Int} {z : List MemPlace} {en : TypeId × Value → Unit}
    (h : elemAt en Ybaf.prog W base sp held n 72 v = some (.agg [.lit (.int .u64 a), .lit (.int .i64 b), .lit (.int .i64 c), .lit (.int .i64 d)], z)) : v = .agg #[.int .u64 a, .int .i64 b, .int .i64 c, .int .i64 d] := by
  unfold elemAt at h
  split at h
  · rename_i hf
    obtain ⟨f0, f1, f2, f3, hu, t0, o0, t1, o1, t2, o2, t3, o3⟩ := Ybaf.u72
    obtain ⟨y0, y1, y2, y3, m, hx, hlen, h0, h1, h2, h3⟩ := trod_struct4 hu h
    rw [t0, o0, Ybaf.cells24] at h0
    rw [t1, o1, Ybaf.cells3] at h1
    rw [t2, o2, Ybaf.cells3] at h2
    rw [t3, o3, Ybaf.cells3] at h3
    obtain ⟨k0, e0, hy0, _⟩ := DataW.trod_int Ybaf.underlying24 h0
    obtain ⟨k1, e1, hy1, _⟩ := DataW.trod_int Ybaf.underlying3 h1
    obtain ⟨k2, e2, hy2, _⟩ := DataW.trod_int Ybaf.underlying3 h2
    obtain ⟨k3, e3, hy3, _⟩ := DataW.trod_int Ybaf.underlying3 h3
    subst hy0 hy1 hy2 hy3
    simp at hx
    rw [Ybaf.cells72] at hlen
    have hagg : ∃ cs, v = .agg cs := by
      cases v with
      | agg cs => exact ⟨cs, rfl⟩
      | _ => simp [Value.formed, hu] at hf
    obtain ⟨cs, hv⟩ := hagg
    rw [hv] at e0 e1 e2 e3 hlen ⊢
    obtain ⟨a0, a1, a2, a3, rfl⟩ := array4 (cs := cs) (by simpa [Value.cells] using hlen)
    simp [Value.cells] at e0 e1 e2 e3
    rw [e0, e1, e2, e3, hx.1.1, hx.1.2.1, hx.1.2.2.1, hx.1.2.2.2]
  · cases h

theorem zero72 (w : World) : (zeroValue 72).run Ybaf.prog w = .ok (.agg #[.int .u64 0, .int .i64 0, .int .i64 0, .int .i64 0]) w := by kernel_rfl

theorem errT_of_laidB {W : World} (h : laidMetH Ybaf.prog Rows.lawS3135BRefuseRow.laid W) : ErrT W := by
  have h' : laidMet Ybaf.prog Rows.lawS3135BRefuseRow.laid.tail W ∧ handlesMet Ybaf.prog [Rows.lawS3135BRefuseRow.laid.head (by simp [Rows.lawS3135BRefuseRow])] W := h
  obtain ⟨name, u, ty, e1, e2, e3, e4, e5⟩ := h'.2 _ (List.mem_singleton.2 rfl)
  have en : name = [101, 114, 114, 111, 114] := (Option.some.inj e1).symm
  subst en
  obtain rfl := Option.some.inj ((show _ = some 134 from by kernel_rfl).symm.trans e2)
  have hm : ty ∈ (List.range 189).filter fun t => Ybaf.prog.rowNamed t [101, 114, 114, 111, 114] := List.mem_filter.2 ⟨List.mem_range.2 (by rw [← Ybaf.ntypes]; exact e3), e4⟩
  rw [Ybaf.oneErr] at hm
  obtain rfl := List.mem_singleton.1 hm
  have hh : typeHandle Ybaf.prog 48 = .pointer (some ⟨9, 48, none⟩) := by kernel_rfl
  rw [hh] at e5
  have := World.var?_cell (g := 6) (by kernel_rfl) e5 0
  simpa [ErrT] using this

theorem of_laid_mo {W : World} (h : laidMetH Ybaf.prog Rows.lawS3135BRefuseRow.laid W) : ∃ bf, MoW W.heap.size bf W := by
  have hE := errT_of_laidB h
  have h' : laidMet Ybaf.prog Rows.lawS3135BRefuseRow.laid.tail W ∧ handlesMet Ybaf.prog [Rows.lawS3135BRefuseRow.laid.head (by simp [Rows.lawS3135BRefuseRow])] W := h
  obtain ⟨ps, ⟨g7, t7, cs7, f7, p7, q7, hg7, ht7, hv7, hd7, ⟨g8, t8, cs8, f8, p8, q8, hg8, ht8, hv8, hd8, ⟨g1, t1, cs1, f1, p1, q1, hg1, ht1, hv1, hd1, ⟨g2, t2, cs2, f2, p2, q2, hg2, ht2, hv2, hd2, _, _⟩, _⟩, _⟩, _⟩, _, _⟩ := h'.1
  obtain rfl := Option.some.inj ((show _ = some 8 from by kernel_rfl).symm.trans hg8)
  obtain rfl := Option.some.inj ((show _ = some 4 from by kernel_rfl).symm.trans hg2)
  obtain rfl := Option.some.inj ((show _ = some 103 from by kernel_rfl).symm.trans ht2)
  rcases open_map Ybaf.underlying103 hd2 with ⟨_, hx⟩ | ⟨bm, es, clock, m, rfl, hcs2, hb, _, F, hx⟩
  · exact absurd (congrArg Prod.fst hx) (by intro e; cases e)
  have hx1 := congrArg Prod.fst hx
  have g2c : W.cell? ⟨4, 0, none⟩ = some (.map (some bm)) := by
    have := World.var?_cell hg2 hv2 0
    rw [Array.eq_one_of_toList hcs2] at this
    simpa using this
  have hbm : bm < W.heap.size := (Array.getElem?_eq_some_iff.1 hb).1
  have h9 : 9 ≤ W.heap.size := lt_of_var hg8 hv8
  refine ⟨bm, g2c, ?_, hE, hbm, h9, Nat.le_refl _⟩
  intro w' hw' q hq0 hq1
  have hkey : keyOf Ybaf.prog 25 (.int .u32 q) = some (.int .u32 q) := Maps.keyOf_int_mk Ybaf.underlying25 (by simp [Lit.wf, IntKind.min, IntKind.max, IntKind.signed, IntKind.bits]; omega)
  have hat : ∀ zd, (DataW.map ((es.toList.map (rg Ybaf.prog 25 (elemAt (fun _ => ()) Ybaf.prog W 0 (fun _ => true) false m 72))).foldr DataW.insert [])).atKey (.int .u32 q) zd = (Rows.laid_example_com_objsight_objsight_macho_sliceForms (H := Unit)).atKey (.int .u32 q) zd := by
    intro zd
    rw [show DataW.map ((es.toList.map (rg Ybaf.prog 25 (elemAt (fun _ => ()) Ybaf.prog W 0 (fun _ => true) false m 72))).foldr DataW.insert []) = Rows.laid_example_com_objsight_objsight_macho_sliceForms (H := Unit) from hx1.symm]
  rcases Maps.fit_look (w := w') true (Maps.int_keyed Ybaf.underlying25) Ybaf.underlying103 (zero72 w') (hw'.trans hb) F hkey with ⟨hrun, _, hno⟩ | ⟨e0, y, _, _, hrun, hRv, hyes, _⟩
  · have hm : formAt q = .nil := by
      have := hno .nil
      rw [hat] at this
      exact this
    cases hi : isForm q
    · obtain ⟨z0, z1, z2, z3⟩ := form_zero hi
      rw [z0, z1, z2, z3]
      exact hrun
    · rw [formAt_yes hi] at hm
      cases hm
  · have hm : formAt q = y.1 := by
      have := hyes .nil
      rw [hat] at this
      exact this
    cases hi : isForm q
    · have h1 := hyes .nil
      have h2 := hyes (.lit (.bool true))
      rw [hat, formAt_no hi] at h1 h2
      rw [← h1] at h2
      cases h2
    · rw [formAt_yes hi] at hm
      obtain ⟨y1, y2⟩ := y
      simp only at hm
      subst hm
      have hv := form_elem hRv
      rw [hrun, hv]
      rfl

end Go.Proofs.YbulkblxcFmt
