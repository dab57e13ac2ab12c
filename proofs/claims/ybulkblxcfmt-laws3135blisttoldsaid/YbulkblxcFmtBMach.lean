import Derived.Test.YbulkblxcFmtBForm
import Derived.Test.YbulkblxcFmtBPlain
import Derived.Deep.CutRange
namespace Go.Proofs.YbulkblxcFmt
open Go.ChangeShapes Go.WideShapes Go.ChangeAt Go.WideElems Go.RowKit Go.Joins Go.Deep
set_option linter.unusedVariables false

def isCpu (q : Int) : Bool := decide (q = 7) || (decide (q = 12) || (decide (q = 18) || (decide (q = 16777223) || (decide (q = 16777228) || decide (q = 16777234)))))
def cpuN (q : Int) : ByteArray := if q = 7 then ⟨#[105, 51, 56, 54]⟩ else if q = 12 then ⟨#[97, 114, 109]⟩ else if q = 18 then ⟨#[112, 112, 99]⟩ else if q = 16777223 then ⟨#[120, 56, 54, 45, 54, 52]⟩ else if q = 16777228 then ⟨#[97, 97, 114, 99, 104, 54, 52]⟩ else if q = 16777234 then ⟨#[112, 112, 99, 54, 52]⟩ else ⟨#[]⟩

/-- macho.machines as laid. -/
structure MaW (B0 bm : Nat) (w : World) : Prop where
  mach : w.cell? ⟨5, 0, none⟩ = some (.map (some bm))
  look : ∀ w', w'.heap[bm]? = w.heap[bm]? → ∀ q : Int, 0 ≤ q → q ≤ 4294967295 → ∃ x y z : Int, (Instr.lookup 111 (.map (some bm)) (.int .u32 q) true).run Ybaf.prog w' = .ok (.tuple #[.agg #[.string (cpuN q), .int .u64 x, .int .u64 y, .int .u64 z], .bool (isCpu q)]) w'
  hbm : bm < B0
  h9 : 9 ≤ B0
  hB : B0 ≤ w.heap.size

theorem MaW.below {B0 bm : Nat} {w w' : World} (h : MaW B0 bm w) (hb : Below B0 w w') : MaW B0 bm w' := by
  have h9 := h.h9
  exact ⟨(hb.cell (p := ⟨5, 0, none⟩) (by simp; omega)).trans h.mach, fun w2 h3 => h.look w2 (h3.trans (hb.block bm h.hbm)), h.hbm, h9, Nat.le_trans h.hB hb.size⟩

def cpuAt (q : Int) : DataW Unit := (Rows.laid_example_com_objsight_objsight_macho_machines (H := Unit)).atKey (.int .u32 q) .nil
theorem cpuAt_no {q : Int} (h : isCpu q = false) (z : DataW Unit) : (Rows.laid_example_com_objsight_objsight_macho_machines (H := Unit)).atKey (.int .u32 q) z = z := by
  simp [isCpu] at h
  simp [DataW.atKey, Rows.laid_example_com_objsight_objsight_macho_machines, List.find?, Lit.sameKey, h, eq_comm]
theorem cpuAt_yes {q : Int} (h : isCpu q = true) : ∃ l x y z, cpuAt q = .agg [.lit (.string l), .agg [.lit (.int .u64 x), .lit (.int .u64 y), .lit (.int .u64 z)]] ∧ cpuN q = ⟨l.toArray⟩ := by
  simp [isCpu] at h
  rcases h with h | h | h | h | h | h <;> subst h <;> exact ⟨_, _, _, _, rfl, rfl⟩
theorem cpuN_no {q : Int} (h : isCpu q = false) : cpuN q = ⟨#[]⟩ := by
  simp [isCpu] at h
  simp [cpuN, h]

theorem Ybaf.cells109 : Ybaf.prog.cellsOf 109 = 4 := by kernel_rfl
theorem Ybaf.cells108 : Ybaf.prog.cellsOf 108 = 3 := by kernel_rfl
theorem Ybaf.u109 : ∃ f0 f1, Ybaf.prog.underlying 109 = some (.struct #[f0, f1]) ∧ f0.type = 9 ∧ f0.offset = 0 ∧ f1.type = 108 ∧ f1.offset = 1 := ⟨_, _, Ybaf.underlying109, rfl, rfl, rfl, rfl⟩
theorem Ybaf.u108 : ∃ f0 f1 f2, Ybaf.prog.underlying 108 = some (.struct #[f0, f1, f2]) ∧ f0.type = 24 ∧ f0.offset = 0 ∧ f1.type = 24 ∧ f1.offset = 1 ∧ f2.type = 24 ∧ f2.offset = 2 := ⟨_, _, _, Ybaf.underlying108, rfl, rfl, rfl, rfl, rfl, rfl⟩

theorem cpu_elem {W : World} {base : Nat} {sp : Nat → Bool} {held : Bool} {n : Nat} {v : Value} {l : List UInt8} {x y z : Int} {zz : List MemPlace} {en : TypeId × Value → Unit}
    (h : elemAt en Ybaf.prog W base sp held n 109 v = some (.agg [.lit (.string l), .agg [.lit (.int .u64 x), .lit (.int .u64 y), .lit (.int .u64 z)]], zz)) : v = .agg #[.string ⟨l.toArray⟩, .int .u64 x, .int .u64 y, .int .u64 z] := by
  unfold elemAt at h
  split at h
  · rename_i hf
    obtain ⟨f0, f1, hu, t0, o0, t1, o1⟩ := Ybaf.u109
    obtain ⟨y0, y1, m, hx, hlen, h0, h1⟩ := trod_struct2 hu h
    rw [t0, o0, Ybaf.cells9] at h0
    rw [t1, o1, Ybaf.cells108] at h1
    obtain ⟨g0, g1, g2, hu2, a0, b0, a1, b1, a2, b2⟩ := Ybaf.u108
    obtain ⟨z0, z1, z2, m2, hx2, hlen2, k0, k1, k2⟩ := trod_struct3 hu2 h1
    rw [a0, b0, Ybaf.cells24] at k0
    rw [a1, b1, Ybaf.cells24] at k1
    rw [a2, b2, Ybaf.cells24] at k2
    obtain ⟨s, e0, hy0, _⟩ := DataW.trod_string Ybaf.underlying9 h0
    obtain ⟨c0, e1, hy1, _⟩ := DataW.trod_int Ybaf.underlying24 k0
    obtain ⟨c1, e2, hy2, _⟩ := DataW.trod_int Ybaf.underlying24 k1
    obtain ⟨c2, e3, hy3, _⟩ := DataW.trod_int Ybaf.underlying24 k2
    subst hy0 hy1 hy2 hy3 hx2
    simp at hx
    rw [Ybaf.cells109] at hlen
    have hagg : ∃ cs, v = .agg cs := by
      cases v with
      | agg cs => exact ⟨cs, rfl⟩
      | _ => simp [Value.formed, hu] at hf
    obtain ⟨cs, hv⟩ := hagg
    rw [hv] at e0 e1 e2 e3 hlen ⊢
    obtain ⟨q0, q1, q2, q3, rfl⟩ := array4 (cs := cs) (by simpa [Value.cells] using hlen)
    simp [Value.cells] at e0 e1 e2 e3
    rw [e0, e1, e2, e3, hx.1.1, hx.1.2.1, hx.1.2.2.1, hx.1.2.2.2]
  · cases h

theorem zero109 (w : World) : (zeroValue 109).run Ybaf.prog w = .ok (.agg #[.string ⟨#[]⟩, .int .u64 0, .int .u64 0, .int .u64 0]) w := by kernel_rfl

theorem of_laid_ma {W : World} (h : laidMetH Ybaf.prog Rows.lawS3135BRefuseRow.laid W) : ∃ bm, MaW W.heap.size bm W := by
  have h' : laidMet Ybaf.prog Rows.lawS3135BRefuseRow.laid.tail W ∧ handlesMet Ybaf.prog [Rows.lawS3135BRefuseRow.laid.head (by simp [Rows.lawS3135BRefuseRow])] W := h
  obtain ⟨ps, ⟨g7, t7, cs7, f7, p7, q7, hg7, ht7, hv7, hd7, ⟨g8, t8, cs8, f8, p8, q8, hg8, ht8, hv8, hd8, ⟨g2, t2, cs2, f2, p2, q2, hg2, ht2, hv2, hd2, _, _⟩, _⟩, _⟩, _, _⟩ := h'.1
  obtain rfl := Option.some.inj ((show _ = some 8 from by kernel_rfl).symm.trans hg8)
  obtain rfl := Option.some.inj ((show _ = some 5 from by kernel_rfl).symm.trans hg2)
  obtain rfl := Option.some.inj ((show _ = some 111 from by kernel_rfl).symm.trans ht2)
  rcases open_map Ybaf.underlying111 hd2 with ⟨_, hx⟩ | ⟨bm, es, clock, m, rfl, hcs2, hb, _, F, hx⟩
  · exact absurd (congrArg Prod.fst hx) (by intro e; cases e)
  have hx1 := congrArg Prod.fst hx
  have g2c : W.cell? ⟨5, 0, none⟩ = some (.map (some bm)) := by
    have := World.var?_cell hg2 hv2 0
    rw [Array.eq_one_of_toList hcs2] at this
    simpa using this
  have hbm : bm < W.heap.size := (Array.getElem?_eq_some_iff.1 hb).1
  have h9 : 9 ≤ W.heap.size := lt_of_var hg8 hv8
  refine ⟨bm, g2c, ?_, hbm, h9, Nat.le_refl _⟩
  intro w' hw' q hq0 hq1
  have hkey : keyOf Ybaf.prog 25 (.int .u32 q) = some (.int .u32 q) := Maps.keyOf_int_mk Ybaf.underlying25 (by simp [Lit.wf, IntKind.min, IntKind.max, IntKind.signed, IntKind.bits]; omega)
  have hat : ∀ zd, (DataW.map ((es.toList.map (rg Ybaf.prog 25 (elemAt (fun _ => ()) Ybaf.prog W 0 (fun _ => true) false m 109))).foldr DataW.insert [])).atKey (.int .u32 q) zd = (Rows.laid_example_com_objsight_objsight_macho_machines (H := Unit)).atKey (.int .u32 q) zd := by
    intro zd
    rw [show DataW.map ((es.toList.map (rg Ybaf.prog 25 (elemAt (fun _ => ()) Ybaf.prog W 0 (fun _ => true) false m 109))).foldr DataW.insert []) = Rows.laid_example_com_objsight_objsight_macho_machines (H := Unit) from hx1.symm]
  rcases Maps.fit_look (w := w') true (Maps.int_keyed Ybaf.underlying25) Ybaf.underlying111 (zero109 w') (hw'.trans hb) F hkey with ⟨hrun, _, hno⟩ | ⟨e0, y, _, _, hrun, hRv, hyes, _⟩
  · have hm : cpuAt q = .nil := by
      have := hno .nil
      rw [hat] at this
      exact this
    cases hi : isCpu q
    · rw [cpuN_no hi]
      exact ⟨0, 0, 0, hrun⟩
    · obtain ⟨l, x, y, z, e, _⟩ := cpuAt_yes hi
      rw [e] at hm
      cases hm
  · have hm : cpuAt q = y.1 := by
      have := hyes .nil
      rw [hat] at this
      exact this
    cases hi : isCpu q
    · have h1 := hyes .nil
      have h2 := hyes (.lit (.bool true))
      rw [hat, cpuAt_no hi] at h1 h2
      rw [← h1] at h2
      cases h2
    · obtain ⟨l, x, yy, z, e, en⟩ := cpuAt_yes hi
      rw [e] at hm
      obtain ⟨y1, y2⟩ := y
      simp only at hm
      subst hm
      have hv := cpu_elem hRv
      rw [en]
      refine ⟨x, yy, z, ?_⟩
      rw [hrun, hv]
      rfl

theorem isCpu_k (k : Nat) (hk : k < 7) : 0 ≤ cpuK k ∧ cpuK k ≤ 4294967295 ∧ ((isCpu (cpuK k) = true ∧ cpuN (cpuK k) = nameK k) ∨ (isCpu (cpuK k) = false ∧ nameK k = ⟨#[117, 110, 107, 110, 111, 119, 110]⟩)) := by
  rcases (by omega : k = 0 ∨ k = 1 ∨ k = 2 ∨ k = 3 ∨ k = 4 ∨ k = 5 ∨ k = 6) with rfl | rfl | rfl | rfl | rfl | rfl | rfl <;> simp [cpuK, isCpu, cpuN, nameK]

theorem ret_str {a b : ByteArray} (h : a = b) : Ending.returned (.string a) = .returned (.string b) := by rw [h]

set_option maxHeartbeats 400000 in
/-- archName over one of the seven cputypes. -/
theorem arch_k (B0 bm k : Nat) (w : World) (P : MaW B0 bm w) (hk : k < 7) :
    Calls Ybaf.prog 23 #[.int .u32 (cpuK k)] w fun e w' => e = .returned (.string (nameK k)) ∧ Below w.heap.size w w' := by
  obtain ⟨h0, h1, hc⟩ := isCpu_k k hk
  have g5 := P.mach
  obtain ⟨x, y, z, hl⟩ := P.look w rfl (cpuK k) h0 h1
  have h9 := P.h9
  have hB := P.hB
  have hs : 5 < w.heap.size := by omega
  have hbel : ∀ (o : Obj), Below w.heap.size w (w.alloc o) := fun o => (Below.refl _ _).alloc (Nat.le_refl _) _
  generalize hq : cpuK k = q at *
  rcases hc with ⟨c1, c2⟩ | ⟨c1, c2⟩
  · rw [c1] at hl
    clear P
    go_enter Ybaf.func23, Ybaf.ntmps23
    go_wp2
    go_ret
    exact ⟨rfl, by repeat (first | exact hbel _ | refine Below.setCell ?_ (by simp) _)⟩
  · rw [c1] at hl
    clear P
    go_enter Ybaf.func23, Ybaf.ntmps23
    go_wp2
    go_ret
    exact ⟨ret_str (by first | rfl | exact c2.symm | simp [c2]), by repeat (first | exact hbel _ | refine Below.setCell ?_ (by simp) _)⟩

end Go.Proofs.YbulkblxcFmt
