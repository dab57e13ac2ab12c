import Derived.Test.YbulkblxcFmtStart
import Derived.ProofKit
import Derived.LaidMore
import Derived.LaidHandle
import Derived.Maps.Keyed
namespace Go.Proofs.YbulkblxcFmt
open Go.ChangeShapes Go.WideShapes Go.ChangeAt Go.WideElems Go.RowKit
set_option linter.unusedVariables false

/-- What the map's datum says at a key. -/
def machAt (q : Int) : DataW Unit := (Rows.laid_example_com_objsight_objsight_pe_machines (H := Unit)).atKey (.int .u16 q) .nil
def machS (q : Int) : ByteArray := match machAt q with | .agg [.lit (.string l), _] => ⟨l.toArray⟩ | _ => ⟨#[]⟩
def machZ (q : Int) : Int := match machAt q with | .agg [_, .lit (.int _ b)] => b | _ => 0

theorem machAt_no {q : Int} (h : isMach q = false) (z : DataW Unit) : (Rows.laid_example_com_objsight_objsight_pe_machines (H := Unit)).atKey (.int .u16 q) z = z := by
  simp [isMach] at h
  simp [DataW.atKey, Rows.laid_example_com_objsight_objsight_pe_machines, List.find?, Lit.sameKey, h, eq_comm]
theorem machAt_yes {q : Int} (h : isMach q = true) : ∃ l b, machAt q = .agg [.lit (.string l), .lit (.int .i64 b)] := by
  simp [isMach] at h
  rcases h with (((h | h) | h) | h) | h <;> subst h <;> exact ⟨_, _, rfl⟩

theorem Ybaf.cells94 : Ybaf.prog.cellsOf 94 = 2 := by kernel_rfl
theorem Ybaf.cells9 : Ybaf.prog.cellsOf 9 = 1 := by kernel_rfl
theorem Ybaf.cells3 : Ybaf.prog.cellsOf 3 = 1 := by kernel_rfl
theorem Ybaf.cells5 : Ybaf.prog.cellsOf 5 = 1 := by kernel_rfl
theorem Ybaf.ntypes : Ybaf.prog.types.size = 189 := by kernel_rfl
theorem Ybaf.oneErr : ((List.range 189).filter fun t => Ybaf.prog.rowNamed t [101, 114, 114, 111, 114]) = [48] := by kernel_rfl

theorem errT_of_laid {W : World} (h : laidMetH Ybaf.prog Rows.lawS3135CImageRow.laid W) : ErrT W := by
  have h' : laidMet Ybaf.prog Rows.lawS3135CImageRow.laid.tail W ∧ handlesMet Ybaf.prog [Rows.lawS3135CImageRow.laid.head (by simp [Rows.lawS3135CImageRow])] W := h
  obtain ⟨name, u, ty, e1, e2, e3, e4, e5⟩ := h'.2 _ (List.mem_singleton.2 rfl)
  have en : name = [101, 114, 114, 111, 114] := (Option.some.inj e1).symm
  subst en
  obtain rfl := Option.some.inj ((show _ = some 134 from by kernel_rfl).symm.trans e2)
  have hm : ty ∈ (List.range 189).filter fun t => Ybaf.prog.rowNamed t [101, 114, 114, 111, 114] := List.mem_filter.2 ⟨List.mem_range.2 (by rw [← Ybaf.ntypes]; exact e3), e4⟩
  rw [Ybaf.oneErr] at hm
  obtain rfl := List.mem_singleton.1 hm
  have hh : typeHandle Ybaf.prog 48 = .pointer (some ⟨9, 48, none⟩) := by kernel_rfl
  rw [hh] at e5
  have := World.var?_cell (g := 6) (by kernel_rfl) e5 0
  simpa [ErrT] using this

theorem Ybaf.u94 : ∃ f0 f1, Ybaf.prog.underlying 94 = some (.struct #[f0, f1]) ∧ f0.type = 9 ∧ f0.offset = 0 ∧ f1.type = 3 ∧ f1.offset = 1 := ⟨_, _, Ybaf.underlying94, rfl, rfl, rfl, rfl⟩

theorem agg_two {cs : Array Value} {s : ByteArray} {k b : Int} {l : List UInt8} (e0 : (((Value.agg cs).cells.toList).drop 0).take 1 = [.string s]) (e1 : (((Value.agg cs).cells.toList).drop 1).take 1 = [.int .i64 k]) (hlen : (Value.agg cs).cells.toList.length = 2)
    (h1 : l = s.data.toList) (h2 : b = k) : Value.agg cs = .agg #[.string ⟨l.toArray⟩, .int .i64 b] := by
  obtain ⟨l1⟩ := cs
  simp only [Value.cells] at e0 e1 hlen
  rcases l1 with _ | ⟨a, _ | ⟨c, _ | ⟨d, r⟩⟩⟩
  · simp at hlen
  · simp at hlen
  · simp at e0 e1
    rw [e0, e1, h1, h2]
  · simp at hlen

/-- An element of the map of machines, by what it reads as. -/
theorem mach_elem {W : World} {base : Nat} {sp : Nat → Bool} {held : Bool} {n : Nat} {v : Value} {l : List UInt8} {b : Int} {z : List MemPlace} {en : TypeId × Value → Unit}
    (h : elemAt en Ybaf.prog W base sp held n 94 v = some (.agg [.lit (.string l), .lit (.int .i64 b)], z)) : v = .agg #[.string ⟨l.toArray⟩, .int .i64 b] := by
  unfold elemAt at h
  split at h
  · rename_i hf
    obtain ⟨f0, f1, hu, t0, o0, t1, o1⟩ := Ybaf.u94
    obtain ⟨y0, y1, m, hx, hlen, h0, h1⟩ := trod_struct2 hu h
    rw [t0, o0, Ybaf.cells9] at h0
    rw [t1, o1, Ybaf.cells3] at h1
    obtain ⟨s, e0, hy0, _⟩ := DataW.trod_string Ybaf.underlying9 h0
    obtain ⟨k, e1, hy1, _⟩ := DataW.trod_int Ybaf.underlying3 h1
    subst hy0 hy1
    simp at hx
    rw [Ybaf.cells94] at hlen
    have hagg : ∃ cs, v = .agg cs := by
      cases v with
      | agg cs => exact ⟨cs, rfl⟩
      | _ => simp [Value.formed, hu] at hf
    obtain ⟨cs, hv⟩ := hagg
    rw [hv] at e0 e1 hlen ⊢
    obtain ⟨hs1, hs2⟩ := hx.1
    exact agg_two e0 e1 hlen hs1 hs2
  · cases h

theorem zero94 (w : World) : (zeroValue 94).run Ybaf.prog w = .ok (.agg #[.string ⟨#[]⟩, .int .i64 0]) w := by kernel_rfl

theorem lt_of_var {P : Program} {w : World} {n : String} {g : Nat} {cs : Array Value} (hg : P.globalNamed n = some g) (h : w.var? P n = some cs) : g < w.heap.size := by
  unfold World.var? at h
  rw [hg] at h
  rcases Nat.lt_or_ge g w.heap.size with h1 | h1
  · exact h1
  · simp [Array.getElem?_eq_none h1] at h

theorem of_laid_pe {W : World} (h : laidMetH Ybaf.prog Rows.lawS3135CImageRow.laid W) : ∃ M mo mc bm, PeW W.heap.size M mo mc bm W := by
  have hE := errT_of_laid h
  have h' : laidMet Ybaf.prog Rows.lawS3135CImageRow.laid.tail W ∧ handlesMet Ybaf.prog [Rows.lawS3135CImageRow.laid.head (by simp [Rows.lawS3135CImageRow])] W := h
  obtain ⟨ps, ⟨g7, t7, cs7, f7, p7, q7, hg7, ht7, hv7, hd7, ⟨g8, t8, cs8, f8, p8, q8, hg8, ht8, hv8, hd8, ⟨g1, t1, cs1, f1, p1, q1, hg1, ht1, hv1, hd1, ⟨g2, t2, cs2, f2, p2, q2, hg2, ht2, hv2, hd2, _, _⟩, _⟩, _⟩, _⟩, _, _⟩ := h'.1
  obtain rfl := Option.some.inj ((show _ = some 8 from by kernel_rfl).symm.trans hg8)
  obtain rfl := Option.some.inj ((show _ = some 1 from by kernel_rfl).symm.trans hg1)
  obtain rfl := Option.some.inj ((show _ = some 2 from by kernel_rfl).symm.trans hg2)
  obtain rfl := Option.some.inj ((show _ = some 26 from by kernel_rfl).symm.trans ht1)
  obtain rfl := Option.some.inj ((show _ = some 96 from by kernel_rfl).symm.trans ht2)
  have hd1' : DataW.trod (fun _ => ()) Ybaf.prog W 0 (fun _ => true) false f1 26 cs1.toList = some (.slice [.lit (.int .u8 77), .lit (.int .u8 90)] [], p1) := hd1
  obtain ⟨a, cap, hcs, hcap, hel⟩ := open_row Ybaf.underlying26 Ybaf.cells5 hd1'
  have c0 : W.cell? (a.add 0) = some (.int .u8 77) := by
    obtain ⟨v, n, q, hc, ht⟩ := hel 0 _ rfl
    obtain ⟨k, e, hx, _⟩ := DataW.trod_int Ybaf.underlying5 ht
    simp at e hx
    rw [hc, e, hx.1]
  have c1 : W.cell? (a.add 1) = some (.int .u8 90) := by
    obtain ⟨v, n, q, hc, ht⟩ := hel 1 _ rfl
    obtain ⟨k, e, hx, _⟩ := DataW.trod_int Ybaf.underlying5 ht
    simp at e hx
    rw [hc, e, hx.1]
  have hcc : ∀ i, i < ([77, 90] : List Int).length → W.cell? (a.add i) = some (.int .u8 (([77, 90] : List Int).getD i 0)) := by
    intro i hi
    rcases (by simp at hi; omega : i = 0 ∨ i = 1) with rfl | rfl
    · exact c0
    · exact c1
  obtain ⟨M, mo, rfl, hcm⟩ := ints_at hcc (by simp)
  have g1c : W.cell? ⟨1, 0, none⟩ = some (.slice (some ⟨M, mo, none⟩) 2 cap) := by
    have := World.var?_cell hg1 hv1 0
    rw [Array.eq_one_of_toList hcs] at this
    simpa using this
  rcases open_map Ybaf.underlying96 hd2 with ⟨_, hx⟩ | ⟨bm, es, clock, m, rfl, hcs2, hb, _, F, hx⟩
  · exact absurd (congrArg Prod.fst hx) (by intro e; cases e)
  have hx1 := congrArg Prod.fst hx
  have g2c : W.cell? ⟨2, 0, none⟩ = some (.map (some bm)) := by
    have := World.var?_cell hg2 hv2 0
    rw [Array.eq_one_of_toList hcs2] at this
    simpa using this
  have hM := World.block_lt_of_cell? W _ (hcm 0 (by simp))
  have hbm : bm < W.heap.size := (Array.getElem?_eq_some_iff.1 hb).1
  have h9 : 9 ≤ W.heap.size := lt_of_var hg8 hv8
  refine ⟨M, mo, cap, bm, g1c, ?_, g2c, ⟨machS, machZ, ?_⟩, hE, hM, hbm, h9, Nat.le_refl _⟩
  · intro j hj
    rcases (by omega : j = 0 ∨ j = 1) with rfl | rfl
    · exact ⟨hcm 0 (by simp), by decide, by decide⟩
    · exact ⟨hcm 1 (by simp), by decide, by decide⟩
  · intro w' hw' q hq0 hq1
    have hkey : keyOf Ybaf.prog 23 (.int .u16 q) = some (.int .u16 q) := Maps.keyOf_int_mk Ybaf.underlying23 (by simp [Lit.wf, IntKind.min, IntKind.max, IntKind.signed, IntKind.bits]; omega)
    have hat : ∀ zd, (DataW.map ((es.toList.map (rg Ybaf.prog 23 (elemAt (fun _ => ()) Ybaf.prog W 0 (fun _ => true) false m 94))).foldr DataW.insert [])).atKey (.int .u16 q) zd = (Rows.laid_example_com_objsight_objsight_pe_machines (H := Unit)).atKey (.int .u16 q) zd := by
      intro zd
      rw [show DataW.map ((es.toList.map (rg Ybaf.prog 23 (elemAt (fun _ => ()) Ybaf.prog W 0 (fun _ => true) false m 94))).foldr DataW.insert []) = Rows.laid_example_com_objsight_objsight_pe_machines (H := Unit) from hx1.symm]
    rcases Maps.fit_look (w := w') true (Maps.int_keyed Ybaf.underlying23) Ybaf.underlying96 (zero94 w') (hw'.trans hb) F hkey with ⟨hrun, _, hno⟩ | ⟨e0, y, _, _, hrun, hRv, hyes, _⟩
    · have hm : machAt q = .nil := by
        have := hno .nil
        rw [hat] at this
        exact this
      cases hi : isMach q
      · simp only [machS, machZ, hm]
        exact hrun
      · obtain ⟨l, b, e⟩ := machAt_yes hi
        rw [e] at hm
        cases hm
    · have hm : machAt q = y.1 := by
        have := hyes .nil
        rw [hat] at this
        exact this
      cases hi : isMach q
      · have h1 := hyes .nil
        have h2 := hyes (.lit (.bool true))
        rw [hat, machAt_no hi] at h1 h2
        rw [← h1] at h2
        cases h2
      · obtain ⟨l, b, e⟩ := machAt_yes hi
        rw [e] at hm
        obtain ⟨y1, y2⟩ := y
        simp only at hm
        subst hm
        have hv := mach_elem hRv
        simp only [machS, machZ, e]
        rw [hrun, hv]
        rfl

end Go.Proofs.YbulkblxcFmt
