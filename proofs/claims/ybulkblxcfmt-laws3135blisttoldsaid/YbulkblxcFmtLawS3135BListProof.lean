import Derived.Test.YbulkblxcFmtBMain
import Derived.Test.YbulkblxcFmtBFrame
import Derived.Test.YbulkblxcFmtDoor
import Derived.Test.YbulkblxcFmtTie
import Derived.Test.YbulkblxcFmtCards
import Derived.SevenTiedAt
import Derived.Deep.Slices
namespace Go.Proofs.YbulkblxcFmt.lawS3135BList
open Go.ChangeShapes Go.WideShapes Go.ChangeAt Go.RowKit
open Go.ChangeMaps (open_string shut_string)
set_option linter.unusedVariables false

theorem Ybaf.cells34 : Ybaf.prog.cellsOf 34 = 3 := by kernel_rfl
theorem Ybaf.u34 : ∃ f0 f1 f2, Ybaf.prog.underlying 34 = some (.struct #[f0, f1, f2]) ∧ f0.type = 5 ∧ f0.offset = 0 ∧ f1.type = 24 ∧ f1.offset = 1 ∧ f2.type = 24 ∧ f2.offset = 2 := ⟨_, _, _, Ybaf.underlying34, rfl, rfl, rfl, rfl, rfl, rfl⟩
theorem wf_u8 {n : Int} (h : (Lit.int .u8 n).wf = true) : 0 ≤ n ∧ n ≤ 255 := by
  simp [Lit.wf, IntKind.min, IntKind.max, IntKind.signed, IntKind.bits] at h
  omega
theorem wf_u64 {n : Int} (h : (Lit.int .u64 n).wf = true) : 0 ≤ n ∧ n < 18446744073709551616 := by
  simp [Lit.wf, IntKind.min, IntKind.max, IntKind.signed, IntKind.bits] at h
  omega
theorem wf_u16 {n : Int} (h : (Lit.int .u16 n).wf = true) : 0 ≤ n ∧ n ≤ 65535 := by
  simp [Lit.wf, IntKind.min, IntKind.max, IntKind.signed, IntKind.bits] at h
  omega

/-- The entries as the walk wants them. -/
theorem ents_in {H : Type} {enc : TypeId × Value → H} {W : World} {a : Option Addr} {len cap : Nat} {d : DataW H} {p : List MemPlace} (h : DataW.Trod enc Ybaf.prog W 0 (fun _ => true) true 22 (.slice a len cap) d p) :
    len ≤ 9223372036854775807 ∧ ∃ c f z : Nat → Nat, EntIn W a len c f z := by
  obtain ⟨fuel, hf⟩ := h
  rcases Go.Deep.open_slice Ybaf.underlying22 hf with ⟨hcs, _⟩ | ⟨x, l, cp, m, n, D, Pl, hcs, _, hl, hmx, hmm, _, hx⟩
  · simp [Value.cells] at hcs
    obtain ⟨_, rfl, _⟩ := hcs
    exact ⟨by omega, fun _ => 0, fun _ => 0, fun _ => 0, fun i hi => by omega⟩
  · simp [Value.cells] at hcs
    obtain ⟨rfl, rfl, rfl⟩ := hcs
    refine ⟨by unfold maxLen at hmx; omega, ?_⟩
    have hm : m = cap := by simpa using hmm
    have each : ∀ i, i < len → ∃ q : Nat × Nat × Nat, q.1 ≤ 255 ∧ q.2.1 < 18446744073709551616 ∧ q.2.2 < 18446744073709551616 ∧
        W.cell? (x.add (i * 3)) = some (.int .u8 (q.1 : Int)) ∧ W.cell? ((x.add (i * 3)).add 1) = some (.int .u64 (q.2.1 : Int)) ∧ W.cell? ((x.add (i * 3)).add 2) = some (.int .u64 (q.2.2 : Int)) := by
      intro i hi
      obtain ⟨cs', h1, h2⟩ := hx i (by omega)
      rw [Ybaf.cells34] at h1
      obtain ⟨_, hlen, hcell⟩ := World.cells?_some h1
      obtain ⟨f0, f1, f2, hu, t0, o0, t1, o1, t2, o2⟩ := Ybaf.u34
      obtain ⟨y0, y1, y2, m', _, _, g0, g1, g2⟩ := Go.Deep.trod_struct3 hu h2
      rw [t0, o0, Ybaf.cells5] at g0
      rw [t1, o1, Ybaf.cells24] at g1
      rw [t2, o2, Ybaf.cells24] at g2
      obtain ⟨n0, e0, _, w0⟩ := DataW.trod_int Ybaf.underlying5 g0
      obtain ⟨n1, e1, _, w1⟩ := DataW.trod_int Ybaf.underlying24 g1
      obtain ⟨n2, e2, _, w2⟩ := DataW.trod_int Ybaf.underlying24 g2
      match cs', hlen with
      | [v0, v1, v2], _ =>
        simp at e0 e1 e2
        subst e0 e1 e2
        have b0 := wf_u8 w0
        have b1 := wf_u64 w1
        have b2 := wf_u64 w2
        have r0 := hcell 0 (by omega)
        have r1 := hcell 1 (by omega)
        have r2 := hcell 2 (by omega)
        refine ⟨(n0.toNat, n1.toNat, n2.toNat), by simp; omega, by simp; omega, by simp; omega, ?_, ?_, ?_⟩
        · rw [Int.toNat_of_nonneg b0.1]
          have hz : (x.add (i * 3)).add 0 = x.add (i * 3) := by unfold Addr.add; split <;> simp_all
          rw [← hz]
          simpa using r0
        · rw [Int.toNat_of_nonneg b1.1]; simpa using r1
        · rw [Int.toNat_of_nonneg b2.1]; simpa using r2
    obtain ⟨q, hq⟩ := Go.Deep.choose_lt each
    refine ⟨fun i => (q i).1, fun i => (q i).2.1, fun i => (q i).2.2, fun i hi => ?_⟩
    obtain ⟨b0, b1, b2, c0, c1, c2⟩ := hq i hi
    obtain ⟨g, o, spot⟩ := x
    have hspot : spot = none := by
      have := World.cell?_spot (hq 0 (by omega)).2.2.2.1
      simpa [Addr.add] using this
    subst hspot
    rw [add_mk, add_mk] at c1 c2
    rw [add_mk] at c0
    exact ⟨b0, b1, b2, g, o, rfl, World.block_lt_of_cell? W _ c0, c0, c1, c2⟩

theorem walk (wide : Bool) (a0 : Option Addr) (len0 cap0 pad : Nat) (c f z : Nat → Nat) (w : World) (hp : pad ≤ 65535) (hl : len0 ≤ 9223372036854775807) (he : EntIn w a0 len0 c f z) (hL : laidMetH Ybaf.prog Rows.lawS3135BRefuseRow.laid w) :
    Calls Ybaf.prog 3 #[.bool wide, .slice a0 len0 cap0, .int .u16 (pad : Int)] w fun e w' => e = .returned (.bool true) ∧ Below w.heap.size w w' := by
  obtain ⟨bf, P⟩ := of_laid_mo hL
  obtain ⟨bm, PM⟩ := of_laid_ma hL
  exact bl_any bf bm wide len0 cap0 pad a0 c f z w P PM hl hp he

set_option maxRecDepth 100000 in
theorem lifted (os : Os) (started : os.Started) (H : Type) (enc : TypeId × Value → H) :
    ReturnsInTold none {} Ybaf.checked os 3 .any Input.okWide ((OpenSpec.ofChange Rows.lawS3135BListSpec).preRow enc Ybaf.prog Ybaf.f3 [] false Rows.lawS3135BListRow.laid)
      (fun F => ((OpenSpec.ofChange Rows.lawS3135BListSpec).at F).post enc Ybaf.prog Ybaf.f3 false true false false) (aloneAtReturn Ybaf.prog) nothingAlways := by
  refine returnsInTold_of_row (C := Ybaf.checked) (s := OpenSpec.ofChange Rows.lawS3135BListSpec) (by kernel_rfl) Ybaf.own started (by kernel_rfl) Ybaf.func3
    (OpenSpec.witness_stopped_atRef (enc := enc) (C := Ybaf.checked) false (World.doorLaid Ybaf.prog 158 os) #[.bool false, .slice none 0 0, .int .u16 0] rfl (by kernel_rfl) (by kernel_rfl) (by kernel_rfl)
      (OpenSpec.preRow_of_B rfl 8 (by kernel_rfl) (by kernel_rfl) (door_met_macho os _))) ?_
  intro F W base args ds gs before _ hF hval0 hW _ _ _ hL _
  have hval : ∀ (j : Nat) t v, Ybaf.f3.params[j]? = some t → args[j]? = some v → Value.okWide Ybaf.prog W .any base t v := hval0
  have hW' := hW
  obtain ⟨p, q, hA0, hV, rfl, hfz, hnd⟩ := hW
  have hA : DataW.TrodAll enc Ybaf.prog W 0 (fun _ => true) true Ybaf.f3.params.toList args.toList ds p := hA0
  rw [Ybaf.params3] at hA hval
  obtain ⟨v0, vs0, d0, ds0, p0, q0, hargs, rfl, rfl, h0, r0⟩ := trodAll_cons hA
  obtain ⟨v1, vs1, d1, ds1, p1, q1, rfl, rfl, rfl, h1, r1⟩ := trodAll_cons r0
  obtain ⟨v2, vs2, d2, ds2, p2, q2, rfl, rfl, rfl, h2, r2⟩ := trodAll_cons r1
  obtain ⟨rfl, rfl, rfl⟩ := trodAll_nil r2
  obtain rfl : args = #[v0, v1, v2] := by cases args; simp_all
  obtain ⟨wide, rfl, rfl, rfl⟩ := open_bool Ybaf.underlying4 (hval 0 4 v0 rfl rfl) h0
  obtain ⟨pd, rfl, rfl, rfl, wp⟩ := open_int Ybaf.underlying23 (hval 2 23 v2 rfl rfl) h2
  obtain ⟨a0, len0, cap0, rfl⟩ := okWide_slice Ybaf.underlying22 (hval 1 22 v1 rfl rfl)
  have k1 := h1
  have hlt := hW'.lt
  have lt1 : ∀ x ∈ p1, x.block < W.heap.size := by obtain ⟨m, hm⟩ := k1; exact DataW.trod_lt m _ _ _ hm
  obtain ⟨hl0, c, f, z, hents⟩ := ents_in h1
  clear hA0 hval0
  have h9 : 9 ≤ W.heap.size := by obtain ⟨_, P⟩ := of_laid_mo hL; exact P.h9
  have bp := wf_u16 wp
  obtain ⟨pad, rfl⟩ := Int.eq_ofNat_of_zero_le bp.1
  refine (walk wide a0 len0 cap0 pad c f z W (by omega) hl0 hents hL).mono fun e W' ⟨he, bel⟩ => ?_
  subst he
  obtain ⟨g1, g2, rfl, hv'⟩ := vars_macho h9 hV bel (fun x hx => hlt x (by simp [hx]))
  exact ⟨_, rfl, _, _, _, [], _, q, hW', trodAll_mk1 (shut_bool Ybaf.underlying4 _), (trodAll_cons_mk (shut_bool Ybaf.underlying4 _) (trodAll_cons_mk (Below.trod Ybaf.laidOut (by kernel_rfl) (of_decide_eq_true (by kernel_rfl)) k1 bel lt1) (trodAll_cons_mk (shut_int Ybaf.underlying23 wp) trodAll_mk0))), hv', bel.frame _, fun h => by cases h⟩

theorem quiet (os : Os) : Stop.quiet Ybaf.pinned.checked.prog os := by
  intro k hk
  rw [show Ybaf.pinned.checked.prog.stopKnobs = [] from by kernel_rfl] at hk
  cases hk

set_option maxRecDepth 100000 in
/-- THE STATEMENT -/
theorem proved : Rows.LawS3135BListToldSaid :=
  Claim7.holds_of_told_tied_any_at .later (p := Ybaf.pinned) (s := OpenSpec.ofChange Rows.lawS3135BListSpec) (c := Rows.lawS3135BListRow) 3 Ybaf.f3 _ _ [] _ true false [.handle, .sentinel, .sentinel, .mapped, .mapped] true
    (by kernel_rfl) rfl rfl rfl Ybaf.laidOut (by kernel_rfl)
    rfl ⟨rfl, rfl, rfl, rfl, rfl, rfl, rfl⟩
    rfl rfl (by kernel_rfl)
    (by kernel_rfl) Ybaf.func3
    (by kernel_rfl)
    (of_decide_eq_true (by kernel_rfl)) (of_decide_eq_true (by kernel_rfl))
    (by kernel_rfl) rfl (by kernel_rfl) (by kernel_rfl)
    (by kernel_rfl) (by kernel_rfl) (by kernel_rfl) (by kernel_rfl)
    (by kernel_rfl) (by kernel_rfl)
    (by kernel_rfl)
    (by kernel_rfl) (by kernel_rfl) rfl
    (by kernel_rfl) rfl rfl
    rfl rfl
    rfl (by kernel_rfl) (by kernel_rfl)
    (by kernel_rfl) (by decide) (by kernel_rfl) lawS3135BList_row_tie
    (OpenClaim.moreEntering_of (by kernel_rfl) (by kernel_rfl) (by kernel_rfl) (by kernel_rfl) (by kernel_rfl) (by kernel_rfl) (by kernel_rfl) (by kernel_rfl) (by kernel_rfl) (by kernel_rfl))
    ⟨_, WideRow.started_initial, quiet _⟩
    (fun os started _ H enc _ => lifted os started H enc)

end Go.Proofs.YbulkblxcFmt.lawS3135BList
