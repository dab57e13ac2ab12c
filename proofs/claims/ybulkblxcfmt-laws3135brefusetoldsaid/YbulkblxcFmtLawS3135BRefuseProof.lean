import Derived.Test.YbulkblxcFmtBLaw
import Derived.Test.YbulkblxcFmtBFrame
import Derived.Test.YbulkblxcFmtDoor
import Derived.Test.YbulkblxcFmtTie
import Derived.Test.YbulkblxcFmtCards
import Derived.SevenTiedAt
namespace Go.Proofs.YbulkblxcFmt.lawS3135BRefuse
open Go.ChangeShapes Go.WideShapes Go.ChangeAt Go.RowKit
open Go.ChangeMaps (open_string shut_string)
set_option linter.unusedVariables false

/-- What the walk is told of a slice of integers that came in. -/
def IsRow (k : IntKind) (w : World) (a : Option Addr) (len cap : Nat) (zs : List Int) : Prop :=
  (a = none ∧ len = 0 ∧ cap = 0 ∧ zs = []) ∨
  ∃ x, a = some x ∧ len ≤ cap ∧ cap ≤ maxLen ∧ zs.length = cap ∧ (∀ i, i < zs.length → w.cell? (x.add i) = some (.int k (zs.getD i 0))) ∧ ∀ n ∈ zs, (Lit.int k n).wf = true

theorem walk_big (a0 : Option Addr) (len0 cap0 : Nat) (fl : Bool) (w : World) (h : 1024 < len0) :
    Calls Ybaf.prog 4 #[.slice a0 len0 cap0, .bool fl] w fun e w' => e = .returned (.bool true) ∧ Below w.heap.size w w' := by
  have h' : (1024 : Int) < (len0 : Int) := by omega
  go_enter Ybaf.func4, Ybaf.ntmps4
  go_wp2
  go_ret
  exact ⟨rfl, Below.refl _ _⟩

theorem walk (F : Stop.Interp) (fl : Bool) (a0 : Option Addr) (len0 cap0 : Nat) (z0 : List Int) (w : World) (hF : F.answers w.tape) (w0 : IsRow .u8 w a0 len0 cap0 z0) (hL : laidMetH Ybaf.prog Rows.lawS3135BRefuseRow.laid w) :
    Calls Ybaf.prog 4 #[.slice a0 len0 cap0, .bool fl] w fun e w' => e = .returned (.bool true) ∧ Below w.heap.size w w' := by
  obtain ⟨bf, P⟩ := of_laid_mo hL
  obtain ⟨e0, hE, he⟩ := eof_of_laidB hL
  by_cases hbig : 1024 < len0
  · exact walk_big _ _ _ _ _ hbig
  · have hd : DataIn w a0 len0 (fun j => z0.getD j 0) := by
      intro h0
      rcases w0 with ⟨_, h1, _⟩ | ⟨x, rfl, hl, hm, hz, hc, hw⟩
      · omega
      · obtain ⟨b, off, rfl, hcc⟩ := ints_at hc (by omega)
        refine ⟨b, off, rfl, ?_, World.block_lt_of_cell? w _ (hcc 0 (by omega))⟩
        intro j hj
        refine ⟨hcc j (by omega), ?_⟩
        have := range_u8 hw j
        simpa [List.getD] using this
    refine br_any F e0 bf fl len0 cap0 a0 _ w P hF hE he (by omega) hd ?_ ?_
    · intro h8
      obtain ⟨g, o, _, hB, _⟩ := hd (by omega)
      exact be4_bd hB 0 (by omega)
    · intro h8
      obtain ⟨g, o, _, hB, _⟩ := hd (by omega)
      exact be4_bd hB 4 (by omega)

set_option maxRecDepth 100000 in
theorem lifted (os : Os) (started : os.Started) (H : Type) (enc : TypeId × Value → H) :
    ReturnsInTold none {} Ybaf.checked os 4 .any Input.okWide ((OpenSpec.ofChange Rows.lawS3135BRefuseSpec).preRow enc Ybaf.prog Ybaf.f4 [] false Rows.lawS3135BRefuseRow.laid)
      (fun F => ((OpenSpec.ofChange Rows.lawS3135BRefuseSpec).at F).post enc Ybaf.prog Ybaf.f4 false true false false) (aloneAtReturn Ybaf.prog) nothingAlways := by
  refine returnsInTold_of_row (C := Ybaf.checked) (s := OpenSpec.ofChange Rows.lawS3135BRefuseSpec) (by kernel_rfl) Ybaf.own started (by kernel_rfl) Ybaf.func4
    (OpenSpec.witness_stopped_atRef (enc := enc) (C := Ybaf.checked) false (World.doorLaid Ybaf.prog 158 os) #[.slice none 0 0, .bool false] rfl (by kernel_rfl) (by kernel_rfl) (by kernel_rfl)
      (OpenSpec.preRow_of_B rfl 8 (by kernel_rfl) (by kernel_rfl) (door_met_macho os _))) ?_
  intro F W base args ds gs before _ hF hval0 hW _ _ _ hL _
  have hval : ∀ (j : Nat) t v, Ybaf.f4.params[j]? = some t → args[j]? = some v → Value.okWide Ybaf.prog W .any base t v := hval0
  have hW' := hW
  obtain ⟨p, q, hA0, hV, rfl, hfz, hnd⟩ := hW
  have hA : DataW.TrodAll enc Ybaf.prog W 0 (fun _ => true) true Ybaf.f4.params.toList args.toList ds p := hA0
  rw [Ybaf.params4] at hA hval
  obtain ⟨v0, vs0, d0, ds0, p0, q0, hargs, rfl, rfl, h0, r0⟩ := trodAll_cons hA
  obtain ⟨v1, vs1, d1, ds1, p1, q1, rfl, rfl, rfl, h1, r1⟩ := trodAll_cons r0
  obtain ⟨rfl, rfl, rfl⟩ := trodAll_nil r1
  obtain rfl : args = #[v0, v1] := by cases args; simp_all
  obtain ⟨fl, rfl, rfl, rfl⟩ := open_bool Ybaf.underlying4 (hval 1 4 v1 rfl rfl) h1
  obtain ⟨a0, len0, cap0, rfl⟩ := okWide_slice Ybaf.underlying26 (hval 0 26 v0 rfl rfl)
  have k0 := h0
  have hlt := hW'.lt
  have lt0 : ∀ x ∈ p0, x.block < W.heap.size := by obtain ⟨m, hm⟩ := k0; exact DataW.trod_lt m _ _ _ hm
  obtain ⟨z0, w0⟩ : ∃ zs, IsRow .u8 W a0 len0 cap0 zs := by
    obtain ⟨fuel, hf⟩ := h0
    rcases open_ints Ybaf.underlying26 Ybaf.underlying5 (by kernel_rfl) hf with ⟨hcs, _⟩ | ⟨x, l, c, zs, hcs, _, hl, hm, hz, _, hcell, hwz⟩
    · simp [Value.cells] at hcs
      obtain ⟨rfl, rfl, rfl⟩ := hcs
      exact ⟨[], .inl ⟨rfl, rfl, rfl, rfl⟩⟩
    · simp [Value.cells] at hcs
      obtain ⟨rfl, rfl, rfl⟩ := hcs
      exact ⟨zs, .inr ⟨_, rfl, hl, hm, by simpa using hz, hcell, hwz⟩⟩
  clear hA0 hval0
  have h9 : 9 ≤ W.heap.size := by obtain ⟨_, P⟩ := of_laid_mo hL; exact P.h9
  refine (walk _ fl a0 len0 cap0 z0 W hF w0 hL).mono fun e W' ⟨he, bel⟩ => ?_
  subst he
  obtain ⟨g1, g2, rfl, hv'⟩ := vars_macho h9 hV bel (fun x hx => hlt x (by simp [hx]))
  exact ⟨_, rfl, _, _, _, [], _, q, hW', trodAll_mk1 (shut_bool Ybaf.underlying4 _), (trodAll_cons_mk (Below.trod Ybaf.laidOut (by kernel_rfl) (of_decide_eq_true (by kernel_rfl)) k0 bel lt0) (trodAll_cons_mk (shut_bool Ybaf.underlying4 _) trodAll_mk0)), hv', bel.frame _, fun h => by cases h⟩

theorem quiet (os : Os) : Stop.quiet Ybaf.pinned.checked.prog os := by
  intro k hk
  rw [show Ybaf.pinned.checked.prog.stopKnobs = [] from by kernel_rfl] at hk
  cases hk

set_option maxRecDepth 100000 in
/-- THE STATEMENT -/
theorem proved : Rows.LawS3135BRefuseToldSaid :=
  Claim7.holds_of_told_tied_any_at .later (p := Ybaf.pinned) (s := OpenSpec.ofChange Rows.lawS3135BRefuseSpec) (c := Rows.lawS3135BRefuseRow) 4 Ybaf.f4 _ _ [] _ true false [.handle, .sentinel, .sentinel, .mapped, .mapped] true
    (by kernel_rfl) rfl rfl rfl Ybaf.laidOut (by kernel_rfl)
    rfl ⟨rfl, rfl, rfl, rfl, rfl, rfl, rfl⟩
    rfl rfl (by kernel_rfl)
    (by kernel_rfl) Ybaf.func4
    (by kernel_rfl)
    (of_decide_eq_true (by kernel_rfl)) (of_decide_eq_true (by kernel_rfl))
    (by kernel_rfl) rfl (by kernel_rfl) (by kernel_rfl)
    (by kernel_rfl) (by kernel_rfl) (by kernel_rfl) (by kernel_rfl)
    (by kernel_rfl) (by kernel_rfl)
    (by kernel_rfl)
    (by kernel_rfl) (by kernel_rfl) rfl
    (by kernel_rfl) rfl rfl
    rfl rfl
    rfl (by kernel_rfl) (by kernel_rfl)
    (by kernel_rfl) (by decide) (by kernel_rfl) lawS3135BRefuse_row_tie
    (OpenClaim.moreEntering_of (by kernel_rfl) (by kernel_rfl) (by kernel_rfl) (by kernel_rfl) (by kernel_rfl) (by kernel_rfl) (by kernel_rfl) (by kernel_rfl) (by kernel_rfl) (by kernel_rfl))
    ⟨_, WideRow.started_initial, quiet _⟩
    (fun os started _ H enc _ => lifted os started H enc)

end Go.Proofs.YbulkblxcFmt.lawS3135BRefuse
