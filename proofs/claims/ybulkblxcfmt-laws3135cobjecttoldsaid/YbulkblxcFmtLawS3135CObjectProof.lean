import Derived.Test.YbulkblxcFmtObjZ
import Derived.Test.YbulkblxcFmtLaid
import Derived.Test.YbulkblxcFmtDoor
import Derived.Test.YbulkblxcFmtFrame
import Derived.Test.YbulkblxcFmtTie
import Derived.Test.YbulkblxcFmtCards
import Derived.SevenTiedAt
namespace Go.Proofs.YbulkblxcFmt.lawS3135CObject
open Go.ChangeShapes Go.WideShapes Go.ChangeAt Go.RowKit
open Go.ChangeMaps (open_string shut_string)
set_option linter.unusedVariables false

/-- What the walk is told of a slice of integers that came in. -/
def IsRow (k : IntKind) (w : World) (a : Option Addr) (len cap : Nat) (zs : List Int) : Prop :=
  (a = none ∧ len = 0 ∧ cap = 0 ∧ zs = []) ∨
  ∃ x, a = some x ∧ len ≤ cap ∧ cap ≤ maxLen ∧ zs.length = cap ∧ (∀ i, i < zs.length → w.cell? (x.add i) = some (.int k (zs.getD i 0))) ∧ ∀ n ∈ zs, (Lit.int k n).wf = true

theorem walk (s : Int) (fl : Bool) (a0 : Option Addr) (len0 cap0 : Nat) (z0 : List Int) (w : World) (ws : (Lit.int .u8 s).wf = true) (w0 : IsRow .u8 w a0 len0 cap0 z0) (hL : laidMetH Ybaf.prog Rows.lawS3135CImageRow.laid w) :
    Calls Ybaf.prog 7 #[.int .u8 s, .bool fl, .slice a0 len0 cap0] w fun e w' => e = .returned (.bool true) ∧ Below w.heap.size w w' := by
  obtain ⟨M, mo, mc, bm, P⟩ := of_laid_pe hL
  have b0 := bounds_u8 ws
  obtain ⟨n, rfl⟩ := Int.eq_ofNat_of_zero_le b0.1
  rcases w0 with ⟨rfl, rfl, rfl, rfl⟩ | ⟨x, rfl, hl, hm, hz, hc, hw⟩
  · exact obj_zero M mo mc bm 0 n none fl w P (by omega)
  · by_cases hbig : 4096 < len0
    · exact obj_big _ _ _ _ _ _ hbig (by omega)
    · by_cases h0 : len0 = 0
      · subst h0; exact obj_zero M mo mc bm cap0 n (some x) fl w P (by omega)
      · obtain ⟨b, off, rfl, hcc⟩ := ints_at hc (by omega)
        have hb := World.block_lt_of_cell? w _ (hcc 0 (by omega))
        refine obj_pos M mo mc bm b off len0 cap0 n (fun j => z0.getD j 0) fl w P hb (by omega) (by omega) ?_ (by omega)
        intro j hj
        refine ⟨hcc j (by omega), ?_⟩
        have := range_u8 hw j
        simpa [List.getD] using this

set_option maxRecDepth 100000 in
theorem lifted (os : Os) (started : os.Started) (H : Type) (enc : TypeId × Value → H) :
    ReturnsInTold none {} Ybaf.checked os 7 .any Input.okWide ((OpenSpec.ofChange Rows.lawS3135CObjectSpec).preRow enc Ybaf.prog Ybaf.f7 [] false Rows.lawS3135CImageRow.laid)
      (fun F => ((OpenSpec.ofChange Rows.lawS3135CObjectSpec).at F).post enc Ybaf.prog Ybaf.f7 false true false false) (aloneAtReturn Ybaf.prog) nothingAlways := by
  refine returnsInTold_of_row (C := Ybaf.checked) (s := OpenSpec.ofChange Rows.lawS3135CObjectSpec) (by kernel_rfl) Ybaf.own started (by kernel_rfl) Ybaf.func7
    (OpenSpec.witness_stopped_atRef (enc := enc) (C := Ybaf.checked) false (World.doorLaid Ybaf.prog 158 os) #[.int .u8 0, .bool false, .slice none 0 0] rfl (by kernel_rfl) (by kernel_rfl) (by kernel_rfl)
      (OpenSpec.preRow_of_B rfl 8 (by kernel_rfl) (by kernel_rfl) (door_met_pe os _))) ?_
  intro F W base args ds gs before _ hF hval0 hW _ _ _ hL _
  have hval : ∀ (j : Nat) t v, Ybaf.f7.params[j]? = some t → args[j]? = some v → Value.okWide Ybaf.prog W .any base t v := hval0
  have hW' := hW
  obtain ⟨p, q, hA0, hV, rfl, hfz, hnd⟩ := hW
  have hA : DataW.TrodAll enc Ybaf.prog W 0 (fun _ => true) true Ybaf.f7.params.toList args.toList ds p := hA0
  rw [Ybaf.params7] at hA hval
  obtain ⟨v0, vs0, d0, ds0, p0, q0, hargs, rfl, rfl, h0, r0⟩ := trodAll_cons hA
  obtain ⟨v1, vs1, d1, ds1, p1, q1, rfl, rfl, rfl, h1, r1⟩ := trodAll_cons r0
  obtain ⟨v2, vs2, d2, ds2, p2, q2, rfl, rfl, rfl, h2, r2⟩ := trodAll_cons r1
  obtain ⟨rfl, rfl, rfl⟩ := trodAll_nil r2
  obtain rfl : args = #[v0, v1, v2] := by cases args; simp_all
  obtain ⟨s, rfl, rfl, rfl, ws⟩ := open_int Ybaf.underlying5 (hval 0 5 v0 rfl rfl) h0
  obtain ⟨fl, rfl, rfl, rfl⟩ := open_bool Ybaf.underlying4 (hval 1 4 v1 rfl rfl) h1
  obtain ⟨a0, len0, cap0, rfl⟩ := okWide_slice Ybaf.underlying26 (hval 2 26 v2 rfl rfl)
  have k0 := h2
  have hlt := hW'.lt
  have lt0 : ∀ x ∈ p2, x.block < W.heap.size := by obtain ⟨m, hm⟩ := k0; exact DataW.trod_lt m _ _ _ hm
  obtain ⟨z0, w0⟩ : ∃ zs, IsRow .u8 W a0 len0 cap0 zs := by
    obtain ⟨fuel, hf⟩ := h2
    rcases open_ints Ybaf.underlying26 Ybaf.underlying5 (by kernel_rfl) hf with ⟨hcs, _⟩ | ⟨x, l, c, zs, hcs, _, hl, hm, hz, _, hcell, hwz⟩
    · simp [Value.cells] at hcs
      obtain ⟨rfl, rfl, rfl⟩ := hcs
      exact ⟨[], .inl ⟨rfl, rfl, rfl, rfl⟩⟩
    · simp [Value.cells] at hcs
      obtain ⟨rfl, rfl, rfl⟩ := hcs
      exact ⟨zs, .inr ⟨_, rfl, hl, hm, by simpa using hz, hcell, hwz⟩⟩
  clear hA0 hval0
  have h9 : 9 ≤ W.heap.size := by obtain ⟨_, _, _, _, P⟩ := of_laid_pe hL; exact P.h9
  refine (walk s fl a0 len0 cap0 z0 W ws w0 hL).mono fun e W' ⟨he, bel⟩ => ?_
  subst he
  obtain ⟨g1, g2, rfl, hv'⟩ := vars_pe h9 hV bel (fun x hx => hlt x (by simp [hx]))
  exact ⟨_, rfl, _, _, _, [], _, q, hW', trodAll_mk1 (shut_bool Ybaf.underlying4 _), (trodAll_cons_mk (shut_int Ybaf.underlying5 ws) (trodAll_cons_mk (shut_bool Ybaf.underlying4 _) (trodAll_cons_mk (Below.trod Ybaf.laidOut (by kernel_rfl) (of_decide_eq_true (by kernel_rfl)) k0 bel lt0) trodAll_mk0))), hv', bel.frame _, fun h => by cases h⟩

theorem quiet (os : Os) : Stop.quiet Ybaf.pinned.checked.prog os := by
  intro k hk
  rw [show Ybaf.pinned.checked.prog.stopKnobs = [] from by kernel_rfl] at hk
  cases hk

set_option maxRecDepth 100000 in
/-- THE STATEMENT -/
theorem proved : Rows.LawS3135CObjectToldSaid :=
  Claim7.holds_of_told_tied_any_at .later (p := Ybaf.pinned) (s := OpenSpec.ofChange Rows.lawS3135CObjectSpec) (c := Rows.lawS3135CObjectRow) 7 Ybaf.f7 _ _ [] _ true false [.handle, .sentinel, .sentinel, .widerDeep, .mapped] true
    (by kernel_rfl) rfl rfl rfl Ybaf.laidOut (by kernel_rfl)
    rfl ⟨rfl, rfl, rfl, rfl, rfl, rfl, rfl⟩
    rfl rfl (by kernel_rfl)
    (by kernel_rfl) Ybaf.func7
    (by kernel_rfl)
    (of_decide_eq_true (by kernel_rfl)) (of_decide_eq_true (by kernel_rfl))
    (by kernel_rfl) rfl (by kernel_rfl) (by kernel_rfl)
    (by kernel_rfl) (by kernel_rfl) (by kernel_rfl) (by kernel_rfl)
    (by kernel_rfl) (by kernel_rfl)
    (by kernel_rfl)
    (by kernel_rfl) (by kernel_rfl) rfl
    (by kernel_rfl) rfl rfl
    rfl rfl
    rfl (by kernel_rfl) (by kernel_rfl)
    (by kernel_rfl) (by decide) (by kernel_rfl) lawS3135CObject_row_tie
    (OpenClaim.moreEntering_of (by kernel_rfl) (by kernel_rfl) (by kernel_rfl) (by kernel_rfl) (by kernel_rfl) (by kernel_rfl) (by kernel_rfl) (by kernel_rfl) (by kernel_rfl) (by kernel_rfl))
    ⟨_, WideRow.started_initial, quiet _⟩
    (fun os started _ H enc _ => lifted os started H enc)

end Go.Proofs.YbulkblxcFmt.lawS3135CObject
