import Derived.Test.YbulkblxcFmtFailP
namespace Go.Proofs.YbulkblxcFmt
open Go.RowKit Go.Extern.Stop Go.Stop Go.Extern
set_option linter.unusedVariables false

theorem into_failA (F : Interp) (e0 : Addr) (R C D o n cap k off q : Nat) (bs : Nat → Int) (w : World) (hF : F.answers w.tape) (hE : EofAt w e0) (he : e0.block < w.heap.size) (heC : e0.block ≠ C) (h7C : 7 ≠ C) (H : RdAt R C D o n cap bs true k w) (hk : k ≤ 1000) (hoff : off < n) (hq : 0 < q) :
    Calls Ybaf.prog 34 #[.pointer (some ⟨R, 0, none⟩), .slice none 0 0, .int .u64 off, .int .u64 q] w fun e w' => Failed C k w e w' := by
  by_cases h : off + q ≤ n
  · exact into_fail F e0 R C D o n cap k off q bs w hF hE he heC h7C H hk hq h
  · exact into_fail_part F e0 R C D o n cap k off q (n - off) bs w hF hE he heC h7C H hk hoff (by omega) rfl

set_option maxHeartbeats 400000 in
theorem bytes_fail (F : Interp) (e0 : Addr) (R C D o n cap k off q : Nat) (bs : Nat → Int) (w : World) (hF : F.answers w.tape) (hE : EofAt w e0) (he : e0.block < w.heap.size) (heC : e0.block ≠ C) (h7C : 7 ≠ C) (H : RdAt R C D o n cap bs true k w) (hk : k ≤ 1000) (hoff : off < n) (hq : 0 < q) :
    Calls Ybaf.prog 19 #[.pointer (some ⟨R, 0, none⟩), .int .u64 off, .int .u64 q] w fun e w' => Failed C k w e w' := by
  have hin := into_failA F e0 R C D o n cap k off q bs w hF hE he heC h7C H hk hoff hq
  go_enter Ybaf.func19, Ybaf.ntmps19
  go_wp2_with (go_at_call 34; refine hin.mono ?_; rintro e w' ⟨B, m, p, ab, rfl, hk1, hp, hc⟩)
  go_ret2
  exact ⟨_, _, _, _, rfl, by assumption, by assumption, by assumption⟩

/-- StartsWith, locate with a reader that fails: what stands in the error. -/
def FailErr (C k p : Nat) (w w' : World) : Prop :=
  ∃ ab : Nat, KeepsC C w w' ∧ w'.cell? ⟨p, 1, none⟩ = some (.iface 151 (.pointer (some ⟨ab, 0, none⟩))) ∧ w'.cell? ⟨C, 1, none⟩ = some (.int .i64 ((k : Int) + 1))

def FailedS (C k : Nat) (w : World) (e : Ending) (w' : World) : Prop :=
  ∃ p : Nat, e = .returned (.tuple #[.bool false, .iface 150 (.pointer (some ⟨p, 0, none⟩))]) ∧ FailErr C k p w w'

set_option maxHeartbeats 400000 in
theorem starts_fail (F : Interp) (e0 : Addr) (B0 M mo mc bm R C D o n cap k : Nat) (bs : Nat → Int) (w : World) (P : PeW B0 M mo mc bm w) (hF : F.answers w.tape) (hE : EofAt w e0) (he : e0.block < B0) (H : RdAt R C D o n cap bs true k w) (hk : k ≤ 1000) (hCB : B0 ≤ C) (hn : 0 < n) :
    Calls Ybaf.prog 29 #[.pointer (some ⟨R, 0, none⟩), .slice (some ⟨M, mo, none⟩) 2 mc] w fun e w' => FailedS C k w e w' := by
  have hB := P.hB
  have h9 := P.h9
  have hby := bytes_fail F e0 R C D o n cap k 0 2 bs w hF hE (by omega) (by omega) (by omega) H hk hn (by omega)
  have hC := H.hC
  clear H hE hF
  go_enter Ybaf.func29, Ybaf.ntmps29
  go_wp2_with fail
  refine hby.mono ?_
  rintro e w1 ⟨B, m, p, ab, rfl, hk1, hp, hc⟩
  have hP := P.below (hk1.below hCB hB)
  have hCw := Nat.lt_of_lt_of_le hC hk1.size
  clear hby
  go_wp2_with (go_at_call 16; refine (isOut_miss p ab _ hP.errT hp).mono ?_; rintro e w2 ⟨rfl, hb⟩)
  go_ret2
  exact ⟨p, rfl, ab, hk1.trans (KeepsC.of_below hb), (hb.cell (p := ⟨p, 1, none⟩) (World.block_lt_of_cell? w1 _ hp)).trans hp, (hb.cell (p := ⟨C, 1, none⟩) hCw).trans hc⟩

def FailedL (C k : Nat) (w : World) (e : Ending) (w' : World) : Prop :=
  ∃ p : Nat, e = .returned (.tuple #[.string ⟨#[]⟩, .int .u64 0, .iface 150 (.pointer (some ⟨p, 0, none⟩))]) ∧ FailErr C k p w w'

set_option maxHeartbeats 400000 in
theorem loc_fail (F : Interp) (e0 : Addr) (B0 M mo mc bm R C D o n cap k : Nat) (bs : Nat → Int) (w : World) (P : PeW B0 M mo mc bm w) (hF : F.answers w.tape) (hE : EofAt w e0) (he : e0.block < B0) (H : RdAt R C D o n cap bs true k w) (hk : k ≤ 1000) (hCB : B0 ≤ C) (hn : 0 < n) :
    Calls Ybaf.prog 15 #[.pointer (some ⟨R, 0, none⟩)] w fun e w' => FailedL C k w e w' := by
  have hst := starts_fail F e0 B0 M mo mc bm R C D o n cap k bs w P hF hE he H hk hCB hn
  have hd := P.dos
  go_enter Ybaf.func15, Ybaf.ntmps15
  go_wp2_with (go_at_call 29; refine hst.mono ?_; rintro e w' ⟨p, rfl, hf⟩)
  go_ret3
  exact ⟨_, rfl, by assumption⟩
end Go.Proofs.YbulkblxcFmt
