import Derived.Test.YbulkblxcFmtBInv
import Derived.Test.YbulkblxcFmtBField
import Derived.Test.YbulkblxcFmtBShare
import Derived.Test.YbulkblxcFmtBMach
import Derived.Test.YbulkblxcFmtBReg15
import Derived.Test.YbulkblxcFmtBReg17
import Derived.Test.YbulkblxcFmtBReg18
import Derived.Test.YbulkblxcFmtBReg21
import Derived.Test.YbulkblxcFmtBReg23
import Derived.Test.YbulkblxcFmtBReg27
import Derived.Deep.RegionHeld
import Derived.Deep.LoopGhost
namespace Go.Proofs.YbulkblxcFmt
open Go.RowKit Go.Extern.Stop Go.Stop Go.Extern
set_option linter.unusedVariables false
attribute [-go_sem] Go.Builtin.append_

/-- How a form's fields are read. -/
structure FormOk (es so wd : Nat) (fld : (Nat → Int) → Nat → Int) : Prop where
  es0 : 20 ≤ es
  es1 : es ≤ 32
  so0 : so ≤ 16
  o1 : 8 + wd ≤ es
  o2 : so + wd ≤ es
  run : ∀ (bF T o len cap off : Nat) (tb : Nat → Int) (w : World), FieldsAt w bF T o len cap → Bytes w T o len tb → T < w.heap.size → off + wd ≤ len → len ≤ 1000000 → len ≤ cap →
    Calls Ybaf.prog 21 #[.int .i64 (off : Int), .int .i64 (wd : Int), .pointer (some ⟨bF, 0, none⟩)] w fun e w' => e = .returned (.int .u64 (fld tb off)) ∧ Below w.heap.size w w'

/-- The table of slices in the file. -/
structure FileOf (es so wd : Nat) (fld : (Nat → Int) → Nat → Int) (fs : Nat) (bs : Nat → Int) (ents : List En) : Prop where
  n30 : ents.length ≤ 30
  fit : 8 + ents.length * es ≤ fs
  fs1 : fs ≤ 10000
  ok : scOk fs bs = true
  count : be4 bs 4 = (ents.length : Int)
  fEs : fEs (be4 bs 0) = (es : Int)
  fOf : fOf (be4 bs 0) = 8
  fSz : fSz (be4 bs 0) = (so : Int)
  fWd : fWd (be4 bs 0) = (wd : Int)
  k7 : ∀ e ∈ ents, e.k < 7
  cpu : ∀ (i : Nat) (hi : i < ents.length), be4 (fun j => bs (8 + j)) (i * es) = cpuK ents[i].k
  off : ∀ (i : Nat) (hi : i < ents.length), fld (fun j => bs (8 + (i * es + j))) 8 = (ents[i].off : Int)
  size : ∀ (i : Nat) (hi : i < ents.length), fld (fun j => bs (8 + (i * es + j))) so = (ents[i].size : Int)
  big : ∀ e ∈ ents, e.off < 18446744073709551616 ∧ e.size < 18446744073709551616

theorem mem_is {w : World} {B : Nat} {s : ByteArray} {a n : Nat} (h : MemIs w B s (a : Int) (n : Int)) : MemAt w B s a n := h
theorem mem_at {w : World} {B : Nat} {s : ByteArray} {a n : Nat} (h : MemAt w B s a n) : MemIs w B s (a : Int) (n : Int) := h

/-- A Member that is not touched when a problem is appended. -/
theorem ProbPut.mem {wc w' : World} {L gp np B : Nat} {ps : List Value} {s : ByteArray} {a n : Int} (h : ProbPut wc L gp np ps w') (hM : MemIs wc B s a n) (h1 : B ≠ gp) (h2 : B ≠ L) : MemIs w' B s a n := by
  obtain ⟨g', cp', s1, wx, wA, rfl, ho, hb, hg, _⟩ := h
  have hl := hM.lt
  exact hM.of_block ((Below.heap_setCell _ _ _ _ h2).trans ((hg.block B (Nat.lt_of_lt_of_le hl hb.size) (by simpa using h1)).trans (hb.block B hl)))

theorem SlI.put {w : World} {es so wd he L Fm T N Hd : Nat} {tb : Nat → Int} {gm cm gp cp gl cl : Nat} {st : List Mb × Nat} {ps ls : List Value} {wr w' : World} (h : SlI w es so wd he L Fm T N Hd tb gm cm gp cp gl cl st ps ls wr) (hp : ProbPut wr L gp st.2 ps w') :
    ∃ g' cp' ps', SlI w es so wd he L Fm T N Hd tb gm cm g' cp' gl cl (st.1, st.2 + 1) ps' ls w' ∧ wr.heap.size ≤ w'.heap.size ∧ (g' = gp ∨ wr.heap.size ≤ g') := by
  obtain ⟨g', cp', s1, wx, wA, rfl, ho, hb, hg, hg'⟩ := hp
  refine ⟨g', cp', _, (h.grow hb).prob1 ho hg hg', ?_, ?_⟩
  · have := hb.size
    have := hg.size
    simp [World.setCell]
    omega
  · have := hb.size
    omega

theorem held_int {fs : Nat} {e : En} (h : e.off ≤ fs) : (if ((fs : Int) - (e.off : Int)) < (e.size : Int) then (fs : Int) - (e.off : Int) else (e.size : Int)) = (heldOf fs e : Int) := by
  unfold heldOf
  split <;> split <;> omega
theorem held_le {fs : Nat} {e : En} (h : e.off ≤ fs) : e.off + heldOf fs e ≤ fs := by
  unfold heldOf
  split <;> omega

theorem idx_clash {ms : List Mb} {a n : Nat} (h : clash ms a n = true) : ∃ j : Nat, j < ms.length ∧ idxOf ms a n = (j : Int) := by
  unfold clash at h
  unfold idxOf
  cases hf : ms.findIdx? (fun p => meets a n p.off p.size) with
  | none =>
    rw [List.findIdx?_eq_none_iff] at hf
    rw [List.any_eq_true] at h
    obtain ⟨x, hx, hy⟩ := h
    have := hf x hx
    rw [hy] at this
    cases this
  | some j =>
    rw [List.findIdx?_eq_some_iff_getElem] at hf
    exact ⟨j, hf.1, rfl⟩
theorem idx_none {ms : List Mb} {a n : Nat} (h : clash ms a n = false) : idxOf ms a n = -1 := by
  unfold clash at h
  unfold idxOf
  have : ms.findIdx? (fun p => meets a n p.off p.size) = none := by
    rw [List.findIdx?_eq_none_iff]
    intro x hx
    rw [List.any_eq_false] at h
    simpa using h x hx
  rw [this]

/-- What Slices hands back. -/
def ListedB (fs he : Nat) (ents : List En) (w : World) (e : Ending) (w' : World) : Prop :=
  ∃ gm cm gp cp : Nat, e = .returned (.tuple #[.agg #[.slice (some ⟨gm, 0, none⟩) (bfold fs he ents).1.length cm, .slice (some ⟨gp, 0, none⟩) (bfold fs he ents).2 cp], .nilIface]) ∧
    Below w.heap.size w w' ∧ OwnAt w' 38 3 gm (bfold fs he ents).1.length cm (msCells (bfold fs he ents).1)

theorem slW_mem (w : World) : OwnAt (slW w) 38 3 (w.heap.size + 1) 0 0 [] := by
  have h := OwnAt.new (w.alloc (.cells #[.slice none 0 0, .slice none 0 0] 46)) 38 3
  rw [show (w.alloc (.cells #[.slice none 0 0, .slice none 0 0] 46)).heap.size = w.heap.size + 1 from by simp] at h
  exact h.below (((Below.refl _ _).alloc (by simp) _).alloc (by simp) _ : Below (w.heap.size + 2) _ _) (by omega)
theorem slW_prob (w : World) : OwnAt (slW w) 9 1 (w.heap.size + 1 + 1) 0 0 [] := by
  have h := OwnAt.new ((w.alloc (.cells #[.slice none 0 0, .slice none 0 0] 46)).alloc (.cells #[] 38)) 9 1
  rw [show ((w.alloc (.cells #[.slice none 0 0, .slice none 0 0] 46)).alloc (.cells #[] 38)).heap.size = w.heap.size + 1 + 1 from by simp] at h
  exact h.below ((Below.refl _ _).alloc (by simp) _ : Below (w.heap.size + 3) _ _) (by omega)

set_option maxHeartbeats 4000000 in
set_option maxRecDepth 100000 in
theorem sl_yes (B0 bf bm R C D o cap fs es so wd : Nat) (fld : (Nat → Int) → Nat → Int) (bs : Nat → Int) (ents : List En) (w : World) (P : MoW B0 bf w) (PM : MaW B0 bm w) (H : RbAt R C D o fs cap bs false w) (FO : FormOk es so wd fld) (FF : FileOf es so wd fld fs bs ents) (hpos : 0 < ents.length) (he : Nat) (HE : Hid (he = 8 + ents.length * es)) :
    Calls Ybaf.prog 12 #[.pointer (some ⟨R, 0, none⟩)] w fun e w' => ListedB fs he ents w e w' := by
  have hb0 := slW_bel w
  have hr := slW_ret w
  have hl := slW_list w
  have hm := slW_mem w
  have hp := slW_prob w
  have hlt := hr.lt
  have hlt' := hl.lt
  have hpos2 : 0 < ents.length * es := Nat.mul_pos hpos (by have := FO.es0; omega)
  have hsc := sc_any B0 bf R C D o fs cap bs (slW w) (P.below (hb0.mono P.hB)) (H.below hb0) (by have := FF.fit; omega)
  obtain ⟨N, hN⟩ : ∃ N, ents.length * es = N := ⟨_, rfl⟩
  have hmul : (ents.length : Int) * (es : Int) = (N : Int) := by rw [← Int.natCast_mul, hN]
  have hn30 := FF.n30
  have hfit := FF.fit
  have hfs1 := FF.fs1
  rw [hN] at hfit hpos2
  go_enter Ybaf.func12, Ybaf.ntmps12
  go_wp2_with fail
  refine hsc.mono ?_
  intro e w1 hpost
  rw [ScPost, FF.ok] at hpost
  obtain ⟨rfl, hb1⟩ := hpost
  rw [FF.count, FF.fEs, FF.fOf, FF.fSz, FF.fWd]
  have hr1 := hr.below hb1 hlt
  have hl1 := hl.below hb1 hlt'
  have hm1 := hm.below hb1 hm.lt
  have hp1 := hp.below hb1 hp.lt
  have hbw := hb0.trans (hb1.mono hb0.size)
  have hlt1 := hr1.lt
  have hlt1' := hl1.lt
  have H2 := H.below (hbw.trans (((Below.refl _ _).alloc (Nat.le_refl _) (.cells #[.int .u64 (es : Int), .int .i64 8, .int .i64 (so : Int), .int .i64 (wd : Int)] 72) : Below w1.heap.size _ _).mono hbw.size))
  have hby := bbytes_ok R C D o fs cap 8 N bs _ H2 hpos2 (by omega)
  clear hsc hr hb1 hb0 hl H2 hm hp
  go_wp2_with fail
  refine hby.mono ?_
  rintro e w2 ⟨rfl, hg⟩
  clear hby
  have hT1 : (w1.alloc (Obj.cells #[.int .u64 (es : Int), .int .i64 8, .int .i64 (so : Int), .int .i64 (wd : Int)] 72)).heap.size = w1.heap.size + 1 := by simp
  rw [hT1] at hg
  have f2 : FormAt w2 w1.heap.size _ _ _ _ := FormAt.below (w := w1.alloc (Obj.cells #[.int .u64 (es : Int), .int .i64 8, .int .i64 (so : Int), .int .i64 (wd : Int)] 72)) (heap_alloc_new w1 _) hg.bel (by simp)
  have hb2 : Below w1.heap.size w1 w2 := ((Below.refl _ _).alloc (Nat.le_refl _) _).trans (hg.bel.mono (by simp))
  have hr2 := hr1.below hb2 hlt1
  have hl2 := hl1.below hb2 hlt1'
  have hm2 := hm1.below hb2 hm1.lt
  have hp2 := hp1.below hb2 hp1.lt
  have hbw2 := hbw.trans (hb2.mono hbw.size)
  have d0 := f2.c 0
  have d1 := f2.c 1
  have d2 := f2.c 2
  have d3 := f2.c 3
  have htab := hg.row
  have hTlt := hg.here
  clear hT1 hr1 hl1 hbw hb2 hg hm1 hp1
  go_wp2_with (go_at_call 20; refine (table_end (ents.length : Int) (es : Int) _ _ _ _ (by omega) (by omega)).mono ?_; rintro e w' ⟨rfl, rfl⟩)
  have hstart : SlI w es so wd (8 + N) (w.heap.size + 1 + 1 + 1) w1.heap.size (w1.heap.size + 1) N (w2.heap.size + 1) (fun j => bs (8 + j)) (w.heap.size + 1) 0 (w.heap.size + 1 + 1) 0 (w2.heap.size + 1 + 1) 0 ([], 0) [] []
      (((w2.alloc (.cells #[.int .u64 (es : Int), .int .i64 8, .int .i64 (so : Int), .int .i64 (wd : Int)] 72)).alloc (.cells #[.string ⟨#[]⟩, .int .u64 0, .int .u64 (8 + (N : Int))] 38)).alloc (.cells #[] 24)) := by
    have hb3 : Below w2.heap.size w2 (((w2.alloc (.cells #[.int .u64 (es : Int), .int .i64 8, .int .i64 (so : Int), .int .i64 (wd : Int)] 72)).alloc (.cells #[.string ⟨#[]⟩, .int .u64 0, .int .u64 (8 + (N : Int))] 38)).alloc (.cells #[] 24)) := (((Below.refl _ _).alloc (Nat.le_refl _) _).alloc (by simp) _).alloc (by simp; omega) _
    have hlst := OwnAt.new ((w2.alloc (.cells #[.int .u64 (es : Int), .int .i64 8, .int .i64 (so : Int), .int .i64 (wd : Int)] 72)).alloc (.cells #[.string ⟨#[]⟩, .int .u64 0, .int .u64 (8 + (N : Int))] 38)) 24 1
    rw [show ((w2.alloc (.cells #[.int .u64 (es : Int), .int .i64 8, .int .i64 (so : Int), .int .i64 (wd : Int)] 72)).alloc (.cells #[.string ⟨#[]⟩, .int .u64 0, .int .u64 (8 + (N : Int))] 38)).heap.size = w2.heap.size + 1 + 1 from by simp] at hlst
    have hhd : MemAt ((w2.alloc (.cells #[.int .u64 (es : Int), .int .i64 8, .int .i64 (so : Int), .int .i64 (wd : Int)] 72)).alloc (.cells #[.string ⟨#[]⟩, .int .u64 0, .int .u64 (8 + (N : Int))] 38)) (w2.heap.size + 1) ⟨#[]⟩ 0 (8 + N) := by
      have := heap_alloc_new (w2.alloc (.cells #[.int .u64 (es : Int), .int .i64 8, .int .i64 (so : Int), .int .i64 (wd : Int)] 72)) (.cells #[.string ⟨#[]⟩, .int .u64 0, .int .u64 (8 + (N : Int))] 38)
      rw [show (w2.alloc (.cells #[.int .u64 (es : Int), .int .i64 8, .int .i64 (so : Int), .int .i64 (wd : Int)] 72)).heap.size = w2.heap.size + 1 from by simp] at this
      exact this
    have hwf := f2.lt
    exact ⟨hbw2.trans (hb3.mono hbw2.size), hr2.below hb3 hr2.lt, hl2.below hb3 hl2.lt, f2.below hb3 hwf, htab.below hb3 hTlt, hhd.below ((Below.refl _ _).alloc (by simp) _ : Below (w2.heap.size + 2) _ _) (by omega), hm2.below hb3 hm2.lt, hp2.below hb3 hp2.lt, hlst, by intro v hv; simp at hv, by omega, by omega, by omega, by omega⟩
  generalize hg0 : (((w2.alloc (.cells #[.int .u64 (es : Int), .int .i64 8, .int .i64 (so : Int), .int .i64 (wd : Int)] 72)).alloc (.cells #[.string ⟨#[]⟩, .int .u64 0, .int .u64 (8 + (N : Int))] 38)).alloc (.cells #[] 24)) = w3 at hstart ⊢
  obtain ⟨L, hL⟩ : ∃ L, L = w.heap.size + 1 + 1 + 1 := ⟨_, rfl⟩
  obtain ⟨Fm, hFm⟩ : ∃ Fm, Fm = w1.heap.size := ⟨_, rfl⟩
  obtain ⟨T, hT⟩ : ∃ T, T = w1.heap.size + 1 := ⟨_, rfl⟩
  obtain ⟨Hd, hHd⟩ : ∃ Hd, Hd = w2.heap.size + 1 := ⟨_, rfl⟩
  rw [← hL, ← hT, ← hFm, ← hHd] at hstart ⊢
  clear hg0 hL hFm hT hHd hTlt htab d0 d1 d2 d3 hbw2 hp2 hm2 hl2 hr2 f2 hlt1' hlt1 hlt hlt'
  clear w1 w2
  have hhe : 8 + N = he := by rw [HE.out, hN]
  rw [hhe] at hstart
  have hhe1 : he ≤ 10000 := by omega
  have HHE : Hid (8 + N = he) := hhe
  clear hhe
  go_loopw [11, 52] (fun v11 i wr => ∃ k gm cm gp cp gl cl : Nat, ∃ ps ls : List Value, k ≤ ents.length ∧ i = .int .u64 (k : Int) ∧ v11 = .slice (some ⟨gl, 0, none⟩) (bfold fs he (ents.take k)).1.length cl ∧
      SlI w es so wd he L Fm T N Hd (fun j => bs (8 + j)) gm cm gp cp gl cl (bfold fs he (ents.take k)) ps ls wr) (fun _ i _ => ents.length - (intOf i).toNat)
  case atStart => exact ⟨0, _, _, _, _, _, _, _, _, Nat.zero_le _, rfl, rfl, hstart⟩
  case round =>
    clear hstart
    obtain ⟨k, gm, cm, gp, cp, gl, cl, ps, ls, hk, rfl, rfl, HI⟩ := hrel
    by_cases hlt : k < ents.length
    · have hlt' : (k : Int) < (ents.length : Int) := by omega
      obtain ⟨p, hp⟩ : ∃ p, k * es = p := ⟨_, rfl⟩
      have hmulk : (k : Int) * (es : Int) = (p : Int) := by rw [← Int.natCast_mul, hp]
      have hpN : p + es ≤ N := by
        rw [← hp, ← hN]
        have := Nat.mul_le_mul_right es (show k + 1 ≤ ents.length from hlt)
        rw [Nat.add_mul, Nat.one_mul] at this
        exact this
      have hes0 := FO.es0
      have f0 := HI.form.c 0
      have hFmlt := HI.form.lt
      have hsz0 : 0 < wr.heap.size := by omega
      have hpl : (p : Int) ≤ (N : Int) := by omega
      have hpne : ¬ N = p := by omega
      have hwp : IntKind.u64.wrap (p : Int) = (p : Int) := wrap_u64_small (by omega) (by omega)
      have HP : Hid (k * es = p) := hp
      have HN : Hid (ents.length * es = N) := hN
      clear hp hN
      go_upto_region 13 with fail
      refine wp_only (reg13 Fm T N k es p wr f0 hFmlt hmulk hwp hpl hpne _ _ _ _ _ _ _ _ _ _ _ _ _ _ _ _ _ _ _ _ _ _ _ _ _ _ _ _ _ _ _ _ _ _ _ _ _ _ _ _ _ _ _ _ _ _ _ _ _ _ _ _ _ _ _ _ _ _ _ _ _ _ _ _ _ _ _ _ _ _ _ _ _ _ _ _ _ _ _ _ _ _ _ _ _ _ _ _ _ _ _ _ _ _ _ _ _ _ _ _ _ _ _ _ _ _ _ _ _ _ _ _ _ _ _ _ _ _ _ _ _ _ _ _ _ _ _ _ _ _ _ _ _ _ _ _ _ _ _ _ _ _ _ _ _ _ _ _ _ _ _ _ _ _ _ _ _ _ _ _ _ _ _ _ _ _ _ _ _ _ _ _ _ _ _ _ _ _ _ _ _ _ _ _ _ _ _ _ _ _ _ _ _ _ _ _ _ _ _ _ _ _ _ _ _ _ _ _ _ _ _ _ _) ?_
      rintro a1 wc ⟨bF, x55, x56, x57, x58, x59, x60, x61, x62, x63, rfl, hF, hb1⟩
      have HI1 := HI.grow hb1
      have hwc : wr.heap.size ≤ wc.heap.size := hb1.size
      clear hb1 f0 hFmlt hsz0 HI
      obtain ⟨e, hee⟩ : ∃ e, ents[k] = e := ⟨_, rfl⟩
      have hek : e.k < 7 := by rw [← hee]; exact FF.k7 _ (List.getElem_mem _)
      have hbig : e.off < 18446744073709551616 ∧ e.size < 18446744073709551616 := by rw [← hee]; exact FF.big _ (List.getElem_mem _)
      have htabp : Bytes wc T p (N - p) (fun j => bs (8 + (p + j))) := fun j hj => by
        have := HI1.tab (p + j) (by omega)
        rw [Nat.zero_add] at this
        exact this
      have hTlt : T < wc.heap.size := by have := HI1.hd; have := HI1.o1; omega
      have ⟨hcpu0, hcpu1, _⟩ := isCpu_k e.k hek
      have PMc := PM.below (HI1.bel.mono PM.hB)
      have hbF := hF.lt
      have HF4 : Hid (∀ W, Below wc.heap.size wc W → Calls Ybaf.prog 21 #[.int .i64 0, .int .i64 4, .pointer (some ⟨bF, 0, none⟩)] W fun e' w' => e' = .returned (.int .u64 (cpuK e.k)) ∧ Below wc.heap.size wc w' ∧ Below W.heap.size W w') := fun W hW => by
        refine (field4 bF T p (N - p) (N - p) 0 (fun j => bs (8 + (p + j))) W (hF.below hW hbF) (htabp.below hW hTlt) (Nat.lt_of_lt_of_le hTlt hW.size) (by omega) (by omega) (by omega)).mono ?_
        rintro e' w' ⟨rfl, hb⟩
        refine ⟨?_, hW.trans (hb.mono hW.size), hb⟩
        have := FF.cpu k hlt
        rw [hee, HP.out] at this
        rw [← this]
        rfl
      have HFo : Hid (∀ W, Below wc.heap.size wc W → Calls Ybaf.prog 21 #[.int .i64 8, .int .i64 (wd : Int), .pointer (some ⟨bF, 0, none⟩)] W fun e' w' => e' = .returned (.int .u64 (e.off : Int)) ∧ Below wc.heap.size wc w' ∧ Below W.heap.size W w') := fun W hW => by
        refine (FO.run bF T p (N - p) (N - p) 8 (fun j => bs (8 + (p + j))) W (hF.below hW hbF) (htabp.below hW hTlt) (Nat.lt_of_lt_of_le hTlt hW.size) (by have := FO.o1; omega) (by omega) (by omega)).mono ?_
        rintro e' w' ⟨rfl, hb⟩
        refine ⟨?_, hW.trans (hb.mono hW.size), hb⟩
        have := FF.off k hlt
        rw [hee, HP.out] at this
        rw [← this]
      have HFs : Hid (∀ W, Below wc.heap.size wc W → Calls Ybaf.prog 21 #[.int .i64 (so : Int), .int .i64 (wd : Int), .pointer (some ⟨bF, 0, none⟩)] W fun e' w' => e' = .returned (.int .u64 (e.size : Int)) ∧ Below wc.heap.size wc w' ∧ Below W.heap.size W w') := fun W hW => by
        refine (FO.run bF T p (N - p) (N - p) so (fun j => bs (8 + (p + j))) W (hF.below hW hbF) (htabp.below hW hTlt) (Nat.lt_of_lt_of_le hTlt hW.size) (by have := FO.o2; omega) (by omega) (by omega)).mono ?_
        rintro e' w' ⟨rfl, hb⟩
        refine ⟨?_, hW.trans (hb.mono hW.size), hb⟩
        have := FF.size k hlt
        rw [hee, HP.out] at this
        rw [← this]
      have HAr : Hid (∀ W, Below wc.heap.size wc W → Calls Ybaf.prog 23 #[.int .u32 (cpuK e.k)] W fun e' w' => e' = .returned (.string (nameK e.k)) ∧ Below wc.heap.size wc w' ∧ Below W.heap.size W w') := fun W hW => by
        refine (arch_k B0 bm e.k W (PMc.below (hW.mono PMc.hB)) hek).mono ?_
        rintro e' w' ⟨rfl, hb⟩
        exact ⟨rfl, hW.trans (hb.mono hW.size), hb⟩
      have HST : Hid (bfold fs he (ents.take (k + 1)) = bstep fs he (bfold fs he (ents.take k)) e) := by
        show _ = _
        rw [bfold_step fs he ents k hlt, hee]
      have hfk := bfold_ok fs he ents FF.k7 k hk
      obtain ⟨st, hst⟩ : ∃ st, bfold fs he (ents.take k) = st := ⟨_, rfl⟩
      rw [hst] at HST HI1 hfk
      have f1 := HI1.form.c 1
      have f2 := HI1.form.c 2
      have f3 := HI1.form.c 3
      have hFml := HI1.form.lt
      have hw32 : IntKind.u32.wrap (cpuK e.k) = cpuK e.k := by rw [IntKind.wrap_u32]; omega
      have hr1 : ∀ W, Below wc.heap.size wc W → W.cell? ⟨R, 1, none⟩ = some (.int .u64 (fs : Int)) := fun W hW => ((HI1.bel.trans (hW.mono HI1.bel.size)).cell (p := ⟨R, 1, none⟩) H.hR).trans H.r1
      have hRlt := H.hR
      have HR1 : Hid (∀ W, Below wc.heap.size wc W → W.cell? ⟨R, 1, none⟩ = some (.int .u64 (fs : Int))) := hr1
      clear hee htabp hTlt PMc hF hr1 P PM H FO FF
      go_upto_region 15 with fail
      refine wp_only (reg15 Fm bF (wd : Int) (cpuK e.k) (e.off : Int) (nameK e.k) wc hFml f1 f3 hw32 HF4 HFo HAr _ _ _ _ _ _ _ _ _ _ _ _ _ _ _ _ _ _ _ _ _ _ _ _ _ _ _ _ _ _ _ _ _ _ _ _ _ _ _ _ _ _ _ _ _ _ _ _ _ _ _ _ _ _ _ _ _ _ _ _ _ _ _ _ _ _ _ _ _ _ _ _ _ _ _ _ _ _ _ _ _ _ _ _ _ _ _ _ _ _ _ _ _ _ _ _ _ _ _ _ _ _ _ _ _ _ _ _ _ _ _ _ _ _ _ _ _ _ _ _ _ _ _ _ _ _ _ _ _ _ _ _ _ _ _ _ _ _ _ _ _ _ _ _ _ _ _ _ _ _ _ _ _ _ _ _ _ _ _ _ _ _ _ _ _ _ _ _ _ _ _ _ _ _ _ _ _ _ _ _ _ _ _ _ _ _ _ _ _ _ _ _ _ _ _ _ _ _ _ _ _ _ _ _ _ _ _ _ _ _ _ _ _ _) ?_
      rintro a2 w2 ⟨bM, x65, x66, x67, x68, x69, x70, x71, x72, x73, x74, x75, rfl, hM, hMn, hb2⟩
      have g2 := (hb2.cell (p := ⟨Fm, 2, none⟩) hFml).trans f2
      have g3 := (hb2.cell (p := ⟨Fm, 3, none⟩) hFml).trans f3
      clear HF4 HFo HAr f1 f2 f3
      go_wp2_with fail
      refine (HFs.out _ hb2).mono ?_
      rintro e' w3 ⟨rfl, hb3, hb23⟩
      have hM3 := hM.below hb23 hM.lt
      have hR3 := HR1.out _ hb3
      clear HFs hM hb23 g2 g3 hb2
      go_upto_region 17 with fail
      refine wp_only (reg17 R bM (fs : Int) (e.off : Int) 0 (nameK e.k) w3 hM3 hR3 _ _ _ _ _ _ _ _ _ _ _ _ _ _ _ _ _ _ _ _ _ _ _ _ _ _ _ _ _ _ _ _ _ _ _ _ _ _ _ _ _ _ _ _ _ _ _ _ _ _ _ _ _ _ _ _ _ _ _ _ _ _ _ _ _ _ _ _ _ _ _ _ _ _ _ _ _ _ _ _ _ _ _ _ _ _ _ _ _ _ _ _ _ _ _ _ _ _ _ _ _ _ _ _ _ _ _ _ _ _ _ _ _ _ _ _ _ _ _ _ _ _ _ _ _ _ _ _ _ _ _ _ _ _ _ _ _ _ _ _ _ _ _ _ _ _ _ _ _ _ _ _ _ _ _ _ _ _ _ _ _ _ _ _ _ _ _ _ _ _ _ _ _ _ _ _ _ _ _ _ _ _ _ _ _ _ _ _ _ _ _ _ _ _ _ _ _ _ _ _ _ _ _ _ _ _ _ _ _ _ _ _ _ _) ?_
      rintro a3 w4 ⟨x82, x83, x84, x85, rfl, hb34⟩
      have hb4 := hb3.trans (hb34.mono hb3.size)
      have hM4 := hM3.below hb34 hM3.lt
      clear hM3 hR3 hb34 hb3
      have HI4 := HI1.grow hb4
      have hwg := HI1.o0
      have hwg1 := HI1.o1
      have hwm := HI1.om
      have hwp' := HI1.op
      have hHdlt := HI1.hd
      have hplt := HI1.prob.lt
      have hMp : bM ≠ gp := by omega
      have hML : bM ≠ L := by omega
      have hRp : R ≠ gp := by omega
      have hRL : R ≠ L := by omega
      have hRM : R ≠ bM := by omega
      have hR4 := HR1.out _ hb4
      by_cases hoff : fs < e.off
      · have hoff' : (fs : Int) < (e.off : Int) := by omega
        have HN1 : Hid (bfold fs he (ents.take (k + 1)) = (st.1, st.2 + 1)) := by
          show _ = _
          rw [HST.out, bstep, if_pos hoff]
        go_upto_region 18 with fail
        refine wp_only (reg18 R bM (k : Int) (e.size : Int) (e.off : Int) (fs : Int) 0 (nameK e.k) L gp st.2 cp ps _ w4 hM4 hMp hML hR4 hRp hRL HI4.pair HI4.prob (by omega) (by omega) _ _ _ _ _ _ _ _ _ _ _ _ _ _ _ _ _ _ _ _ _ _ _ _ _ _ _ _ _ _ _ _ _ _ _ _ _ _ _ _ _ _ _ _ _ _ _ _ _ _ _ _ _ _ _ _ _ _ _ _ _ _ _ _ _ _ _ _ _ _ _ _ _ _ _ _ _ _ _ _ _ _ _ _ _ _ _ _ _ _ _ _ _ _ _ _ _ _ _ _ _ _ _ _ _ _ _ _ _ _ _ _ _ _ _ _ _ _ _ _ _ _ _ _ _ _ _ _ _ _ _ _ _ _ _ _ _ _ _ _ _ _ _ _ _ _ _ _ _ _ _ _ _ _ _ _ _ _ _ _ _ _ _ _ _ _ _ _ _ _ _ _ _ _ _ _ _ _ _ _ _ _ _ _ _ _ _ _ _ _ _ _ _ _ _ _ _ _ _ _ _ _ _ _ _ _ _ _ _ _ _) ?_
        rintro a4 w5 ⟨x87, x88, x89, x90, x91, x92, x93, x94, x95, x96, x97, x98, x99, x100, x101, x102, x103, x104, x105, x106, rfl, hpp⟩
        obtain ⟨g', cp', ps', HI5, _, _⟩ := HI4.put hpp
        clear hpp HI4 hM4
        go_wp2
        go_roundw
        case rel => exact ⟨k + 1, gm, cm, g', cp', gl, cl, ps', ls, by omega, by go_num, by rw [HN1.out], by rw [HN1.out]; exact HI5⟩
        case measure => simp [intOf]; omega
      · have hoff' : ¬ (fs : Int) < (e.off : Int) := by omega
        have hle : e.off ≤ fs := by omega
        have hwr : IntKind.u64.wrap ((fs : Int) - (e.off : Int)) = (fs : Int) - (e.off : Int) := wrap_u64_small (by omega) (by omega)
        have HHD := (held_int (fs := fs) (e := e) hle : _ = _)
        have HHD' : Hid ((if (fs : Int) - (e.off : Int) < (e.size : Int) then (fs : Int) - (e.off : Int) else (e.size : Int)) = (heldOf fs e : Int)) := HHD
        have hhl := held_le hle
        clear HHD
        go_upto_region 19 with fail
        refine wp_only (reg19 R bM (fs : Int) (e.off : Int) 0 (e.size : Int) (heldOf fs e : Int) (nameK e.k) w4 hM4 hR4 hRM hwr HHD' _ _ _ _ _ _ _ _ _ _ _ _ _ _ _ _ _ _ _ _ _ _ _ _ _ _ _ _ _ _ _ _ _ _ _ _ _ _ _ _ _ _ _ _ _ _ _ _ _ _ _ _ _ _ _ _ _ _ _ _ _ _ _ _ _ _ _ _ _ _ _ _ _ _ _ _ _ _ _ _ _ _ _ _ _ _ _ _ _ _ _ _ _ _ _ _ _ _ _ _ _ _ _ _ _ _ _ _ _ _ _ _ _ _ _ _ _ _ _ _ _ _ _ _ _ _ _ _ _ _ _ _ _ _ _ _ _ _ _ _ _ _ _ _ _ _ _ _ _ _ _ _ _ _ _ _ _ _ _ _ _ _ _ _ _ _ _ _ _ _ _ _ _ _ _ _ _ _ _ _ _ _ _ _ _ _ _ _ _ _ _ _ _ _ _ _ _ _ _ _ _ _ _ _ _ _ _ _ _ _ _ _ _) ?_
        rintro a4 w5 ⟨x107, x108, x109, x110, x111, x112, x113, x114, rfl, hw5⟩
        have hb5 : Below wc.heap.size wc w5 := by rw [hw5]; exact (hb4.setCell (p := ⟨bM, 2, none⟩) hMn _).drew
        have hM5 : MemIs w5 bM (nameK e.k) (e.off : Int) (heldOf fs e : Int) := by rw [hw5]; exact hM4.put2 _
        have hHB : Hid (bstep fs he st e = if meets e.off (heldOf fs e) 0 he then (st.1, st.2 + (if heldOf fs e < e.size then 1 else 0) + 1)
            else if clash st.1 e.off (heldOf fs e) then (st.1, st.2 + (if heldOf fs e < e.size then 1 else 0) + 1)
            else (st.1 ++ [⟨e.k, e.off, heldOf fs e⟩], st.2 + (if heldOf fs e < e.size then 1 else 0))) := by
          show _ = _
          rw [bstep, if_neg hoff]
        obtain ⟨hd, hhd⟩ : ∃ hd, heldOf fs e = hd := ⟨_, rfl⟩
        rw [hhd] at hM5 hHB hhl
        have HI5 := HI1.grow hb5
        have m2 : w5.cell? ⟨bM, 2, none⟩ = some (.int .u64 (hd : Int)) := hM5.c 2
        obtain ⟨pp, hpp0⟩ : ∃ pp : Nat, (if hd < e.size then 1 else 0) = pp := ⟨_, rfl⟩
        rw [hpp0] at hHB
        have hpp1 : pp ≤ 1 := by rw [← hpp0]; split <;> omega
        clear hw5 HI4 hM4 hb4 hhd hR4 hwr HHD' hoff'
        go_upto_if 118 with fail
        go_cut [] from 53 to 214 (fun wx => ∃ gp' cp' ps', SlI w es so wd he L Fm T N Hd (fun j => bs (8 + j)) gm cm gp' cp' gl cl (st.1, st.2 + pp) ps' ls wx ∧ MemIs wx bM (nameK e.k) (e.off : Int) (hd : Int) ∧ bM ≠ gp')
        case first =>
          by_cases hcs : hd < e.size
          · have hcs' : (hd : Int) < (e.size : Int) := by omega
            have hpp2 : pp = 1 := by rw [← hpp0, if_pos hcs]
            go_upto_region 21 with fail
            refine wp_only (reg21 bM (k : Int) (e.size : Int) (e.off : Int) (hd : Int) (nameK e.k) L gp st.2 cp ps _ w5 hM5 hMp hML HI5.pair HI5.prob (by omega) (by omega) _ _ _ _ _ _ _ _ _ _ _ _ _ _ _ _ _ _ _ _ _ _ _ _ _ _ _ _ _ _ _ _ _ _ _ _ _ _ _ _ _ _ _ _ _ _ _ _ _ _ _ _ _ _ _ _ _ _ _ _ _ _ _ _ _ _ _ _ _ _ _ _ _ _ _ _ _ _ _ _ _ _ _ _ _ _ _ _ _ _ _ _ _ _ _ _ _ _ _ _ _ _ _ _ _ _ _ _ _ _ _ _ _ _ _ _ _ _ _ _ _ _ _ _ _ _ _ _ _ _ _ _ _ _ _ _ _ _ _ _ _ _ _ _ _ _ _ _ _ _ _ _ _ _ _ _ _ _ _ _ _ _ _ _ _ _ _ _ _ _ _ _ _ _ _ _ _ _ _ _ _ _ _ _ _ _ _ _ _ _ _ _ _ _ _ _ _ _ _ _ _ _ _ _ _ _ _ _ _ _ _ _) ?_
            rintro a5 w6 ⟨x119, x120, x121, x122, x123, x124, x125, x126, x127, x128, x129, x130, x131, x132, x133, x134, x135, x136, x137, x138, rfl, hpp⟩
            obtain ⟨g', cp', ps', HI6, hs6, hg6⟩ := HI5.put hpp
            have hM6 := hpp.mem hM5 hMp hML
            have hMlt := hM5.lt
            clear hpp
            go_wp2
            go_meet
            rw [hpp2]
            exact ⟨g', cp', ps', HI6, hM6, by omega⟩
          · have hcs' : ¬ (hd : Int) < (e.size : Int) := by omega
            have hpp2 : pp = 0 := by rw [← hpp0, if_neg hcs]
            go_wp2
            go_meet
            rw [hpp2]
            exact ⟨gp, cp, ps, HI5, hM5, hMp⟩
        case rest =>
          obtain ⟨gp2, cp2, ps2, HI6, hM6, hMp6⟩ := hcut
          have hnp6 : st.2 + pp ≤ 100 := by omega
          have hMlt := hM6.lt
          have m0 : wc.cell? ⟨bM, 0, none⟩ = some (.string (nameK e.k)) := hM6.c 0
          have m1 : wc.cell? ⟨bM, 1, none⟩ = some (.int .u64 (e.off : Int)) := hM6.c 1
          have m2' : wc.cell? ⟨bM, 2, none⟩ = some (.int .u64 (hd : Int)) := hM6.c 2
          have q0 : wc.cell? ⟨Hd, 0, none⟩ = some (.string ⟨#[]⟩) := HI6.head.c 0
          have q1 : wc.cell? ⟨Hd, 1, none⟩ = some (.int .u64 0) := HI6.head.c 1
          have q2 : wc.cell? ⟨Hd, 2, none⟩ = some (.int .u64 (he : Int)) := HI6.head.c 2
          have v0 := HI6.o0
          have v1 := HI6.o1
          have v2 := HI6.om
          have v3 := HI6.op
          have hsh := share_any (nameK e.k) ⟨#[]⟩ e.off hd 0 he wc (by omega) (by omega)
          clear HI5 hM5 m2 hMp
          cases hme : meets e.off hd 0 he
          · have hHB2 : Hid (bstep fs he st e = if clash st.1 e.off hd then (st.1, st.2 + pp + 1) else (st.1 ++ [⟨e.k, e.off, hd⟩], st.2 + pp)) := by
              show _ = _
              rw [hHB.out, hme]
              rfl
            rw [hme] at hsh
            clear hme hHB
            go_wp2_with fail
            refine hsh.mono ?_
            rintro e' w7 ⟨rfl, hb7⟩
            have HI7 := HI6.grow hb7
            have hM7 := hM6.below hb7 hMlt
            have l0 : w7.cell? ⟨L, 0, none⟩ = some (.slice (some ⟨gm, 0, none⟩) st.1.length cm) := HI7.pair.c 0
            have hix := index_any gm cm bM (nameK e.k) e.off hd fs st.1 w7 (mem_is hM7) (by omega) (by omega) hfk.1 (by omega) HI7.mem
            clear hsh HI6 hM6 m0 m1 m2' q0 q1 q2 hb7
            go_wp2_with fail
            refine hix.mono ?_
            rintro e' w8 ⟨rfl, hb8⟩
            have HI8 := HI7.grow hb8
            have hM8 := hM7.below hb8 hM7.lt
            have hL8 := HI8.pair
            have d0 : w8.cell? ⟨L, 0, none⟩ = some (.slice (some ⟨gm, 0, none⟩) st.1.length cm) := HI8.pair.c 0
            have dfr := HI8.pair.free
            have hM8lt := hM8.lt
            clear hix HI7 hM7 l0 hb8
            cases hcl : clash st.1 e.off hd
            · have HN1 : Hid (bfold fs he (ents.take (k + 1)) = (st.1 ++ [⟨e.k, e.off, hd⟩], st.2 + pp)) := by
                show _ = _
                rw [HST.out, hHB2.out, hcl]
                rfl
              rw [idx_none hcl]
              clear hcl hHB2
              have n0 : w8.cell? ⟨bM, 0, none⟩ = some (.string (nameK e.k)) := hM8.c 0
              have n1 : w8.cell? ⟨bM, 1, none⟩ = some (.int .u64 (e.off : Int)) := hM8.c 1
              have n2 : w8.cell? ⟨bM, 2, none⟩ = some (.int .u64 (hd : Int)) := hM8.c 2
              have hgl8 := HI8.ml
              have hlm8 := HI8.mem.lt
              have hll8 := HI8.lst.lt
              obtain ⟨i38, hi0, hi1, hi2, hi3⟩ := info_parts Ybaf.info38
              obtain ⟨i24, hj0, hj1, hj2, hj3⟩ := info_parts Ybaf.info24
              have hbX : Below w8.heap.size w8 (w8.alloc (.cells #[.string (nameK e.k), .int .u64 (e.off : Int), .int .u64 (hd : Int)] 38)) := (Below.refl _ _).alloc (Nat.le_refl _) _
              have HI9 := HI8.grow hbX
              obtain ⟨g', cm', wA, hapA, hoA, hgrA, hgA⟩ := own_append 32 32 38 3 32 i38 (.agg #[.string ⟨#[]⟩, .int .u64 0, .int .u64 0]) Ybaf.underlying32 hi0 hi1 hi2 hi3 rfl (by decide) (w8.alloc (.cells #[.string (nameK e.k), .int .u64 (e.off : Int), .int .u64 (hd : Int)] 38)) gm st.1.length cm (msCells st.1) HI9.mem w8.heap.size [.string (nameK e.k), .int .u64 (e.off : Int), .int .u64 (hd : Int)] rfl (fun j u hu => by
                rw [cell_of_row _ _ _ _ _ _ (heap_alloc_new w8 _)]
                simpa using hu) (by intro u hu; simp at hu; rcases hu with rfl | rfl | rfl <;> rfl) (by omega) (by decide)
              have hszX : (w8.alloc (.cells #[.string (nameK e.k), .int .u64 (e.off : Int), .int .u64 (hd : Int)] 38)).heap.size = w8.heap.size + 1 := by simp
              have hLA : wA.heap[L]? = w8.heap[L]? := (hgrA.block L (by rw [hszX]; omega) (by simp; omega)).trans (hbX.block L (by omega))
              have LA0 : wA.cell? ⟨L, 0, none⟩ = some (.slice (some ⟨gm, 0, none⟩) st.1.length cm) := (World.cell?_of_block (a := ⟨L, 0, none⟩) hLA).trans d0
              have LAf : wA.frozen? ⟨L, 0, none⟩ = false := (World.frozen?_of_block (a := ⟨L, 0, none⟩) hLA).trans (dfr 0)
              have hsA := hgrA.size
              have hbY : Below wA.heap.size (wA.setCell ⟨L, 0, none⟩ (.slice (some ⟨g', 0, none⟩) (st.1.length + 1) cm')) ((wA.setCell ⟨L, 0, none⟩ (.slice (some ⟨g', 0, none⟩) (st.1.length + 1) cm')).alloc (.cells #[.int .u64 (k : Int)] 24)) := (Below.refl _ _).alloc (by simp [World.setCell]) _
              have hlY : OwnAt ((wA.setCell ⟨L, 0, none⟩ (.slice (some ⟨g', 0, none⟩) (st.1.length + 1) cm')).alloc (.cells #[.int .u64 (k : Int)] 24)) 24 1 gl st.1.length cl ls := by
                refine HI9.lst.of_block ?_
                rw [hbY.block gl (by omega), Below.heap_setCell _ _ _ _ (show gl ≠ L by omega)]
                exact hgrA.block gl (by rw [hszX]; omega) (by simpa using Ne.symm hgl8)
              have hszY : (wA.setCell ⟨L, 0, none⟩ (.slice (some ⟨g', 0, none⟩) (st.1.length + 1) cm')).heap.size = wA.heap.size := by simp [World.setCell]
              obtain ⟨g2, cl', wC, hapC, hoC, hgrC, hgC⟩ := own_append 78 78 24 1 8 i24 (.int .u64 0) Ybaf.underlying78 hj0 hj1 hj2 hj3 rfl (by decide) ((wA.setCell ⟨L, 0, none⟩ (.slice (some ⟨g', 0, none⟩) (st.1.length + 1) cm')).alloc (.cells #[.int .u64 (k : Int)] 24)) gl st.1.length cl ls hlY wA.heap.size [.int .u64 (k : Int)] rfl (fun j u hu => by
                have hr := heap_alloc_new (wA.setCell ⟨L, 0, none⟩ (.slice (some ⟨g', 0, none⟩) (st.1.length + 1) cm')) (.cells #[.int .u64 (k : Int)] 24)
                rw [hszY] at hr
                rw [cell_of_row _ _ _ _ _ _ hr]
                simpa using hu) (by intro u hu; simp at hu; subst hu; rfl) (by omega) (by decide)
              have HIA := HI9.list1 (m := ⟨e.k, e.off, hd⟩) (x := (k : Int)) hoA hgrA hgA hbY hoC hgrC hgC
              clear HI8 HI9 hM8 hoA hgrA hgA hbY hoC hgrC hgC hlY hbX hLA hszX hszY hsA hi0 hi1 hi2 hi3 hj0 hj1 hj2 hj3 hL8
              go_wp2
              go_roundw
              case rel => exact ⟨k + 1, g', cm', gp2, cp2, g2, cl', ps2, _, by omega, by go_num, by rw [HN1.out]; simp, by rw [HN1.out]; exact HIA⟩
              case measure => simp [intOf]; omega
            · have HN1 : Hid (bfold fs he (ents.take (k + 1)) = (st.1, st.2 + pp + 1)) := by
                show _ = _
                rw [HST.out, hHB2.out, hcl]
                rfl
              obtain ⟨j, hj, hji⟩ := idx_clash hcl
              rw [hji]
              clear hcl hHB2 hji
              have hj' : (j : Int) < (st.1.length : Int) := by omega
              obtain ⟨c0, c1, c2⟩ := msCells_at st.1 j hj
              have t0 := HI8.mem.cell _ _ c0
              have t1 := HI8.mem.cell _ _ c1
              have t2 := HI8.mem.cell _ _ c2
              clear c0 c1 c2
              go_upto_region 27 with fail
              have hbP : Below w8.heap.size w8 (w8.alloc (.cells #[.string (nameK st.1[j].k), .int .u64 (st.1[j].off : Int), .int .u64 (st.1[j].size : Int)] 38)) := (Below.refl _ _).alloc (Nat.le_refl _) _
              have HI9 := HI8.grow hbP
              have hM9 := hM8.below hbP hM8lt
              have hQ9 : MemIs (w8.alloc (.cells #[.string (nameK st.1[j].k), .int .u64 (st.1[j].off : Int), .int .u64 (st.1[j].size : Int)] 38)) w8.heap.size (nameK st.1[j].k) (st.1[j].off : Int) (st.1[j].size : Int) := heap_alloc_new w8 _
              have hjl : j < ls.length := by have := HI9.lst.len; simp at this; omega
              obtain ⟨li, hli⟩ := HI9.lsI _ (List.getElem_mem hjl)
              have hlc := HI9.lst.cell j (.int .u64 li) (by rw [List.getElem?_eq_getElem hjl, hli])
              have hpl9 := HI9.pl
              have hplt9 := HI8.prob.lt
              refine wp_only (reg27 bM w8.heap.size gl st.1.length cl j (k : Int) (e.size : Int) (e.off : Int) (hd : Int) li (st.1[j].off : Int) (st.1[j].size : Int) (nameK e.k) (nameK st.1[j].k) L gp2 (st.2 + pp) cp2 ps2 _ _ hM9 hMp6 hML hQ9 (by omega) (by omega) hlc (Ne.symm hpl9) (by omega) hj' HI9.pair HI9.prob hnp6 (by omega) _ _ _ _ _ _ _ _ _ _ _ _ _ _ _ _ _ _ _ _ _ _ _ _ _ _ _ _ _ _ _ _ _ _ _ _ _ _ _ _ _ _ _ _ _ _ _ _ _ _ _ _ _ _ _ _ _ _ _ _ _ _ _ _ _ _ _ _ _ _ _ _ _ _ _ _ _ _ _ _ _ _ _ _ _ _ _ _ _ _ _ _ _ _ _ _ _ _ _ _ _ _ _ _ _ _ _ _ _ _ _ _ _ _ _ _ _ _ _ _ _ _ _ _ _ _ _ _ _ _ _ _ _ _ _ _ _ _ _ _ _ _ _ _ _ _ _ _ _ _ _ _ _ _ _ _ _ _ _ _ _ _ _ _ _ _ _ _ _ _ _ _ _ _ _ _ _ _ _ _ _ _ _ _ _ _ _ _ _ _ _ _ _ _ _ _ _ _ _ _ _ _ _ _ _ _ _ _ _) ?_
              rintro a6 w9 ⟨x173, x174, x175, x176, x177, x178, x179, x180, x181, x182, x183, x184, x185, x186, x187, x188, x189, x190, x191, x192, x193, x194, x195, x196, x197, x198, x199, x200, x201, x202, x203, rfl, hpp⟩
              obtain ⟨g', cp', ps', HIA, _, _⟩ := HI9.put hpp
              clear hpp HI9 hM9 HI8 hM8 hQ9 hlc t0 t1 t2 hbP d0 dfr hL8
              go_wp2
              go_roundw
              case rel => exact ⟨k + 1, gm, cm, g', cp', gl, cl, ps', ls, by omega, by go_num, by rw [HN1.out], by rw [HN1.out]; exact HIA⟩
              case measure => simp [intOf]; omega
          · have HN1 : Hid (bfold fs he (ents.take (k + 1)) = (st.1, st.2 + pp + 1)) := by
              show _ = _
              rw [HST.out, hHB.out, hme]
              rfl
            rw [hme] at hsh
            clear hme hHB
            go_wp2_with fail
            refine hsh.mono ?_
            rintro e' w7 ⟨rfl, hb7⟩
            have HI7 := HI6.grow hb7
            have hM7 := hM6.below hb7 hMlt
            clear hsh HI6 hM6 m0 m1 m2' q0 q1 q2 hb7
            go_upto_region 23 with fail
            refine wp_only (reg23 bM Hd (k : Int) (e.size : Int) (e.off : Int) (hd : Int) 0 (he : Int) (nameK e.k) ⟨#[]⟩ L gp2 (st.2 + pp) cp2 ps2 _ w7 hM7 hMp6 hML (mem_at HI7.head) (by omega) (by omega) HI7.pair HI7.prob hnp6 (by omega) _ _ _ _ _ _ _ _ _ _ _ _ _ _ _ _ _ _ _ _ _ _ _ _ _ _ _ _ _ _ _ _ _ _ _ _ _ _ _ _ _ _ _ _ _ _ _ _ _ _ _ _ _ _ _ _ _ _ _ _ _ _ _ _ _ _ _ _ _ _ _ _ _ _ _ _ _ _ _ _ _ _ _ _ _ _ _ _ _ _ _ _ _ _ _ _ _ _ _ _ _ _ _ _ _ _ _ _ _ _ _ _ _ _ _ _ _ _ _ _ _ _ _ _ _ _ _ _ _ _ _ _ _ _ _ _ _ _ _ _ _ _ _ _ _ _ _ _ _ _ _ _ _ _ _ _ _ _ _ _ _ _ _ _ _ _ _ _ _ _ _ _ _ _ _ _ _ _ _ _ _ _ _ _ _ _ _ _ _ _ _ _ _ _ _ _ _ _ _ _ _ _ _ _ _ _ _ _ _ _ _) ?_
            rintro a6 w8 ⟨x142, x143, x144, x145, x146, x147, x148, x149, x150, x151, x152, x153, x154, x155, x156, x157, x158, x159, x160, x161, rfl, hpp⟩
            obtain ⟨g', cp', ps', HI8, _, _⟩ := HI7.put hpp
            clear hpp HI7 hM7
            go_wp2
            go_roundw
            case rel => exact ⟨k + 1, gm, cm, g', cp', gl, cl, ps', ls, by omega, by go_num, by rw [HN1.out], by rw [HN1.out]; exact HI8⟩
            case measure => simp [intOf]; omega
    · have hlt' : ¬ (k : Int) < (ents.length : Int) := by omega
      obtain rfl : k = ents.length := by omega
      rw [List.take_length] at HI
      have c0 := HI.ret.c 0
      have c1 := HI.ret.c 1
      have hfr := HI.ret.free
      have d0 := HI.pair.c 0
      have d1 := HI.pair.c 1
      have hrt := HI.ret
      have hbl := HI.bel
      have hmem := HI.mem
      have hgm := HI.o0
      clear HI
      go_wp2
      (try simp only [Exit.inBlock, Exit.then])
      have hz : PairAt _ w.heap.size _ _ := hrt.put (.slice (some ⟨gm, 0, none⟩) (bfold fs he ents).1.length cm) (.slice (some ⟨gp, 0, none⟩) (bfold fs he ents).2 cp)
      refine bodyPost_ret (results12 _ _ w.heap.size _ _ _ rfl rfl (hz.c 0) (hz.c 1)) rfl ?_
      refine ⟨gm, cm, gp, cp, rfl, (hbl.setCell (p := ⟨w.heap.size, 0, none⟩) (Nat.le_refl _) _).setCell (p := ⟨w.heap.size, 1, none⟩) (Nat.le_refl _) _, ?_⟩
      exact hmem.of_block ((Below.heap_setCell _ _ _ _ (show gm ≠ w.heap.size by omega)).trans (Below.heap_setCell _ _ _ _ (show gm ≠ w.heap.size by omega)))

end Go.Proofs.YbulkblxcFmt
