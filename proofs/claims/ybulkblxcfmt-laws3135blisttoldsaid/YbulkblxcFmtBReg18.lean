import Derived.Test.YbulkblxcFmtBReg
import Derived.Test.YbulkblxcFmtBSprint
import Derived.Deep.RegionHeld
namespace Go.Proofs.YbulkblxcFmt
open Go.RowKit Go.Extern.Stop Go.Stop Go.Extern
set_option linter.unusedVariables false
attribute [-go_sem] Go.Builtin.append_

set_option maxHeartbeats 8000000 in
set_option maxRecDepth 100000 in
theorem reg18 (R bM : Nat) (ki sz off fs n0 : Int) (nm : ByteArray) (L gp np cp : Nat) (ps : List Value) (pv : Value) (wc : World) (hM : MemIs wc bM nm off n0) (hMg : bM ≠ gp) (hML : bM ≠ L) (hR : wc.cell? ⟨R, 1, none⟩ = some (.int .u64 fs)) (hRg : R ≠ gp) (hRL : R ≠ L) (hP : PairAt wc L pv (.slice (some ⟨gp, 0, none⟩) np cp)) (hO : OwnAt wc 9 1 gp np cp ps) (hnp : np ≤ 100) (hgL : gp ≠ L)
    (s1 s2 s3 s5 s6 s7 s8 s9 s10 s11 s13 s14 s17 s18 s19 s20 s21 s22 s23 s24 s25 s26 s27 s28 s29 s30 s31 s32 s33 s34 s35 s36 s37 s38 s39 s40 s41 s42 s43 s44 s45 s46 s47 s48 s49 s50 s51 s52 s53 s54 s55 s56 s57 s58 s59 s60 s61 s62 s63 s64 s65 s66 s67 s68 s69 s70 s71 s72 s73 s74 s75 s76 s77 s78 s79 s80 s81 s82 s83 s84 s85 s86 s87 s88 s89 s90 s91 s92 s93 s94 s95 s96 s97 s98 s99 s100 s101 s102 s103 s104 s105 s106 s107 s108 s109 s110 s111 s112 s113 s114 s115 s116 s117 s118 s119 s120 s121 s122 s123 s124 s125 s126 s127 s128 s129 s130 s131 s132 s133 s134 s135 s136 s137 s138 s139 s140 s141 s142 s143 s144 s145 s146 s147 s148 s149 s150 s151 s152 s153 s154 s155 s156 s157 s158 s159 s160 s161 s162 s163 s164 s165 s166 s167 s168 s169 s170 s171 s172 s173 s174 s175 s176 s177 s178 s179 s180 s181 s182 s183 s184 s185 s186 s187 s188 s189 s190 s191 s192 s193 s194 s195 s196 s197 s198 s199 s200 s201 s202 s203 s204 s205 s206 s207 s208 s209 s210 s211 s212 s213 s214 s215 : Value) :
    Code.wp Ybaf.prog (regionOf Ybaf.f12 18) (onlyNormal fun a' w' => ∃ (u87 u88 u89 u90 u91 u92 u93 u94 u95 u96 u97 u98 u99 u100 u101 u102 u103 u104 u105 u106 : Value), a' = ⟨#[.pointer (some ⟨R, 0, none⟩), s1, s2, s3, .pointer (some ⟨L, 0, none⟩), s5, s6, s7, s8, s9, s10, s11, .int .u64 ki, s13, s14, .pointer (some ⟨bM, 0, none⟩), .int .u64 sz, s17, s18, s19, s20, s21, s22, s23, s24, s25, s26, s27, s28, s29, s30, s31, s32, s33, s34, s35, s36, s37, s38, s39, s40, s41, s42, s43, s44, s45, s46, s47, s48, s49, s50, s51, s52, s53, s54, s55, s56, s57, s58, s59, s60, s61, s62, s63, s64, s65, s66, s67, s68, s69, s70, s71, s72, s73, s74, s75, s76, s77, s78, s79, s80, s81, s82, s83, s84, s85, s86, u87, u88, u89, u90, u91, u92, u93, u94, u95, u96, u97, u98, u99, u100, u101, u102, u103, u104, u105, u106, s107, s108, s109, s110, s111, s112, s113, s114, s115, s116, s117, s118, s119, s120, s121, s122, s123, s124, s125, s126, s127, s128, s129, s130, s131, s132, s133, s134, s135, s136, s137, s138, s139, s140, s141, s142, s143, s144, s145, s146, s147, s148, s149, s150, s151, s152, s153, s154, s155, s156, s157, s158, s159, s160, s161, s162, s163, s164, s165, s166, s167, s168, s169, s170, s171, s172, s173, s174, s175, s176, s177, s178, s179, s180, s181, s182, s183, s184, s185, s186, s187, s188, s189, s190, s191, s192, s193, s194, s195, s196, s197, s198, s199, s200, s201, s202, s203, s204, s205, s206, s207, s208, s209, s210, s211, s212, s213, s214, s215], []⟩ ∧ ProbPut wc L gp np ps w')
      ⟨#[.pointer (some ⟨R, 0, none⟩), s1, s2, s3, .pointer (some ⟨L, 0, none⟩), s5, s6, s7, s8, s9, s10, s11, .int .u64 ki, s13, s14, .pointer (some ⟨bM, 0, none⟩), .int .u64 sz, s17, s18, s19, s20, s21, s22, s23, s24, s25, s26, s27, s28, s29, s30, s31, s32, s33, s34, s35, s36, s37, s38, s39, s40, s41, s42, s43, s44, s45, s46, s47, s48, s49, s50, s51, s52, s53, s54, s55, s56, s57, s58, s59, s60, s61, s62, s63, s64, s65, s66, s67, s68, s69, s70, s71, s72, s73, s74, s75, s76, s77, s78, s79, s80, s81, s82, s83, s84, s85, s86, s87, s88, s89, s90, s91, s92, s93, s94, s95, s96, s97, s98, s99, s100, s101, s102, s103, s104, s105, s106, s107, s108, s109, s110, s111, s112, s113, s114, s115, s116, s117, s118, s119, s120, s121, s122, s123, s124, s125, s126, s127, s128, s129, s130, s131, s132, s133, s134, s135, s136, s137, s138, s139, s140, s141, s142, s143, s144, s145, s146, s147, s148, s149, s150, s151, s152, s153, s154, s155, s156, s157, s158, s159, s160, s161, s162, s163, s164, s165, s166, s167, s168, s169, s170, s171, s172, s173, s174, s175, s176, s177, s178, s179, s180, s181, s182, s183, s184, s185, s186, s187, s188, s189, s190, s191, s192, s193, s194, s195, s196, s197, s198, s199, s200, s201, s202, s203, s204, s205, s206, s207, s208, s209, s210, s211, s212, s213, s214, s215], []⟩ wc := by
  obtain ⟨s1, hsp⟩ := sprint_of ⟨fmA⟩ wc.heap.size 5 [.iface 24 (.int .u64 ki), .iface 9 (.string nm), .iface 24 (.int .u64 sz), .iface 24 (.int .u64 off), .iface 24 (.int .u64 fs)] _ (wc.alloc (.cells #[.iface 24 (.int .u64 ki), .iface 9 (.string nm), .iface 24 (.int .u64 sz), .iface 24 (.int .u64 off), .iface 24 (.int .u64 fs)] 20)).drew rfl prA (fun j v hv => by
    rw [add_mk, Nat.zero_add]
    have hr : ((wc.alloc (.cells #[.iface 24 (.int .u64 ki), .iface 9 (.string nm), .iface 24 (.int .u64 sz), .iface 24 (.int .u64 off), .iface 24 (.int .u64 fs)] 20)).drew).heap[wc.heap.size]? = some (.cells #[.iface 24 (.int .u64 ki), .iface 9 (.string nm), .iface 24 (.int .u64 sz), .iface 24 (.int .u64 off), .iface 24 (.int .u64 fs)] 20 (0, 0)) := heap_alloc_new wc _
    rw [cell_of_row _ _ _ _ _ _ hr]
    simpa using hv) (readAll5 ki sz off fs nm _)
  have hOX : OwnAt ((wc.alloc (.cells #[.iface 24 (.int .u64 ki), .iface 9 (.string nm), .iface 24 (.int .u64 sz), .iface 24 (.int .u64 off), .iface 24 (.int .u64 fs)] 20)).alloc (.cells #[.string s1] 9)).drew.drew 9 1 gp np cp ps := hO.below (B := wc.heap.size) (((((Below.refl _ _).alloc (Nat.le_refl _) _).alloc (by simp) _).drew).drew) hO.lt
  obtain ⟨i9, hi9, hz0, hz1, hz2⟩ := info_parts Ybaf.info9
  obtain ⟨g', cp', wA, hap, hoA, hgr, hg'⟩ := own_append 44 44 9 1 16 i9 (.string ⟨#[]⟩) Ybaf.underlying44 hi9 hz0 hz1 hz2 rfl (by decide) ((wc.alloc (.cells #[.iface 24 (.int .u64 ki), .iface 9 (.string nm), .iface 24 (.int .u64 sz), .iface 24 (.int .u64 off), .iface 24 (.int .u64 fs)] 20)).alloc (.cells #[.string s1] 9)).drew.drew gp np cp ps hOX (wc.heap.size + 1) [.string s1] rfl (fun j u hu => by
    have hr : (((wc.alloc (.cells #[.iface 24 (.int .u64 ki), .iface 9 (.string nm), .iface 24 (.int .u64 sz), .iface 24 (.int .u64 off), .iface 24 (.int .u64 fs)] 20)).alloc (.cells #[.string s1] 9)).drew.drew).heap[wc.heap.size + 1]? = some (.cells #[.string s1] 9 (0, 0)) := by
      have := heap_alloc_new (wc.alloc (.cells #[.iface 24 (.int .u64 ki), .iface 9 (.string nm), .iface 24 (.int .u64 sz), .iface 24 (.int .u64 off), .iface 24 (.int .u64 fs)] 20)) (.cells #[.string s1] 9)
      rw [show (wc.alloc (.cells #[.iface 24 (.int .u64 ki), .iface 9 (.string nm), .iface 24 (.int .u64 sz), .iface 24 (.int .u64 off), .iface 24 (.int .u64 fs)] 20)).heap.size = wc.heap.size + 1 from by simp] at this
      exact this
    rw [cell_of_row _ _ _ _ _ _ hr]
    simpa using hu) (by intro u hu; simp at hu; subst hu; rfl) (by omega) (by decide)
  have hpost : ProbPut wc L gp np ps (wA.setCell ⟨L, 1, none⟩ (.slice (some ⟨g', 0, none⟩) (np + 1) cp')) :=
    ⟨g', cp', s1, _, wA, rfl, hoA, ((((Below.refl _ _).alloc (Nat.le_refl _) _).alloc (by simp) _).drew).drew, hgr, hg'⟩
  have L1 : wc.cell? ⟨L, 1, none⟩ = some (.slice (some ⟨gp, 0, none⟩) np cp) := hP.c 1
  have hLl := hP.lt
  have hLu : L < wc.heap.size + 1 := Nat.lt_succ_of_lt hLl
  have hLA : wA.heap[L]? = wc.heap[L]? := (hgr.block L (by simp; omega) (by simpa using Ne.symm hgL)).trans (Below.block (B := wc.heap.size) (((((Below.refl _ _).alloc (Nat.le_refl _) _).alloc (by simp) _).drew).drew) L hLl)
  have LA1 : wA.cell? ⟨L, 1, none⟩ = some (.slice (some ⟨gp, 0, none⟩) np cp) := (World.cell?_of_block (a := ⟨L, 1, none⟩) hLA).trans L1
  have LAf : wA.frozen? ⟨L, 1, none⟩ = false := (World.frozen?_of_block (a := ⟨L, 1, none⟩) hLA).trans (hP.free 1)
  have e0 : wc.cell? ⟨bM, 0, none⟩ = some (.string nm) := hM.c 0
  have kA0 : wA.cell? ⟨bM, 0, none⟩ = some (.string nm) := hgr.cell (cellOld _ (cellOld _ e0)) (by simpa using hMg)
  have kB0 : ∀ u, (wA.setCell ⟨L, 1, none⟩ u).cell? ⟨bM, 0, none⟩ = some (.string nm) := fun u => (World.cell?_setCell_far wA ⟨L, 1, none⟩ ⟨bM, 0, none⟩ u (show L ≠ bM from fun h => hML h.symm)).trans kA0
  have e1 : wc.cell? ⟨bM, 1, none⟩ = some (.int .u64 off) := hM.c 1
  have kA1 : wA.cell? ⟨bM, 1, none⟩ = some (.int .u64 off) := hgr.cell (cellOld _ (cellOld _ e1)) (by simpa using hMg)
  have kB1 : ∀ u, (wA.setCell ⟨L, 1, none⟩ u).cell? ⟨bM, 1, none⟩ = some (.int .u64 off) := fun u => (World.cell?_setCell_far wA ⟨L, 1, none⟩ ⟨bM, 1, none⟩ u (show L ≠ bM from fun h => hML h.symm)).trans kA1
  have e2 : wc.cell? ⟨bM, 2, none⟩ = some (.int .u64 n0) := hM.c 2
  have kA2 : wA.cell? ⟨bM, 2, none⟩ = some (.int .u64 n0) := hgr.cell (cellOld _ (cellOld _ e2)) (by simpa using hMg)
  have kB2 : ∀ u, (wA.setCell ⟨L, 1, none⟩ u).cell? ⟨bM, 2, none⟩ = some (.int .u64 n0) := fun u => (World.cell?_setCell_far wA ⟨L, 1, none⟩ ⟨bM, 2, none⟩ u (show L ≠ bM from fun h => hML h.symm)).trans kA2
  have e3 : wc.cell? ⟨R, 1, none⟩ = some (.int .u64 fs) := hR
  have kA3 : wA.cell? ⟨R, 1, none⟩ = some (.int .u64 fs) := hgr.cell (cellOld _ (cellOld _ e3)) (by simpa using hRg)
  have kB3 : ∀ u, (wA.setCell ⟨L, 1, none⟩ u).cell? ⟨R, 1, none⟩ = some (.int .u64 fs) := fun u => (World.cell?_setCell_far wA ⟨L, 1, none⟩ ⟨R, 1, none⟩ u (show L ≠ R from fun h => hRL h.symm)).trans kA3
  have ltbM : bM < wc.heap.size := hM.lt
  have lubM : bM < wc.heap.size + 1 := Nat.lt_succ_of_lt ltbM
  have ltR : R < wc.heap.size := (World.block_lt_of_cell? wc _ hR)
  have luR : R < wc.heap.size + 1 := Nat.lt_succ_of_lt ltR
  clear hoA hgr hg' hOX hO hP hLA hi9 hz0 hz1 hz2
  conv => arg 2; whnf
  refine wp_region_held_drew (S := fun w' => w'.cell? ⟨bM, 0, none⟩ = some (.string nm) ∧ w'.cell? ⟨bM, 1, none⟩ = some (.int .u64 off) ∧ w'.cell? ⟨bM, 2, none⟩ = some (.int .u64 n0) ∧ w'.cell? ⟨R, 1, none⟩ = some (.int .u64 fs)) (by kernel_rfl) ?_ (fun hHeld => ?_)
  · exact ⟨e0, e1, e2, e3⟩
  refine wpAnyH_take (i := 0) (oi := { dst := some 87, op := Op.fieldAddr 46 (Operand.tmp 4) 1, type := 0, pos := "universal.go:125", after := #[], guard := none }) (v := ?_) rfl (by kernel_rfl) (by kernel_rfl) (by kernel_rfl) (fun _ _ _ h => h) (Or.inl ⟨by rfl, ?_⟩) (by assumption) ?_
  rotate_left
  · (intro w hSw; (try dsimp only at hSw); go_simp; (try with_reducible rfl))
  (try simp only [Act.put, List.setIfInBounds_toArray, List.set_cons_zero, List.set_cons_succ])
  refine wpAnyH_take (i := 2) (oi := { dst := some 89, op := Op.move (Operand.tmp 12), type := 24, pos := "universal.go:125", after := #[], guard := none }) (v := ?_) rfl (by kernel_rfl) (by kernel_rfl) (by kernel_rfl) (fun _ _ _ h => h) (Or.inl ⟨by rfl, ?_⟩) (by assumption) ?_
  rotate_left
  · (intro w hSw; (try dsimp only at hSw); go_simp; (try with_reducible rfl))
  (try simp only [Act.put, List.setIfInBounds_toArray, List.set_cons_zero, List.set_cons_succ])
  refine wpAnyH_take (i := 3) (oi := { dst := some 90, op := Op.makeInterface 24 (Operand.tmp 89), type := 20, pos := "universal.go:125", after := #[{ on := 2, ground := Ground.data }], guard := none }) (v := ?_) rfl (by kernel_rfl) (by kernel_rfl) (by kernel_rfl) (fun _ _ _ h => h) (Or.inl ⟨by rfl, ?_⟩) (by assumption) ?_
  rotate_left
  · (intro w hSw; (try dsimp only at hSw); go_simp; (try with_reducible rfl))
  (try simp only [Act.put, List.setIfInBounds_toArray, List.set_cons_zero, List.set_cons_succ])
  refine wpAnyH_take (i := 4) (oi := { dst := some 91, op := Op.fieldAddr 38 (Operand.tmp 15) 0, type := 0, pos := "universal.go:125", after := #[], guard := none }) (v := ?_) rfl (by kernel_rfl) (by kernel_rfl) (by kernel_rfl) (fun _ _ _ h => h) (Or.inl ⟨by rfl, ?_⟩) (by assumption) ?_
  rotate_left
  · (intro w hSw; (try dsimp only at hSw); go_simp; (try with_reducible rfl))
  (try simp only [Act.put, List.setIfInBounds_toArray, List.set_cons_zero, List.set_cons_succ])
  refine wpAnyH_take (i := 5) (oi := { dst := some 92, op := Op.load 9 (Operand.tmp 91), type := 9, pos := "universal.go:125", after := #[{ on := 4, ground := Ground.data }], guard := none }) (v := ?_) rfl (by kernel_rfl) (by kernel_rfl) (by kernel_rfl) (fun _ _ _ h => h) (Or.inl ⟨by rfl, ?_⟩) (by assumption) ?_
  rotate_left
  · (intro w hSw; (try dsimp only at hSw); go_simp; (try with_reducible rfl))
  (try simp only [Act.put, List.setIfInBounds_toArray, List.set_cons_zero, List.set_cons_succ])
  refine wpAnyH_take (i := 6) (oi := { dst := some 93, op := Op.makeInterface 9 (Operand.tmp 92), type := 20, pos := "universal.go:125", after := #[{ on := 5, ground := Ground.data }], guard := none }) (v := ?_) rfl (by kernel_rfl) (by kernel_rfl) (by kernel_rfl) (fun _ _ _ h => h) (Or.inl ⟨by rfl, ?_⟩) (by assumption) ?_
  rotate_left
  · (intro w hSw; (try dsimp only at hSw); go_simp; (try with_reducible rfl))
  (try simp only [Act.put, List.setIfInBounds_toArray, List.set_cons_zero, List.set_cons_succ])
  refine wpAnyH_take (i := 7) (oi := { dst := some 94, op := Op.move (Operand.tmp 16), type := 24, pos := "universal.go:125", after := #[], guard := none }) (v := ?_) rfl (by kernel_rfl) (by kernel_rfl) (by kernel_rfl) (fun _ _ _ h => h) (Or.inl ⟨by rfl, ?_⟩) (by assumption) ?_
  rotate_left
  · (intro w hSw; (try dsimp only at hSw); go_simp; (try with_reducible rfl))
  (try simp only [Act.put, List.setIfInBounds_toArray, List.set_cons_zero, List.set_cons_succ])
  refine wpAnyH_take (i := 8) (oi := { dst := some 95, op := Op.makeInterface 24 (Operand.tmp 94), type := 20, pos := "universal.go:125", after := #[{ on := 7, ground := Ground.data }], guard := none }) (v := ?_) rfl (by kernel_rfl) (by kernel_rfl) (by kernel_rfl) (fun _ _ _ h => h) (Or.inl ⟨by rfl, ?_⟩) (by assumption) ?_
  rotate_left
  · (intro w hSw; (try dsimp only at hSw); go_simp; (try with_reducible rfl))
  (try simp only [Act.put, List.setIfInBounds_toArray, List.set_cons_zero, List.set_cons_succ])
  refine wpAnyH_take (i := 9) (oi := { dst := some 96, op := Op.fieldAddr 38 (Operand.tmp 15) 1, type := 0, pos := "universal.go:125", after := #[], guard := none }) (v := ?_) rfl (by kernel_rfl) (by kernel_rfl) (by kernel_rfl) (fun _ _ _ h => h) (Or.inl ⟨by rfl, ?_⟩) (by assumption) ?_
  rotate_left
  · (intro w hSw; (try dsimp only at hSw); go_simp; (try with_reducible rfl))
  (try simp only [Act.put, List.setIfInBounds_toArray, List.set_cons_zero, List.set_cons_succ])
  refine wpAnyH_take (i := 10) (oi := { dst := some 97, op := Op.load 24 (Operand.tmp 96), type := 24, pos := "universal.go:125", after := #[{ on := 9, ground := Ground.data }], guard := none }) (v := ?_) rfl (by kernel_rfl) (by kernel_rfl) (by kernel_rfl) (fun _ _ _ h => h) (Or.inl ⟨by rfl, ?_⟩) (by assumption) ?_
  rotate_left
  · (intro w hSw; (try dsimp only at hSw); go_simp; (try with_reducible rfl))
  (try simp only [Act.put, List.setIfInBounds_toArray, List.set_cons_zero, List.set_cons_succ])
  refine wpAnyH_take (i := 11) (oi := { dst := some 98, op := Op.makeInterface 24 (Operand.tmp 97), type := 20, pos := "universal.go:125", after := #[{ on := 10, ground := Ground.data }], guard := none }) (v := ?_) rfl (by kernel_rfl) (by kernel_rfl) (by kernel_rfl) (fun _ _ _ h => h) (Or.inl ⟨by rfl, ?_⟩) (by assumption) ?_
  rotate_left
  · (intro w hSw; (try dsimp only at hSw); go_simp; (try with_reducible rfl))
  (try simp only [Act.put, List.setIfInBounds_toArray, List.set_cons_zero, List.set_cons_succ])
  refine wpAnyH_take (i := 12) (oi := { dst := some 99, op := Op.move (Operand.tmp 0), type := 39, pos := "universal.go:125", after := #[], guard := none }) (v := ?_) rfl (by kernel_rfl) (by kernel_rfl) (by kernel_rfl) (fun _ _ _ h => h) (Or.inl ⟨by rfl, ?_⟩) (by assumption) ?_
  rotate_left
  · (intro w hSw; (try dsimp only at hSw); go_simp; (try with_reducible rfl))
  (try simp only [Act.put, List.setIfInBounds_toArray, List.set_cons_zero, List.set_cons_succ])
  refine wpAnyH_ready (rs := [1, 13]) (by kernel_rfl) (by simp) ?_
  refine AllReadyH.cons rfl (fun K hK => ?_) ?_
  · go_simp
    refine hK.out _ _ ?_ (fun hHeld => ?_)
    · ((try dsimp only); first | assumption | ((repeat' apply And.intro) <;> first | assumption | (simp only [*]; done) | go_simp))
    clear hK K
    refine wpAnyH_ready (rs := [13]) (by kernel_rfl) (by simp) ?_
    refine AllReadyH.cons rfl (fun K hK => ?_) ?_
    · go_simp
      go_wp2_with (go_at_call 24; refine (size_any R fs _ (by first | assumption | (simp only [*]; done) | go_simp)).mono ?_; rintro e' w' ⟨rfl, rfl⟩)
      refine hK.out _ _ ?_ (fun hHeld => ?_)
      · ((try dsimp only); first | assumption | ((repeat' apply And.intro) <;> first | assumption | (simp only [*]; done) | go_simp))
      clear hK K
      refine wpAnyH_take (i := 14) (oi := { dst := some 101, op := Op.makeInterface 24 (Operand.tmp 100), type := 20, pos := "universal.go:125", after := #[{ on := 13, ground := Ground.data }], guard := none }) (v := ?_) rfl (by kernel_rfl) (by kernel_rfl) (by kernel_rfl) (fun _ _ _ h => h) (Or.inl ⟨by rfl, ?_⟩) (by assumption) ?_
      rotate_left
      · (intro w hSw; (try dsimp only at hSw); go_simp; (try with_reducible rfl))
      (try simp only [Act.put, List.setIfInBounds_toArray, List.set_cons_zero, List.set_cons_succ])
      refine wpAnyH_ready (rs := [15]) (by kernel_rfl) (by simp) ?_
      refine AllReadyH.cons rfl (fun K hK => ?_) ?_
      · go_simp
        refine hK.out _ _ ?_ (fun hHeld => ?_)
        · ((try dsimp only); first | assumption | ((repeat' apply And.intro) <;> first | assumption | (simp only [*]; done) | go_simp))
        clear hK K
        refine wpAnyH_ready (rs := [16]) (by kernel_rfl) (by simp) ?_
        refine AllReadyH.cons rfl (fun K hK => ?_) ?_
        · go_simp
          refine hK.out _ _ ?_ (fun hHeld => ?_)
          · ((try dsimp only); first | assumption | ((repeat' apply And.intro) <;> first | assumption | (simp only [*]; done) | go_simp))
          clear hK K
          refine wpAnyH_ready (rs := [17]) (by kernel_rfl) (by simp) ?_
          refine AllReadyH.cons rfl (fun K hK => ?_) ?_
          · go_simp
            refine hK.out _ _ ?_ (fun hHeld => ?_)
            · ((try dsimp only); first | assumption | ((repeat' apply And.intro) <;> first | assumption | (simp only [*]; done) | go_simp))
            clear hK K
            refine wpAnyH_ready (rs := [18]) (by kernel_rfl) (by simp) ?_
            refine AllReadyH.cons rfl (fun K hK => ?_) ?_
            · go_simp
              refine hK.out _ _ ?_ (fun hHeld => ?_)
              · ((try dsimp only); first | assumption | ((repeat' apply And.intro) <;> first | assumption | (simp only [*]; done) | go_simp))
              clear hK K
              refine wpAnyH_take (i := 19) (oi := { dst := some 106, op := Op.fieldAddr 46 (Operand.tmp 4) 1, type := 0, pos := "universal.go:125", after := #[{ on := 0, ground := Ground.phase }, { on := 1, ground := Ground.phase }, { on := 2, ground := Ground.phase }, { on := 3, ground := Ground.phase }, { on := 4, ground := Ground.phase }, { on := 5, ground := Ground.phase }, { on := 6, ground := Ground.phase }, { on := 7, ground := Ground.phase }, { on := 8, ground := Ground.phase }, { on := 9, ground := Ground.phase }, { on := 10, ground := Ground.phase }, { on := 11, ground := Ground.phase }, { on := 12, ground := Ground.phase }, { on := 13, ground := Ground.phase }, { on := 14, ground := Ground.phase }, { on := 15, ground := Ground.phase }, { on := 16, ground := Ground.phase }, { on := 17, ground := Ground.phase }, { on := 18, ground := Ground.phase }], guard := none }) (v := ?_) rfl (by kernel_rfl) (by kernel_rfl) (by kernel_rfl) (fun _ _ _ h => h) (Or.inl ⟨by rfl, ?_⟩) (by assumption) ?_
              rotate_left
              · (intro w hSw; (try dsimp only at hSw); go_simp; (try with_reducible rfl))
              (try simp only [Act.put, List.setIfInBounds_toArray, List.set_cons_zero, List.set_cons_succ])
              refine wpAnyH_ready (rs := [20]) (by kernel_rfl) (by simp) ?_
              refine AllReadyH.cons rfl (fun K hK => ?_) ?_
              · go_simp
                refine hK.out _ _ ?_ (fun hHeld => ?_)
                · ((try dsimp only); first | assumption | ((repeat' apply And.intro) <;> first | assumption | (simp only [*]; done) | go_simp))
                clear hK K
                refine wpAnyH_done (by kernel_rfl) ?_ _
                first | exact ⟨_, _, _, _, _, _, _, _, _, _, _, _, _, _, _, _, _, _, _, _, rfl, hpost⟩ | exact ⟨⟨_, _, _, _, _, _, _, _, _, _, _, _, _, _, _, _, _, _, _, _, rfl⟩, hpost⟩
              exact AllReadyH.nil
            exact AllReadyH.nil
          exact AllReadyH.nil
        exact AllReadyH.nil
      exact AllReadyH.nil
    exact AllReadyH.nil
  refine AllReadyH.cons rfl (fun K hK => ?_) ?_
  · go_simp
    go_wp2_with (go_at_call 24; refine (size_any R fs _ (by first | assumption | (simp only [*]; done) | go_simp)).mono ?_; rintro e' w' ⟨rfl, rfl⟩)
    refine hK.out _ _ ?_ (fun hHeld => ?_)
    · ((try dsimp only); first | assumption | ((repeat' apply And.intro) <;> first | assumption | (simp only [*]; done) | go_simp))
    clear hK K
    refine wpAnyH_take (i := 14) (oi := { dst := some 101, op := Op.makeInterface 24 (Operand.tmp 100), type := 20, pos := "universal.go:125", after := #[{ on := 13, ground := Ground.data }], guard := none }) (v := ?_) rfl (by kernel_rfl) (by kernel_rfl) (by kernel_rfl) (fun _ _ _ h => h) (Or.inl ⟨by rfl, ?_⟩) (by assumption) ?_
    rotate_left
    · (intro w hSw; (try dsimp only at hSw); go_simp; (try with_reducible rfl))
    (try simp only [Act.put, List.setIfInBounds_toArray, List.set_cons_zero, List.set_cons_succ])
    refine wpAnyH_ready (rs := [1, 15]) (by kernel_rfl) (by simp) ?_
    refine AllReadyH.cons rfl (fun K hK => ?_) ?_
    · go_simp
      refine hK.out _ _ ?_ (fun hHeld => ?_)
      · ((try dsimp only); first | assumption | ((repeat' apply And.intro) <;> first | assumption | (simp only [*]; done) | go_simp))
      clear hK K
      refine wpAnyH_ready (rs := [15]) (by kernel_rfl) (by simp) ?_
      refine AllReadyH.cons rfl (fun K hK => ?_) ?_
      · go_simp
        refine hK.out _ _ ?_ (fun hHeld => ?_)
        · ((try dsimp only); first | assumption | ((repeat' apply And.intro) <;> first | assumption | (simp only [*]; done) | go_simp))
        clear hK K
        refine wpAnyH_ready (rs := [16]) (by kernel_rfl) (by simp) ?_
        refine AllReadyH.cons rfl (fun K hK => ?_) ?_
        · go_simp
          refine hK.out _ _ ?_ (fun hHeld => ?_)
          · ((try dsimp only); first | assumption | ((repeat' apply And.intro) <;> first | assumption | (simp only [*]; done) | go_simp))
          clear hK K
          refine wpAnyH_ready (rs := [17]) (by kernel_rfl) (by simp) ?_
          refine AllReadyH.cons rfl (fun K hK => ?_) ?_
          · go_simp
            refine hK.out _ _ ?_ (fun hHeld => ?_)
            · ((try dsimp only); first | assumption | ((repeat' apply And.intro) <;> first | assumption | (simp only [*]; done) | go_simp))
            clear hK K
            refine wpAnyH_ready (rs := [18]) (by kernel_rfl) (by simp) ?_
            refine AllReadyH.cons rfl (fun K hK => ?_) ?_
            · go_simp
              refine hK.out _ _ ?_ (fun hHeld => ?_)
              · ((try dsimp only); first | assumption | ((repeat' apply And.intro) <;> first | assumption | (simp only [*]; done) | go_simp))
              clear hK K
              refine wpAnyH_take (i := 19) (oi := { dst := some 106, op := Op.fieldAddr 46 (Operand.tmp 4) 1, type := 0, pos := "universal.go:125", after := #[{ on := 0, ground := Ground.phase }, { on := 1, ground := Ground.phase }, { on := 2, ground := Ground.phase }, { on := 3, ground := Ground.phase }, { on := 4, ground := Ground.phase }, { on := 5, ground := Ground.phase }, { on := 6, ground := Ground.phase }, { on := 7, ground := Ground.phase }, { on := 8, ground := Ground.phase }, { on := 9, ground := Ground.phase }, { on := 10, ground := Ground.phase }, { on := 11, ground := Ground.phase }, { on := 12, ground := Ground.phase }, { on := 13, ground := Ground.phase }, { on := 14, ground := Ground.phase }, { on := 15, ground := Ground.phase }, { on := 16, ground := Ground.phase }, { on := 17, ground := Ground.phase }, { on := 18, ground := Ground.phase }], guard := none }) (v := ?_) rfl (by kernel_rfl) (by kernel_rfl) (by kernel_rfl) (fun _ _ _ h => h) (Or.inl ⟨by rfl, ?_⟩) (by assumption) ?_
              rotate_left
              · (intro w hSw; (try dsimp only at hSw); go_simp; (try with_reducible rfl))
              (try simp only [Act.put, List.setIfInBounds_toArray, List.set_cons_zero, List.set_cons_succ])
              refine wpAnyH_ready (rs := [20]) (by kernel_rfl) (by simp) ?_
              refine AllReadyH.cons rfl (fun K hK => ?_) ?_
              · go_simp
                refine hK.out _ _ ?_ (fun hHeld => ?_)
                · ((try dsimp only); first | assumption | ((repeat' apply And.intro) <;> first | assumption | (simp only [*]; done) | go_simp))
                clear hK K
                refine wpAnyH_done (by kernel_rfl) ?_ _
                first | exact ⟨_, _, _, _, _, _, _, _, _, _, _, _, _, _, _, _, _, _, _, _, rfl, hpost⟩ | exact ⟨⟨_, _, _, _, _, _, _, _, _, _, _, _, _, _, _, _, _, _, _, _, rfl⟩, hpost⟩
              exact AllReadyH.nil
            exact AllReadyH.nil
          exact AllReadyH.nil
        exact AllReadyH.nil
      exact AllReadyH.nil
    refine AllReadyH.cons rfl (fun K hK => ?_) ?_
    · go_simp
      refine hK.out _ _ ?_ (fun hHeld => ?_)
      · ((try dsimp only); first | assumption | ((repeat' apply And.intro) <;> first | assumption | (simp only [*]; done) | go_simp))
      clear hK K
      refine wpAnyH_ready (rs := [1, 16]) (by kernel_rfl) (by simp) ?_
      refine AllReadyH.cons rfl (fun K hK => ?_) ?_
      · go_simp
        refine hK.out _ _ ?_ (fun hHeld => ?_)
        · ((try dsimp only); first | assumption | ((repeat' apply And.intro) <;> first | assumption | (simp only [*]; done) | go_simp))
        clear hK K
        refine wpAnyH_ready (rs := [16]) (by kernel_rfl) (by simp) ?_
        refine AllReadyH.cons rfl (fun K hK => ?_) ?_
        · go_simp
          refine hK.out _ _ ?_ (fun hHeld => ?_)
          · ((try dsimp only); first | assumption | ((repeat' apply And.intro) <;> first | assumption | (simp only [*]; done) | go_simp))
          clear hK K
          refine wpAnyH_ready (rs := [17]) (by kernel_rfl) (by simp) ?_
          refine AllReadyH.cons rfl (fun K hK => ?_) ?_
          · go_simp
            refine hK.out _ _ ?_ (fun hHeld => ?_)
            · ((try dsimp only); first | assumption | ((repeat' apply And.intro) <;> first | assumption | (simp only [*]; done) | go_simp))
            clear hK K
            refine wpAnyH_ready (rs := [18]) (by kernel_rfl) (by simp) ?_
            refine AllReadyH.cons rfl (fun K hK => ?_) ?_
            · go_simp
              refine hK.out _ _ ?_ (fun hHeld => ?_)
              · ((try dsimp only); first | assumption | ((repeat' apply And.intro) <;> first | assumption | (simp only [*]; done) | go_simp))
              clear hK K
              refine wpAnyH_take (i := 19) (oi := { dst := some 106, op := Op.fieldAddr 46 (Operand.tmp 4) 1, type := 0, pos := "universal.go:125", after := #[{ on := 0, ground := Ground.phase }, { on := 1, ground := Ground.phase }, { on := 2, ground := Ground.phase }, { on := 3, ground := Ground.phase }, { on := 4, ground := Ground.phase }, { on := 5, ground := Ground.phase }, { on := 6, ground := Ground.phase }, { on := 7, ground := Ground.phase }, { on := 8, ground := Ground.phase }, { on := 9, ground := Ground.phase }, { on := 10, ground := Ground.phase }, { on := 11, ground := Ground.phase }, { on := 12, ground := Ground.phase }, { on := 13, ground := Ground.phase }, { on := 14, ground := Ground.phase }, { on := 15, ground := Ground.phase }, { on := 16, ground := Ground.phase }, { on := 17, ground := Ground.phase }, { on := 18, ground := Ground.phase }], guard := none }) (v := ?_) rfl (by kernel_rfl) (by kernel_rfl) (by kernel_rfl) (fun _ _ _ h => h) (Or.inl ⟨by rfl, ?_⟩) (by assumption) ?_
              rotate_left
              · (intro w hSw; (try dsimp only at hSw); go_simp; (try with_reducible rfl))
              (try simp only [Act.put, List.setIfInBounds_toArray, List.set_cons_zero, List.set_cons_succ])
              refine wpAnyH_ready (rs := [20]) (by kernel_rfl) (by simp) ?_
              refine AllReadyH.cons rfl (fun K hK => ?_) ?_
              · go_simp
                refine hK.out _ _ ?_ (fun hHeld => ?_)
                · ((try dsimp only); first | assumption | ((repeat' apply And.intro) <;> first | assumption | (simp only [*]; done) | go_simp))
                clear hK K
                refine wpAnyH_done (by kernel_rfl) ?_ _
                first | exact ⟨_, _, _, _, _, _, _, _, _, _, _, _, _, _, _, _, _, _, _, _, rfl, hpost⟩ | exact ⟨⟨_, _, _, _, _, _, _, _, _, _, _, _, _, _, _, _, _, _, _, _, rfl⟩, hpost⟩
              exact AllReadyH.nil
            exact AllReadyH.nil
          exact AllReadyH.nil
        exact AllReadyH.nil
      refine AllReadyH.cons rfl (fun K hK => ?_) ?_
      · go_simp
        refine hK.out _ _ ?_ (fun hHeld => ?_)
        · ((try dsimp only); first | assumption | ((repeat' apply And.intro) <;> first | assumption | (simp only [*]; done) | go_simp))
        clear hK K
        refine wpAnyH_ready (rs := [1, 17]) (by kernel_rfl) (by simp) ?_
        refine AllReadyH.cons rfl (fun K hK => ?_) ?_
        · go_simp
          refine hK.out _ _ ?_ (fun hHeld => ?_)
          · ((try dsimp only); first | assumption | ((repeat' apply And.intro) <;> first | assumption | (simp only [*]; done) | go_simp))
          clear hK K
          refine wpAnyH_ready (rs := [17]) (by kernel_rfl) (by simp) ?_
          refine AllReadyH.cons rfl (fun K hK => ?_) ?_
          · go_simp
            refine hK.out _ _ ?_ (fun hHeld => ?_)
            · ((try dsimp only); first | assumption | ((repeat' apply And.intro) <;> first | assumption | (simp only [*]; done) | go_simp))
            clear hK K
            refine wpAnyH_ready (rs := [18]) (by kernel_rfl) (by simp) ?_
            refine AllReadyH.cons rfl (fun K hK => ?_) ?_
            · go_simp
              refine hK.out _ _ ?_ (fun hHeld => ?_)
              · ((try dsimp only); first | assumption | ((repeat' apply And.intro) <;> first | assumption | (simp only [*]; done) | go_simp))
              clear hK K
              refine wpAnyH_take (i := 19) (oi := { dst := some 106, op := Op.fieldAddr 46 (Operand.tmp 4) 1, type := 0, pos := "universal.go:125", after := #[{ on := 0, ground := Ground.phase }, { on := 1, ground := Ground.phase }, { on := 2, ground := Ground.phase }, { on := 3, ground := Ground.phase }, { on := 4, ground := Ground.phase }, { on := 5, ground := Ground.phase }, { on := 6, ground := Ground.phase }, { on := 7, ground := Ground.phase }, { on := 8, ground := Ground.phase }, { on := 9, ground := Ground.phase }, { on := 10, ground := Ground.phase }, { on := 11, ground := Ground.phase }, { on := 12, ground := Ground.phase }, { on := 13, ground := Ground.phase }, { on := 14, ground := Ground.phase }, { on := 15, ground := Ground.phase }, { on := 16, ground := Ground.phase }, { on := 17, ground := Ground.phase }, { on := 18, ground := Ground.phase }], guard := none }) (v := ?_) rfl (by kernel_rfl) (by kernel_rfl) (by kernel_rfl) (fun _ _ _ h => h) (Or.inl ⟨by rfl, ?_⟩) (by assumption) ?_
              rotate_left
              · (intro w hSw; (try dsimp only at hSw); go_simp; (try with_reducible rfl))
              (try simp only [Act.put, List.setIfInBounds_toArray, List.set_cons_zero, List.set_cons_succ])
              refine wpAnyH_ready (rs := [20]) (by kernel_rfl) (by simp) ?_
              refine AllReadyH.cons rfl (fun K hK => ?_) ?_
              · go_simp
                refine hK.out _ _ ?_ (fun hHeld => ?_)
                · ((try dsimp only); first | assumption | ((repeat' apply And.intro) <;> first | assumption | (simp only [*]; done) | go_simp))
                clear hK K
                refine wpAnyH_done (by kernel_rfl) ?_ _
                first | exact ⟨_, _, _, _, _, _, _, _, _, _, _, _, _, _, _, _, _, _, _, _, rfl, hpost⟩ | exact ⟨⟨_, _, _, _, _, _, _, _, _, _, _, _, _, _, _, _, _, _, _, _, rfl⟩, hpost⟩
              exact AllReadyH.nil
            exact AllReadyH.nil
          exact AllReadyH.nil
        refine AllReadyH.cons rfl (fun K hK => ?_) ?_
        · go_simp
          refine hK.out _ _ ?_ (fun hHeld => ?_)
          · ((try dsimp only); first | assumption | ((repeat' apply And.intro) <;> first | assumption | (simp only [*]; done) | go_simp))
          clear hK K
          refine wpAnyH_ready (rs := [1]) (by kernel_rfl) (by simp) ?_
          refine AllReadyH.cons rfl (fun K hK => ?_) ?_
          · go_simp
            refine hK.out _ _ ?_ (fun hHeld => ?_)
            · ((try dsimp only); first | assumption | ((repeat' apply And.intro) <;> first | assumption | (simp only [*]; done) | go_simp))
            clear hK K
            refine wpAnyH_ready (rs := [18]) (by kernel_rfl) (by simp) ?_
            refine AllReadyH.cons rfl (fun K hK => ?_) ?_
            · go_simp
              refine hK.out _ _ ?_ (fun hHeld => ?_)
              · ((try dsimp only); first | assumption | ((repeat' apply And.intro) <;> first | assumption | (simp only [*]; done) | go_simp))
              clear hK K
              refine wpAnyH_take (i := 19) (oi := { dst := some 106, op := Op.fieldAddr 46 (Operand.tmp 4) 1, type := 0, pos := "universal.go:125", after := #[{ on := 0, ground := Ground.phase }, { on := 1, ground := Ground.phase }, { on := 2, ground := Ground.phase }, { on := 3, ground := Ground.phase }, { on := 4, ground := Ground.phase }, { on := 5, ground := Ground.phase }, { on := 6, ground := Ground.phase }, { on := 7, ground := Ground.phase }, { on := 8, ground := Ground.phase }, { on := 9, ground := Ground.phase }, { on := 10, ground := Ground.phase }, { on := 11, ground := Ground.phase }, { on := 12, ground := Ground.phase }, { on := 13, ground := Ground.phase }, { on := 14, ground := Ground.phase }, { on := 15, ground := Ground.phase }, { on := 16, ground := Ground.phase }, { on := 17, ground := Ground.phase }, { on := 18, ground := Ground.phase }], guard := none }) (v := ?_) rfl (by kernel_rfl) (by kernel_rfl) (by kernel_rfl) (fun _ _ _ h => h) (Or.inl ⟨by rfl, ?_⟩) (by assumption) ?_
              rotate_left
              · (intro w hSw; (try dsimp only at hSw); go_simp; (try with_reducible rfl))
              (try simp only [Act.put, List.setIfInBounds_toArray, List.set_cons_zero, List.set_cons_succ])
              refine wpAnyH_ready (rs := [20]) (by kernel_rfl) (by simp) ?_
              refine AllReadyH.cons rfl (fun K hK => ?_) ?_
              · go_simp
                refine hK.out _ _ ?_ (fun hHeld => ?_)
                · ((try dsimp only); first | assumption | ((repeat' apply And.intro) <;> first | assumption | (simp only [*]; done) | go_simp))
                clear hK K
                refine wpAnyH_done (by kernel_rfl) ?_ _
                first | exact ⟨_, _, _, _, _, _, _, _, _, _, _, _, _, _, _, _, _, _, _, _, rfl, hpost⟩ | exact ⟨⟨_, _, _, _, _, _, _, _, _, _, _, _, _, _, _, _, _, _, _, _, rfl⟩, hpost⟩
              exact AllReadyH.nil
            exact AllReadyH.nil
          exact AllReadyH.nil
        exact AllReadyH.nil
      exact AllReadyH.nil
    exact AllReadyH.nil
  exact AllReadyH.nil

end Go.Proofs.YbulkblxcFmt
