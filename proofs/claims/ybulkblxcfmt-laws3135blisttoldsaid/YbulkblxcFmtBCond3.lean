import Derived.Test.YbulkblxcFmtBLw
import Derived.Deep.LoopGhost
namespace Go.Proofs.YbulkblxcFmt
open Go.RowKit
set_option linter.unusedVariables false

/-- The 'if' on that slot; the block of that number. -/
def findCond (t : Nat) : Code → Option Code
  | .cond (.tmp s) a b => if s == t then some (.cond (.tmp s) a b) else match findCond t a with
    | some c => some c
    | none => findCond t b
  | .seq a b => match findCond t a with
    | some c => some c
    | none => findCond t b
  | .loop c => findCond t c
  | .block _ c => findCond t c
  | .scope c => findCond t c
  | .cond _ a b => match findCond t a with
    | some c => some c
    | none => findCond t b
  | _ => none
noncomputable def condOf (f : Func) (t : Nat) : Code := (f.body.bind (findCond t)).getD .skip
def findBlock (t : Nat) : Code → Option Code
  | .block s c => if s == t then some (.block s c) else findBlock t c
  | .seq a b => match findBlock t a with
    | some c => some c
    | none => findBlock t b
  | .loop c => findBlock t c
  | .scope c => findBlock t c
  | .cond _ a b => match findBlock t a with
    | some c => some c
    | none => findBlock t b
  | _ => none
noncomputable def blockOf (f : Func) (t : Nat) : Code := (f.body.bind (findBlock t)).getD .skip

theorem clash_no {ms : List Mb} {a n : Nat} (h : ∀ (j : Nat) (hj : j < ms.length), meets a n ms[j].off ms[j].size = false) : clash ms a n = false := by
  unfold clash
  rw [List.any_eq_false]
  intro x hx
  obtain ⟨j, hj, rfl⟩ := List.getElem_of_mem hx
  rw [h j hj]
  decide
theorem clash_yes {ms : List Mb} {a n j : Nat} (hj : j < ms.length) (h : meets a n ms[j].off ms[j].size = true) : clash ms a n = true := by
  unfold clash
  rw [List.any_eq_true]
  exact ⟨ms[j], List.getElem_mem hj, h⟩

def nnOf (n : Nat) : Nat := if 30 < n then 30 else n
def offW (wide : Bool) (ro : Nat) : Nat := if wide then ro else ro % 4294967296
def sizW (wide : Bool) (zi : Nat) : Nat := if wide then zi else zi % 4294967296
def bsW (wide : Bool) (bs : Nat → Int) (p ro zi : Nat) : Nat → Int := if wide then put8 (put8 bs (p + 8) (ro : Int)) (p + 16) (zi : Int) else put4 (put4 bs (p + 8) ((ro % 4294967296 : Nat) : Int)) (p + 12) ((zi % 4294967296 : Nat) : Int)

set_option maxHeartbeats 4000000 in
set_option maxRecDepth 100000 in
theorem cond34 (n : Nat) (b : Bool) (hb : b = true ↔ (30 : Int) < (n : Int)) (wc : World) (s0 s1 s2 s3 s4 s5 s6 s8 s9 s10 s11 s12 s13 s14 s15 s16 s17 s18 s19 s20 s21 s22 s23 s24 s25 s26 s27 s28 s29 s30 s31 s32 s33 s35 s36 s37 s38 s39 s40 s41 s42 s43 s44 s45 s46 s47 s48 s49 s50 s51 s52 s53 s54 s55 s56 s57 s58 s59 s60 s61 s62 s63 s64 s65 s66 s67 s68 s69 s70 s71 s72 s73 s74 s75 s76 s77 s78 s79 s80 s81 s82 s83 s84 s85 s86 s87 s88 s89 s90 s91 s92 s93 s94 s95 s96 s97 s98 s99 s100 s101 s102 s103 s104 s105 s106 s107 s108 s109 s110 s111 s112 s113 s114 s115 s116 s117 s118 s119 s120 s121 s122 s123 s124 s125 s126 s127 s128 s129 s130 s131 s132 s133 s134 s135 s136 s137 s138 s139 s140 s141 s142 s143 s144 s145 s146 s147 s148 s149 s150 s151 s152 s153 s154 s155 s156 s157 s158 s159 s160 s161 s162 s163 s164 s165 s166 s167 s168 s169 s170 s171 s172 s173 s174 s175 s176 s177 s178 s179 s180 s181 s182 s183 s184 s185 s186 s187 s188 s189 s190 s191 s192 s193 s194 s195 s196 s197 s198 s199 s200 s201 s202 s203 s204 s205 s206 s207 s208 s209 s210 s211 s212 s213 s214 s215 s216 s217 s218 s219 s220 s221 s222 s223 s224 s225 s226 s227 s228 s229 s230 s231 s232 s233 s234 : Value) :
    Code.wp Ybaf.prog (condOf Ybaf.f3 34) (onlyNormal fun a' w' => a' = ⟨#[s0, s1, s2, s3, s4, s5, s6, .int .i64 (nnOf n : Int), s8, s9, s10, s11, s12, s13, s14, s15, s16, s17, s18, s19, s20, s21, s22, s23, s24, s25, s26, s27, s28, s29, s30, s31, s32, s33, .bool b, s35, s36, s37, s38, s39, s40, s41, s42, s43, s44, s45, s46, s47, s48, s49, s50, s51, s52, s53, s54, s55, s56, s57, s58, s59, s60, s61, s62, s63, s64, s65, s66, s67, s68, s69, s70, s71, s72, s73, s74, s75, s76, s77, s78, s79, s80, s81, s82, s83, s84, s85, s86, s87, s88, s89, s90, s91, s92, s93, s94, s95, s96, s97, s98, s99, s100, s101, s102, s103, s104, s105, s106, s107, s108, s109, s110, s111, s112, s113, s114, s115, s116, s117, s118, s119, s120, s121, s122, s123, s124, s125, s126, s127, s128, s129, s130, s131, s132, s133, s134, s135, s136, s137, s138, s139, s140, s141, s142, s143, s144, s145, s146, s147, s148, s149, s150, s151, s152, s153, s154, s155, s156, s157, s158, s159, s160, s161, s162, s163, s164, s165, s166, s167, s168, s169, s170, s171, s172, s173, s174, s175, s176, s177, s178, s179, s180, s181, s182, s183, s184, s185, s186, s187, s188, s189, s190, s191, s192, s193, s194, s195, s196, s197, s198, s199, s200, s201, s202, s203, s204, s205, s206, s207, s208, s209, s210, s211, s212, s213, s214, s215, s216, s217, s218, s219, s220, s221, s222, s223, s224, s225, s226, s227, s228, s229, s230, s231, s232, s233, s234], []⟩ ∧ w' = wc) ⟨#[s0, s1, s2, s3, s4, s5, s6, .int .i64 (n : Int), s8, s9, s10, s11, s12, s13, s14, s15, s16, s17, s18, s19, s20, s21, s22, s23, s24, s25, s26, s27, s28, s29, s30, s31, s32, s33, .bool b, s35, s36, s37, s38, s39, s40, s41, s42, s43, s44, s45, s46, s47, s48, s49, s50, s51, s52, s53, s54, s55, s56, s57, s58, s59, s60, s61, s62, s63, s64, s65, s66, s67, s68, s69, s70, s71, s72, s73, s74, s75, s76, s77, s78, s79, s80, s81, s82, s83, s84, s85, s86, s87, s88, s89, s90, s91, s92, s93, s94, s95, s96, s97, s98, s99, s100, s101, s102, s103, s104, s105, s106, s107, s108, s109, s110, s111, s112, s113, s114, s115, s116, s117, s118, s119, s120, s121, s122, s123, s124, s125, s126, s127, s128, s129, s130, s131, s132, s133, s134, s135, s136, s137, s138, s139, s140, s141, s142, s143, s144, s145, s146, s147, s148, s149, s150, s151, s152, s153, s154, s155, s156, s157, s158, s159, s160, s161, s162, s163, s164, s165, s166, s167, s168, s169, s170, s171, s172, s173, s174, s175, s176, s177, s178, s179, s180, s181, s182, s183, s184, s185, s186, s187, s188, s189, s190, s191, s192, s193, s194, s195, s196, s197, s198, s199, s200, s201, s202, s203, s204, s205, s206, s207, s208, s209, s210, s211, s212, s213, s214, s215, s216, s217, s218, s219, s220, s221, s222, s223, s224, s225, s226, s227, s228, s229, s230, s231, s232, s233, s234], []⟩ wc := by
  cases b
  · have h30 : ¬ 30 < n := by intro h; exact absurd (hb.2 (by omega)) (by decide)
    have hE : (nnOf n : Int) = (n : Int) := by rw [nnOf, if_neg h30]
    rw [hE]
    clear hb
    conv => arg 2; whnf
    go_wp2
    exact ⟨rfl, rfl⟩
  · have h30 : 30 < n := by have := hb.1 rfl; omega
    have hE : (nnOf n : Int) = 30 := by rw [nnOf, if_pos h30]; rfl
    rw [hE]
    clear hb
    conv => arg 2; whnf
    go_wp2
    exact ⟨rfl, rfl⟩

set_option maxHeartbeats 4000000 in
set_option maxRecDepth 100000 in
theorem cond35 (wide : Bool) (wc : World) (s0 s1 s2 s3 s4 s5 s6 s7 s10 s11 s12 s13 s14 s15 s16 s17 s18 s19 s20 s21 s22 s23 s24 s25 s26 s27 s28 s29 s30 s31 s32 s33 s34 s36 s37 s38 s39 s40 s41 s42 s43 s44 s45 s46 s47 s48 s49 s50 s51 s52 s53 s54 s55 s56 s57 s58 s59 s60 s61 s62 s63 s64 s65 s66 s67 s68 s69 s70 s71 s72 s73 s74 s75 s76 s77 s78 s79 s80 s81 s82 s83 s84 s85 s86 s87 s88 s89 s90 s91 s92 s93 s94 s95 s96 s97 s98 s99 s100 s101 s102 s103 s104 s105 s106 s107 s108 s109 s110 s111 s112 s113 s114 s115 s116 s117 s118 s119 s120 s121 s122 s123 s124 s125 s126 s127 s128 s129 s130 s131 s132 s133 s134 s135 s136 s137 s138 s139 s140 s141 s142 s143 s144 s145 s146 s147 s148 s149 s150 s151 s152 s153 s154 s155 s156 s157 s158 s159 s160 s161 s162 s163 s164 s165 s166 s167 s168 s169 s170 s171 s172 s173 s174 s175 s176 s177 s178 s179 s180 s181 s182 s183 s184 s185 s186 s187 s188 s189 s190 s191 s192 s193 s194 s195 s196 s197 s198 s199 s200 s201 s202 s203 s204 s205 s206 s207 s208 s209 s210 s211 s212 s213 s214 s215 s216 s217 s218 s219 s220 s221 s222 s223 s224 s225 s226 s227 s228 s229 s230 s231 s232 s233 s234 : Value) :
    Code.wp Ybaf.prog (condOf Ybaf.f3 35) (onlyNormal fun a' w' => a' = ⟨#[s0, s1, s2, s3, s4, s5, s6, s7, .int .u64 (esOf wide : Int), .int .u32 (magOf wide : Int), s10, s11, s12, s13, s14, s15, s16, s17, s18, s19, s20, s21, s22, s23, s24, s25, s26, s27, s28, s29, s30, s31, s32, s33, s34, .bool wide, s36, s37, s38, s39, s40, s41, s42, s43, s44, s45, s46, s47, s48, s49, s50, s51, s52, s53, s54, s55, s56, s57, s58, s59, s60, s61, s62, s63, s64, s65, s66, s67, s68, s69, s70, s71, s72, s73, s74, s75, s76, s77, s78, s79, s80, s81, s82, s83, s84, s85, s86, s87, s88, s89, s90, s91, s92, s93, s94, s95, s96, s97, s98, s99, s100, s101, s102, s103, s104, s105, s106, s107, s108, s109, s110, s111, s112, s113, s114, s115, s116, s117, s118, s119, s120, s121, s122, s123, s124, s125, s126, s127, s128, s129, s130, s131, s132, s133, s134, s135, s136, s137, s138, s139, s140, s141, s142, s143, s144, s145, s146, s147, s148, s149, s150, s151, s152, s153, s154, s155, s156, s157, s158, s159, s160, s161, s162, s163, s164, s165, s166, s167, s168, s169, s170, s171, s172, s173, s174, s175, s176, s177, s178, s179, s180, s181, s182, s183, s184, s185, s186, s187, s188, s189, s190, s191, s192, s193, s194, s195, s196, s197, s198, s199, s200, s201, s202, s203, s204, s205, s206, s207, s208, s209, s210, s211, s212, s213, s214, s215, s216, s217, s218, s219, s220, s221, s222, s223, s224, s225, s226, s227, s228, s229, s230, s231, s232, s233, s234], []⟩ ∧ w' = wc) ⟨#[s0, s1, s2, s3, s4, s5, s6, s7, .int .u64 20, .int .u32 3405691582, s10, s11, s12, s13, s14, s15, s16, s17, s18, s19, s20, s21, s22, s23, s24, s25, s26, s27, s28, s29, s30, s31, s32, s33, s34, .bool wide, s36, s37, s38, s39, s40, s41, s42, s43, s44, s45, s46, s47, s48, s49, s50, s51, s52, s53, s54, s55, s56, s57, s58, s59, s60, s61, s62, s63, s64, s65, s66, s67, s68, s69, s70, s71, s72, s73, s74, s75, s76, s77, s78, s79, s80, s81, s82, s83, s84, s85, s86, s87, s88, s89, s90, s91, s92, s93, s94, s95, s96, s97, s98, s99, s100, s101, s102, s103, s104, s105, s106, s107, s108, s109, s110, s111, s112, s113, s114, s115, s116, s117, s118, s119, s120, s121, s122, s123, s124, s125, s126, s127, s128, s129, s130, s131, s132, s133, s134, s135, s136, s137, s138, s139, s140, s141, s142, s143, s144, s145, s146, s147, s148, s149, s150, s151, s152, s153, s154, s155, s156, s157, s158, s159, s160, s161, s162, s163, s164, s165, s166, s167, s168, s169, s170, s171, s172, s173, s174, s175, s176, s177, s178, s179, s180, s181, s182, s183, s184, s185, s186, s187, s188, s189, s190, s191, s192, s193, s194, s195, s196, s197, s198, s199, s200, s201, s202, s203, s204, s205, s206, s207, s208, s209, s210, s211, s212, s213, s214, s215, s216, s217, s218, s219, s220, s221, s222, s223, s224, s225, s226, s227, s228, s229, s230, s231, s232, s233, s234], []⟩ wc := by
  cases wide
  · conv => arg 2; whnf
    go_wp2
    exact ⟨rfl, rfl⟩
  · conv => arg 2; whnf
    go_wp2
    exact ⟨rfl, rfl⟩

set_option maxHeartbeats 4000000 in
set_option maxRecDepth 100000 in
theorem cond94 (wide : Bool) (B T p ro zi : Nat) (bs : Nat → Int) (wc : World) (h : RowB wc B T bs) (hro : ro < 18446744073709551616) (hzi : zi < 18446744073709551616) (hT : p + esOf wide ≤ T) (hTm : T ≤ 100000) (s0 s1 s2 s3 s4 s5 s6 s7 s8 s9 s10 s11 s13 s14 s15 s16 s17 s18 s19 s23 s24 s25 s26 s27 s28 s29 s30 s31 s32 s33 s34 s35 s36 s37 s38 s39 s40 s41 s42 s43 s44 s45 s46 s47 s48 s49 s50 s51 s52 s53 s54 s55 s56 s57 s58 s59 s60 s61 s62 s63 s64 s65 s66 s67 s68 s69 s70 s71 s72 s73 s74 s75 s76 s77 s78 s79 s80 s81 s82 s83 s84 s85 s86 s87 s88 s89 s90 s91 s92 s93 s95 s96 s97 s98 s99 s100 s101 s102 s103 s104 s105 s106 s107 s108 s109 s110 s111 s112 s113 s114 s115 s116 s117 s118 s119 s120 s121 s122 s123 s124 s125 s126 s127 s128 s129 s130 s131 s132 s133 s134 s135 s136 s137 s138 s139 s140 s141 s142 s143 s144 s145 s146 s147 s148 s149 s150 s151 s152 s153 s154 s155 s156 s157 s158 s159 s160 s161 s162 s163 s164 s165 s166 s167 s168 s169 s170 s171 s172 s173 s174 s175 s176 s177 s178 s179 s180 s181 s182 s183 s184 s185 s186 s187 s188 s189 s190 s191 s192 s193 s194 s195 s196 s197 s198 s199 s200 s201 s202 s203 s204 s205 s206 s207 s208 s209 s210 s211 s212 s213 s214 s215 s216 s217 s218 s219 s220 s221 s222 s223 s224 s225 s226 s227 s228 s229 s230 s231 s232 s233 s234 : Value) :
    Code.wp Ybaf.prog (condOf Ybaf.f3 94) (onlyNormal fun a' w' => ∃ (u95 u96 u97 u98 u99 u100 u101 u102 u103 u104 u105 u106 u107 u108 u109 u110 u111 u112 u113 u114 u115 u116 u117 u118 u119 u120 u121 u122 u123 u124 u125 u126 u127 u128 u129 u130 : Value), a' = ⟨#[s0, s1, s2, s3, s4, s5, s6, s7, s8, s9, s10, s11, .slice (some ⟨B, 0, none⟩) T T, s13, s14, s15, s16, s17, s18, s19, .int .u64 (p : Int), .int .u64 (offW wide ro : Int), .int .u64 (sizW wide zi : Int), s23, s24, s25, s26, s27, s28, s29, s30, s31, s32, s33, s34, s35, s36, s37, s38, s39, s40, s41, s42, s43, s44, s45, s46, s47, s48, s49, s50, s51, s52, s53, s54, s55, s56, s57, s58, s59, s60, s61, s62, s63, s64, s65, s66, s67, s68, s69, s70, s71, s72, s73, s74, s75, s76, s77, s78, s79, s80, s81, s82, s83, s84, s85, s86, s87, s88, s89, s90, s91, s92, s93, .bool wide, u95, u96, u97, u98, u99, u100, u101, u102, u103, u104, u105, u106, u107, u108, u109, u110, u111, u112, u113, u114, u115, u116, u117, u118, u119, u120, u121, u122, u123, u124, u125, u126, u127, u128, u129, u130, s131, s132, s133, s134, s135, s136, s137, s138, s139, s140, s141, s142, s143, s144, s145, s146, s147, s148, s149, s150, s151, s152, s153, s154, s155, s156, s157, s158, s159, s160, s161, s162, s163, s164, s165, s166, s167, s168, s169, s170, s171, s172, s173, s174, s175, s176, s177, s178, s179, s180, s181, s182, s183, s184, s185, s186, s187, s188, s189, s190, s191, s192, s193, s194, s195, s196, s197, s198, s199, s200, s201, s202, s203, s204, s205, s206, s207, s208, s209, s210, s211, s212, s213, s214, s215, s216, s217, s218, s219, s220, s221, s222, s223, s224, s225, s226, s227, s228, s229, s230, s231, s232, s233, s234], []⟩ ∧ RowB w' B T (bsW wide bs p ro zi) ∧ KeepsC B wc w') ⟨#[s0, s1, s2, s3, s4, s5, s6, s7, s8, s9, s10, s11, .slice (some ⟨B, 0, none⟩) T T, s13, s14, s15, s16, s17, s18, s19, .int .u64 (p : Int), .int .u64 (ro : Int), .int .u64 (zi : Int), s23, s24, s25, s26, s27, s28, s29, s30, s31, s32, s33, s34, s35, s36, s37, s38, s39, s40, s41, s42, s43, s44, s45, s46, s47, s48, s49, s50, s51, s52, s53, s54, s55, s56, s57, s58, s59, s60, s61, s62, s63, s64, s65, s66, s67, s68, s69, s70, s71, s72, s73, s74, s75, s76, s77, s78, s79, s80, s81, s82, s83, s84, s85, s86, s87, s88, s89, s90, s91, s92, s93, .bool wide, s95, s96, s97, s98, s99, s100, s101, s102, s103, s104, s105, s106, s107, s108, s109, s110, s111, s112, s113, s114, s115, s116, s117, s118, s119, s120, s121, s122, s123, s124, s125, s126, s127, s128, s129, s130, s131, s132, s133, s134, s135, s136, s137, s138, s139, s140, s141, s142, s143, s144, s145, s146, s147, s148, s149, s150, s151, s152, s153, s154, s155, s156, s157, s158, s159, s160, s161, s162, s163, s164, s165, s166, s167, s168, s169, s170, s171, s172, s173, s174, s175, s176, s177, s178, s179, s180, s181, s182, s183, s184, s185, s186, s187, s188, s189, s190, s191, s192, s193, s194, s195, s196, s197, s198, s199, s200, s201, s202, s203, s204, s205, s206, s207, s208, s209, s210, s211, s212, s213, s214, s215, s216, s217, s218, s219, s220, s221, s222, s223, s224, s225, s226, s227, s228, s229, s230, s231, s232, s233, s234], []⟩ wc := by
  cases wide
  · have hT' : p + 20 ≤ T := hT
    obtain ⟨xo, hxo⟩ : ∃ xo, ro % 4294967296 = xo := ⟨_, rfl⟩
    obtain ⟨xs, hxs⟩ : ∃ xs, zi % 4294967296 = xs := ⟨_, rfl⟩
    have hw1 : IntKind.u32.wrap (ro : Int) = (xo : Int) := by rw [IntKind.wrap_u32]; omega
    have hw2 : IntKind.u32.wrap (zi : Int) = (xs : Int) := by rw [IntKind.wrap_u32]; omega
    have hxo1 : xo < 4294967296 := by omega
    have hxs1 : xs < 4294967296 := by omega
    have e1 : offW false ro = xo := hxo
    have e2 : sizW false zi = xs := hxs
    have e3 : bsW false bs p ro zi = put4 (put4 bs (p + 8) (xo : Int)) (p + 12) (xs : Int) := by rw [← hxo, ← hxs]; rfl
    rw [e1, e2, e3]
    clear hxo hxs e1 e2 e3
    conv => arg 2; whnf
    go_upto_region 32 with fail
    refine wp_only (reg3_32 B T p xo _ wc h hxo1 (by omega) (by omega) _ _ _ _ _ _ _ _ _ _ _ _ _ _ _ _ _ _ _ _ _ _ _ _ _ _ _ _ _ _ _ _ _ _ _ _ _ _ _ _ _ _ _ _ _ _ _ _ _ _ _ _ _ _ _ _ _ _ _ _ _ _ _ _ _ _ _ _ _ _ _ _ _ _ _ _ _ _ _ _ _ _ _ _ _ _ _ _ _ _ _ _ _ _ _ _ _ _ _ _ _ _ _ _ _ _ _ _ _ _ _ _ _ _ _ _ _ _ _ _ _ _ _ _ _ _ _ _ _ _ _ _ _ _ _ _ _ _ _ _ _ _ _ _ _ _ _ _ _ _ _ _ _ _ _ _ _ _ _ _ _ _ _ _ _ _ _ _ _ _ _ _ _ _ _ _ _ _ _ _ _ _ _ _ _ _ _ _ _ _ _ _ _ _ _ _ _ _ _ _ _ _ _ _ _ _ _ _ _ _ _ _ _ _ _ _ _ _ _ _ _ _ _ _ _ _ _ _ _ _ _ _) ?_
    rintro a2 w5 ⟨x115, x116, x117, x118, x119, x120, x121, x122, rfl, hrow5, hk5⟩
    go_upto_region 33 with fail
    refine wp_only (reg3_33 B T p xs _ w5 hrow5 hxs1 (by omega) (by omega) _ _ _ _ _ _ _ _ _ _ _ _ _ _ _ _ _ _ _ _ _ _ _ _ _ _ _ _ _ _ _ _ _ _ _ _ _ _ _ _ _ _ _ _ _ _ _ _ _ _ _ _ _ _ _ _ _ _ _ _ _ _ _ _ _ _ _ _ _ _ _ _ _ _ _ _ _ _ _ _ _ _ _ _ _ _ _ _ _ _ _ _ _ _ _ _ _ _ _ _ _ _ _ _ _ _ _ _ _ _ _ _ _ _ _ _ _ _ _ _ _ _ _ _ _ _ _ _ _ _ _ _ _ _ _ _ _ _ _ _ _ _ _ _ _ _ _ _ _ _ _ _ _ _ _ _ _ _ _ _ _ _ _ _ _ _ _ _ _ _ _ _ _ _ _ _ _ _ _ _ _ _ _ _ _ _ _ _ _ _ _ _ _ _ _ _ _ _ _ _ _ _ _ _ _ _ _ _ _ _ _ _ _ _ _ _ _ _ _ _ _ _ _ _ _ _ _ _ _ _ _ _) ?_
    rintro a3 w6 ⟨x123, x124, x125, x126, x127, x128, x129, x130, rfl, hrow6, hk6⟩
    go_wp2
    first | exact ⟨_, _, _, _, _, _, _, _, _, _, _, _, _, _, _, _, _, _, _, _, _, _, _, _, _, _, _, _, _, _, _, _, _, _, _, _, rfl, hrow6, hk5.trans hk6⟩ | exact ⟨⟨_, _, _, _, _, _, _, _, _, _, _, _, _, _, _, _, _, _, _, _, _, _, _, _, _, _, _, _, _, _, _, _, _, _, _, _, rfl⟩, hrow6, hk5.trans hk6⟩
  · have hT' : p + 32 ≤ T := hT
    have e1 : offW true ro = ro := rfl
    have e2 : sizW true zi = zi := rfl
    have e3 : bsW true bs p ro zi = put8 (put8 bs (p + 8) (ro : Int)) (p + 16) (zi : Int) := rfl
    rw [e1, e2, e3]
    clear e1 e2 e3
    conv => arg 2; whnf
    go_upto_region 28 with fail
    refine wp_only (reg3_28 B T p ro _ wc h hro (by omega) (by omega) _ _ _ _ _ _ _ _ _ _ _ _ _ _ _ _ _ _ _ _ _ _ _ _ _ _ _ _ _ _ _ _ _ _ _ _ _ _ _ _ _ _ _ _ _ _ _ _ _ _ _ _ _ _ _ _ _ _ _ _ _ _ _ _ _ _ _ _ _ _ _ _ _ _ _ _ _ _ _ _ _ _ _ _ _ _ _ _ _ _ _ _ _ _ _ _ _ _ _ _ _ _ _ _ _ _ _ _ _ _ _ _ _ _ _ _ _ _ _ _ _ _ _ _ _ _ _ _ _ _ _ _ _ _ _ _ _ _ _ _ _ _ _ _ _ _ _ _ _ _ _ _ _ _ _ _ _ _ _ _ _ _ _ _ _ _ _ _ _ _ _ _ _ _ _ _ _ _ _ _ _ _ _ _ _ _ _ _ _ _ _ _ _ _ _ _ _ _ _ _ _ _ _ _ _ _ _ _ _ _ _ _ _ _ _ _ _ _ _ _ _ _ _ _ _ _ _ _ _ _ _ _) ?_
    rintro a2 w5 ⟨x95, x96, x97, x98, x99, x100, x101, rfl, hrow5, hk5⟩
    go_upto_region 29 with fail
    refine wp_only (reg3_29 B T p zi _ w5 hrow5 hzi (by omega) (by omega) _ _ _ _ _ _ _ _ _ _ _ _ _ _ _ _ _ _ _ _ _ _ _ _ _ _ _ _ _ _ _ _ _ _ _ _ _ _ _ _ _ _ _ _ _ _ _ _ _ _ _ _ _ _ _ _ _ _ _ _ _ _ _ _ _ _ _ _ _ _ _ _ _ _ _ _ _ _ _ _ _ _ _ _ _ _ _ _ _ _ _ _ _ _ _ _ _ _ _ _ _ _ _ _ _ _ _ _ _ _ _ _ _ _ _ _ _ _ _ _ _ _ _ _ _ _ _ _ _ _ _ _ _ _ _ _ _ _ _ _ _ _ _ _ _ _ _ _ _ _ _ _ _ _ _ _ _ _ _ _ _ _ _ _ _ _ _ _ _ _ _ _ _ _ _ _ _ _ _ _ _ _ _ _ _ _ _ _ _ _ _ _ _ _ _ _ _ _ _ _ _ _ _ _ _ _ _ _ _ _ _ _ _ _ _ _ _ _ _ _ _ _ _ _ _ _ _ _ _ _ _ _) ?_
    rintro a3 w6 ⟨x102, x103, x104, x105, x106, x107, x108, rfl, hrow6, hk6⟩
    go_wp2
    first | exact ⟨_, _, _, _, _, _, _, _, _, _, _, _, _, _, _, _, _, _, _, _, _, _, _, _, _, _, _, _, _, _, _, _, _, _, _, _, rfl, hrow6, hk5.trans hk6⟩ | exact ⟨⟨_, _, _, _, _, _, _, _, _, _, _, _, _, _, _, _, _, _, _, _, _, _, _, _, _, _, _, _, _, _, _, _, _, _, _, _, rfl⟩, hrow6, hk5.trans hk6⟩

set_option maxHeartbeats 4000000 in
set_option maxRecDepth 100000 in
theorem cond141 (T off sz hd : Nat) (b : Bool) (hb : b = true ↔ (T : Int) - (off : Int) < (sz : Int)) (hle : off ≤ T) (hT : T ≤ 100000) (hhd : hd = if sz ≤ T - off then sz else T - off) (wc : World) (s0 s1 s2 s3 s4 s5 s6 s7 s8 s9 s10 s12 s13 s14 s15 s16 s17 s18 s19 s20 s22 s24 s25 s26 s27 s28 s29 s30 s31 s32 s33 s34 s35 s36 s37 s38 s39 s40 s41 s42 s43 s44 s45 s46 s47 s48 s49 s50 s51 s52 s53 s54 s55 s56 s57 s58 s59 s60 s61 s62 s63 s64 s65 s66 s67 s68 s69 s70 s71 s72 s73 s74 s75 s76 s77 s78 s79 s80 s81 s82 s83 s84 s85 s86 s87 s88 s89 s90 s91 s92 s93 s94 s95 s96 s97 s98 s99 s100 s101 s102 s103 s104 s105 s106 s107 s108 s109 s110 s111 s112 s113 s114 s115 s116 s117 s118 s119 s120 s121 s122 s123 s124 s125 s126 s127 s128 s129 s130 s131 s132 s133 s134 s135 s136 s137 s138 s139 s140 s142 s143 s144 s145 s146 s147 s148 s149 s150 s151 s152 s153 s154 s155 s156 s157 s158 s159 s160 s161 s162 s163 s164 s165 s166 s167 s168 s169 s170 s171 s172 s173 s174 s175 s176 s177 s178 s179 s180 s181 s182 s183 s184 s185 s186 s187 s188 s189 s190 s191 s192 s193 s194 s195 s196 s197 s198 s199 s200 s201 s202 s203 s204 s205 s206 s207 s208 s209 s210 s211 s212 s213 s214 s215 s216 s217 s218 s219 s220 s221 s222 s223 s224 s225 s226 s227 s228 s229 s230 s231 s232 s233 s234 : Value) :
    Code.wp Ybaf.prog (condOf Ybaf.f3 141) (onlyNormal fun a' w' => ∃ (u142 u143 u144 : Value), a' = ⟨#[s0, s1, s2, s3, s4, s5, s6, s7, s8, s9, s10, .int .u64 (T : Int), s12, s13, s14, s15, s16, s17, s18, s19, s20, .int .u64 (off : Int), s22, .int .u64 (hd : Int), s24, s25, s26, s27, s28, s29, s30, s31, s32, s33, s34, s35, s36, s37, s38, s39, s40, s41, s42, s43, s44, s45, s46, s47, s48, s49, s50, s51, s52, s53, s54, s55, s56, s57, s58, s59, s60, s61, s62, s63, s64, s65, s66, s67, s68, s69, s70, s71, s72, s73, s74, s75, s76, s77, s78, s79, s80, s81, s82, s83, s84, s85, s86, s87, s88, s89, s90, s91, s92, s93, s94, s95, s96, s97, s98, s99, s100, s101, s102, s103, s104, s105, s106, s107, s108, s109, s110, s111, s112, s113, s114, s115, s116, s117, s118, s119, s120, s121, s122, s123, s124, s125, s126, s127, s128, s129, s130, s131, s132, s133, s134, s135, s136, s137, s138, s139, s140, .bool b, u142, u143, u144, s145, s146, s147, s148, s149, s150, s151, s152, s153, s154, s155, s156, s157, s158, s159, s160, s161, s162, s163, s164, s165, s166, s167, s168, s169, s170, s171, s172, s173, s174, s175, s176, s177, s178, s179, s180, s181, s182, s183, s184, s185, s186, s187, s188, s189, s190, s191, s192, s193, s194, s195, s196, s197, s198, s199, s200, s201, s202, s203, s204, s205, s206, s207, s208, s209, s210, s211, s212, s213, s214, s215, s216, s217, s218, s219, s220, s221, s222, s223, s224, s225, s226, s227, s228, s229, s230, s231, s232, s233, s234], []⟩ ∧ w' = wc) ⟨#[s0, s1, s2, s3, s4, s5, s6, s7, s8, s9, s10, .int .u64 (T : Int), s12, s13, s14, s15, s16, s17, s18, s19, s20, .int .u64 (off : Int), s22, .int .u64 (sz : Int), s24, s25, s26, s27, s28, s29, s30, s31, s32, s33, s34, s35, s36, s37, s38, s39, s40, s41, s42, s43, s44, s45, s46, s47, s48, s49, s50, s51, s52, s53, s54, s55, s56, s57, s58, s59, s60, s61, s62, s63, s64, s65, s66, s67, s68, s69, s70, s71, s72, s73, s74, s75, s76, s77, s78, s79, s80, s81, s82, s83, s84, s85, s86, s87, s88, s89, s90, s91, s92, s93, s94, s95, s96, s97, s98, s99, s100, s101, s102, s103, s104, s105, s106, s107, s108, s109, s110, s111, s112, s113, s114, s115, s116, s117, s118, s119, s120, s121, s122, s123, s124, s125, s126, s127, s128, s129, s130, s131, s132, s133, s134, s135, s136, s137, s138, s139, s140, .bool b, s142, s143, s144, s145, s146, s147, s148, s149, s150, s151, s152, s153, s154, s155, s156, s157, s158, s159, s160, s161, s162, s163, s164, s165, s166, s167, s168, s169, s170, s171, s172, s173, s174, s175, s176, s177, s178, s179, s180, s181, s182, s183, s184, s185, s186, s187, s188, s189, s190, s191, s192, s193, s194, s195, s196, s197, s198, s199, s200, s201, s202, s203, s204, s205, s206, s207, s208, s209, s210, s211, s212, s213, s214, s215, s216, s217, s218, s219, s220, s221, s222, s223, s224, s225, s226, s227, s228, s229, s230, s231, s232, s233, s234], []⟩ wc := by
  cases b
  · have h0 : sz ≤ T - off := by
      rcases Nat.lt_or_ge (T - off) sz with h | h
      · exact absurd (hb.2 (by omega)) (by decide)
      · exact h
    rw [if_pos h0] at hhd
    subst hhd
    clear hb
    conv => arg 2; whnf
    go_wp2
    first | exact ⟨_, _, _, rfl, rfl⟩ | exact ⟨⟨_, _, _, rfl⟩, rfl⟩
  · have h0 : ¬ sz ≤ T - off := by have := hb.1 rfl; omega
    rw [if_neg h0] at hhd
    have hdi : (T : Int) - (off : Int) = (hd : Int) := by omega
    have HD : Hid (hd = T - off) := hhd
    clear hb hhd
    conv => arg 2; whnf
    go_wp2
    first | exact ⟨_, _, _, rfl, rfl⟩ | exact ⟨⟨_, _, _, rfl⟩, rfl⟩ | (rw [HD.out]; first | exact ⟨_, _, _, rfl, rfl⟩ | exact ⟨⟨_, _, _, rfl⟩, rfl⟩)

set_option maxHeartbeats 4000000 in
set_option maxRecDepth 100000 in
theorem cond147 (hd sz np nq : Nat) (b : Bool) (hb : b = true ↔ (hd : Int) < (sz : Int)) (hnp : np ≤ 1000) (hnq : nq = np + (if hd < sz then 1 else 0)) (wc : World) (s0 s1 s2 s3 s4 s5 s6 s7 s8 s9 s10 s11 s12 s13 s14 s15 s17 s18 s19 s20 s21 s22 s23 s24 s25 s26 s27 s28 s29 s30 s31 s32 s33 s34 s35 s36 s37 s38 s39 s40 s41 s42 s43 s44 s45 s46 s47 s48 s49 s50 s51 s52 s53 s54 s55 s56 s57 s58 s59 s60 s61 s62 s63 s64 s65 s66 s67 s68 s69 s70 s71 s72 s73 s74 s75 s76 s77 s78 s79 s80 s81 s82 s83 s84 s85 s86 s87 s88 s89 s90 s91 s92 s93 s94 s95 s96 s97 s98 s99 s100 s101 s102 s103 s104 s105 s106 s107 s108 s109 s110 s111 s112 s113 s114 s115 s116 s117 s118 s119 s120 s121 s122 s123 s124 s125 s126 s127 s128 s129 s130 s131 s132 s133 s134 s135 s136 s137 s138 s139 s140 s141 s142 s143 s144 s145 s146 s148 s149 s150 s151 s152 s153 s154 s155 s156 s157 s158 s159 s160 s161 s162 s163 s164 s165 s166 s167 s168 s169 s170 s171 s172 s173 s174 s175 s176 s177 s178 s179 s180 s181 s182 s183 s184 s185 s186 s187 s188 s189 s190 s191 s192 s193 s194 s195 s196 s197 s198 s199 s200 s201 s202 s203 s204 s205 s206 s207 s208 s209 s210 s211 s212 s213 s214 s215 s216 s217 s218 s219 s220 s221 s222 s223 s224 s225 s226 s227 s228 s229 s230 s231 s232 s233 s234 : Value) :
    Code.wp Ybaf.prog (condOf Ybaf.f3 147) (onlyNormal fun a' w' => ∃ (u148 u149 : Value), a' = ⟨#[s0, s1, s2, s3, s4, s5, s6, s7, s8, s9, s10, s11, s12, s13, s14, s15, .int .i64 (nq : Int), s17, s18, s19, s20, s21, s22, s23, s24, s25, s26, s27, s28, s29, s30, s31, s32, s33, s34, s35, s36, s37, s38, s39, s40, s41, s42, s43, s44, s45, s46, s47, s48, s49, s50, s51, s52, s53, s54, s55, s56, s57, s58, s59, s60, s61, s62, s63, s64, s65, s66, s67, s68, s69, s70, s71, s72, s73, s74, s75, s76, s77, s78, s79, s80, s81, s82, s83, s84, s85, s86, s87, s88, s89, s90, s91, s92, s93, s94, s95, s96, s97, s98, s99, s100, s101, s102, s103, s104, s105, s106, s107, s108, s109, s110, s111, s112, s113, s114, s115, s116, s117, s118, s119, s120, s121, s122, s123, s124, s125, s126, s127, s128, s129, s130, s131, s132, s133, s134, s135, s136, s137, s138, s139, s140, s141, s142, s143, s144, s145, s146, .bool b, u148, u149, s150, s151, s152, s153, s154, s155, s156, s157, s158, s159, s160, s161, s162, s163, s164, s165, s166, s167, s168, s169, s170, s171, s172, s173, s174, s175, s176, s177, s178, s179, s180, s181, s182, s183, s184, s185, s186, s187, s188, s189, s190, s191, s192, s193, s194, s195, s196, s197, s198, s199, s200, s201, s202, s203, s204, s205, s206, s207, s208, s209, s210, s211, s212, s213, s214, s215, s216, s217, s218, s219, s220, s221, s222, s223, s224, s225, s226, s227, s228, s229, s230, s231, s232, s233, s234], []⟩ ∧ w' = wc) ⟨#[s0, s1, s2, s3, s4, s5, s6, s7, s8, s9, s10, s11, s12, s13, s14, s15, .int .i64 (np : Int), s17, s18, s19, s20, s21, s22, s23, s24, s25, s26, s27, s28, s29, s30, s31, s32, s33, s34, s35, s36, s37, s38, s39, s40, s41, s42, s43, s44, s45, s46, s47, s48, s49, s50, s51, s52, s53, s54, s55, s56, s57, s58, s59, s60, s61, s62, s63, s64, s65, s66, s67, s68, s69, s70, s71, s72, s73, s74, s75, s76, s77, s78, s79, s80, s81, s82, s83, s84, s85, s86, s87, s88, s89, s90, s91, s92, s93, s94, s95, s96, s97, s98, s99, s100, s101, s102, s103, s104, s105, s106, s107, s108, s109, s110, s111, s112, s113, s114, s115, s116, s117, s118, s119, s120, s121, s122, s123, s124, s125, s126, s127, s128, s129, s130, s131, s132, s133, s134, s135, s136, s137, s138, s139, s140, s141, s142, s143, s144, s145, s146, .bool b, s148, s149, s150, s151, s152, s153, s154, s155, s156, s157, s158, s159, s160, s161, s162, s163, s164, s165, s166, s167, s168, s169, s170, s171, s172, s173, s174, s175, s176, s177, s178, s179, s180, s181, s182, s183, s184, s185, s186, s187, s188, s189, s190, s191, s192, s193, s194, s195, s196, s197, s198, s199, s200, s201, s202, s203, s204, s205, s206, s207, s208, s209, s210, s211, s212, s213, s214, s215, s216, s217, s218, s219, s220, s221, s222, s223, s224, s225, s226, s227, s228, s229, s230, s231, s232, s233, s234], []⟩ wc := by
  cases b
  · have h0 : ¬ hd < sz := by intro h; exact absurd (hb.2 (by omega)) (by decide)
    rw [if_neg h0, Nat.add_zero] at hnq
    subst hnq
    clear hb
    conv => arg 2; whnf
    go_wp2
    first | exact ⟨_, _, rfl, rfl⟩ | exact ⟨⟨_, _, rfl⟩, rfl⟩
  · have h0 : hd < sz := by have := hb.1 rfl; omega
    rw [if_pos h0] at hnq
    have hqi : (nq : Int) = (np : Int) + 1 := by omega
    rw [hqi]
    clear hb hnq hqi
    conv => arg 2; whnf
    go_wp2
    first | exact ⟨_, _, rfl, rfl⟩ | exact ⟨⟨_, _, rfl⟩, rfl⟩

set_option maxHeartbeats 4000000 in
set_option maxRecDepth 100000 in
theorem block2 (gw cw off hd T : Nat) (ms : List Mb) (wc : World) (hwant : OwnAt wc 38 3 gw ms.length cw (msCells ms)) (hok : ∀ m ∈ ms, MbOk T m) (hT : T ≤ 100000) (hoh : off + hd ≤ T) (hl : ms.length ≤ 1000) (cv : Bool) (HC0 : Hid (clash ms off hd = cv)) (s0 s1 s2 s3 s4 s5 s6 s7 s8 s9 s10 s11 s12 s13 s14 s15 s16 s17 s18 s19 s20 s22 s25 s26 s27 s28 s29 s30 s31 s32 s33 s34 s35 s36 s37 s38 s39 s40 s41 s42 s43 s44 s45 s46 s47 s48 s49 s50 s51 s52 s53 s54 s55 s56 s57 s58 s59 s60 s61 s62 s63 s64 s65 s66 s67 s68 s69 s70 s71 s72 s73 s74 s75 s76 s77 s78 s79 s80 s81 s82 s83 s84 s85 s86 s87 s88 s89 s90 s91 s92 s93 s94 s95 s96 s97 s98 s99 s100 s101 s102 s103 s104 s105 s106 s107 s108 s109 s110 s111 s112 s113 s114 s115 s116 s117 s118 s119 s120 s121 s122 s123 s124 s125 s126 s127 s128 s129 s130 s131 s132 s133 s134 s135 s136 s137 s138 s139 s140 s141 s142 s143 s144 s145 s146 s147 s148 s149 s150 s151 s152 s153 s154 s155 s159 s160 s161 s162 s163 s164 s165 s166 s167 s168 s169 s170 s171 s172 s173 s174 s175 s176 s177 s178 s179 s180 s181 s182 s183 s184 s185 s186 s187 s188 s189 s190 s191 s192 s193 s194 s195 s196 s197 s198 s199 s200 s201 s202 s203 s204 s205 s206 s207 s208 s209 s210 s211 s212 s213 s214 s215 s216 s217 s218 s219 s220 s221 s222 s223 s224 s225 s226 s227 s228 s229 s230 s231 s232 s233 s234 : Value) :
    Code.wp Ybaf.prog (blockOf Ybaf.f3 2) (onlyNormal fun a' w' => ∃ (u26 u158 u159 u160 u161 u162 u163 u164 u165 u166 u167 u168 u169 : Value), a' = ⟨#[s0, s1, s2, s3, s4, s5, s6, s7, s8, s9, s10, s11, s12, s13, s14, s15, s16, s17, s18, s19, s20, .int .u64 (off : Int), s22, .int .u64 (hd : Int), .bool cv, s25, u26, s27, s28, s29, s30, s31, s32, s33, s34, s35, s36, s37, s38, s39, s40, s41, s42, s43, s44, s45, s46, s47, s48, s49, s50, s51, s52, s53, s54, s55, s56, s57, s58, s59, s60, s61, s62, s63, s64, s65, s66, s67, s68, s69, s70, s71, s72, s73, s74, s75, s76, s77, s78, s79, s80, s81, s82, s83, s84, s85, s86, s87, s88, s89, s90, s91, s92, s93, s94, s95, s96, s97, s98, s99, s100, s101, s102, s103, s104, s105, s106, s107, s108, s109, s110, s111, s112, s113, s114, s115, s116, s117, s118, s119, s120, s121, s122, s123, s124, s125, s126, s127, s128, s129, s130, s131, s132, s133, s134, s135, s136, s137, s138, s139, s140, s141, s142, s143, s144, s145, s146, s147, s148, s149, s150, s151, s152, s153, s154, s155, .slice (some ⟨gw, 0, none⟩) ms.length cw, .int .i64 (ms.length : Int), u158, u159, u160, u161, u162, u163, u164, u165, u166, u167, u168, u169, s170, s171, s172, s173, s174, s175, s176, s177, s178, s179, s180, s181, s182, s183, s184, s185, s186, s187, s188, s189, s190, s191, s192, s193, s194, s195, s196, s197, s198, s199, s200, s201, s202, s203, s204, s205, s206, s207, s208, s209, s210, s211, s212, s213, s214, s215, s216, s217, s218, s219, s220, s221, s222, s223, s224, s225, s226, s227, s228, s229, s230, s231, s232, s233, s234], []⟩ ∧ Below wc.heap.size wc w') ⟨#[s0, s1, s2, s3, s4, s5, s6, s7, s8, s9, s10, s11, s12, s13, s14, s15, s16, s17, s18, s19, s20, .int .u64 (off : Int), s22, .int .u64 (hd : Int), .bool false, s25, s26, s27, s28, s29, s30, s31, s32, s33, s34, s35, s36, s37, s38, s39, s40, s41, s42, s43, s44, s45, s46, s47, s48, s49, s50, s51, s52, s53, s54, s55, s56, s57, s58, s59, s60, s61, s62, s63, s64, s65, s66, s67, s68, s69, s70, s71, s72, s73, s74, s75, s76, s77, s78, s79, s80, s81, s82, s83, s84, s85, s86, s87, s88, s89, s90, s91, s92, s93, s94, s95, s96, s97, s98, s99, s100, s101, s102, s103, s104, s105, s106, s107, s108, s109, s110, s111, s112, s113, s114, s115, s116, s117, s118, s119, s120, s121, s122, s123, s124, s125, s126, s127, s128, s129, s130, s131, s132, s133, s134, s135, s136, s137, s138, s139, s140, s141, s142, s143, s144, s145, s146, s147, s148, s149, s150, s151, s152, s153, s154, s155, .slice (some ⟨gw, 0, none⟩) ms.length cw, .int .i64 (ms.length : Int), .int .i64 0, s159, s160, s161, s162, s163, s164, s165, s166, s167, s168, s169, s170, s171, s172, s173, s174, s175, s176, s177, s178, s179, s180, s181, s182, s183, s184, s185, s186, s187, s188, s189, s190, s191, s192, s193, s194, s195, s196, s197, s198, s199, s200, s201, s202, s203, s204, s205, s206, s207, s208, s209, s210, s211, s212, s213, s214, s215, s216, s217, s218, s219, s220, s221, s222, s223, s224, s225, s226, s227, s228, s229, s230, s231, s232, s233, s234], []⟩ wc := by
  conv => arg 2; whnf
  go_wp2
  go_loopw [24, 158] (fun v24 v158 wr' => ∃ j : Nat, j ≤ ms.length ∧ v158 = .int .i64 (j : Int) ∧ v24 = .bool false ∧ (∀ (j' : Nat) (hj' : j' < j) (hj2 : j' < ms.length), meets off hd ms[j'].off ms[j'].size = false) ∧ Below wc.heap.size wc wr') (fun _ i _ => ms.length - (intOf i).toNat)
  case atStart => exact ⟨0, Nat.zero_le _, rfl, rfl, fun j' hj' _ => by omega, Below.refl _ _⟩
  case round =>
    obtain ⟨j, hj, rfl, rfl, hno, hbj⟩ := hrel
    by_cases hjl : j < ms.length
    · have hjl' : (j : Int) < (ms.length : Int) := by omega
      have hwj := hwant.below hbj hwant.lt
      obtain ⟨k0, k1, k2⟩ := msCells_at ms j hjl
      have q0 := hwj.cell _ _ k0
      have q1 := hwj.cell _ _ k1
      have q2 := hwj.cell _ _ k2
      have hokj := hok _ (List.getElem_mem hjl)
      have hmj : ∀ W, Calls Ybaf.prog 10 #[.int .u64 (off : Int), .int .u64 (hd : Int), .int .u64 (ms[j].off : Int), .int .u64 (ms[j].size : Int)] W fun e' w' => e' = .returned (.bool (meets off hd ms[j].off ms[j].size)) ∧ w' = W := fun W => meet_any off hd ms[j].off ms[j].size W (by omega) (by have := hokj.1; omega)
      clear hwj k0 k1 k2
      cases hyes : meets off hd ms[j].off ms[j].size
      · rw [hyes] at hmj
        have HY : Hid (meets off hd ms[j].off ms[j].size = false) := hyes
        clear hyes
        go_wp2_with (go_at_call 10; refine (hmj _).mono ?_; rintro e' w' ⟨rfl, rfl⟩)
        go_roundw
        case rel =>
          refine ⟨j + 1, by omega, by go_num, rfl, fun j' hj' hj2 => ?_, hbj.alloc hbj.size _⟩
          rcases (by omega : j' < j ∨ j' = j) with h | h
          · exact hno j' h hj2
          · subst h; exact HY.out
        case measure => simp [intOf]; omega
      · rw [hyes] at hmj
        obtain rfl : cv = true := HC0.out.symm.trans (clash_yes hjl hyes)
        clear hyes
        go_wp2_with (go_at_call 10; refine (hmj _).mono ?_; rintro e' w' ⟨rfl, rfl⟩)
        first | exact ⟨_, _, _, _, _, _, _, _, _, _, _, _, _, rfl, hbj.alloc hbj.size _⟩ | exact ⟨⟨_, _, _, _, _, _, _, _, _, _, _, _, _, rfl⟩, hbj.alloc hbj.size _⟩
    · have hjl' : ¬ (j : Int) < (ms.length : Int) := by omega
      obtain rfl : j = ms.length := by omega
      obtain rfl : cv = false := HC0.out.symm.trans (clash_no (fun j' hj' => hno j' hj' hj'))
      go_wp2
      first | exact ⟨_, _, _, _, _, _, _, _, _, _, _, _, _, rfl, hbj⟩ | exact ⟨⟨_, _, _, _, _, _, _, _, _, _, _, _, _, rfl⟩, hbj⟩

end Go.Proofs.YbulkblxcFmt
