import Derived.Test.YbulkblxcFmtErr
namespace Go.Proofs.YbulkblxcFmt
open Go.RowKit Go.Extern.Stop Go.Stop Go.Extern
set_option linter.unusedVariables false

theorem call25 (args : Array Value) (w : World) : (callFunc 25 args).run Ybaf.prog w = ((FmtStop.sprintf #[9, 148] #[9] args).run Ybaf.prog w).andThen fun v w' => .ok (.value v) w' :=
  run_callFunc_extern Ybaf.func25 (by kernel_rfl) (by kernel_rfl) (by kernel_rfl) (by kernel_rfl) args w

/-- The four formats. -/
abbrev fmA : Array UInt8 := #[115, 108, 105, 99, 101, 32, 37, 100, 44, 32, 102, 111, 114, 32, 37, 115, 44, 32, 100, 101, 99, 108, 97, 114, 101, 100, 32, 37, 100, 32, 98, 121, 116, 101, 115, 32, 108, 111, 110, 103, 32, 102, 114, 111, 109, 32, 111, 102, 102, 115, 101, 116, 32, 37, 100, 44, 32, 108, 105, 101, 115, 32, 112, 97, 115, 116, 32, 116, 104, 101, 32, 101, 110, 100, 32, 111, 102, 32, 116, 104, 101, 32, 102, 105, 108, 101, 44, 32, 119, 104, 105, 99, 104, 32, 105, 115, 32, 37, 100, 32, 98, 121, 116, 101, 115, 32, 108, 111, 110, 103]
abbrev fmB : Array UInt8 := #[115, 108, 105, 99, 101, 32, 37, 100, 44, 32, 102, 111, 114, 32, 37, 115, 44, 32, 100, 101, 99, 108, 97, 114, 101, 100, 32, 37, 100, 32, 98, 121, 116, 101, 115, 32, 108, 111, 110, 103, 32, 102, 114, 111, 109, 32, 111, 102, 102, 115, 101, 116, 32, 37, 100, 44, 32, 105, 115, 32, 99, 117, 116, 32, 115, 104, 111, 114, 116, 58, 32, 116, 104, 101, 32, 102, 105, 108, 101, 32, 101, 110, 100, 115, 32, 97, 102, 116, 101, 114, 32, 37, 100, 32, 111, 102, 32, 116, 104, 101, 109]
abbrev fmC : Array UInt8 := #[115, 108, 105, 99, 101, 32, 37, 100, 44, 32, 102, 111, 114, 32, 37, 115, 44, 32, 100, 101, 99, 108, 97, 114, 101, 100, 32, 37, 100, 32, 98, 121, 116, 101, 115, 32, 108, 111, 110, 103, 32, 102, 114, 111, 109, 32, 111, 102, 102, 115, 101, 116, 32, 37, 100, 44, 32, 111, 118, 101, 114, 108, 97, 112, 115, 32, 116, 104, 101, 32, 117, 110, 105, 118, 101, 114, 115, 97, 108, 32, 104, 101, 97, 100, 101, 114, 32, 97, 110, 100, 32, 105, 116, 115, 32, 116, 97, 98, 108, 101, 32, 111, 102, 32, 115, 108, 105, 99, 101, 115, 44, 32, 119, 104, 105, 99, 104, 32, 101, 110, 100, 32, 97, 116, 32, 111, 102, 102, 115, 101, 116, 32, 37, 100]
abbrev fmD : Array UInt8 := #[115, 108, 105, 99, 101, 32, 37, 100, 44, 32, 102, 111, 114, 32, 37, 115, 44, 32, 100, 101, 99, 108, 97, 114, 101, 100, 32, 37, 100, 32, 98, 121, 116, 101, 115, 32, 108, 111, 110, 103, 32, 102, 114, 111, 109, 32, 111, 102, 102, 115, 101, 116, 32, 37, 100, 44, 32, 111, 118, 101, 114, 108, 97, 112, 115, 32, 115, 108, 105, 99, 101, 32, 37, 100, 44, 32, 102, 111, 114, 32, 37, 115, 44, 32, 119, 104, 105, 99, 104, 32, 104, 111, 108, 100, 115, 32, 116, 104, 101, 32, 37, 100, 32, 98, 121, 116, 101, 115, 32, 102, 114, 111, 109, 32, 111, 102, 102, 115, 101, 116, 32, 37, 100]

theorem prA : FmtStop.printed? ⟨fmA⟩ 5 = some [(0, 100, false), (1, 115, false), (2, 100, false), (3, 100, false), (4, 100, false)] := by kernel_rfl
theorem prB : FmtStop.printed? ⟨fmB⟩ 5 = some [(0, 100, false), (1, 115, false), (2, 100, false), (3, 100, false), (4, 100, false)] := by kernel_rfl
theorem prC : FmtStop.printed? ⟨fmC⟩ 5 = some [(0, 100, false), (1, 115, false), (2, 100, false), (3, 100, false), (4, 100, false)] := by kernel_rfl
theorem prD : FmtStop.printed? ⟨fmD⟩ 8 = some [(0, 100, false), (1, 115, false), (2, 100, false), (3, 100, false), (4, 100, false), (5, 115, false), (6, 100, false), (7, 100, false)] := by kernel_rfl

theorem opU (name : String) (x : Int) (w : World) : ∃ r, (FmtStop.operand name false 100 false (.iface 24 (.int .u64 x))).run Ybaf.prog w = .ok r w := ⟨(shape24, Go.Extern.Stop.digits 8 (x % 2 ^ 64).toNat), by kernel_rfl⟩
theorem opS (name : String) (s : ByteArray) (w : World) : ∃ r, (FmtStop.operand name false 115 false (.iface 9 (.string s))).run Ybaf.prog w = .ok r w := ⟨(12 :: FmtStop.pack "string".toUTF8.data.toList, FmtStop.pack s.data.toList), by kernel_rfl⟩

theorem sprintf_open (f : ByteArray) (a : Value) : FmtStop.sprintf #[9, 148] #[9] #[.string f, a] = (do
    FmtStop.guard "fmt.Sprintf"
    let vs ← FmtStop.cells a
    match FmtStop.printed? f vs.length with
    | some ps => FmtStop.text "fmt.Sprintf" [f.data.toList] (← FmtStop.readAll "fmt.Sprintf" false vs ps)
    | none => FmtStop.text "fmt.Sprintf" [f.data.toList] (← vs.mapM (FmtStop.strict "fmt.Sprintf"))) := rfl

theorem text_any (name : String) (h : List (List UInt8)) (o : List (List UInt8 × List UInt8)) (w : World) : ∃ s, (FmtStop.text name h o).run Ybaf.prog w = .ok (.string s) w.drew := ⟨_, rfl⟩

/-- fmt.Sprintf over operands that read: some text; the world but for the draw is as it was. -/
theorem sprint_of (f : ByteArray) (blk k : Nat) (vs : List Value) (ps : List (Nat × UInt8 × Bool)) (w : World) (hk : vs.length = k) (hp : FmtStop.printed? f k = some ps)
    (hc : ∀ j v, vs[j]? = some v → w.cell? ((⟨blk, 0, none⟩ : Addr).add j) = some v)
    (hr : ∃ r, (FmtStop.readAll "fmt.Sprintf" false vs ps).run Ybaf.prog w = .ok r w) :
    ∃ s, (callFunc 25 #[.string f, .slice (some ⟨blk, 0, none⟩) k k]).run Ybaf.prog w = .ok (.value (.string s)) w.drew := by
  obtain ⟨r, hr⟩ := hr
  obtain ⟨s, hs⟩ := text_any "fmt.Sprintf" [f.data.toList] r w
  have hl : (loadCells ⟨blk, 0, none⟩ k).run Ybaf.prog w = .ok vs.toArray w := by
    rw [← hk]
    exact run_loadCells_list (P := Ybaf.prog) w ⟨blk, 0, none⟩ vs hc
  refine ⟨s, ?_⟩
  rw [call25, sprintf_open]
  simp [Sem.run_bind, fguard, FmtStop.cells, hl, hk, hp, hr, hs]

theorem readAll5 (x0 x2 x3 x4 : Int) (s : ByteArray) (w : World) :
    ∃ r, (FmtStop.readAll "fmt.Sprintf" false [.iface 24 (.int .u64 x0), .iface 9 (.string s), .iface 24 (.int .u64 x2), .iface 24 (.int .u64 x3), .iface 24 (.int .u64 x4)] [(0, 100, false), (1, 115, false), (2, 100, false), (3, 100, false), (4, 100, false)]).run Ybaf.prog w = .ok r w := by
  obtain ⟨r0, h0⟩ := opU "fmt.Sprintf" x0 w
  obtain ⟨r1, h1⟩ := opS "fmt.Sprintf" s w
  obtain ⟨r2, h2⟩ := opU "fmt.Sprintf" x2 w
  obtain ⟨r3, h3⟩ := opU "fmt.Sprintf" x3 w
  obtain ⟨r4, h4⟩ := opU "fmt.Sprintf" x4 w
  refine ⟨[r0, r1, r2, r3, r4], ?_⟩
  simp [FmtStop.readAll, Sem.run_bind, h0, h1, h2, h3, h4]

theorem readAll8 (x0 x2 x3 x4 x6 x7 : Int) (s s5 : ByteArray) (w : World) :
    ∃ r, (FmtStop.readAll "fmt.Sprintf" false [.iface 24 (.int .u64 x0), .iface 9 (.string s), .iface 24 (.int .u64 x2), .iface 24 (.int .u64 x3), .iface 24 (.int .u64 x4), .iface 9 (.string s5), .iface 24 (.int .u64 x6), .iface 24 (.int .u64 x7)] [(0, 100, false), (1, 115, false), (2, 100, false), (3, 100, false), (4, 100, false), (5, 115, false), (6, 100, false), (7, 100, false)]).run Ybaf.prog w = .ok r w := by
  obtain ⟨r0, h0⟩ := opU "fmt.Sprintf" x0 w
  obtain ⟨r1, h1⟩ := opS "fmt.Sprintf" s w
  obtain ⟨r2, h2⟩ := opU "fmt.Sprintf" x2 w
  obtain ⟨r3, h3⟩ := opU "fmt.Sprintf" x3 w
  obtain ⟨r4, h4⟩ := opU "fmt.Sprintf" x4 w
  obtain ⟨r5, h5⟩ := opS "fmt.Sprintf" s5 w
  obtain ⟨r6, h6⟩ := opU "fmt.Sprintf" x6 w
  obtain ⟨r7, h7⟩ := opU "fmt.Sprintf" x7 w
  refine ⟨[r0, r1, r2, r3, r4, r5, r6, r7], ?_⟩
  simp [FmtStop.readAll, Sem.run_bind, h0, h1, h2, h3, h4, h5, h6, h7]

end Go.Proofs.YbulkblxcFmt
