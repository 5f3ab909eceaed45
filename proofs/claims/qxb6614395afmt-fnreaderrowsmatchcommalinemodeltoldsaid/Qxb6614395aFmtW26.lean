import Derived.Test.Qxb6614395aFmtW3
import Derived.Laws.Cells
set_option linter.unusedSimpArgs false
set_option linter.unusedVariables false
namespace Go.Proofs.Qxb6614395aFmt
open Go Go.RowKit Go.Deep Go.Extern.Stop Go.Stop Go.Extern

/-- "line %d: want the header %s, got %q" -/
def fmtHdr : List UInt8 := [108, 105, 110, 101, 32, 37, 100, 58, 32, 119, 97, 110, 116, 32, 116, 104, 101, 32, 104, 101, 97, 100, 101, 114, 32, 37, 115, 44, 32, 103, 111, 116, 32, 37, 113]
theorem fmtHdr_r (w : World) : (FmtDoors.printed ⟨fmtHdr.toArray⟩ 3).run Tryf.prog w = .ok [(0, 100, false), (1, 115, false), (2, 113, false)] w := by kernel_rfl
theorem fmtHdr_c : (fmtHdr.toArray).contains 37 = true := by kernel_rfl
def shape9 : List UInt8 := 12 :: FmtStop.pack "string".toUTF8.data.toList
def shape22 : List UInt8 := 13 :: (FmtStop.pack "[]string".toUTF8.data.toList ++ shape9)
theorem op9_115w (name : String) (x : ByteArray) (w : World) : (FmtStop.operand name true 115 false (.iface 9 (.string x))).run Tryf.prog w = .ok (shape9, FmtStop.pack x.data.toList) w := by kernel_rfl
theorem value9 (name : String) (x : ByteArray) (w : World) : (FmtStop.value name FmtStop.depth 9 [.string x]).run Tryf.prog w = .ok (FmtStop.pack x.data.toList) w := by kernel_rfl
theorem values9 (name : String) (w : World) : ∀ xs : List ByteArray, (List.mapM ((fun c => FmtStop.value name FmtStop.depth 9 [c]) ∘ Value.string) xs).run Tryf.prog w = .ok (xs.map fun x => FmtStop.pack x.data.toList) w
  | [] => by simp [List.mapM_nil]
  | x :: xs => by
    have ih := values9 name w xs
    have h := value9 name x w
    simp [List.mapM_cons, h, ih, Result.andThen]
theorem opStrs_113 (name : String) (a : Addr) (n cap : Nat) (xs : List ByteArray) (w : World) (hn : xs.length = n) (hc : ∀ j v, (xs.map Value.string)[j]? = some v → w.cell? (a.add j) = some v) :
    (FmtStop.operand name true 113 false (.iface 22 (.slice (some a) n cap))).run Tryf.prog w = .ok (shape22, 1 :: (digits 8 n ++ (xs.map fun x => FmtStop.pack x.data.toList).flatten)) w := by
  subst hn
  have h1 : (typeStr 22).run Tryf.prog w = .ok "[]string" w := by kernel_rfl
  have d2 : Tryf.t22.desc = .slice 9 := rfl
  have hb : (FmtStop.bare (FmtStop.asked true 113 false) 22).run Tryf.prog w = .ok true w := by kernel_rfl
  have hs : (FmtStop.scalar 9).run Tryf.prog w = .ok true w := by kernel_rfl
  have hy : (Extern.Stop.isByte 9).run Tryf.prog w = .ok false w := by kernel_rfl
  have hsh : (FmtStop.shape name (FmtStop.asked true 113 false) FmtStop.depth 9).run Tryf.prog w = .ok shape9 w := by kernel_rfl
  have hl := run_loadCells_list (P := Tryf.prog) w a (xs.map Value.string) hc
  rw [List.length_map] at hl
  simp [FmtStop.operand, h1, hb, hs, hy, hsh, hl, values9, shape22]
attribute [local go_sem] call40 fmtGuard fmtHdr_r fmtHdr_c op3_100w op9_115w ptr99 elem99

set_option maxHeartbeats 400000 in
set_option maxRecDepth 20000 in
theorem errorf3_calls (F : Interp) (a : Int) (s : ByteArray) (p : Addr) (n cap : Nat) (xs : List ByteArray) (blk : Nat) (w : World) (hF : F.answers w.tape) (hn : xs.length = n) (hc : ∀ j v, (xs.map Value.string)[j]? = some v → w.cell? (p.add j) = some v)
    (hc0 : w.cell? ⟨blk, 0, none⟩ = some (.iface 3 (.int .i64 a))) (hc1 : w.cell? ⟨blk, 1, none⟩ = some (.iface 9 (.string s))) (hc2 : w.cell? ⟨blk, 2, none⟩ = some (.iface 22 (.slice (some p) n cap))) :
    Calls Tryf.prog 31 #[.string ⟨fmtHdr.toArray⟩, .slice (some ⟨blk, 0, none⟩) 3 3] w (ErrPost w) := by
  have hF' := answers_open hF
  have hop := fun name => opStrs_113 name p n cap xs w hn hc
  clear hn hc
  go_enter Tryf.func31, Tryf.ntmps31
  go_wp2
  go_ret
  exact ⟨rfl, _, 1, rfl⟩

set_option maxHeartbeats 400000 in
/-- errors.New. -/
theorem errnew_calls (s : ByteArray) (w : World) : Calls Tryf.prog 37 #[.string s] w (ErrPost w) := by
  go_enter Tryf.func37, Tryf.ntmps37
  go_wp2
  go_ret
  exact ⟨rfl, _, 0, rfl⟩
end Go.Proofs.Qxb6614395aFmt
