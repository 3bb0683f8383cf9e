import Derived.Test.Qxb6609152aFmtRows
import Derived.Stop.CallBack
import Derived.Stop.IfaceNil
import Derived.WalkKit
import Derived.WalkSpells
import Derived.WalkLawsBesides
import Derived.ProofKit
import Derived.Handy
import Derived.Stop.FmtTextKit
import Derived.Stop.Texts
import Derived.Stop.Told
import Derived.Test.Qxb6609152aFmtHex
namespace Go.Proofs.Qxb6609152aFmt.facts
open Go.RowKit Go.Extern.Stop Go.Stop Go.Extern

/-! ### THE CLOSED FACTS FOR A WALK OVER fmt.Sprintf, a stop that calls -/
theorem call20 (args : Array Value) (w : World) : (callFunc 20 args).run Tryf.prog w = (FmtCalls.sprintf #[9, 45] #[9] args).run Tryf.prog w :=
  run_callFunc_next Tryf.func20 (by kernel_rfl) (by kernel_rfl) (by kernel_rfl) args w
theorem guard (name : String) (w : World) : (FmtStop.guard name).run Tryf.prog w = .ok () w := by kernel_rfl
theorem nextTurns : Extern.next FmtCalls.turnsRow = some (FmtCalls.begun #[] #[]) := by kernel_rfl
/-- The format of formatVersion, one operand. -/
theorem fmt1 : FmtStop.printed? ⟨#[37, 48, 49, 54, 120]⟩ 1 = some [(0, 120, false)] := by kernel_rfl
/-- An operand of type uint64. -/
def shape22 : List UInt8 := [9, 6, 0, 0, 0, 0, 0, 0, 0, 117, 105, 110, 116, 54, 52]
theorem act22 (name : String) (x : Value) (w : World) : (FmtCalls.act name false 120 false (.iface 22 x)).run Tryf.prog w = .ok (.closed false) w := by kernel_rfl
theorem op22 (name : String) (x : Int) (w : World) : (FmtStop.operand name false 120 false (.iface 22 (.int .u64 x))).run Tryf.prog w = .ok (shape22, Go.Extern.Stop.digits 8 (x % 2 ^ 64).toNat) w := by kernel_rfl

/-- WHAT fmt IS ASKED by formatVersion. -/
def asked (n : Int) : List (List UInt8) := [[37, 48, 49, 54, 120], shape22, digits 8 (n % 18446744073709551616).toNat]

set_option maxHeartbeats 800000 in
/-- ZZformatVersion, for every F. -/
theorem version_any (F : Interp) (n : Int) (w : World) (hF : F.answers w.tape) :
    Calls Tryf.prog 9 #[.int .u64 n] w fun e w' => e = .returned (.string (FmtStop.textOf (F (FmtCalls.frontName 0) (asked n) 0))) ∧ Below w.heap.size w w' := by
  have hF' := answers_open hF
  have f1 := call20
  have f2 := guard
  have f3 := fmt1
  have f4 := act22
  have f5 := op22
  go_enter Tryf.func9, Tryf.ntmps9
  go_wp2
  apply rows_value nextTurns
  case hr =>
    go_simp
    exact ⟨rfl, rfl⟩
  case h =>
    go_wp2
    go_ret
    exact ⟨rfl, ((Below.refl _ _).alloc (Nat.le_refl _) _).drew⟩

/-! ### fmt's TEXT, TOLD -/
theorem parsed : (FmtText.parse [37, 48, 49, 54, 120]).map FmtText.glue = some [.verb { widPresent := true, wid := 16, zero := true } 120] := by rfl

theorem text_any (n : Int) (hw : (Lit.int .u64 n).wf = true) : FmtText.text (FmtCalls.frontName 0) (asked n) = some (FmtText.hexZeros false false 16 n) := by
  have hi := FmtText.operand_int_at (sh := shape22) (k := .u64) rfl rfl n hw
  show FmtText.text "fmt.Sprintf" _ = _
  rw [asked, FmtText.text_sprintf_glued parsed (FmtText.operands_cons hi FmtText.operands_nil)]
  have hp := FmtText.printArg_x_zero false false 16 [117, 105, 110, 116, 54, 52] hw
  simp [FmtText.render, hp]

/-- The version text of n. -/
def ver (n : Int) : ByteArray := ⟨(hex.hexw 16 n.toNat).toArray⟩
theorem ver_list (n : Int) : (ver n).toList = hex.hexw 16 n.toNat := by rw [ByteArray.toList_eq]; rfl
theorem ver_size (n : Int) : (ver n).size = 16 := hex.hexw_length 16 n.toNat

theorem u64_bounds {n : Int} (hw : (Lit.int .u64 n).wf = true) : 0 ≤ n ∧ n ≤ 18446744073709551615 := by
  have := hw
  simp [Lit.wf, IntKind.min, IntKind.max, IntKind.signed, IntKind.bits] at this
  omega

theorem told_ver (F : Interp) (n : Int) (hw : (Lit.int .u64 n).wf = true) : FmtStop.textOf (F.told (FmtCalls.frontName 0) (asked n) 0) = ver n := by
  obtain ⟨h0, h1⟩ := u64_bounds hw
  obtain ⟨u, rfl⟩ := Int.eq_ofNat_of_zero_le h0
  have hx := hex.hexZeros_eq u (by omega)
  have ht := Go.Stop.told_string F (text_any (u : Int) hw) (by rw [hx, hex.hexw_length]; omega)
  have hl := Go.Kit.textOf_list F.told (FmtCalls.frontName 0) (asked (u : Int))
  rw [ht, hx] at hl
  show _ = (⟨(hex.hexw 16 (Int.toNat (u : Int))).toArray⟩ : ByteArray)
  rw [Int.toNat_natCast, ← hl]

theorem version_told (F : Interp) (n : Int) (hw : (Lit.int .u64 n).wf = true) (w : World) (hF : F.told.answers w.tape) :
    Calls Tryf.prog 9 #[.int .u64 n] w fun e w' => e = .returned (.string (ver n)) ∧ Below w.heap.size w w' := by
  rw [← told_ver F n hw]
  exact version_any F.told n w hF
end Go.Proofs.Qxb6609152aFmt.facts
