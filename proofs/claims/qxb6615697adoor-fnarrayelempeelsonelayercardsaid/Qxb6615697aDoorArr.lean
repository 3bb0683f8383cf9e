import Derived.Test.Qxb6615697aDoorItoa
import Derived.Test.Qxb6615697aDoorShelf
import Derived.WalkKit
import Derived.WalkSpells
import Derived.WalkLawsBesides
import Derived.ProofKit
import Derived.OpenShut
import Derived.Handy
import Derived.LaidEqlPtr
import Derived.Deep.RegionHeld3
import Derived.Lib.AppendIntMem
namespace Go.Proofs.Qxb6615697aDoor.arr
open Go.RowKit

/-- The name of strconv's table of powers of ten, as the given rows name it. -/
def tabName : String := Rows.fnArrayElemReturnsBuiltElementRow.named.headD ""
abbrev Tab (w : World) : Prop := Lib.TabIs Tryd.prog w tabName .u64 Lib.pow10Tab
theorem g0 : Tryd.prog.globalNamed tabName = some 0 := by kernel_rfl
theorem Tab.below {B : Nat} {w w' : World} (h : Tab w) (hb : Below B w w') (hB : 0 < B) : Tab w' := by
  unfold Tab Lib.TabIs at *
  exact var?_below hb g0 hB h

def num (n : Int) : ByteArray := ⟨(Lib.itoa n).toArray⟩
def opn : ByteArray := ⟨#[91]⟩
def cls : ByteArray := ⟨#[93]⟩
theorem num_size (n : Int) (h0 : -9223372036854775808 ≤ n) (h1 : n ≤ 9223372036854775807) : (num n).size ≤ 21 := by
  have := Lib.itoa_length_le n h0 h1
  simpa [num, ByteArray.size] using this

theorem fmt_any (n : Int) (h0 : -9223372036854775808 ≤ n) (h1 : n ≤ 9223372036854775807) (w : World) (ht : Tab w) :
    Calls Tryd.prog 16 #[.int .i64 n, .int .i64 10] w fun e w' => e = .returned (.string (num n)) ∧ Below w.heap.size w w' := by
  refine (Any.strconv_FormatInt_10 Tryd.laysM173 n h0 h1 w ht).mono ?_
  rintro e w' ⟨rfl, k, os, rfl⟩
  exact ⟨rfl, Lib.below_grow _ _ (Nat.le_refl _) _ _⟩

theorem itoa_any (n : Int) (h0 : -9223372036854775808 ≤ n) (h1 : n ≤ 9223372036854775807) (w : World) :
    Calls Tryd.prog 11 #[.int .i64 n] w fun e w' => e = .returned (.string (num n)) ∧ Below w.heap.size w w' := itoa64.any n h0 h1 w

theorem bcell {W w1 : World} (hb : Below W.heap.size W w1) : (∀ b o, b < W.heap.size → w1.cell? ⟨b, o, none⟩ = W.cell? ⟨b, o, none⟩) :=
  fun b o h => hb.cell (p := ⟨b, o, none⟩) h

theorem basic_any (b : Nat) (name : ByteArray) (w : World) (h : w.cell? ⟨b, 2, none⟩ = some (.string name)) :
    Calls Tryd.prog 45 #[.pointer (some ⟨b, 0, none⟩)] w fun e w' => e = .returned (.string name) ∧ w = w' := by
  go_enter Tryd.func45, Tryd.ntmps45
  go_wp2
  go_ret
  exact ⟨rfl, rfl⟩

set_option maxHeartbeats 400000 in
theorem str1 (n : Int) (h0 : -9223372036854775808 ≤ n) (h1 : n ≤ 9223372036854775807) (b b0 : Nat) (name : ByteArray) (hn : name.size ≤ 65536) (w : World) (ht : Tab w)
    (hb : b < w.heap.size) (hb0 : b0 < w.heap.size) (c0 : w.cell? ⟨b, 0, none⟩ = some (.int .i64 n)) (c1 : w.cell? ⟨b, 1, none⟩ = some (.iface 24 (.pointer (some ⟨b0, 0, none⟩))))
    (c2 : w.cell? ⟨b0, 2, none⟩ = some (.string name)) :
    Calls Tryd.prog 10 #[.pointer (some ⟨b, 0, none⟩)] w fun e w' => e = .returned (.string (opn ++ num n ++ cls ++ name)) ∧ Below w.heap.size w w' := by
  have hs := num_size n h0 h1
  have HT := (show Hid (Tab w) from ht)
  clear ht
  have g1 : ¬ 9223372036854775807 < 1 + (num n).size := by omega
  have g2 : ¬ 9223372036854775807 < 1 + (num n).size + 1 := by omega
  have g3 : ¬ 9223372036854775807 < 1 + (num n).size + 1 + name.size := by omega
  go_enter Tryd.func10, Tryd.ntmps10
  go_wp2_with fail
  go_region_held3 (fun w' => w'.cell? ⟨b, 0, none⟩ = some (.int .i64 n) ∧ w'.cell? ⟨b, 1, none⟩ = some (.iface 24 (.pointer (some ⟨b0, 0, none⟩)))) (first | exact ⟨c0, c1⟩ | exact ⟨k0, k1⟩)
    (first
    | (go_at_call 16; refine (fmt_any n h0 h1 _ ?ht).mono ?_; (case ht => exact HT.out); rintro e w1 ⟨rfl, hb1⟩; have k0 : w1.cell? ⟨b, 0, none⟩ = some (.int .i64 n) := (hb1.cell (p := ⟨b, 0, none⟩) hb).trans c0; have k1 : w1.cell? ⟨b, 1, none⟩ = some (.iface 24 (.pointer (some ⟨b0, 0, none⟩))) := (hb1.cell (p := ⟨b, 1, none⟩) hb).trans c1; have k2 : w1.cell? ⟨b0, 2, none⟩ = some (.string name) := (hb1.cell (p := ⟨b0, 2, none⟩) hb0).trans c2)
    | (go_at_call 45; refine (basic_any b0 name _ ?hc).mono ?_; (case hc => first | exact k2 | exact c2); rintro e w2 ⟨rfl, rfl⟩))
  go_wp2
  go_ret
  exact ⟨rfl, (Below.refl w.heap.size w).drew.trans hb1⟩

set_option maxHeartbeats 400000 in
theorem str2 (n m : Int) (h0 : -9223372036854775808 ≤ n) (h1 : n ≤ 9223372036854775807) (m0 : -9223372036854775808 ≤ m) (m1 : m ≤ 9223372036854775807)
    (b1 b b0 : Nat) (name : ByteArray) (hn : name.size ≤ 65536) (w : World) (ht : Tab w)
    (hb1 : b1 < w.heap.size) (hb : b < w.heap.size) (hb0 : b0 < w.heap.size)
    (d0 : w.cell? ⟨b1, 0, none⟩ = some (.int .i64 m)) (d1 : w.cell? ⟨b1, 1, none⟩ = some (.iface 26 (.pointer (some ⟨b, 0, none⟩))))
    (c0 : w.cell? ⟨b, 0, none⟩ = some (.int .i64 n)) (c1 : w.cell? ⟨b, 1, none⟩ = some (.iface 24 (.pointer (some ⟨b0, 0, none⟩))))
    (c2 : w.cell? ⟨b0, 2, none⟩ = some (.string name)) :
    Calls Tryd.prog 10 #[.pointer (some ⟨b1, 0, none⟩)] w fun e w' => e = .returned (.string (opn ++ num m ++ cls ++ (opn ++ num n ++ cls ++ name))) ∧ Below w.heap.size w w' := by
  have hs := num_size n h0 h1
  have hs2 := num_size m m0 m1
  obtain ⟨inner, hin⟩ : ∃ x, x = opn ++ num n ++ cls ++ name := ⟨_, rfl⟩
  have hsi : inner.size ≤ 65559 := by
    rw [hin]
    simp only [ByteArray.size_append, show opn.size = 1 from rfl, show cls.size = 1 from rfl]
    omega
  rw [← hin]
  have HI : Hid (inner = opn ++ num n ++ cls ++ name) := hin
  have HT := (show Hid (Tab w) from ht)
  have HC : Hid (w.cell? ⟨b, 0, none⟩ = some (.int .i64 n) ∧ w.cell? ⟨b, 1, none⟩ = some (.iface 24 (.pointer (some ⟨b0, 0, none⟩))) ∧ w.cell? ⟨b0, 2, none⟩ = some (.string name)) := ⟨c0, c1, c2⟩
  clear ht hin c0 c1 c2 hs
  have g1 : ¬ 9223372036854775807 < 1 + (num m).size := by omega
  have g2 : ¬ 9223372036854775807 < 1 + (num m).size + 1 := by omega
  have g3 : ¬ 9223372036854775807 < 1 + (num m).size + 1 + inner.size := by omega
  go_enter Tryd.func10, Tryd.ntmps10
  go_wp2_with fail
  go_region_held3 (fun w' => w'.cell? ⟨b1, 0, none⟩ = some (.int .i64 m) ∧ w'.cell? ⟨b1, 1, none⟩ = some (.iface 26 (.pointer (some ⟨b, 0, none⟩)))) (first | exact ⟨d0, d1⟩ | exact ⟨k0, k1⟩ | exact ⟨l0, l1⟩)
    (first
    | (go_at_call 16; refine (fmt_any m m0 m1 _ ?ht).mono ?_; (case ht => exact HT.out); rintro e w1 ⟨rfl, hw1⟩; have k0 : w1.cell? ⟨b1, 0, none⟩ = some (.int .i64 m) := (hw1.cell (p := ⟨b1, 0, none⟩) hb1).trans d0; have k1 : w1.cell? ⟨b1, 1, none⟩ = some (.iface 26 (.pointer (some ⟨b, 0, none⟩))) := (hw1.cell (p := ⟨b1, 1, none⟩) hb1).trans d1; have ks : w.heap.size ≤ w1.heap.size := hw1.size; have kt : Hid (Tab w1) := Tab.below (w := w) HT.out ((Below.refl w.heap.size w).drew.trans hw1) (by omega))
    | (go_at_call 10; refine (str1 n h0 h1 b b0 name hn _ ?ht ?hb ?hb0 ?e0 ?e1 ?e2).mono ?_; (case ht => exact kt.out); (case hb => omega); (case hb0 => omega); (case e0 => exact (hw1.cell (p := ⟨b, 0, none⟩) hb).trans HC.out.1); (case e1 => exact (hw1.cell (p := ⟨b, 1, none⟩) hb).trans HC.out.2.1); (case e2 => exact (hw1.cell (p := ⟨b0, 2, none⟩) hb0).trans HC.out.2.2); rw [← HI.out]; rintro e w2 ⟨rfl, hw2⟩; have l0 : w2.cell? ⟨b1, 0, none⟩ = some (.int .i64 m) := (hw2.cell (p := ⟨b1, 0, none⟩) (by show b1 < w1.heap.size; omega)).trans k0; have l1 : w2.cell? ⟨b1, 1, none⟩ = some (.iface 26 (.pointer (some ⟨b, 0, none⟩))) := (hw2.cell (p := ⟨b1, 1, none⟩) (by show b1 < w1.heap.size; omega)).trans k1))
  go_wp2
  go_ret
  exact ⟨rfl, ((Below.refl w.heap.size w).drew.trans hw1).trans (hw2.mono ks)⟩

/-! ### THE OTHER CALLEES -/
theorem newBasic_any (a0 a1 : Int) (a2 : ByteArray) (a3 : Int) (w : World) :
    Calls Tryd.prog 6 #[.int .u8 a0, .int .u16 a1, .string a2, .int .i64 a3] w fun e w' => e = .returned (.pointer (some ⟨w.heap.size, 0, none⟩)) ∧ w' = w.alloc (.cells #[.int .u8 a0, .int .u16 a1, .string a2, .int .i64 a3] 40) := by
  go_enter Tryd.func6, Tryd.ntmps6
  go_wp2
  go_ret
  exact ⟨rfl, rfl⟩

theorem newArrB_any (b : Nat) (n : Int) (w : World) :
    Calls Tryd.prog 7 #[.pointer (some ⟨b, 0, none⟩), .int .i64 n] w fun e w' => e = .returned (.pointer (some ⟨w.heap.size, 0, none⟩)) ∧ w' = w.alloc (.cells #[.int .i64 n, .iface 24 (.pointer (some ⟨b, 0, none⟩))] 44) := by
  go_enter Tryd.func7, Tryd.ntmps7
  go_wp2
  go_ret
  exact ⟨rfl, rfl⟩

theorem newArrA_any (b : Nat) (n : Int) (w : World) :
    Calls Tryd.prog 13 #[.pointer (some ⟨b, 0, none⟩), .int .i64 n] w fun e w' => e = .returned (.pointer (some ⟨w.heap.size, 0, none⟩)) ∧ w' = w.alloc (.cells #[.int .i64 n, .iface 26 (.pointer (some ⟨b, 0, none⟩))] 44) := by
  go_enter Tryd.func13, Tryd.ntmps13
  go_wp2
  go_ret
  exact ⟨rfl, rfl⟩

theorem elem_any (b : Nat) (v : Value) (w : World) (h : w.cell? ⟨b, 1, none⟩ = some v) :
    Calls Tryd.prog 9 #[.pointer (some ⟨b, 0, none⟩)] w fun e w' => e = .returned v ∧ w = w' := by
  go_enter Tryd.func9, Tryd.ntmps9
  go_wp2
  go_ret
  exact ⟨rfl, rfl⟩

theorem as24_24 (W : World) (v : Value) : (Instr.typeAssert (.iface 24 v) 30 24 true).run Tryd.prog W = .ok (.tuple #[v, .bool true]) W := by kernel_rfl
theorem as26_26 (W : World) (v : Value) : (Instr.typeAssert (.iface 26 v) 30 26 true).run Tryd.prog W = .ok (.tuple #[v, .bool true]) W := by kernel_rfl
theorem as26_24 (W : World) (v : Value) : (Instr.typeAssert (.iface 26 v) 30 24 true).run Tryd.prog W = .ok (.tuple #[.pointer none, .bool false]) W := by kernel_rfl
theorem as24_26 (W : World) (v : Value) : (Instr.typeAssert (.iface 24 v) 30 26 true).run Tryd.prog W = .ok (.tuple #[.pointer none, .bool false]) W := by kernel_rfl

theorem asBasic_yes (p : Option Addr) (w : World) :
    Calls Tryd.prog 8 #[.iface 24 (.pointer p)] w fun e w' => e = .returned (.pointer p) ∧ w = w' := by
  have ha := as24_24
  go_enter Tryd.func8, Tryd.ntmps8
  go_wp2
  go_ret
  exact ⟨rfl, rfl⟩
theorem asBasic_no (p : Option Addr) (w : World) :
    Calls Tryd.prog 8 #[.iface 26 (.pointer p)] w fun e w' => e = .returned (.pointer none) ∧ w = w' := by
  have ha := as26_24
  go_enter Tryd.func8, Tryd.ntmps8
  go_wp2
  go_ret
  exact ⟨rfl, rfl⟩
theorem asArray_yes (p : Option Addr) (w : World) :
    Calls Tryd.prog 14 #[.iface 26 (.pointer p)] w fun e w' => e = .returned (.pointer p) ∧ w = w' := by
  have ha := as26_26
  go_enter Tryd.func14, Tryd.ntmps14
  go_wp2
  go_ret
  exact ⟨rfl, rfl⟩
theorem asArray_no (p : Option Addr) (w : World) :
    Calls Tryd.prog 14 #[.iface 24 (.pointer p)] w fun e w' => e = .returned (.pointer none) ∧ w = w' := by
  have ha := as24_26
  go_enter Tryd.func14, Tryd.ntmps14
  go_wp2
  go_ret
  exact ⟨rfl, rfl⟩

theorem info40 : (Tryd.prog.info? 40).isSome = true := by kernel_rfl
theorem eql24 (W : World) (a : Addr) : (binOp .eql 24 (.pointer (some a)) (.pointer (some a))).run Tryd.prog W = .ok (.bool true) W := by
  obtain ⟨j, hj⟩ := Option.isSome_iff_exists.1 info40
  exact run_eql_ptr_same W a Tryd.underlying24 hj
theorem info44 : (Tryd.prog.info? 44).isSome = true := by kernel_rfl
theorem eql26 (W : World) (a : Addr) : (binOp .eql 26 (.pointer (some a)) (.pointer (some a))).run Tryd.prog W = .ok (.bool true) W := by
  obtain ⟨j, hj⟩ := Option.isSome_iff_exists.1 info44
  exact run_eql_ptr_same W a Tryd.underlying26 hj

theorem bytes3_any (a0 a1 : Int) (a2 : ByteArray) (a3 a4 : Int) (h2 : a2.size ≤ 65536) (w : World) :
    Calls Tryd.prog 5 #[.int .u8 a0, .int .u16 a1, .string a2, .int .i64 a3, .int .i64 a4] w fun e w' => e = .returned (.bool true) ∧ w = w' := by
  have h : ¬ (1048576 : Int) < a2.size := by omega
  go_enter Tryd.func5, Tryd.ntmps5
  go_wp2
  go_ret
  exact ⟨rfl, rfl⟩
theorem bytes4_any (a0 a1 : Int) (a2 : ByteArray) (a3 a4 a5 : Int) (h2 : a2.size ≤ 65536) (w : World) :
    Calls Tryd.prog 12 #[.int .u8 a0, .int .u16 a1, .string a2, .int .i64 a3, .int .i64 a4, .int .i64 a5] w fun e w' => e = .returned (.bool true) ∧ w = w' := by
  have h : ¬ (1048576 : Int) < a2.size := by omega
  go_enter Tryd.func12, Tryd.ntmps12
  go_wp2
  go_ret
  exact ⟨rfl, rfl⟩
end Go.Proofs.Qxb6615697aDoor.arr
