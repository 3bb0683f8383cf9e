import Derived.Test.Qxb6609012aFmtRows
import Derived.Test.Qxb6609012aFmtShelf
import Derived.Test.Qxb6609012aFmtPlain
import Derived.Stop.CallBack
import Derived.Stop.IfaceNil
import Derived.WalkKit
import Derived.WalkSpells
import Derived.WalkLawsBesides
import Derived.ProofKit
import Derived.Handy
import Derived.BigQuiet
import Derived.Deep.QuietTactic
import Derived.Deep.RegionHeld3
import Derived.Lib.AppendIntMem
import Derived.Lib.AtoiErrMem
namespace Go.Proofs.Qxb6609012aFmt.leaf
open Go.RowKit Go.Extern.Stop Go.Stop Go.Extern plain

/-! ### THE TABLE, strconv.Itoa, strconv.Atoi -/
def tabName : String := Rows.fnNumberReadsLongestRunWithinWidthRow.named.headD ""
abbrev Tab (w : World) : Prop := Lib.TabIs Tryf.prog w tabName .u64 Lib.pow10Tab
theorem g0 : Tryf.prog.globalNamed tabName = some 2 := by kernel_rfl
theorem Tab.below {B : Nat} {w w' : World} (h : Tab w) (hb : Below B w w') (hB : 2 < B) : Tab w' := by
  unfold Tab Lib.TabIs at *
  exact var?_below hb g0 hB h

def num (n : Int) : ByteArray := ⟨(Lib.itoa n).toArray⟩
theorem num_size (n : Int) : (num n).size = wid n := rfl

theorem itoa_any (n : Int) (h0 : -9223372036854775808 ≤ n) (h1 : n ≤ 9223372036854775807) (w : World) (ht : Tab w) :
    Calls Tryf.prog 12 #[.int .i64 n] w fun e w' => e = .returned (.string (num n)) ∧ Below w.heap.size w w' := by
  refine (Any.strconv_Itoa Tryf.laysM171 n h0 h1 w ht).mono ?_
  rintro e w' ⟨rfl, k, os, rfl⟩
  exact ⟨rfl, Lib.below_grow _ _ (Nat.le_refl _) _ _⟩

theorem atoi_any (s : ByteArray) (n : Int) (hl : s.size ≤ 18) (h : Lib.atoi s.data.toList = some n) (w : World) :
    Calls Tryf.prog 15 #[.string s] w fun e w' => e = .returned (.tuple #[.int .i64 n, .nilIface]) ∧ Below w.heap.size w w' := by
  refine (Any.strconv_Atoi Tryf.lays172 s n hl h w).mono ?_
  rintro e w' ⟨rfl, t, rfl⟩
  exact ⟨rfl, Lib.bytesWorld_below _ _ _⟩

/-! ### isDigit, peek, zzDecLen, zzBytes -/
theorem isDigit_any (c : UInt8) (w : World) :
    Calls Tryf.prog 11 #[.int .u8 (c.toNat : Int)] w fun e w' => e = .returned (.bool (isD c)) ∧ w = w' := by
  cases h : isD c with
  | true =>
    obtain ⟨h1, h2⟩ := isD_true h
    have e1 : decide (48 ≤ (c.toNat : Int)) = true := by simp; omega
    have e2 : decide ((c.toNat : Int) ≤ 57) = true := by simp; omega
    clear h
    go_enter Tryf.func11, Tryf.ntmps11
    go_wp2
    go_ret
    exact ⟨rfl, rfl⟩
  | false =>
    by_cases h1 : 48 ≤ c.toNat
    · have h2 : 57 < c.toNat := by have := isD_false h; omega
      have e1 : decide (48 ≤ (c.toNat : Int)) = true := by simp; omega
      have e2 : decide ((c.toNat : Int) ≤ 57) = false := by simp; omega
      clear h
      go_enter Tryf.func11, Tryf.ntmps11
      go_wp2
      go_ret
      exact ⟨rfl, rfl⟩
    · have e1 : decide (48 ≤ (c.toNat : Int)) = false := by simp; omega
      clear h
      go_enter Tryf.func11, Tryf.ntmps11
      go_wp2
      go_ret
      exact ⟨rfl, rfl⟩

theorem drew_drew (w : World) (a b : Nat) : (w.drewN a).drewN b = w.drewN (a + b) := by
  simp [World.drewN, Nat.add_assoc]

set_option maxHeartbeats 400000 in
theorem peek_any (b : Nat) (s : ByteArray) (k : Nat) (hk : k ≤ s.size) (_hs : s.size ≤ 1048576) (w : World) (c0 : w.cell? ⟨b, 0, none⟩ = some (.string s)) (c1 : w.cell? ⟨b, 1, none⟩ = some (.int .i64 k)) :
    Calls Tryf.prog 13 #[.pointer (some ⟨b, 0, none⟩)] w fun e w' => e = .returned (.int .u8 ((chr s k).toNat : Int)) ∧ ∃ n, w' = w.drewN n := by
  by_cases h : k < s.size
  · have h' : (k : Int) < (s.size : Int) := by omega
    have hd : decide ((k : Int) < (s.size : Int)) = true := by simp; omega
    have hg := chr_at s k h
    go_enter Tryf.func13, Tryf.ntmps13
    go_wp2_with fail
    go_quiet (fail)
    go_wp2_with fail
    go_quiet (fail)
    go_wp2
    go_ret
    exact ⟨rfl, _, drew_drew _ _ _⟩
  · have hd : decide ((k : Int) < (s.size : Int)) = false := by simp; omega
    have hg := chr_end s k (by omega)
    go_enter Tryf.func13, Tryf.ntmps13
    go_wp2_with fail
    go_quiet (fail)
    go_wp2
    go_ret
    rw [hg]
    exact ⟨rfl, _, rfl⟩

set_option maxHeartbeats 400000 in
theorem decLen_any (n : Int) (h0 : -99999999 ≤ n) (h1 : n ≤ 999999999) (w : World) :
    Calls Tryf.prog 6 #[.int .i64 n] w fun e w' => e = .returned (.int .i64 (wid n)) ∧ w = w' := by
  by_cases h : n < 0
  · obtain ⟨u, hu⟩ := Int.eq_ofNat_of_zero_le (show 0 ≤ -n by omega)
    obtain rfl : n = -(u : Int) := by omega
    have hw := wid_neg u (by omega)
    have hw2 := (wid_bounds _ h0 h1).2
    have HW : Hid (wid (-(u : Int)) = Lib.nDigits u + 1) := hw
    have e0 : decide (-(u : Int) < 0) = true := by simp; omega
    have e0' : decide (0 < u) = true := by simp; omega
    clear hw hu
    go_enter Tryf.func6, Tryf.ntmps6
    go_wp2
    go_loop [0, 3] (fun v k => ∃ x m : Nat, x ≤ 999999999 ∧ m ≤ 9 ∧ v = .int .i64 x ∧ k = .int .i64 m ∧ Hid (m + Lib.nDigits x = wid (-(u : Int)) + 1)) (fun v _ => (intOf v).toNat)
    case atStart => exact ⟨u, 2, by omega, by omega, by go_num, rfl, show _ = _ by rw [HW.out]; omega⟩
    case round =>
      obtain ⟨x, m, hx, hm, rfl, rfl, hr⟩ := hrel
      by_cases h10 : x < 10
      · go_wp2
        go_ret
        refine ⟨?_, rfl⟩
        have := hr.out
        rw [Lib.nDigits_small h10] at this
        obtain rfl : m = wid (-(u : Int)) := by omega
        rfl
      · have hm9 : m + 1 ≤ 9 := by
          have := hr.out
          rw [Lib.nDigits_big h10] at this
          have := Lib.nDigits_pos (x / 10)
          omega
        go_wp2
        go_round
        case rel => exact ⟨x / 10, m + 1, by omega, hm9, by go_num, by go_num, show _ = _ by have := hr.out; rw [Lib.nDigits_big h10] at this; omega⟩
        case measure => simp [intOf]; omega
  · obtain ⟨u, rfl⟩ := Int.eq_ofNat_of_zero_le (show 0 ≤ n by omega)
    have hw := wid_pos u
    have hw2 := (wid_bounds _ h0 h1).2
    have HW : Hid (wid (u : Int) = Lib.nDigits u) := hw
    clear hw
    go_enter Tryf.func6, Tryf.ntmps6
    go_wp2
    go_loop [0, 3] (fun v k => ∃ x m : Nat, x ≤ 999999999 ∧ m ≤ 9 ∧ v = .int .i64 x ∧ k = .int .i64 m ∧ Hid (m + Lib.nDigits x = wid (u : Int) + 1)) (fun v _ => (intOf v).toNat)
    case atStart => exact ⟨u, 1, by omega, by omega, by go_num, rfl, show _ = _ by rw [HW.out]; omega⟩
    case round =>
      obtain ⟨x, m, hx, hm, rfl, rfl, hr⟩ := hrel
      by_cases h10 : x < 10
      · go_wp2
        go_ret
        refine ⟨?_, rfl⟩
        have := hr.out
        rw [Lib.nDigits_small h10] at this
        obtain rfl : m = wid (u : Int) := by omega
        rfl
      · have hm9 : m + 1 ≤ 9 := by
          have := hr.out
          rw [Lib.nDigits_big h10] at this
          have := Lib.nDigits_pos (x / 10)
          omega
        go_wp2
        go_round
        case rel => exact ⟨x / 10, m + 1, by omega, hm9, by go_num, by go_num, show _ = _ by have := hr.out; rw [Lib.nDigits_big h10] at this; omega⟩
        case measure => simp [intOf]; omega

theorem tab_pos {w : World} (h : Tab w) : 2 < w.heap.size := by
  unfold Tab Lib.TabIs World.var? at h
  rw [g0] at h
  simp only [Option.bind_some] at h
  rcases Nat.lt_or_ge 2 w.heap.size with e | e
  · exact e
  · rw [Array.getElem?_eq_none (by omega)] at h
    simp at h

theorem bytes_any (s what : ByteArray) (i lo hi : Int) (h : s.size + what.size ≤ 1048576) (w : World) :
    Calls Tryf.prog 5 #[.string s, .int .i64 i, .string what, .int .i64 lo, .int .i64 hi] w fun e w' => e = .returned (.bool true) ∧ w = w' := by
  have h1 : ¬ (1048576 : Int) < s.size := by omega
  have h2 : ¬ (1048576 : Int) < what.size := by omega
  go_enter Tryf.func5, Tryf.ntmps5
  go_wp2
  go_ret
  exact ⟨rfl, rfl⟩

theorem bytes_no (s what : ByteArray) (i lo hi : Int) (hs : s.size ≤ 9223372036854775807) (hw : what.size ≤ 9223372036854775807) (h : 1048576 < s.size + what.size) (w : World) :
    Calls Tryf.prog 5 #[.string s, .int .i64 i, .string what, .int .i64 lo, .int .i64 hi] w fun e w' => e = .returned (.bool false) ∧ w = w' := by
  by_cases h1 : (1048576 : Int) < s.size
  · go_enter Tryf.func5, Tryf.ntmps5
    go_wp2
    go_ret
    exact ⟨rfl, rfl⟩
  by_cases h2 : (1048576 : Int) < what.size
  · go_enter Tryf.func5, Tryf.ntmps5
    go_wp2
    go_ret
    exact ⟨rfl, rfl⟩
  go_enter Tryf.func5, Tryf.ntmps5
  go_wp2
  go_ret
  exact ⟨rfl, rfl⟩

/-! ### fmt.Errorf over the stop 'fmt.errorf' -/
theorem call17 (args : Array Value) (w : World) : (callFunc 17 args).run Tryf.prog w = ((FmtStop.errorf #[9, 41] #[33] args).run Tryf.prog w).andThen fun v w' => .ok (.value v) w' :=
  run_callFunc_extern Tryf.func17 (by kernel_rfl) (by kernel_rfl) (by kernel_rfl) (by kernel_rfl) args w
theorem guard (name : String) (w : World) : (FmtStop.guard name).run Tryf.prog w = .ok () w := by kernel_rfl
def shape9 : List UInt8 := [12, 6, 0, 0, 0, 0, 0, 0, 0, 115, 116, 114, 105, 110, 103]
def shape3 : List UInt8 := [5, 3, 0, 0, 0, 0, 0, 0, 0, 105, 110, 116]
theorem op9 (name : String) (x : ByteArray) (w : World) : (FmtStop.operand name true 115 false (.iface 9 (.string x))).run Tryf.prog w = .ok (shape9, FmtStop.pack x.data.toList) w := by kernel_rfl
theorem op3 (name : String) (x : Int) (w : World) : (FmtStop.operand name true 100 false (.iface 3 (.int .i64 x))).run Tryf.prog w = .ok (shape3, Go.Extern.Stop.digits 8 (x % 2 ^ 64).toNat) w := by kernel_rfl
theorem ptr46 (w : World) : (FmtStop.ptrTo "errors.errorString").run Tryf.prog w = .ok 46 w := by kernel_rfl
theorem elem46 (w : World) : (elemOf 46).run Tryf.prog w = .ok 48 w := by kernel_rfl
/-- The two formats. -/
def fmtA : ByteArray := ⟨#[101, 120, 112, 101, 99, 116, 101, 100, 32, 37, 115, 58, 32, 37, 100, 32, 116, 111, 32, 37, 100, 44, 32, 105, 110, 32, 97, 116, 32, 109, 111, 115, 116, 32, 37, 100, 32, 100, 105, 103, 105, 116, 115]⟩
def fmtB : ByteArray := ⟨#[37, 115, 58, 32, 37, 100, 32, 105, 115, 32, 111, 117, 116, 115, 105, 100, 101, 32, 37, 100, 46, 46, 37, 100]⟩
theorem printedA (w : World) : (FmtDoors.printed fmtA 4).run Tryf.prog w = .ok [(0, 115, false), (1, 100, false), (2, 100, false), (3, 100, false)] w := by kernel_rfl
theorem printedB (w : World) : (FmtDoors.printed fmtB 4).run Tryf.prog w = .ok [(0, 115, false), (1, 100, false), (2, 100, false), (3, 100, false)] w := by kernel_rfl

set_option maxHeartbeats 800000 in
theorem errorf_any (F : Interp) (f what : ByteArray) (a b c : Int) (blk : Nat) (w : World) (hF : F.answers w.tape)
    (hp : ∀ w : World, (FmtDoors.printed f 4).run Tryf.prog w = .ok [(0, 115, false), (1, 100, false), (2, 100, false), (3, 100, false)] w)
    (c0 : w.cell? ⟨blk, 0, none⟩ = some (.iface 9 (.string what))) (c1 : w.cell? ⟨blk, 1, none⟩ = some (.iface 3 (.int .i64 a)))
    (c2 : w.cell? ⟨blk, 2, none⟩ = some (.iface 3 (.int .i64 b))) (c3 : w.cell? ⟨blk, 3, none⟩ = some (.iface 3 (.int .i64 c))) :
    Calls Tryf.prog 14 #[.string f, .slice (some ⟨blk, 0, none⟩) 4 4] w fun e w' => (∃ p, e = .returned (.iface 46 (.pointer (some p)))) ∧ Below w.heap.size w w' := by
  have hF' := answers_open hF
  have f1 := call17
  have f2 := guard
  have f3 := op9
  have f4 := op3
  have f5 := ptr46
  have f6 := elem46
  go_enter Tryf.func14, Tryf.ntmps14
  go_wp2
  go_ret
  exact ⟨⟨_, rfl⟩, ((Below.refl _ _).alloc (Nat.le_refl _) _).drew⟩
end Go.Proofs.Qxb6609012aFmt.leaf
