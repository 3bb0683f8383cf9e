import Derived.Test.Qxb6615697aRows
import Derived.WalkKit
import Derived.WalkSpells
import Derived.WalkLawsBesides
import Derived.ProofKit
import Derived.OpenShut
import Derived.Handy
import Derived.LaidEqlPtr
namespace Go.Proofs.Qxb6615697a.nests
open Go.RowKit

/-! ### THE PLAIN PART: brackets -/
def br : ByteArray := ⟨#[91, 93]⟩
def brk : Nat → ByteArray
  | 0 => ⟨#[]⟩
  | k + 1 => brk k ++ br
def tail (name : ByteArray) : Nat → ByteArray
  | 0 => name
  | k + 1 => br ++ tail name k

theorem br_size : br.size = 2 := rfl
theorem brk_size (k : Nat) : (brk k).size = 2 * k := by
  induction k with
  | zero => rfl
  | succ k ih => show (brk k ++ br).size = _; rw [ByteArray.size_append, ih, br_size]; omega
theorem tail_size (name : ByteArray) (k : Nat) : (tail name k).size = 2 * k + name.size := by
  induction k with
  | zero => show name.size = _; omega
  | succ k ih => show (br ++ tail name k).size = _; rw [ByteArray.size_append, ih, br_size]; omega
theorem brk_glue (k : Nat) : ∀ name : ByteArray, brk k ++ name = tail name k := by
  induction k with
  | zero => intro name; show (⟨#[]⟩ : ByteArray) ++ name = name; exact ByteArray.empty_append
  | succ k ih =>
    intro name
    show brk k ++ br ++ name = br ++ tail name k
    rw [ByteArray.append_assoc, ih (br ++ name)]
    clear ih
    induction k with
    | zero => rfl
    | succ k ih => show br ++ tail (br ++ name) k = br ++ (br ++ tail name k); rw [ih]

/-! ### THE CALLEES -/
set_option maxHeartbeats 400000 in
theorem brackets_any (d : Nat) (w : World) (hd : d ≤ 256) :
    Calls Try.prog 10 #[.int .i64 d] w fun e w' => e = .returned (.string (brk d)) ∧ w = w' := by
  go_enter Try.func10, Try.ntmps10
  go_wp2
  go_loop [3, 4] (fun s i => ∃ k : Nat, k ≤ d ∧ i = .int .i64 k ∧ s = .string (brk k)) (fun _ i => d - (intOf i).toNat)
  case atStart => exact ⟨0, Nat.zero_le _, rfl, rfl⟩
  case round =>
    obtain ⟨k, hk, rfl, rfl⟩ := hrel
    have hs := brk_size k
    have hs' : (brk k).size ≤ 512 := by omega
    clear hs
    by_cases hlt : k < d
    · go_wp2
      go_round
      case rel => exact ⟨k + 1, by omega, by go_num, rfl⟩
      case measure => simp [intOf]; omega
    · go_wp2
      go_ret
      obtain rfl : k = d := by omega
      exact ⟨rfl, rfl⟩

theorem str_basic (n : Nat) (name : ByteArray) (w : World) (h : w.cell? ⟨n, 2, none⟩ = some (.string name)) :
    Calls Try.prog 35 #[.pointer (some ⟨n, 0, none⟩)] w fun e w' => e = .returned (.string name) ∧ w = w' := by
  go_enter Try.func35, Try.ntmps35
  go_wp2
  go_ret
  exact ⟨rfl, rfl⟩

theorem elem_any (b : Nat) (v : Value) (w : World) (h : w.cell? ⟨b, 0, none⟩ = some v) :
    Calls Try.prog 12 #[.pointer (some ⟨b, 0, none⟩)] w fun e w' => e = .returned v ∧ w = w' := by
  go_enter Try.func12, Try.ntmps12
  go_wp2
  go_ret
  exact ⟨rfl, rfl⟩

theorem assert26 (W : World) (v : Value) : (Instr.typeAssert (.iface 26 v) 33 26 true).run Try.prog W = .ok (.tuple #[v, .bool true]) W := by kernel_rfl
theorem assert24 (W : World) (v : Value) : (Instr.typeAssert (.iface 24 v) 33 24 true).run Try.prog W = .ok (.tuple #[v, .bool true]) W := by kernel_rfl

theorem info42 : (Try.prog.info? 42).isSome = true := by kernel_rfl
theorem eql24 (W : World) (a : Addr) : (binOp .eql 24 (.pointer (some a)) (.pointer (some a))).run Try.prog W = .ok (.bool true) W := by
  obtain ⟨j, hj⟩ := Option.isSome_iff_exists.1 info42
  exact run_eql_ptr_same W a Try.underlying24 hj

theorem asSlice_any (p : Option Addr) (w : World) :
    Calls Try.prog 11 #[.iface 26 (.pointer p)] w fun e w' => e = .returned (.pointer p) ∧ w = w' := by
  have ha := assert26
  go_enter Try.func11, Try.ntmps11
  go_wp2
  go_ret
  exact ⟨rfl, rfl⟩

theorem asBasic_any (p : Option Addr) (w : World) :
    Calls Try.prog 13 #[.iface 24 (.pointer p)] w fun e w' => e = .returned (.pointer p) ∧ w = w' := by
  have ha := assert24
  go_enter Try.func13, Try.ntmps13
  go_wp2
  go_ret
  exact ⟨rfl, rfl⟩

set_option maxHeartbeats 400000 in
theorem str_slice (n : Nat) (name : ByteArray) (w : World) (d : Nat) (hd : d ≤ 256) (hn : name.size ≤ 65536)
    (h0 : w.cell? ⟨n, 2, none⟩ = some (.string name)) (h1 : w.cell? ⟨n + 1, 0, none⟩ = some (.iface 24 (.pointer (some ⟨n, 0, none⟩))))
    (hc : ∀ j, 1 ≤ j → j < d → w.cell? ⟨n + (j + 1), 0, none⟩ = some (.iface 26 (.pointer (some ⟨n + j, 0, none⟩)))) :
    ∀ j : Nat, j < d → Calls Try.prog 9 #[.pointer (some ⟨n + (j + 1), 0, none⟩)] w fun e w' => e = .returned (.string (tail name (j + 1))) ∧ w = w' := by
  intro j
  induction j with
  | zero =>
    intro hj
    clear hc
    go_enter Try.func9, Try.ntmps9
    go_wp2_with (go_at_call 35; refine (str_basic n name _ h0).mono ?_; rintro e w' ⟨rfl, rfl⟩)
    go_ret
    exact ⟨rfl, rfl⟩
  | succ j ih =>
    intro hj
    have hcj := hc (j + 1) (by omega) hj
    have hts := tail_size name (j + 1)
    have hts' : (tail name (j + 1)).size ≤ 100000 := by omega
    have IH : Hid (Calls Try.prog 9 #[.pointer (some ⟨n + (j + 1), 0, none⟩)] w fun e w' => e = .returned (.string (tail name (j + 1))) ∧ w = w') := ih (by omega)
    clear ih hc hts h0 h1
    go_enter Try.func9, Try.ntmps9
    go_wp2_with (go_at_call 9; refine IH.out.mono ?_; rintro e w' ⟨rfl, rfl⟩)
    go_ret
    exact ⟨rfl, rfl⟩

theorem newSlice_any (b : Nat) (w : World) :
    Calls Try.prog 8 #[.pointer (some ⟨b, 0, none⟩)] w fun e w' => e = .returned (.pointer (some ⟨w.heap.size, 0, none⟩)) ∧ w' = w.alloc (.cells #[.iface 26 (.pointer (some ⟨b, 0, none⟩))] 44) := by
  go_enter Try.func8, Try.ntmps8
  go_wp2
  go_ret
  exact ⟨rfl, rfl⟩

theorem newBasic_any (a0 a1 : Int) (a2 : ByteArray) (a3 : Int) (w : World) :
    Calls Try.prog 6 #[.int .u8 a0, .int .u16 a1, .string a2, .int .i64 a3] w fun e w' => e = .returned (.pointer (some ⟨w.heap.size, 0, none⟩)) ∧ w' = w.alloc (.cells #[.int .u8 a0, .int .u16 a1, .string a2, .int .i64 a3] 42) := by
  go_enter Try.func6, Try.ntmps6
  go_wp2
  go_ret
  exact ⟨rfl, rfl⟩

theorem newSliceB_any (b : Nat) (w : World) :
    Calls Try.prog 7 #[.pointer (some ⟨b, 0, none⟩)] w fun e w' => e = .returned (.pointer (some ⟨w.heap.size, 0, none⟩)) ∧ w' = w.alloc (.cells #[.iface 24 (.pointer (some ⟨b, 0, none⟩))] 44) := by
  go_enter Try.func7, Try.ntmps7
  go_wp2
  go_ret
  exact ⟨rfl, rfl⟩

theorem bytes_any (a0 a1 : Int) (a2 : ByteArray) (a3 a4 : Int) (h2 : a2.size ≤ 65536) (w : World) :
    Calls Try.prog 5 #[.int .u8 a0, .int .u16 a1, .string a2, .int .i64 a3, .int .i64 a4] w fun e w' => e = .returned (.bool true) ∧ w = w' := by
  have h : ¬ (1048576 : Int) < a2.size := by omega
  go_enter Try.func5, Try.ntmps5
  go_wp2
  go_ret
  exact ⟨rfl, rfl⟩

/-! ### WHAT LIES IN MEMORY BEHIND k SLICES -/
def Chain (n k : Nat) (name : ByteArray) (w W : World) : Prop :=
  W.heap.size = n + k + 1 ∧ W.cell? ⟨n, 2, none⟩ = some (.string name) ∧ W.cell? ⟨n + 1, 0, none⟩ = some (.iface 24 (.pointer (some ⟨n, 0, none⟩))) ∧
  (∀ j, 1 ≤ j → j < k → W.cell? ⟨n + (j + 1), 0, none⟩ = some (.iface 26 (.pointer (some ⟨n + j, 0, none⟩)))) ∧ Grown w W

theorem Chain.push {n k : Nat} {name : ByteArray} {w W : World} (h : Chain n k name w W) (hk : 1 ≤ k) :
    Chain n (k + 1) name w (W.alloc (.cells #[.iface 26 (.pointer (some ⟨n + k, 0, none⟩))] 44)) := by
  obtain ⟨hs, h0, h1, hc, hg⟩ := h
  refine ⟨by rw [World.size_alloc]; omega, ?_, ?_, ?_, hg.alloc _ _⟩
  · rw [World.cell?_alloc_past _ _ _ (by omega)]; exact h0
  · rw [World.cell?_alloc_past _ _ _ (by omega)]; exact h1
  · intro j hj hlt
    by_cases e : j = k
    · subst e
      rw [World.cell?_alloc_at _ _ _ _ (by omega)]; rfl
    · rw [World.cell?_alloc_past _ _ _ (by omega)]; exact hc j hj (by omega)

theorem chain_one (name : ByteArray) (a b c : Value) (w : World) :
    Chain w.heap.size 1 name w ((w.alloc (.cells #[a, b, .string name, c] 42)).alloc (.cells #[.iface 24 (.pointer (some ⟨w.heap.size, 0, none⟩))] 44)) := by
  refine ⟨by simp, ?_, ?_, fun j h1 h2 => by omega, ((Grown.refl _).alloc _ _).alloc _ _⟩
  · rw [World.cell?_alloc_past _ _ _ (by simp), World.cell?_alloc_at _ _ _ _ rfl]; rfl
  · rw [World.cell?_alloc_at _ _ _ _ (by simp)]; rfl
end Go.Proofs.Qxb6615697a.nests
