import Derived.Test.Qxb6609012aFmtWide
import Derived.Test.Qxb6609012aFmtZero
import Derived.Test.Qxb6609012aFmtIn
namespace Go.Proofs.Qxb6609012aFmt.numb
open Go.RowKit Go.Extern.Stop Go.Stop Go.Extern plain leaf

/-- The parser as ZZNumber makes it. -/
abbrev made (s : ByteArray) (i : Nat) (w : World) : World := w.alloc (.cells #[.string s, .int .i64 (i : Int)] 31)
theorem made_inv (s : ByteArray) (i : Nat) (w : World) (ht : Tab w) : Inv w.heap.size s i (made s i w) (made s i w) := by
  have h2 := tab_pos ht
  refine ⟨by simp, ?_, ?_, World.frozen?_alloc_at _ _ _ _ rfl, ht.below ((Below.refl w.heap.size w).alloc (Nat.le_refl _) _) h2, Below.refl _ _⟩
  · rw [World.cell?_alloc_at _ _ _ _ rfl]; rfl
  · rw [World.cell?_alloc_at _ _ _ _ rfl]; rfl

set_option maxHeartbeats 800000 in
theorem zz_err (s what : ByteArray) (i M : Nat) (lo hi : Int) (w : World)
    (HC : Hid (Calls Tryf.prog 10 #[.pointer (some ⟨w.heap.size, 0, none⟩), .string what, .int .i64 lo, .int .i64 hi] (made s i w) fun e w' =>
      (∃ p, e = .returned (.tuple #[.int .i64 0, .iface 46 (.pointer (some p))])) ∧ Inv w.heap.size s M (made s i w) w')) :
    Calls Tryf.prog 7 #[.string s, .int .i64 (i : Int), .string what, .int .i64 lo, .int .i64 hi] w fun e w' =>
      e = .returned (.tuple #[.int .i64 0, .bool true, .int .i64 (M : Int)]) ∧ Below w.heap.size w w' := by
  go_enter Tryf.func7, Tryf.ntmps7
  go_wp2_with fail
  refine HC.out.mono ?_
  rintro e w1 ⟨⟨p, rfl⟩, hI⟩
  have HI : Hid (Inv w.heap.size s M (made s i w) w1) := hI
  obtain ⟨k0, k1, k2, k3, k4, k5⟩ := hI
  have HB : Hid (Below w.heap.size w w1) := ((Below.refl w.heap.size w).alloc (Nat.le_refl _) _).trans k5
  clear k3 k4 k5 k1 HC
  go_wp2_with fail
  go_quiet (fail)
  go_wp2
  go_ret3
  exact ⟨rfl, below_drewN HB.out _⟩

set_option maxHeartbeats 800000 in
theorem zz_ok (s what : ByteArray) (i M : Nat) (lo hi v : Int) (w : World)
    (HC : Hid (Calls Tryf.prog 10 #[.pointer (some ⟨w.heap.size, 0, none⟩), .string what, .int .i64 lo, .int .i64 hi] (made s i w) fun e w' =>
      e = .returned (.tuple #[.int .i64 v, .nilIface]) ∧ Inv w.heap.size s M (made s i w) w')) :
    Calls Tryf.prog 7 #[.string s, .int .i64 (i : Int), .string what, .int .i64 lo, .int .i64 hi] w fun e w' =>
      e = .returned (.tuple #[.int .i64 v, .bool false, .int .i64 (M : Int)]) ∧ Below w.heap.size w w' := by
  go_enter Tryf.func7, Tryf.ntmps7
  go_wp2_with fail
  refine HC.out.mono ?_
  rintro e w1 ⟨rfl, hI⟩
  have HI : Hid (Inv w.heap.size s M (made s i w) w1) := hI
  obtain ⟨k0, k1, k2, k3, k4, k5⟩ := hI
  have HB : Hid (Below w.heap.size w w1) := ((Below.refl w.heap.size w).alloc (Nat.le_refl _) _).trans k5
  clear k3 k4 k5 k1 HC
  go_wp2_with fail
  go_quiet (fail)
  go_wp2
  go_ret3
  exact ⟨rfl, below_drewN HB.out _⟩
end Go.Proofs.Qxb6609012aFmt.numb
