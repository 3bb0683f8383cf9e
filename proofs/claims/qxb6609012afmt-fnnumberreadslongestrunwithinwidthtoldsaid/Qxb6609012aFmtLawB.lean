import Derived.Test.Qxb6609012aFmtZz
namespace Go.Proofs.Qxb6609012aFmt.law
open Go.RowKit Go.Extern.Stop Go.Stop Go.Extern plain leaf numb

set_option maxHeartbeats 3200000 in
theorem law_out (s what : ByteArray) (i R : Nat) (lo hi : Int) (h0 : -99999999 ≤ hi) (h1 : hi ≤ 999999999) (hr : Run s i R) (hsw : s.size + what.size ≤ 1048576) (hR1 : 1 ≤ R) (hRW : R ≤ wid hi) (hv : (val s i R : Int) < lo ∨ hi < (val s i R : Int))
    (w : World) (HZ : Hid (Calls Tryf.prog 7 #[.string s, .int .i64 (i : Int), .string what, .int .i64 lo, .int .i64 hi] w fun e w' => e = .returned (.tuple #[.int .i64 0, .bool true, .int .i64 ((i + R : Nat) : Int)]) ∧ Below w.heap.size w w')) :
    Calls Tryf.prog 3 #[.string s, .int .i64 (i : Int), .string what, .int .i64 lo, .int .i64 hi] w fun e w' => e = .returned (.bool true) ∧ Below w.heap.size w w' := by
  have hs : s.size ≤ 1048576 := by omega
  have hwh : what.size ≤ 1048576 := by omega
  obtain ⟨hR, hd, hend⟩ := hr
  have hwb := wid_bounds hi h0 h1
  have HD : Hid (∀ j, j < R → isD (chr s (i + j)) = true) := hd
  have HN : Hid (isD (chr s (i + R)) = false) := hend
  have z1 : decide ((1048576 : Int) < (s.size : Int)) = false := by simp; omega
  have z2 : decide ((1048576 : Int) < (what.size : Int)) = false := by simp; omega
  have z3 : decide ((1048576 : Int) < (s.size : Int) + (what.size : Int)) = false := by simp; omega
  have z4 : decide ((i : Int) < 0) = false := by simp
  have z5 : decide ((s.size : Int) < (i : Int)) = false := by simp; omega
  have z5' : decide (s.size < i) = false := by simp; omega
  have z6 : decide (hi < -99999999) = false := by simp; omega
  have z7 : decide ((999999999 : Int) < hi) = false := by simp; omega
  clear hd hend
  go_enter Tryf.func3, Tryf.ntmps3
  go_wp2_with (first
    | (go_at_call 5; refine (bytes_any s what _ _ _ hsw _).mono ?_; rintro e w' ⟨rfl, rfl⟩)
    | (go_at_call 6; refine (decLen_any hi h0 h1 _).mono ?_; rintro e w' ⟨rfl, rfl⟩))
  clear z1 z2 z3 z4 z5 z5' z6 z7
  go_loop [12] (fun x => ∃ r : Nat, r ≤ R ∧ x = .int .i64 (r : Int)) (fun x => R - (intOf x).toNat)
  case atStart => exact ⟨0, Nat.zero_le _, rfl⟩
  case round =>
    obtain ⟨r, hrR, rfl⟩ := hrel
    by_cases hlt : r < R
    · have hps : i + r < s.size := by omega
      have hpi : (i : Int) + (r : Int) < (s.size : Int) := by omega
      have hg := chr_at s (i + r) hps
      obtain ⟨b1, b2⟩ := isD_true (HD.out r hlt)
      have y1 : decide (48 ≤ ((chr s (i + r)).toNat : Int)) = true := by simp; omega
      have y2 : decide (((chr s (i + r)).toNat : Int) ≤ 57) = true := by simp; omega
      go_wp2_with fail
      go_round
      case rel => exact ⟨r + 1, by omega, by go_num⟩
      case measure => simp [intOf]; omega
    obtain rfl : r = R := by omega
    by_cases hle : s.size ≤ i + r
    · have y0 : decide ((i : Int) + (r : Int) < (s.size : Int)) = false := by simp; omega
      have y0' : decide (i + r < s.size) = false := by simp; omega
      have g0 : ((r : Int) == 0) = false := by rw [beq_eq_false_iff_ne]; omega
      have g1 : decide ((wid hi : Int) < (r : Int)) = false := by simp; omega
      have g1' : decide (wid hi < r) = false := by simp; omega
      go_wp2_with (go_at_call 7; refine HZ.out.mono ?_; rintro e w1 ⟨rfl, hb1⟩)
      go_loop [16, 17] (fun x y => ∃ k : Nat, k ≤ r ∧ x = .int .i64 (val s i k : Int) ∧ y = .int .i64 (k : Int)) (fun _ y => r - (intOf y).toNat)
      case atStart => exact ⟨0, Nat.zero_le _, rfl, rfl⟩
      case round =>
        obtain ⟨k, hk, rfl, rfl⟩ := hrel
        by_cases hkr : k < r
        · have hvk : val s i k ≤ 999999999 := by
            have := val_lt s i k (fun j hj => HD.out j (by omega))
            have := Nat.pow_le_pow_right (show 0 < 10 by decide) (show k ≤ 9 by omega)
            omega
          have hps2 : i + k < s.size := by omega
          have hpi2 : (i : Int) + (k : Int) < (s.size : Int) := by omega
          have hg2 := chr_at s (i + k) hps2
          obtain ⟨b1, b2⟩ := isD_true (HD.out k hkr)
          go_wp2_with fail
          go_round
          case rel => exact ⟨k + 1, by omega, by rw [val]; go_num, by go_num⟩
          case measure => simp [intOf]; omega
        · obtain rfl : k = r := by omega
          by_cases cv : (val s i k : Int) < lo
          · have t1 : decide ((val s i k : Int) < lo) = true := by simp; omega
            go_wp2_with fail
            go_ret
            exact ⟨rfl, hb1⟩
          have t1 : decide ((val s i k : Int) < lo) = false := by simp; omega
          have t2 : decide (hi < (val s i k : Int)) = true := by simp; omega
          go_wp2_with fail
          go_ret
          exact ⟨rfl, hb1⟩
    have hps : i + r < s.size := by omega
    have hpi : (i : Int) + (r : Int) < (s.size : Int) := by omega
    have hg := chr_at s (i + r) hps
    by_cases hc : (chr s (i + r)).toNat < 48
    · have y1 : decide (48 ≤ ((chr s (i + r)).toNat : Int)) = false := by simp; omega
      have g0 : ((r : Int) == 0) = false := by rw [beq_eq_false_iff_ne]; omega
      have g1 : decide ((wid hi : Int) < (r : Int)) = false := by simp; omega
      have g1' : decide (wid hi < r) = false := by simp; omega
      go_wp2_with (go_at_call 7; refine HZ.out.mono ?_; rintro e w1 ⟨rfl, hb1⟩)
      go_loop [16, 17] (fun x y => ∃ k : Nat, k ≤ r ∧ x = .int .i64 (val s i k : Int) ∧ y = .int .i64 (k : Int)) (fun _ y => r - (intOf y).toNat)
      case atStart => exact ⟨0, Nat.zero_le _, rfl, rfl⟩
      case round =>
        obtain ⟨k, hk, rfl, rfl⟩ := hrel
        by_cases hkr : k < r
        · have hvk : val s i k ≤ 999999999 := by
            have := val_lt s i k (fun j hj => HD.out j (by omega))
            have := Nat.pow_le_pow_right (show 0 < 10 by decide) (show k ≤ 9 by omega)
            omega
          have hps2 : i + k < s.size := by omega
          have hpi2 : (i : Int) + (k : Int) < (s.size : Int) := by omega
          have hg2 := chr_at s (i + k) hps2
          obtain ⟨b1, b2⟩ := isD_true (HD.out k hkr)
          go_wp2_with fail
          go_round
          case rel => exact ⟨k + 1, by omega, by rw [val]; go_num, by go_num⟩
          case measure => simp [intOf]; omega
        · obtain rfl : k = r := by omega
          by_cases cv : (val s i k : Int) < lo
          · have t1 : decide ((val s i k : Int) < lo) = true := by simp; omega
            go_wp2_with fail
            go_ret
            exact ⟨rfl, hb1⟩
          have t1 : decide ((val s i k : Int) < lo) = false := by simp; omega
          have t2 : decide (hi < (val s i k : Int)) = true := by simp; omega
          go_wp2_with fail
          go_ret
          exact ⟨rfl, hb1⟩
    have hc2 : 57 < (chr s (i + r)).toNat := by have := isD_false HN.out; omega
    have y1 : decide (48 ≤ ((chr s (i + r)).toNat : Int)) = true := by simp; omega
    have y2 : decide (((chr s (i + r)).toNat : Int) ≤ 57) = false := by simp; omega
    have g0 : ((r : Int) == 0) = false := by rw [beq_eq_false_iff_ne]; omega
    have g1 : decide ((wid hi : Int) < (r : Int)) = false := by simp; omega
    have g1' : decide (wid hi < r) = false := by simp; omega
    go_wp2_with (go_at_call 7; refine HZ.out.mono ?_; rintro e w1 ⟨rfl, hb1⟩)
    go_loop [16, 17] (fun x y => ∃ k : Nat, k ≤ r ∧ x = .int .i64 (val s i k : Int) ∧ y = .int .i64 (k : Int)) (fun _ y => r - (intOf y).toNat)
    case atStart => exact ⟨0, Nat.zero_le _, rfl, rfl⟩
    case round =>
      obtain ⟨k, hk, rfl, rfl⟩ := hrel
      by_cases hkr : k < r
      · have hvk : val s i k ≤ 999999999 := by
          have := val_lt s i k (fun j hj => HD.out j (by omega))
          have := Nat.pow_le_pow_right (show 0 < 10 by decide) (show k ≤ 9 by omega)
          omega
        have hps2 : i + k < s.size := by omega
        have hpi2 : (i : Int) + (k : Int) < (s.size : Int) := by omega
        have hg2 := chr_at s (i + k) hps2
        obtain ⟨b1, b2⟩ := isD_true (HD.out k hkr)
        go_wp2_with fail
        go_round
        case rel => exact ⟨k + 1, by omega, by rw [val]; go_num, by go_num⟩
        case measure => simp [intOf]; omega
      · obtain rfl : k = r := by omega
        by_cases cv : (val s i k : Int) < lo
        · have t1 : decide ((val s i k : Int) < lo) = true := by simp; omega
          go_wp2_with fail
          go_ret
          exact ⟨rfl, hb1⟩
        have t1 : decide ((val s i k : Int) < lo) = false := by simp; omega
        have t2 : decide (hi < (val s i k : Int)) = true := by simp; omega
        go_wp2_with fail
        go_ret
        exact ⟨rfl, hb1⟩

set_option maxHeartbeats 3200000 in
theorem law_ok (s what : ByteArray) (i R : Nat) (lo hi : Int) (h0 : -99999999 ≤ hi) (h1 : hi ≤ 999999999) (hr : Run s i R) (hsw : s.size + what.size ≤ 1048576) (hR1 : 1 ≤ R) (hRW : R ≤ wid hi) (hv : ¬ ((val s i R : Int) < lo ∨ hi < (val s i R : Int)))
    (w : World) (HZ : Hid (Calls Tryf.prog 7 #[.string s, .int .i64 (i : Int), .string what, .int .i64 lo, .int .i64 hi] w fun e w' => e = .returned (.tuple #[.int .i64 (val s i R : Int), .bool false, .int .i64 ((i + R : Nat) : Int)]) ∧ Below w.heap.size w w')) :
    Calls Tryf.prog 3 #[.string s, .int .i64 (i : Int), .string what, .int .i64 lo, .int .i64 hi] w fun e w' => e = .returned (.bool true) ∧ Below w.heap.size w w' := by
  have hs : s.size ≤ 1048576 := by omega
  have hwh : what.size ≤ 1048576 := by omega
  obtain ⟨hR, hd, hend⟩ := hr
  have hwb := wid_bounds hi h0 h1
  have HD : Hid (∀ j, j < R → isD (chr s (i + j)) = true) := hd
  have HN : Hid (isD (chr s (i + R)) = false) := hend
  have z1 : decide ((1048576 : Int) < (s.size : Int)) = false := by simp; omega
  have z2 : decide ((1048576 : Int) < (what.size : Int)) = false := by simp; omega
  have z3 : decide ((1048576 : Int) < (s.size : Int) + (what.size : Int)) = false := by simp; omega
  have z4 : decide ((i : Int) < 0) = false := by simp
  have z5 : decide ((s.size : Int) < (i : Int)) = false := by simp; omega
  have z5' : decide (s.size < i) = false := by simp; omega
  have z6 : decide (hi < -99999999) = false := by simp; omega
  have z7 : decide ((999999999 : Int) < hi) = false := by simp; omega
  clear hd hend
  go_enter Tryf.func3, Tryf.ntmps3
  go_wp2_with (first
    | (go_at_call 5; refine (bytes_any s what _ _ _ hsw _).mono ?_; rintro e w' ⟨rfl, rfl⟩)
    | (go_at_call 6; refine (decLen_any hi h0 h1 _).mono ?_; rintro e w' ⟨rfl, rfl⟩))
  clear z1 z2 z3 z4 z5 z5' z6 z7
  go_loop [12] (fun x => ∃ r : Nat, r ≤ R ∧ x = .int .i64 (r : Int)) (fun x => R - (intOf x).toNat)
  case atStart => exact ⟨0, Nat.zero_le _, rfl⟩
  case round =>
    obtain ⟨r, hrR, rfl⟩ := hrel
    by_cases hlt : r < R
    · have hps : i + r < s.size := by omega
      have hpi : (i : Int) + (r : Int) < (s.size : Int) := by omega
      have hg := chr_at s (i + r) hps
      obtain ⟨b1, b2⟩ := isD_true (HD.out r hlt)
      have y1 : decide (48 ≤ ((chr s (i + r)).toNat : Int)) = true := by simp; omega
      have y2 : decide (((chr s (i + r)).toNat : Int) ≤ 57) = true := by simp; omega
      go_wp2_with fail
      go_round
      case rel => exact ⟨r + 1, by omega, by go_num⟩
      case measure => simp [intOf]; omega
    obtain rfl : r = R := by omega
    by_cases hle : s.size ≤ i + r
    · have y0 : decide ((i : Int) + (r : Int) < (s.size : Int)) = false := by simp; omega
      have y0' : decide (i + r < s.size) = false := by simp; omega
      have g0 : ((r : Int) == 0) = false := by rw [beq_eq_false_iff_ne]; omega
      have g1 : decide ((wid hi : Int) < (r : Int)) = false := by simp; omega
      have g1' : decide (wid hi < r) = false := by simp; omega
      go_wp2_with (go_at_call 7; refine HZ.out.mono ?_; rintro e w1 ⟨rfl, hb1⟩)
      go_loop [16, 17] (fun x y => ∃ k : Nat, k ≤ r ∧ x = .int .i64 (val s i k : Int) ∧ y = .int .i64 (k : Int)) (fun _ y => r - (intOf y).toNat)
      case atStart => exact ⟨0, Nat.zero_le _, rfl, rfl⟩
      case round =>
        obtain ⟨k, hk, rfl, rfl⟩ := hrel
        by_cases hkr : k < r
        · have hvk : val s i k ≤ 999999999 := by
            have := val_lt s i k (fun j hj => HD.out j (by omega))
            have := Nat.pow_le_pow_right (show 0 < 10 by decide) (show k ≤ 9 by omega)
            omega
          have hps2 : i + k < s.size := by omega
          have hpi2 : (i : Int) + (k : Int) < (s.size : Int) := by omega
          have hg2 := chr_at s (i + k) hps2
          obtain ⟨b1, b2⟩ := isD_true (HD.out k hkr)
          go_wp2_with fail
          go_round
          case rel => exact ⟨k + 1, by omega, by rw [val]; go_num, by go_num⟩
          case measure => simp [intOf]; omega
        · obtain rfl : k = r := by omega
          have t1 : decide ((val s i k : Int) < lo) = false := by simp; omega
          have t2 : decide (hi < (val s i k : Int)) = false := by simp; omega
          go_wp2_with fail
          go_ret
          exact ⟨rfl, hb1⟩
    have hps : i + r < s.size := by omega
    have hpi : (i : Int) + (r : Int) < (s.size : Int) := by omega
    have hg := chr_at s (i + r) hps
    by_cases hc : (chr s (i + r)).toNat < 48
    · have y1 : decide (48 ≤ ((chr s (i + r)).toNat : Int)) = false := by simp; omega
      have g0 : ((r : Int) == 0) = false := by rw [beq_eq_false_iff_ne]; omega
      have g1 : decide ((wid hi : Int) < (r : Int)) = false := by simp; omega
      have g1' : decide (wid hi < r) = false := by simp; omega
      go_wp2_with (go_at_call 7; refine HZ.out.mono ?_; rintro e w1 ⟨rfl, hb1⟩)
      go_loop [16, 17] (fun x y => ∃ k : Nat, k ≤ r ∧ x = .int .i64 (val s i k : Int) ∧ y = .int .i64 (k : Int)) (fun _ y => r - (intOf y).toNat)
      case atStart => exact ⟨0, Nat.zero_le _, rfl, rfl⟩
      case round =>
        obtain ⟨k, hk, rfl, rfl⟩ := hrel
        by_cases hkr : k < r
        · have hvk : val s i k ≤ 999999999 := by
            have := val_lt s i k (fun j hj => HD.out j (by omega))
            have := Nat.pow_le_pow_right (show 0 < 10 by decide) (show k ≤ 9 by omega)
            omega
          have hps2 : i + k < s.size := by omega
          have hpi2 : (i : Int) + (k : Int) < (s.size : Int) := by omega
          have hg2 := chr_at s (i + k) hps2
          obtain ⟨b1, b2⟩ := isD_true (HD.out k hkr)
          go_wp2_with fail
          go_round
          case rel => exact ⟨k + 1, by omega, by rw [val]; go_num, by go_num⟩
          case measure => simp [intOf]; omega
        · obtain rfl : k = r := by omega
          have t1 : decide ((val s i k : Int) < lo) = false := by simp; omega
          have t2 : decide (hi < (val s i k : Int)) = false := by simp; omega
          go_wp2_with fail
          go_ret
          exact ⟨rfl, hb1⟩
    have hc2 : 57 < (chr s (i + r)).toNat := by have := isD_false HN.out; omega
    have y1 : decide (48 ≤ ((chr s (i + r)).toNat : Int)) = true := by simp; omega
    have y2 : decide (((chr s (i + r)).toNat : Int) ≤ 57) = false := by simp; omega
    have g0 : ((r : Int) == 0) = false := by rw [beq_eq_false_iff_ne]; omega
    have g1 : decide ((wid hi : Int) < (r : Int)) = false := by simp; omega
    have g1' : decide (wid hi < r) = false := by simp; omega
    go_wp2_with (go_at_call 7; refine HZ.out.mono ?_; rintro e w1 ⟨rfl, hb1⟩)
    go_loop [16, 17] (fun x y => ∃ k : Nat, k ≤ r ∧ x = .int .i64 (val s i k : Int) ∧ y = .int .i64 (k : Int)) (fun _ y => r - (intOf y).toNat)
    case atStart => exact ⟨0, Nat.zero_le _, rfl, rfl⟩
    case round =>
      obtain ⟨k, hk, rfl, rfl⟩ := hrel
      by_cases hkr : k < r
      · have hvk : val s i k ≤ 999999999 := by
          have := val_lt s i k (fun j hj => HD.out j (by omega))
          have := Nat.pow_le_pow_right (show 0 < 10 by decide) (show k ≤ 9 by omega)
          omega
        have hps2 : i + k < s.size := by omega
        have hpi2 : (i : Int) + (k : Int) < (s.size : Int) := by omega
        have hg2 := chr_at s (i + k) hps2
        obtain ⟨b1, b2⟩ := isD_true (HD.out k hkr)
        go_wp2_with fail
        go_round
        case rel => exact ⟨k + 1, by omega, by rw [val]; go_num, by go_num⟩
        case measure => simp [intOf]; omega
      · obtain rfl : k = r := by omega
        have t1 : decide ((val s i k : Int) < lo) = false := by simp; omega
        have t2 : decide (hi < (val s i k : Int)) = false := by simp; omega
        go_wp2_with fail
        go_ret
        exact ⟨rfl, hb1⟩

end Go.Proofs.Qxb6609012aFmt.law
