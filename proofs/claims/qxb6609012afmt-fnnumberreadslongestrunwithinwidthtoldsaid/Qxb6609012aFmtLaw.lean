import Derived.Test.Qxb6609012aFmtLawA
import Derived.Test.Qxb6609012aFmtLawB
namespace Go.Proofs.Qxb6609012aFmt.law
open Go.RowKit Go.Extern.Stop Go.Stop Go.Extern plain leaf numb

theorem exists_run (s : ByteArray) : ∀ (m i : Nat), i + m = s.size → ∃ R, Run s i R
  | 0, i, h => ⟨0, by omega, fun j hj => by omega, by rw [Nat.add_zero, chr_end s i (by omega)]; decide⟩
  | m + 1, i, h => by
    cases hd : isD (chr s i) with
    | false => exact ⟨0, by omega, fun j hj => by omega, by rw [Nat.add_zero]; exact hd⟩
    | true =>
      obtain ⟨R, h1, h2, h3⟩ := exists_run s m (i + 1) (by omega)
      refine ⟨R + 1, by omega, fun j hj => ?_, by rw [show i + (R + 1) = i + 1 + R from by omega]; exact h3⟩
      rcases j with _ | j
      · exact hd
      · rw [show i + (j + 1) = i + 1 + j from by omega]; exact h2 j (by omega)

/-- THE LAW, where the function looks at all. -/
theorem inside (F : Interp) (s what : ByteArray) (i : Nat) (lo hi : Int) (hsw : s.size + what.size ≤ 1048576) (hi0 : i ≤ s.size) (h0 : -99999999 ≤ hi) (h1 : hi ≤ 999999999) (w : World) (hF : F.answers w.tape) (ht : Tab w) :
    Calls Tryf.prog 3 #[.string s, .int .i64 (i : Int), .string what, .int .i64 lo, .int .i64 hi] w fun e w' => e = .returned (.bool true) ∧ Below w.heap.size w w' := by
  obtain ⟨R, hr⟩ := exists_run s (s.size - i) i (by omega)
  have h2 := tab_pos ht
  have hI := made_inv s i w ht
  by_cases c0 : R = 0
  · exact law_zero s what i R lo hi h0 h1 hr hsw (show R ≤ 0 by omega) w (zz_err s what i i lo hi w (num_zero F w.heap.size s what i R lo hi h0 h1 hr (by omega) c0 (made s i w) hF h2 hI))
  by_cases c1 : wid hi < R
  · exact law_wide s what i R lo hi h0 h1 hr hsw c1 w (zz_err s what i (i + wid hi) lo hi w (num_wide F w.heap.size s what i R lo hi h0 h1 hr (by omega) c1 (made s i w) hF h2 hI))
  have hin := num_in F w.heap.size s what i R lo hi h0 h1 hr (by omega) (by omega) (by omega) (made s i w) hF h2 hI
  by_cases c2 : (val s i R : Int) < lo ∨ hi < (val s i R : Int)
  · exact law_out s what i R lo hi h0 h1 hr hsw (by omega) (by omega) c2 w (zz_err s what i (i + R) lo hi w (hin.mono fun e w' h => ⟨h.1 c2, h.2.2⟩))
  · exact law_ok s what i R lo hi h0 h1 hr hsw (by omega) (by omega) c2 w (zz_ok s what i (i + R) lo hi _ w (hin.mono fun e w' h => ⟨h.2.1 c2, h.2.2⟩))

set_option maxHeartbeats 1600000 in
set_option maxRecDepth 100000 in
theorem walk (F : Interp) (s : ByteArray) (i : Int) (what : ByteArray) (lo hi : Int) (hs : s.size ≤ maxLen) (hw : what.size ≤ maxLen) (w : World) (hF : F.answers w.tape) (ht : Tab w) :
    Calls Tryf.prog 3 #[.string s, .int .i64 i, .string what, .int .i64 lo, .int .i64 hi] w fun e w' => e = .returned (.bool true) ∧ Below w.heap.size w w' := by
  unfold maxLen at hs hw
  by_cases h1 : 1048576 < s.size + what.size
  · clear hF ht
    go_enter Tryf.func3, Tryf.ntmps3
    go_wp2_with (go_at_call 5; refine (bytes_no s what _ _ _ (by omega) (by omega) h1 _).mono ?_; rintro e w' ⟨rfl, rfl⟩)
    go_ret
    exact ⟨rfl, Below.refl _ _⟩
  have z1 : decide ((1048576 : Int) < (s.size : Int)) = false := by simp; omega
  have z2 : decide ((1048576 : Int) < (what.size : Int)) = false := by simp; omega
  have z3 : decide ((1048576 : Int) < (s.size : Int) + (what.size : Int)) = false := by simp; omega
  by_cases h2 : i < 0
  · have z4 : decide (i < 0) = true := by simp; omega
    clear hF ht
    go_enter Tryf.func3, Tryf.ntmps3
    go_wp2_with (go_at_call 5; refine (bytes_any s what _ _ _ (by omega) _).mono ?_; rintro e w' ⟨rfl, rfl⟩)
    go_ret
    exact ⟨rfl, Below.refl _ _⟩
  have z4 : decide (i < 0) = false := by simp; omega
  by_cases h3 : (s.size : Int) < i
  · have z5 : decide ((s.size : Int) < i) = true := by simp; omega
    clear hF ht
    go_enter Tryf.func3, Tryf.ntmps3
    go_wp2_with (go_at_call 5; refine (bytes_any s what _ _ _ (by omega) _).mono ?_; rintro e w' ⟨rfl, rfl⟩)
    go_ret
    exact ⟨rfl, Below.refl _ _⟩
  have z5 : decide ((s.size : Int) < i) = false := by simp; omega
  by_cases h4 : hi < -99999999
  · have z6 : decide (hi < -99999999) = true := by simp; omega
    clear hF ht
    go_enter Tryf.func3, Tryf.ntmps3
    go_wp2_with (go_at_call 5; refine (bytes_any s what _ _ _ (by omega) _).mono ?_; rintro e w' ⟨rfl, rfl⟩)
    go_ret
    exact ⟨rfl, Below.refl _ _⟩
  have z6 : decide (hi < -99999999) = false := by simp; omega
  by_cases h5 : 999999999 < hi
  · have z7 : decide ((999999999 : Int) < hi) = true := by simp; omega
    clear hF ht
    go_enter Tryf.func3, Tryf.ntmps3
    go_wp2_with (go_at_call 5; refine (bytes_any s what _ _ _ (by omega) _).mono ?_; rintro e w' ⟨rfl, rfl⟩)
    go_ret
    exact ⟨rfl, Below.refl _ _⟩
  obtain ⟨k, rfl⟩ := Int.eq_ofNat_of_zero_le (show 0 ≤ i by omega)
  exact inside F s what k lo hi (by omega) (by omega) (by omega) (by omega) w hF ht
end Go.Proofs.Qxb6609012aFmt.law
