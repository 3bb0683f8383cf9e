import Derived.Test.Qxb6609152aFmtFacts
namespace Go.Proofs.Qxb6609152aFmt.trip
open Go.RowKit Go.Extern.Stop Go.Stop Go.Extern facts

/-- lowerHexValue, at a hexadecimal digit. -/
theorem value_any (d : Nat) (hd : d < 16) (c : Int) (hc : c = ((hex.dig d).toNat : Int)) (w : World) :
    Calls Tryf.prog 13 #[.int .u8 c] w fun e w' => e = .returned (.tuple #[.int .u64 d, .bool true]) ∧ w = w' := by
  have hb : ∀ d : Fin 16, (hex.dig d.val).toNat = if d.val < 10 then 48 + d.val else 87 + d.val := by decide +kernel
  have hb' := hb ⟨d, hd⟩
  simp only at hb'
  by_cases h : d < 10
  · rw [if_pos h] at hb'
    obtain rfl : c = 48 + (d : Int) := by omega
    clear hb hb' hc
    go_enter Tryf.func13, Tryf.ntmps13
    go_wp2
    go_ret2
    exact ⟨by simp; omega, rfl⟩
  · rw [if_neg h] at hb'
    obtain rfl : c = 87 + (d : Int) := by omega
    have h1 : ¬ (87 + (d : Int) ≤ 57) := by omega
    clear hb hb' hc
    go_enter Tryf.func13, Tryf.ntmps13
    go_wp2
    go_ret2
    exact ⟨by simp; omega, rfl⟩

/-- What has been read behind k digits; the digit at place k. -/
def pre (n : Int) (k : Nat) : Nat := n.toNat / 16 ^ (16 - k)
def dgt (n : Int) (k : Nat) : Nat := n.toNat / 16 ^ (15 - k) % 16
theorem dgt_lt (n : Int) (k : Nat) : dgt n k < 16 := Nat.mod_lt _ (by decide)
theorem pre_zero (n : Int) (h1 : n ≤ 18446744073709551615) : pre n 0 = 0 := by unfold pre; exact Nat.div_eq_of_lt (by omega)
theorem pre_last (n : Int) : pre n 16 = n.toNat := by unfold pre; simp
theorem pre_succ (n : Int) (k : Nat) (hk : k < 16) : pre n (k + 1) = 16 * pre n k + dgt n k := by
  unfold pre dgt
  rw [show 16 - k = (15 - k) + 1 from by omega, show 16 - (k + 1) = 15 - k from by omega, Nat.pow_succ, ← Nat.div_div_eq_div_mul]
  omega
theorem pre_le (n : Int) (h1 : n ≤ 18446744073709551615) (k : Nat) (hk : k < 16) : pre n k ≤ 1152921504606846975 := by
  unfold pre
  have : n.toNat / 16 ^ (16 - k) ≤ n.toNat / 16 ^ 1 := Nat.div_le_div_left (Nat.pow_le_pow_right (by decide) (by omega)) (by decide)
  omega
theorem or_step (p d : Nat) (hp : p ≤ 1152921504606846975) (hd : d < 16) : bits .or .u64 ((p : Int) * 16) (d : Int) = ((16 * p + d : Nat) : Int) := by
  have e : ((p : Int) * 16) = ((p * 16 : Nat) : Int) := by omega
  have h := Nat.shiftLeft_add_eq_or_of_lt (show d < 2 ^ 4 by omega) p
  rw [Nat.shiftLeft_eq] at h
  rw [e, u64_or_nat _ _ (by omega) (by omega), show p * 16 = p * 2 ^ 4 from rfl, ← h]
  omega
theorem mk_get (l : List UInt8) (V : ByteArray) (hV : V = ⟨l.toArray⟩) (k : Nat) (h : k < V.size) (h' : k < l.length) : V[k] = l[k] := by
  subst hV
  rfl
theorem ver_get (n : Int) (k : Nat) (h : k < (ver n).size) : (ver n)[k] = hex.dig (dgt n k) := by
  have hk : k < 16 := by rw [ver_size] at h; exact h
  rw [mk_get (hex.hexw 16 n.toNat) (ver n) rfl k h (by rw [hex.hexw_length]; exact hk), hex.hexw_get]
  unfold dgt
  rw [show 16 - 1 - k = 15 - k from by omega]

set_option maxHeartbeats 800000 in
theorem core (n : Int) (V : ByteArray) (h0 : 0 ≤ n) (h1 : n ≤ 18446744073709551615) (hs : V.size = 16) (hget : Hid (∀ (k : Nat) (h : k < V.size), V[k] = hex.dig (dgt n k))) (w : World)
    (HV : Hid (Calls Tryf.prog 9 #[.int .u64 n] w fun e w' => e = .returned (.string V) ∧ Below w.heap.size w w')) :
    Calls Tryf.prog 5 #[.int .u64 n] w fun e w' => e = .returned (.bool true) ∧ Below w.heap.size w w' := by
  go_enter Tryf.func5, Tryf.ntmps5
  go_wp2_with fail
  refine HV.out.mono ?_
  rintro e w1 ⟨rfl, hw1⟩
  clear HV
  go_wp2_with fail
  go_loop [4, 5] (fun m i => ∃ k : Nat, k ≤ 16 ∧ i = .int .i64 k ∧ m = .int .u64 (pre n k : Nat)) (fun _ i => 16 - (intOf i).toNat)
  case atStart => exact ⟨0, by omega, rfl, by rw [pre_zero n h1]; rfl⟩
  case round =>
    obtain ⟨k, hk, rfl, rfl⟩ := hrel
    by_cases hlt : k < 16
    · have hp := pre_le n h1 k hlt
      have hd := dgt_lt n k
      have hg := hget.out k (by omega)
      go_wp2_with fail
      refine (value_any (dgt n k) hd _ rfl _).mono ?_
      rintro e w' ⟨rfl, rfl⟩
      go_wp2_with fail
      go_round
      case rel => exact ⟨k + 1, by omega, by go_num, by rw [or_step _ _ hp hd, pre_succ n k hlt]⟩
      case measure => simp [intOf]; omega
    · obtain rfl : k = 16 := by omega
      have hl : ((pre n 16 : Int) == n) = true := by rw [pre_last]; simp; omega
      go_wp2_with fail
      go_ret
      exact ⟨rfl, hw1⟩

theorem walk (F : Interp) (n : Int) (wn : (Lit.int .u64 n).wf = true) (w : World) (hF : F.told.answers w.tape) :
    Calls Tryf.prog 5 #[.int .u64 n] w fun e w' => e = .returned (.bool true) ∧ Below w.heap.size w w' := by
  obtain ⟨h0, h1⟩ := u64_bounds wn
  exact core n (ver n) h0 h1 (ver_size n) (ver_get n) w (version_told F n wn w hF)
end Go.Proofs.Qxb6609152aFmt.trip
