import Derived.Lib.Atoi
import Derived.Lib.ItoaMem
import Derived.Lib.ItoaLen
import Derived.Lib.Strings
namespace Go.Proofs.Qxb6609012aFmt.plain

/-! ### DIGITS AND RUNS: no Go in sight -/
/-- The byte at place k; 0 behind the end. -/
def chr (s : ByteArray) (k : Nat) : UInt8 := s.data.toList.getD k 0
def isD (c : UInt8) : Bool := decide (48 ≤ c.toNat) && decide (c.toNat ≤ 57)
theorem isD_true {c : UInt8} (h : isD c = true) : 48 ≤ c.toNat ∧ c.toNat ≤ 57 := by simpa [isD] using h
theorem isD_false {c : UInt8} (h : isD c = false) : c.toNat < 48 ∨ 57 < c.toNat := by
  by_cases h1 : 48 ≤ c.toNat
  · by_cases h2 : c.toNat ≤ 57
    · simp [isD, h1, h2] at h
    · omega
  · omega
theorem len_list (s : ByteArray) : s.data.toList.length = s.size := Array.length_toList
theorem chr_at (s : ByteArray) (k : Nat) (h : k < s.size) : s[k] = chr s k := by
  have h' : k < s.data.toList.length := by rw [len_list]; exact h
  unfold chr
  rw [List.getD_eq_getElem?_getD, List.getElem?_eq_getElem h']
  rfl
theorem chr_end (s : ByteArray) (k : Nat) (h : s.size ≤ k) : chr s k = 0 := by
  unfold chr
  rw [List.getD_eq_getElem?_getD, List.getElem?_eq_none (by rw [len_list]; exact h)]
  rfl

/-- R is the length of the whole run of digits at place i. -/
def Run (s : ByteArray) (i R : Nat) : Prop := i + R ≤ s.size ∧ (∀ j, j < R → isD (chr s (i + j)) = true) ∧ isD (chr s (i + R)) = false

/-- The number that the k bytes at place i spell. -/
def val (s : ByteArray) (i : Nat) : Nat → Nat
  | 0 => 0
  | k + 1 => val s i k * 10 + ((chr s (i + k)).toNat - 48)

theorem val_lt (s : ByteArray) (i : Nat) : ∀ k : Nat, (∀ j, j < k → isD (chr s (i + j)) = true) → val s i k < 10 ^ k
  | 0, _ => by simp [val]
  | k + 1, h => by
    have ih := val_lt s i k (fun j hj => h j (by omega))
    have hd := isD_true (h k (by omega))
    rw [val, Nat.pow_succ]
    omega

theorem dec_take (s : ByteArray) (i R : Nat) (hR : i + R ≤ s.size) (h : ∀ j, j < R → isD (chr s (i + j)) = true) :
    ∀ k : Nat, k ≤ R → Lib.decFrom 0 ((s.data.toList.drop i).take k) = some (val s i k)
  | 0, _ => by simp [Lib.decFrom, val]
  | k + 1, hk => by
    have ih := dec_take s i R hR h k (by omega)
    have hd := isD_true (h k (by omega))
    have hlt : i + k < s.data.toList.length := by rw [len_list]; omega
    have hg : (s.data.toList.drop i)[k]? = some (chr s (i + k)) := by
      rw [List.getElem?_drop, List.getElem?_eq_getElem hlt]
      unfold chr
      rw [List.getD_eq_getElem?_getD, List.getElem?_eq_getElem hlt]
      rfl
    exact Lib.decFrom_take _ k 0 _ _ _ ih hg (by unfold Lib.digitVal; rw [if_pos hd])

theorem atoi_run (s : ByteArray) (i R : Nat) (hr : Run s i R) (h1 : 1 ≤ R) : Lib.atoi (s.extract i (i + R)).data.toList = some (val s i R : Int) := by
  obtain ⟨hR, hd, _⟩ := hr
  have e : (s.extract i (i + R)).data.toList = (s.data.toList.drop i).take R := by
    rw [Lib.extract_data]
    congr 1
    omega
  have hdec := dec_take s i R hR hd R (Nat.le_refl _)
  rw [e]
  have hlen : ((s.data.toList.drop i).take R).length = R := by
    rw [List.length_take, List.length_drop, len_list]; omega
  generalize hl : (s.data.toList.drop i).take R = l at *
  cases l with
  | nil => simp at hlen; omega
  | cons b r =>
    have hb : b = chr s i := by
      have : ((s.data.toList.drop i).take R)[0]? = some b := by rw [hl]; rfl
      rw [List.getElem?_take, if_pos (by omega), List.getElem?_drop] at this
      unfold chr
      rw [List.getD_eq_getElem?_getD]
      simp only [Nat.add_zero] at this
      rw [this]; rfl
    have hb2 := isD_true (hd 0 (by omega))
    rw [Nat.add_zero, ← hb] at hb2
    have n45 : (b == 45) = false := by
      rw [beq_eq_false_iff_ne]; intro e; rw [e] at hb2; revert hb2; decide
    have n43 : (b == 43) = false := by
      rw [beq_eq_false_iff_ne]; intro e; rw [e] at hb2; revert hb2; decide
    simp only [Lib.atoi, n45, n43, Lib.decNat, List.isEmpty_cons, Bool.false_eq_true, if_false, hdec, Option.map_some]

theorem extract_size (s : ByteArray) (i R : Nat) (hR : i + R ≤ s.size) : (s.extract i (i + R)).size = R := by
  rw [← len_list, Lib.extract_data, List.length_take, List.length_drop, len_list]; omega

/-! ### THE WIDTH OF A NUMERAL -/
def wid (n : Int) : Nat := (Lib.itoa n).length
theorem nDigits_le : ∀ (k u : Nat), u < 10 ^ (k + 1) → Lib.nDigits u ≤ k + 1
  | 0, u, h => by rw [Lib.nDigits_small (by simpa using h)]; omega
  | k + 1, u, h => by
    by_cases h10 : u < 10
    · rw [Lib.nDigits_small h10]; omega
    · rw [Lib.nDigits_big h10]
      have := nDigits_le k (u / 10) (by rw [Nat.pow_succ] at h; omega)
      omega
theorem wid_pos (u : Nat) : wid (u : Int) = Lib.nDigits u := by unfold wid; rw [Lib.itoa_nonneg, Lib.decDigits_length]
theorem wid_neg (u : Nat) (h : 1 ≤ u) : wid (-(u : Int)) = Lib.nDigits u + 1 := by unfold wid; rw [Lib.itoa_neg u h, List.length_cons, Lib.decDigits_length]
theorem wid_bounds (n : Int) (h0 : -99999999 ≤ n) (h1 : n ≤ 999999999) : 1 ≤ wid n ∧ wid n ≤ 9 := by
  by_cases h : n < 0
  · obtain ⟨u, hu⟩ := Int.eq_ofNat_of_zero_le (show 0 ≤ -n by omega)
    obtain rfl : n = -(u : Int) := by omega
    rw [wid_neg u (by omega)]
    have := nDigits_le 7 u (by omega)
    omega
  · obtain ⟨u, rfl⟩ := Int.eq_ofNat_of_zero_le (show 0 ≤ n by omega)
    rw [wid_pos]
    have := nDigits_le 8 u (by omega)
    have := Lib.nDigits_pos u
    omega
end Go.Proofs.Qxb6609012aFmt.plain
