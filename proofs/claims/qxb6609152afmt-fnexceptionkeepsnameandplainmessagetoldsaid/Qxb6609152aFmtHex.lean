import Derived.Stop.FmtTextBases
import GoSem.Op.String
namespace Go.Proofs.Qxb6609152aFmt.hex
open Go.Extern

/-! ### SIXTEEN HEXADECIMAL DIGITS: no Go in sight -/
abbrev dig (d : Nat) : UInt8 := FmtText.digit false d

/-- u in k hexadecimal digits. -/
def hexw : Nat → Nat → List UInt8
  | 0, _ => []
  | k + 1, u => hexw k (u / 16) ++ [dig (u % 16)]

theorem hexw_length : ∀ (k u : Nat), (hexw k u).length = k
  | 0, _ => rfl
  | k + 1, u => by rw [hexw, List.length_append, hexw_length k]; rfl

theorem hexw_zero : ∀ k : Nat, hexw k 0 = List.replicate k 48
  | 0 => rfl
  | k + 1 => by
    rw [hexw, show 0 / 16 = 0 from rfl, hexw_zero k, List.replicate_succ']
    rfl

theorem digitsFrom_acc : ∀ (fuel u : Nat) (acc : List UInt8), FmtText.digitsFrom 16 false fuel u acc = FmtText.digitsFrom 16 false fuel u [] ++ acc
  | 0, _, _ => rfl
  | fuel + 1, u, acc => by
    rw [FmtText.digitsFrom, FmtText.digitsFrom]
    split
    · rfl
    · rw [digitsFrom_acc fuel (u / 16) (_ :: acc), digitsFrom_acc fuel (u / 16) [_], List.append_assoc]; rfl

theorem digitsFrom_hexw : ∀ (k fuel u : Nat), u < 16 ^ (k + 1) → k + 1 ≤ fuel →
    (FmtText.digitsFrom 16 false fuel u []).length ≤ k + 1 ∧ List.replicate (k + 1 - (FmtText.digitsFrom 16 false fuel u []).length) 48 ++ FmtText.digitsFrom 16 false fuel u [] = hexw (k + 1) u
  | k, 0, u, _, hf => by omega
  | 0, fuel + 1, u, hu, _ => by
    have h : u < 16 := by simpa using hu
    rw [FmtText.digitsFrom, if_pos h]
    refine ⟨Nat.le_refl _, ?_⟩
    show [FmtText.digit false u] = [dig (u % 16)]
    rw [Nat.mod_eq_of_lt h]
  | k + 1, fuel + 1, u, hu, hf => by
    rw [FmtText.digitsFrom]
    by_cases h : u < 16
    · rw [if_pos h]
      refine ⟨by simp, ?_⟩
      rw [hexw, Nat.div_eq_of_lt h, hexw_zero, Nat.mod_eq_of_lt h]
      rfl
    · rw [if_neg h, digitsFrom_acc]
      have ih := digitsFrom_hexw k fuel (u / 16) (by rw [Nat.pow_succ] at hu; omega) (by omega)
      refine ⟨by rw [List.length_append]; simp; omega, ?_⟩
      rw [hexw, ← ih.2, List.append_assoc, List.length_append]
      simp only [List.length_cons, List.length_nil, Nat.zero_add]
      rw [show k + 1 + 1 - ((FmtText.digitsFrom 16 false fuel (u / 16) []).length + 1) = k + 1 - (FmtText.digitsFrom 16 false fuel (u / 16) []).length from by omega]

/-- fmt's '%016x' of a uint64. -/
theorem hexZeros_eq (u : Nat) (h : u < 18446744073709551616) : FmtText.hexZeros false false 16 (u : Int) = hexw 16 u := by
  have := (digitsFrom_hexw 15 64 u (by omega) (by omega)).2
  have hn : ¬ ((u : Int) < 0) := by omega
  simp only [FmtText.hexZeros, FmtText.numeral, if_neg hn, Int.natAbs_natCast, Bool.false_eq_true, if_false, List.nil_append]
  exact this

theorem dig_lt (c d : Nat) (hc : c < 16) (hd : d < 16) : decide (dig c < dig d) = decide (c < d) := by
  have h : ∀ c d : Fin 16, decide (dig c.val < dig d.val) = decide (c.val < d.val) := by decide +kernel
  exact h ⟨c, hc⟩ ⟨d, hd⟩
theorem dig_inj (c d : Nat) (hc : c < 16) (hd : d < 16) (h : dig c = dig d) : c = d := by
  have hh : ∀ c d : Fin 16, dig c.val = dig d.val → c.val = d.val := by decide +kernel
  exact hh ⟨c, hc⟩ ⟨d, hd⟩ h

theorem hexw_inj : ∀ (k a b : Nat), a < 16 ^ k → b < 16 ^ k → hexw k a = hexw k b → a = b
  | 0, a, b, ha, hb, _ => by simp at ha hb; omega
  | k + 1, a, b, ha, hb, h => by
    rw [hexw, hexw] at h
    obtain ⟨h1, h2⟩ := List.append_inj h (by rw [hexw_length, hexw_length])
    have e1 := hexw_inj k (a / 16) (b / 16) (by rw [Nat.pow_succ] at ha; omega) (by rw [Nat.pow_succ] at hb; omega) h1
    have e2 := dig_inj (a % 16) (b % 16) (Nat.mod_lt _ (by decide)) (Nat.mod_lt _ (by decide)) (by simpa using h2)
    omega

/-- The digit at place i from the left. -/
theorem hexw_get : ∀ (k u i : Nat) (h : i < (hexw k u).length), (hexw k u)[i] = dig (u / 16 ^ (k - 1 - i) % 16)
  | 0, _, _, h => by simp [hexw] at h
  | k + 1, u, i, h => by
    have hl := hexw_length k (u / 16)
    have hi : i < k + 1 := by rw [hexw_length] at h; exact h
    by_cases e : i = k
    · subst e
      simp only [hexw]
      rw [List.getElem_append_right (by omega)]
      simp [hl]
    · simp only [hexw]
      rw [List.getElem_append_left (by omega), hexw_get k (u / 16) i (by omega), Nat.div_div_eq_div_mul, ← Nat.pow_succ', show (k - 1 - i).succ = k + 1 - 1 - i from by omega]

theorem less_snoc : ∀ (x y : List UInt8) (c d : UInt8), x.length = y.length → Op.bytesLess (x ++ [c]) (y ++ [d]) = (Op.bytesLess x y || (x == y && decide (c < d)))
  | [], [], c, d, _ => by simp [Op.bytesLess]
  | [], _ :: _, _, _, h => by simp at h
  | _ :: _, [], _, _, h => by simp at h
  | a :: x, b :: y, c, d, h => by
    have ih := less_snoc x y c d (by simpa using h)
    simp only [List.cons_append, Op.bytesLess, ih]
    by_cases h1 : a < b
    · simp [h1]
    · by_cases h2 : a = b
      · subst h2; simp [h1]
      · have h3 : (a == b) = false := by rw [beq_eq_false_iff_ne]; exact h2
        simp [h1, h3]

theorem hexw_less : ∀ (k a b : Nat), a < 16 ^ k → b < 16 ^ k → Op.bytesLess (hexw k a) (hexw k b) = decide (a < b)
  | 0, a, b, ha, hb => by simp at ha hb; subst ha hb; rfl
  | k + 1, a, b, ha, hb => by
    have ha' : a / 16 < 16 ^ k := by rw [Nat.pow_succ] at ha; omega
    have hb' : b / 16 < 16 ^ k := by rw [Nat.pow_succ] at hb; omega
    rw [hexw, hexw, less_snoc _ _ _ _ (by rw [hexw_length, hexw_length]), hexw_less k _ _ ha' hb', dig_lt _ _ (Nat.mod_lt _ (by decide)) (Nat.mod_lt _ (by decide))]
    by_cases e : a / 16 = b / 16
    · rw [e]
      simp only [beq_self_eq_true, Bool.true_and, Nat.lt_irrefl, decide_false, Bool.false_or]
      congr 1
      exact propext ⟨fun h => by omega, fun h => by omega⟩
    · have hne : (hexw k (a / 16) == hexw k (b / 16)) = false := by
        rw [beq_eq_false_iff_ne]
        exact fun h => e (hexw_inj k _ _ ha' hb' h)
      rw [hne]
      simp only [Bool.false_and, Bool.or_false]
      congr 1
      exact propext ⟨fun h => by omega, fun h => by omega⟩
end Go.Proofs.Qxb6609152aFmt.hex
