import Derived.Test.Qxb6615697aDoorRows
import Derived.WalkKit
import Derived.WalkSpells
import Derived.WalkLawsBesides
import Derived.ProofKit
import Derived.OpenShut
import Derived.Handy
import Derived.Lib.ItoaMem
import Derived.Lib.ItoaLen
namespace Go.Proofs.Qxb6615697aDoor.itoa64
open Go.RowKit

def Rel (w : World) (u0 k v : Nat) (W : World) : Prop :=
  W.heap.size = w.heap.size + 1 ∧ (∀ j, j < 20 → (∃ x, W.cell? ⟨w.heap.size, j, none⟩ = some (.int .u8 x)) ∧ W.frozen? ⟨w.heap.size, j, none⟩ = false) ∧ Below w.heap.size w W ∧
  ∃ suf : List UInt8, suf.length + k = 20 ∧ v < 10 ^ k ∧ (0 < v → Lib.decDigits u0 = Lib.decDigits v ++ suf) ∧ (v = 0 → Lib.decDigits u0 = suf) ∧
    ∀ j, j < suf.length → W.cell? ⟨w.heap.size, k + j, none⟩ = some (.int .u8 ((suf.getD j 0).toNat : Int))

def zeros20 : Array Value := #[.int .u8 0, .int .u8 0, .int .u8 0, .int .u8 0, .int .u8 0, .int .u8 0, .int .u8 0, .int .u8 0, .int .u8 0, .int .u8 0, .int .u8 0, .int .u8 0, .int .u8 0, .int .u8 0, .int .u8 0, .int .u8 0, .int .u8 0, .int .u8 0, .int .u8 0, .int .u8 0]
theorem zeros20_eq : zeros20 = Array.replicate 20 (.int .u8 0) := rfl
theorem zeros20_at (i : Nat) (h : i < 20) : zeros20[i]? = some (.int .u8 0) := by
  rw [zeros20_eq, Array.getElem?_replicate, if_pos h]

theorem len47 : Tryd.prog.arrayLen 47 = 20 := by kernel_rfl
theorem elem47 : Tryd.prog.elem 47 = 5 := by kernel_rfl
theorem size5 (W : World) : (sizeOf 5).run Tryd.prog W = .ok 1 W := by kernel_rfl
theorem und47 : Tryd.prog.underlying 47 = some (.array (Tryd.prog.arrayLen 47) (Tryd.prog.elem 47)) := by kernel_rfl

theorem slice47 (b k : Nat) (hk : k < 20) (W : World) :
    (Instr.sliceAt 47 (.pointer (some ⟨b, 0, none⟩)) (some (.int .i64 k)) none none).run Tryd.prog W = .ok (.slice (some ⟨b, k, none⟩) (20 - k) (20 - k)) W := by
  rw [run_sliceAt_array_l W 47 ⟨b, 0, none⟩ und47 .i64 k (by omega) (by rw [len47]; omega), elem47, size5, len47]
  simp only [Result.andThen, slicedAt, Int.toNat_natCast]
  rw [if_neg (by omega), Lib.add_plain]
  simp

theorem Rel.start (w : World) (u0 : Nat) (h0 : 1 ≤ u0) (h : u0 < 10 ^ 20) : Rel w u0 20 u0 (w.alloc (.cells zeros20 47)) := by
  refine ⟨by simp, fun j hj => ⟨⟨0, ?_⟩, ?_⟩, (Below.refl _ _).alloc (Nat.le_refl _) _, [], rfl, h, fun _ => by simp, fun hz => by omega, fun j hj => by simp at hj⟩
  · rw [World.cell?_alloc_at _ _ _ _ rfl]; exact zeros20_at j hj
  · exact World.frozen?_alloc_at _ _ _ _ rfl

theorem Rel.pos_of {w W : World} {u0 k v : Nat} (h : Rel w u0 k v W) (hv : 0 < v) : 1 ≤ k ∧ k ≤ 20 := by
  obtain ⟨_, _, _, suf, h1, h2, _⟩ := h
  refine ⟨?_, by omega⟩
  rcases Nat.eq_zero_or_pos k with rfl | hk
  · simp at h2; omega
  · exact hk

theorem Rel.step {w W : World} {u0 k v : Nat} (h : Rel w u0 (k + 1) v W) (hv : 0 < v) :
    Rel w u0 k (v / 10) (W.setCell ⟨w.heap.size, k, none⟩ (.int .u8 (48 + (v : Int) % 10))) := by
  obtain ⟨hs, hc, hg, suf, hl, hlt, hp, hz, hcs⟩ := h
  have hd : ((UInt8.ofNat (48 + v % 10)).toNat : Int) = 48 + (v : Int) % 10 := by
    have : (UInt8.ofNat (48 + v % 10)).toNat = 48 + v % 10 := by rw [UInt8.toNat_ofNat']; omega
    rw [this]; omega
  have hdd : Lib.decDigits v = (if v < 10 then [] else Lib.decDigits (v / 10)) ++ [UInt8.ofNat (48 + v % 10)] := by
    rw [Lib.decDigits]
    by_cases h : v < 10
    · rw [dif_pos h, if_pos h, Nat.mod_eq_of_lt h]; rfl
    · rw [dif_neg h, if_neg h]
  have hk20 : k < 20 := by omega
  obtain ⟨⟨x, hx⟩, hfz⟩ := hc k hk20
  refine ⟨by rw [World.size_setCell]; exact hs, fun j hj => ⟨?_, ?_⟩, hg.setCell (Nat.le_refl _) _, UInt8.ofNat (48 + v % 10) :: suf, by simp; omega, ?_, ?_, ?_, ?_⟩
  · by_cases e : j = k
    · subst e; exact ⟨_, World.cell?_setCell_same _ _ _ hx⟩
    · rw [World.cell?_setCell_other _ _ _ _ (by intro h; injection h; omega)]; exact (hc j hj).1
  · rw [World.frozen?_setCell]; exact (hc j hj).2
  · rw [Nat.pow_succ] at hlt; omega
  · intro h10
    rw [hp hv, hdd, if_neg (by omega), List.append_assoc]; rfl
  · intro h10
    rw [hp hv, hdd, if_pos (by omega)]; rfl
  · intro j hj
    rcases j with _ | j
    · rw [Nat.add_zero, World.cell?_setCell_same _ _ _ hx]
      simp only [List.getD_cons_zero, hd]
    · rw [World.cell?_setCell_other _ _ _ _ (by intro h; injection h; omega), show k + (j + 1) = k + 1 + j from by omega, hcs j (by simpa using hj)]
      rfl

theorem Rel.conv {w W : World} {u0 k : Nat} (h : Rel w u0 k 0 W) :
    (convert 48 9 (.slice (some ⟨w.heap.size, k, none⟩) (20 - k) (20 - k))).run Tryd.prog W = .ok (.string ⟨(Lib.decDigits u0).toArray⟩) W := by
  obtain ⟨hs, hc, hg, suf, hl, hlt, hp, hz, hcs⟩ := h
  have hlen : (suf.map fun b => (b.toNat : Int)).length = 20 - k := by simp; omega
  have := run_convert_bytes_arg (P := Tryd.prog) W 48 5 Tryd.underlying48 Tryd.underlying5 w.heap.size k (20 - k) (20 - k) (suf.map fun b => (b.toNat : Int)) hlen (fun i hi => by
    rw [hcs i (by omega)]
    have hi' : i < suf.length := by omega
    simp [List.getD, List.getElem?_eq_getElem hi']) 9 Tryd.underlying9
  rw [this, hz rfl]
  congr 2
  unfold strOfNums
  congr 2
  simp [List.map_map, Function.comp_def]

theorem Rel.below {w W : World} {u0 k v : Nat} (h : Rel w u0 k v W) : Below w.heap.size w W := h.2.2.1
theorem Rel.cell {w W : World} {u0 k v : Nat} (h : Rel w u0 k v W) (j : Nat) (hj : j < 20) : (∃ x, W.cell? ⟨w.heap.size, j, none⟩ = some (.int .u8 x)) ∧ W.frozen? ⟨w.heap.size, j, none⟩ = false := h.2.1 j hj
theorem Rel.lt {w W : World} {u0 v : Nat} (h : Rel w u0 20 v W) (hz : v = 0) : False := by
  obtain ⟨hs, hc, hg, suf, hl, hlt, hp, hz', hcs⟩ := h
  have : suf = [] := List.length_eq_zero_iff.1 (by omega)
  have h2 := hz' hz
  have h3 := Lib.decDigits_length u0
  have h4 := Lib.nDigits_pos u0
  rw [h2, this] at h3
  simp at h3; omega

set_option maxHeartbeats 1000000 in
theorem pos (n : Nat) (h0 : 1 ≤ n) (h1 : n ≤ 9223372036854775807) (w : World) :
    Calls Tryd.prog 11 #[.int .i64 n] w fun e w' => e = .returned (.string ⟨(Lib.decDigits n).toArray⟩) ∧ Below w.heap.size w w' := by
  have e0 : ((n : Int) == 0) = false := by simp; omega
  have e1 : decide ((n : Int) < 0) = false := by simp
  go_enter Tryd.func11, Tryd.ntmps11
  go_wp2
  go_loopw [4, 6] (fun u i W => ∃ v k : Nat, v ≤ n ∧ k ≤ 20 ∧ u = .int .u64 v ∧ i = .int .i64 k ∧ Rel w n k v W) (fun u _ _ => (intOf u).toNat)
  case atStart => exact ⟨n, 20, Nat.le_refl _, Nat.le_refl _, rfl, rfl, Rel.start w n h0 (by omega)⟩
  case round =>
    obtain ⟨v, k, hvn, hk, rfl, rfl, hr⟩ := hrel
    by_cases hv : 0 < v
    · have hk1 := (hr.pos_of hv).1
      obtain ⟨k, rfl⟩ : ∃ m, k = m + 1 := ⟨k - 1, by omega⟩
      obtain ⟨⟨x, hx⟩, hfz⟩ := hr.cell k (by omega)
      have HR : Hid (Rel w n (k + 1) v wr) := hr
      clear hr
      go_wp2
      go_roundw
      case rel => exact ⟨v / 10, k, by omega, by omega, by go_num, by go_num, HR.out.step hv⟩
      case measure => simp [intOf]; omega
    · obtain rfl : v = 0 := by omega
      have hk20 : k < 20 := by
        rcases Nat.lt_or_ge k 20 with h | h
        · exact h
        · obtain rfl : k = 20 := by omega
          exact absurd rfl (fun e => hr.lt e)
      have hcv := hr.conv
      have hsl := slice47 w.heap.size k hk20 wr
      have hg := hr.below
      go_wp2
      go_ret
      exact ⟨rfl, hg⟩

set_option maxHeartbeats 1000000 in
theorem neg (n : Nat) (h0 : 1 ≤ n) (h1 : n ≤ 9223372036854775808) (w : World) :
    Calls Tryd.prog 11 #[.int .i64 (-(n : Int))] w fun e w' => e = .returned (.string ⟨(45 :: Lib.decDigits n).toArray⟩) ∧ Below w.heap.size w w' := by
  have e0 : (-(n : Int) == 0) = false := by simp; omega
  have e1 : decide (-(n : Int) < 0) = true := by simp; omega
  have e2 : decide (0 < n) = true := by simp; omega
  have hl := Lib.decDigits_length n
  have hl2 := Lib.nDigits_le20 n (by omega)
  have hsz : (Lib.decDigits n).length ≤ 20 := by omega
  have Hap : Hid ((⟨#[45]⟩ : ByteArray) ++ (⟨(Lib.decDigits n).toArray⟩ : ByteArray) = ⟨(45 :: Lib.decDigits n).toArray⟩) := by
    show _ = _
    ext1
    simp
  clear hl hl2
  go_enter Tryd.func11, Tryd.ntmps11
  go_wp2
  go_loopw [4, 6] (fun u i W => ∃ v k : Nat, v ≤ n ∧ k ≤ 20 ∧ u = .int .u64 v ∧ i = .int .i64 k ∧ Rel w n k v W) (fun u _ _ => (intOf u).toNat)
  case atStart => exact ⟨n, 20, Nat.le_refl _, Nat.le_refl _, by go_num, rfl, Rel.start w n h0 (by omega)⟩
  case round =>
    obtain ⟨v, k, hvn, hk, rfl, rfl, hr⟩ := hrel
    by_cases hv : 0 < v
    · have hk1 := (hr.pos_of hv).1
      obtain ⟨k, rfl⟩ : ∃ m, k = m + 1 := ⟨k - 1, by omega⟩
      obtain ⟨⟨x, hx⟩, hfz⟩ := hr.cell k (by omega)
      have HR : Hid (Rel w n (k + 1) v wr) := hr
      clear hr
      go_wp2
      go_roundw
      case rel => exact ⟨v / 10, k, by omega, by omega, by go_num, by go_num, HR.out.step hv⟩
      case measure => simp [intOf]; omega
    · obtain rfl : v = 0 := by omega
      have hk20 : k < 20 := by
        rcases Nat.lt_or_ge k 20 with h | h
        · exact h
        · obtain rfl : k = 20 := by omega
          exact absurd rfl (fun e => hr.lt e)
      have hcv := hr.conv
      have hg := hr.below
      have hsl := slice47 w.heap.size k hk20 wr
      go_wp2
      go_ret
      rw [Hap.out]
      exact ⟨rfl, hg⟩

theorem zero (w : World) : Calls Tryd.prog 11 #[.int .i64 0] w fun e w' => e = .returned (.string ⟨#[48]⟩) ∧ Below w.heap.size w w' := by
  go_enter Tryd.func11, Tryd.ntmps11
  go_wp2
  go_ret
  exact ⟨rfl, Below.refl _ _⟩

/-- zzItoa64: the decimal numeral, for every int64. -/
theorem any (n : Int) (h0 : -9223372036854775808 ≤ n) (h1 : n ≤ 9223372036854775807) (w : World) :
    Calls Tryd.prog 11 #[.int .i64 n] w fun e w' => e = .returned (.string ⟨(Lib.itoa n).toArray⟩) ∧ Below w.heap.size w w' := by
  rcases Int.lt_trichotomy n 0 with h | h | h
  · obtain ⟨m, hm⟩ := Int.eq_ofNat_of_zero_le (show 0 ≤ -n by omega)
    obtain rfl : n = -(m : Int) := by omega
    rw [Lib.itoa_neg m (by omega)]
    exact neg m (by omega) (by omega) w
  · subst h
    have : Lib.itoa 0 = [48] := by
      have := Lib.itoa_nonneg 0
      rw [Lib.decDigits] at this
      simpa using this
    rw [this]
    exact zero w
  · obtain ⟨m, rfl⟩ := Int.eq_ofNat_of_zero_le (show 0 ≤ n by omega)
    rw [Lib.itoa_nonneg]
    exact pos m (by omega) (by omega) w
end Go.Proofs.Qxb6615697aDoor.itoa64
