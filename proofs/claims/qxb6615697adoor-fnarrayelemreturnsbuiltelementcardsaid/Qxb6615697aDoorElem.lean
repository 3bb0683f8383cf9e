import Derived.Test.Qxb6615697aDoorArr
namespace Go.Proofs.Qxb6615697aDoor.elem
open Go.RowKit arr

theorem tab_pos {w : World} (h : Tab w) : 0 < w.heap.size := by
  unfold Tab Lib.TabIs World.var? at h
  rw [g0] at h
  simp only [Option.bind_some] at h
  rcases Nat.eq_zero_or_pos w.heap.size with e | e
  · rw [Array.getElem?_eq_none (by omega)] at h
    simp at h
  · exact e

set_option maxHeartbeats 1000000 in
theorem walk_main (a0 a1 : Int) (a2 : ByteArray) (a3 n : Int) (hn : a2.size ≤ 65536) (h0 : -9223372036854775808 ≤ n) (h1 : n ≤ 9223372036854775807) (w : World) (ht : Tab w) :
    Calls Tryd.prog 3 #[.int .u8 a0, .int .u16 a1, .string a2, .int .i64 a3, .int .i64 n] w fun e w' => e = .returned (.bool true) ∧ Below w.heap.size w w' := by
  have e1 : decide ((65536 : Int) < (a2.size : Int)) = false := by simp; omega
  have hp := tab_pos ht
  have bl : ∀ o1 o2, Below w.heap.size w ((w.alloc o1).alloc o2) := fun o1 o2 => ((Below.refl _ _).alloc (Nat.le_refl _) _).alloc (by simp) _
  have HT : Hid (∀ o1 o2, Tab ((w.alloc o1).alloc o2)) := fun o1 o2 => ht.below (bl o1 o2) hp
  have q0 : ∀ o c0 c1, ((w.alloc o).alloc (.cells #[c0, c1] 44)).cell? ⟨w.heap.size + 1, 0, none⟩ = some c0 := fun o c0 c1 => by rw [World.cell?_alloc_at _ _ _ _ (by simp)]; rfl
  have q1 : ∀ o c0 c1, ((w.alloc o).alloc (.cells #[c0, c1] 44)).cell? ⟨w.heap.size + 1, 1, none⟩ = some c1 := fun o c0 c1 => by rw [World.cell?_alloc_at _ _ _ _ (by simp)]; rfl
  have q2 : ∀ x0 x1 x2 x3 o, ((w.alloc (.cells #[x0, x1, x2, x3] 40)).alloc o).cell? ⟨w.heap.size, 2, none⟩ = some x2 := fun x0 x1 x2 x3 o => by rw [World.cell?_alloc_past _ _ _ (by simp), World.cell?_alloc_at _ _ _ _ rfl]; rfl
  have BL : Hid (∀ o1 o2, Below w.heap.size w ((w.alloc o1).alloc o2)) := bl
  have hs := num_size n h0 h1
  have heq := eql24
  clear ht bl
  go_enter Tryd.func3, Tryd.ntmps3
  go_wp2_with (first
    | (go_at_call 5; refine (bytes3_any _ _ _ _ _ hn _).mono ?_; rintro e w' ⟨rfl, rfl⟩)
    | (go_at_call 6; refine (newBasic_any _ _ _ _ _).mono ?_; rintro e w' ⟨rfl, rfl⟩)
    | (go_at_call 7; refine (newArrB_any _ _ _).mono ?_; rintro e w' ⟨rfl, rfl⟩)
    | (go_at_call 9; refine (elem_any _ _ _ (q1 _ _ _)).mono ?_; rintro e w' ⟨rfl, rfl⟩)
    | (go_at_call 8; refine (asBasic_yes _ _).mono ?_; rintro e w' ⟨rfl, rfl⟩)
    | (go_at_call 10; refine (str1 n h0 h1 (w.heap.size + 1) w.heap.size a2 hn _ (HT.out _ _) ?hb ?hb0 (q0 _ _ _) (q1 _ _ _) (q2 _ _ _ _ _)).mono ?_; (case hb => simp); (case hb0 => simp; omega); rintro e w1 ⟨rfl, hw1⟩)
    | (go_at_call 11; refine (itoa_any n h0 h1 _).mono ?_; rintro e w2 ⟨rfl, hw2⟩))
  go_ret
  refine ⟨?_, ?_⟩
  · have e : ((opn ++ num n ++ cls ++ a2).toList == ((⟨#[91]⟩ : ByteArray) ++ num n ++ ⟨#[93]⟩ ++ a2).toList) = true := beq_self_eq_true _
    rw [e]; rfl
  · have hz : w.heap.size ≤ w1.heap.size := by have := hw1.size; simp at this; omega
    exact ((BL.out _ _).trans (hw1.mono (by simp; omega))).trans (hw2.mono hz)

/-! ### THE SECOND LAW -/
def pick (k t : TypeId) (p : Option Addr) : Option Addr := if t = k then p else none
theorem pick24_24 (p : Option Addr) : pick 24 24 p = p := rfl
theorem pick26_26 (p : Option Addr) : pick 26 26 p = p := rfl
theorem pick24_26 (p : Option Addr) : pick 24 26 p = none := rfl
theorem pick26_24 (p : Option Addr) : pick 26 24 p = none := rfl
theorem asBasic_any (t : TypeId) (p : Option Addr) (w : World) (h : t = 24 ∨ t = 26) :
    Calls Tryd.prog 8 #[.iface t (.pointer p)] w fun e w' => e = .returned (.pointer (pick 24 t p)) ∧ w = w' := by
  rcases h with rfl | rfl
  · exact asBasic_yes _ _
  · exact asBasic_no _ _
theorem asArray_any (t : TypeId) (p : Option Addr) (w : World) (h : t = 26 ∨ t = 24) :
    Calls Tryd.prog 14 #[.iface t (.pointer p)] w fun e w' => e = .returned (.pointer (pick 26 t p)) ∧ w = w' := by
  rcases h with rfl | rfl
  · exact asArray_yes _ _
  · exact asArray_no _ _
theorem glue (m n : Int) (a : ByteArray) : opn ++ num m ++ cls ++ (opn ++ num n ++ cls ++ a) = (⟨#[91]⟩ : ByteArray) ++ num m ++ ⟨#[93, 91]⟩ ++ num n ++ ⟨#[93]⟩ ++ a := by
  have h : (⟨#[93, 91]⟩ : ByteArray) = cls ++ opn := rfl
  rw [h]
  show opn ++ num m ++ cls ++ (opn ++ num n ++ cls ++ a) = opn ++ num m ++ (cls ++ opn) ++ num n ++ cls ++ a
  simp only [ByteArray.append_assoc]

set_option maxHeartbeats 1600000 in
theorem walk_peel (a0 a1 : Int) (a2 : ByteArray) (a3 n m : Int) (hn : a2.size ≤ 65536) (h0 : -9223372036854775808 ≤ n) (h1 : n ≤ 9223372036854775807) (m0 : -9223372036854775808 ≤ m) (m1 : m ≤ 9223372036854775807) (w : World) (ht : Tab w) :
    Calls Tryd.prog 4 #[.int .u8 a0, .int .u16 a1, .string a2, .int .i64 a3, .int .i64 n, .int .i64 m] w fun e w' => e = .returned (.bool true) ∧ Below w.heap.size w w' := by
  have e1 : decide ((65536 : Int) < (a2.size : Int)) = false := by simp; omega
  have hp := tab_pos ht
  have bl : ∀ o1 o2 o3, Below w.heap.size w (((w.alloc o1).alloc o2).alloc o3) := fun o1 o2 o3 => (((Below.refl _ _).alloc (Nat.le_refl _) _).alloc (by simp) _).alloc (by simp; omega) _
  have HT : Hid (∀ o1 o2 o3, Tab (((w.alloc o1).alloc o2).alloc o3)) := fun o1 o2 o3 => ht.below (bl o1 o2 o3) hp
  have p0 : ∀ o1 o2 c0 c1, (((w.alloc o1).alloc o2).alloc (.cells #[c0, c1] 44)).cell? ⟨w.heap.size + 1 + 1, 0, none⟩ = some c0 := fun o1 o2 c0 c1 => by rw [World.cell?_alloc_at _ _ _ _ (by simp)]; rfl
  have p1 : ∀ o1 o2 c0 c1, (((w.alloc o1).alloc o2).alloc (.cells #[c0, c1] 44)).cell? ⟨w.heap.size + 1 + 1, 1, none⟩ = some c1 := fun o1 o2 c0 c1 => by rw [World.cell?_alloc_at _ _ _ _ (by simp)]; rfl
  have q0 : ∀ o c0 c1 o3, (((w.alloc o).alloc (.cells #[c0, c1] 44)).alloc o3).cell? ⟨w.heap.size + 1, 0, none⟩ = some c0 := fun o c0 c1 o3 => by rw [World.cell?_alloc_past _ _ _ (by simp), World.cell?_alloc_at _ _ _ _ (by simp)]; rfl
  have q1 : ∀ o c0 c1 o3, (((w.alloc o).alloc (.cells #[c0, c1] 44)).alloc o3).cell? ⟨w.heap.size + 1, 1, none⟩ = some c1 := fun o c0 c1 o3 => by rw [World.cell?_alloc_past _ _ _ (by simp), World.cell?_alloc_at _ _ _ _ (by simp)]; rfl
  have q2 : ∀ x0 x1 x2 x3 o2 o3, (((w.alloc (.cells #[x0, x1, x2, x3] 40)).alloc o2).alloc o3).cell? ⟨w.heap.size, 2, none⟩ = some x2 := fun x0 x1 x2 x3 o2 o3 => by rw [World.cell?_alloc_past _ _ _ (by simp; omega), World.cell?_alloc_past _ _ _ (by simp), World.cell?_alloc_at _ _ _ _ rfl]; rfl
  have BL : Hid (∀ o1 o2 o3, Below w.heap.size w (((w.alloc o1).alloc o2).alloc o3)) := bl
  have hs := num_size n h0 h1
  have hs2 := num_size m m0 m1
  have heq := eql24
  have heq2 := eql26
  have tokA : True := trivial
  have tokB : True := trivial
  have tokC : True := trivial
  have k1 := pick24_24
  have k2 := pick26_26
  have k3 := pick24_26
  have k4 := pick26_24
  clear ht bl
  go_enter Tryd.func4, Tryd.ntmps4
  go_wp2_with (first
    | (go_at_call 12; refine (bytes4_any _ _ _ _ _ _ hn _).mono ?_; rintro e w' ⟨rfl, rfl⟩)
    | (go_at_call 6; refine (newBasic_any _ _ _ _ _).mono ?_; rintro e w' ⟨rfl, rfl⟩)
    | (go_at_call 7; refine (newArrB_any _ _ _).mono ?_; rintro e w' ⟨rfl, rfl⟩)
    | (go_at_call 13; refine (newArrA_any _ _ _).mono ?_; rintro e w' ⟨rfl, rfl⟩)
    | (go_at_call 9; have _t := tokA; refine (elem_any _ _ _ (p1 _ _ _ _)).mono ?_; rintro e w' ⟨rfl, rfl⟩; clear tokA)
    | (go_at_call 9; have _t := tokB; refine (elem_any _ _ _ (p1 _ _ _ _)).mono ?_; rintro e w' ⟨rfl, rfl⟩; clear tokB)
    | (go_at_call 9; refine (elem_any _ _ _ (q1 _ _ _ _)).mono ?_; rintro e w' ⟨rfl, rfl⟩)
    | (go_at_call 8; refine (asBasic_any _ _ _ ?hty).mono ?_; (case hty => first | exact Or.inl rfl | exact Or.inr rfl); rintro e w' ⟨rfl, rfl⟩)
    | (go_at_call 14; refine (asArray_any _ _ _ ?hty).mono ?_; (case hty => first | exact Or.inl rfl | exact Or.inr rfl); rintro e w' ⟨rfl, rfl⟩)
    | (go_at_call 10; refine (str2 n m h0 h1 m0 m1 (w.heap.size + 1 + 1) (w.heap.size + 1) w.heap.size a2 hn _ (HT.out _ _ _) ?hb1 ?hb ?hb0 (p0 _ _ _ _) (p1 _ _ _ _) (q0 _ _ _ _) (q1 _ _ _ _) (q2 _ _ _ _ _ _)).mono ?_; (case hb1 => simp); (case hb => simp); (case hb0 => simp; omega); rintro e w1 ⟨rfl, hw1⟩)
    | (go_at_call 11; have _t := tokC; refine (itoa_any m m0 m1 _).mono ?_; rintro e w2 ⟨rfl, hw2⟩; clear tokC)
    | (go_at_call 11; refine (itoa_any n h0 h1 _).mono ?_; rintro e w3 ⟨rfl, hw3⟩))
  go_ret
  refine ⟨?_, ?_⟩
  · have e : ((opn ++ num m ++ cls ++ (opn ++ num n ++ cls ++ a2)).toList == ((⟨#[91]⟩ : ByteArray) ++ num m ++ ⟨#[93, 91]⟩ ++ num n ++ ⟨#[93]⟩ ++ a2).toList) = true := by rw [glue]; exact beq_self_eq_true _
    rw [e]; rfl
  · have hz : w.heap.size ≤ w1.heap.size := by have := hw1.size; simp at this; omega
    have hz2 : w.heap.size ≤ w2.heap.size := by have := hw2.size; omega
    exact (((BL.out _ _ _).trans (hw1.mono (by simp; omega))).trans (hw2.mono hz)).trans (hw3.mono hz2)
end Go.Proofs.Qxb6615697aDoor.elem
