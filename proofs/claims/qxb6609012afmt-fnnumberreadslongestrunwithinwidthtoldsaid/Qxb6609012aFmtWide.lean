import Derived.Test.Qxb6609012aFmtInv
namespace Go.Proofs.Qxb6609012aFmt.numb
open Go.RowKit Go.Extern.Stop Go.Stop Go.Extern plain leaf

set_option maxHeartbeats 3200000 in
theorem num_wide (F : Interp) (b : Nat) (s what : ByteArray) (i R : Nat) (lo hi : Int) (h0 : -99999999 ≤ hi) (h1 : hi ≤ 999999999) (hr : Run s i R) (hs : s.size ≤ 1048576) (hRW : wid hi < R)
    (w : World) (hF : F.answers w.tape) (h2 : 2 < b) (hI : Inv b s i w w) :
    Calls Tryf.prog 10 #[.pointer (some ⟨b, 0, none⟩), .string what, .int .i64 lo, .int .i64 hi] w fun e w' =>
      (∃ p, e = .returned (.tuple #[.int .i64 0, .iface 46 (.pointer (some p))])) ∧ Inv b s (i + wid hi) w w' := by
  obtain ⟨hR, hd, hend⟩ := hr
  have hwb := wid_bounds hi h0 h1
  have HD : Hid (∀ j, j < R → isD (chr s (i + j)) = true) := hd
  have HF : Hid (F.answers w.tape) := hF
  have HI : Hid (Inv b s i w w) := hI
  have hns := num_size hi
  obtain ⟨k0, k1, k2, k3, k4, k5⟩ := hI
  clear hd hF hend
  go_enter Tryf.func10, Tryf.ntmps10
  go_wp2_with fail
  clear k0 k1 k2 k3 k4 k5
  go_loopw [20] (fun _ W => ∃ p : Nat, i ≤ p ∧ p ≤ i + wid hi ∧ Inv b s p w W) (fun _ W => s.size - posOf b W)
  case atStart => exact ⟨i, by omega, by omega, HI.out⟩
  case round =>
    obtain ⟨p, hp1, hp2, hinv⟩ := hrel
    have HV : Hid (Inv b s p w wr) := hinv
    obtain ⟨q0, q1, q2, q3, q4, q5⟩ := hinv
    have HT : Hid (Tab wr) := q4
    have hsub : IntKind.i64.wrap ((p : Int) - (i : Int)) = (p : Int) - (i : Int) := by rw [IntKind.wrap_i64]; omega
    clear q3 q4 q5
    by_cases hlt : p < i + wid hi
    · skip
      have hps : p < s.size := by omega
      have hpi : (p : Int) < (s.size : Int) := by omega
      have hd1 : decide ((p : Int) < (s.size : Int)) = true := by simp; omega
      have hg := chr_at s p hps
      have hdp : isD (chr s p) = true := by have := HD.out (p - i) (by omega); rwa [show i + (p - i) = p from by omega] at this
      have e1 : decide ((p : Int) - (i : Int) < (wid hi : Int)) = true := by simp; omega
      go_wp2_with fail
      go_region_held3 (fun w' => w'.cell? ⟨b, 0, none⟩ = some (.string s) ∧ w'.cell? ⟨b, 1, none⟩ = some (.int .i64 (p : Int))) (first | exact ⟨q1, q2⟩ | exact ⟨l0, l1⟩)
        (first
        | (go_at_call 11; refine (isDigit_any (chr s p) _).mono ?_; rintro e w' ⟨rfl, rfl⟩)
        | (go_at_call 12; refine (itoa_any hi (by omega) (by omega) _ ?ht).mono ?_; (case ht => exact HT.out); rintro e w1 ⟨rfl, hb1⟩; have l0 : w1.cell? ⟨b, 0, none⟩ = some (.string s) := (hb1.cell (p := ⟨b, 0, none⟩) q0).trans q1; have l1 : w1.cell? ⟨b, 1, none⟩ = some (.int .i64 (p : Int)) := (hb1.cell (p := ⟨b, 1, none⟩) q0).trans q2))
      have HV1 : Hid (Inv b s p w w1) := HV.out.later ((Below.refl wr.heap.size wr).drew.trans hb1) h2
      have l2 : w1.frozen? ⟨b, 1, none⟩ = false := HV1.out.2.2.2.1
      have HP : Hid (posOf b wr = p) := posOf_eq q2
      go_wp2_with fail
      go_roundw
      case rel => exact ⟨p + 1, by omega, by omega, HV1.out.step h2 _ (by omega)⟩
      case measure =>
        rw [HP.out, posOf_eq (HV1.out.step h2 _ (by omega)).2.2.1]
        omega
    · skip
      have hps : p < s.size := by omega
      have hpi : (p : Int) < (s.size : Int) := by omega
      have hd1 : decide ((p : Int) < (s.size : Int)) = true := by simp; omega
      have hg := chr_at s p hps
      have hdp : isD (chr s p) = true := by have := HD.out (p - i) (by omega); rwa [show i + (p - i) = p from by omega] at this
      have e1 : decide ((p : Int) - (i : Int) < (wid hi : Int)) = false := by simp; omega
      go_wp2_with fail
      go_region_held3 (fun w' => w'.cell? ⟨b, 0, none⟩ = some (.string s) ∧ w'.cell? ⟨b, 1, none⟩ = some (.int .i64 (p : Int))) (first | exact ⟨q1, q2⟩ | exact ⟨l0, l1⟩)
        (first
        | (go_at_call 11; refine (isDigit_any (chr s p) _).mono ?_; rintro e w' ⟨rfl, rfl⟩)
        | (go_at_call 12; refine (itoa_any hi (by omega) (by omega) _ ?ht).mono ?_; (case ht => exact HT.out); rintro e w1 ⟨rfl, hb1⟩; have l0 : w1.cell? ⟨b, 0, none⟩ = some (.string s) := (hb1.cell (p := ⟨b, 0, none⟩) q0).trans q1; have l1 : w1.cell? ⟨b, 1, none⟩ = some (.int .i64 (p : Int)) := (hb1.cell (p := ⟨b, 1, none⟩) q0).trans q2))
      have HV1 : Hid (Inv b s p w w1) := HV.out.later ((Below.refl wr.heap.size wr).drew.trans hb1) h2
      have e2 : ((p : Int) == (i : Int)) = false := by rw [beq_eq_false_iff_ne]; omega
      go_wp2_with fail
      refine (peek_any b s p (by omega) hs _ l0 l1).mono ?_
      rintro e w2 ⟨rfl, n2, rfl⟩
      go_wp2_with fail
      refine (isDigit_any (chr s p) _).mono ?_
      rw [hdp]
      rintro e w' ⟨rfl, rfl⟩
      have HV2 : Hid (Inv b s p w (w1.drewN n2)) := HV1.out.draws h2 n2
      go_wp2_with fail
      refine (itoa_any hi (by omega) (by omega) _ HV2.out.2.2.2.2.1).mono ?_
      rintro e w3 ⟨rfl, hb3⟩
      have HV3 : Hid (Inv b s p w w3) := HV2.out.later hb3 h2
      have HF3 : Hid (F.answers w3.tape) := HV3.out.answers HF.out
      go_wp2_with fail
      refine (errorf_new F _ what lo hi _ w3 HF3.out printedA).mono ?_
      rintro e w4 ⟨⟨pp, rfl⟩, hb4⟩
      have HV4 : Hid (Inv b s p w w4) := HV3.out.later hb4 h2
      go_wp2_with fail
      go_ret2
      refine ⟨⟨pp, rfl⟩, ?_⟩
      rw [show i + wid hi = p from by omega]
      exact HV4.out
end Go.Proofs.Qxb6609012aFmt.numb
