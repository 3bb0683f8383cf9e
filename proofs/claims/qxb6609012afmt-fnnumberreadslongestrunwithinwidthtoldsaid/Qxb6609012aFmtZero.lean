import Derived.Test.Qxb6609012aFmtInv
namespace Go.Proofs.Qxb6609012aFmt.numb
open Go.RowKit Go.Extern.Stop Go.Stop Go.Extern plain leaf

set_option maxHeartbeats 3200000 in
theorem num_zero (F : Interp) (b : Nat) (s what : ByteArray) (i R : Nat) (lo hi : Int) (h0 : -99999999 ≤ hi) (h1 : hi ≤ 999999999) (hr : Run s i R) (_hs : s.size ≤ 1048576) (hR0 : R = 0)
    (w : World) (hF : F.answers w.tape) (h2 : 2 < b) (hI : Inv b s i w w) :
    Calls Tryf.prog 10 #[.pointer (some ⟨b, 0, none⟩), .string what, .int .i64 lo, .int .i64 hi] w fun e w' =>
      (∃ p, e = .returned (.tuple #[.int .i64 0, .iface 46 (.pointer (some p))])) ∧ Inv b s (i) w w' := by
  subst hR0
  obtain ⟨hR, hd, hend⟩ := hr
  have hwb := wid_bounds hi h0 h1
  have HN : Hid (isD (chr s (i + 0)) = false) := hend
  have HF : Hid (F.answers w.tape) := hF
  have HI : Hid (Inv b s i w w) := hI
  have hns := num_size hi
  obtain ⟨k0, k1, k2, k3, k4, k5⟩ := hI
  clear hd hF hend
  go_enter Tryf.func10, Tryf.ntmps10
  go_wp2_with fail
  clear k0 k1 k2 k3 k4 k5
  go_loopw [20] (fun _ W => ∃ p : Nat, i ≤ p ∧ p ≤ i ∧ Inv b s p w W) (fun _ W => s.size - posOf b W)
  case atStart => exact ⟨i, by omega, by omega, HI.out⟩
  case round =>
    obtain ⟨p, hp1, hp2, hinv⟩ := hrel
    have HV : Hid (Inv b s p w wr) := hinv
    obtain ⟨q0, q1, q2, q3, q4, q5⟩ := hinv
    have HT : Hid (Tab wr) := q4
    have hsub : IntKind.i64.wrap ((p : Int) - (i : Int)) = (p : Int) - (i : Int) := by rw [IntKind.wrap_i64]; omega
    clear q3 q4 q5
    by_cases hlt : s.size ≤ p
    · skip
      have hd1 : decide ((p : Int) < (s.size : Int)) = false := by simp; omega
      have hd2 : decide (p < s.size) = false := by simp; omega
      go_wp2_with fail
      go_quiet (fail)
      have HV2 : Hid (Inv b s p w (wr.drewN nq)) := HV.out.draws h2 nq
      have e2 : ((p : Int) == (i : Int)) = true := by rw [beq_iff_eq]; omega
      go_wp2_with fail
      refine (itoa_any hi (by omega) (by omega) _ HV2.out.2.2.2.2.1).mono ?_
      rintro e w3 ⟨rfl, hb3⟩
      have HV3 : Hid (Inv b s p w w3) := HV2.out.later hb3 h2
      have HF3 : Hid (F.answers w3.tape) := HV3.out.answers HF.out
      go_wp2_with fail
      refine (errorf_new F _ what lo hi _ w3 HF3.out printedA).mono ?_
      rintro e w4 ⟨⟨pp, rfl⟩, hb4⟩
      have HV4 : Hid (Inv b s p w w4) := HV3.out.later hb4 h2
      go_wp2_with fail
      go_ret2
      refine ⟨⟨pp, rfl⟩, ?_⟩
      rw [show i = p from by omega]
      exact HV4.out
    · skip
      have hps : p < s.size := by omega
      have hpi : (p : Int) < (s.size : Int) := by omega
      have hd1 : decide ((p : Int) < (s.size : Int)) = true := by simp; omega
      have hg := chr_at s p hps
      have hdp : isD (chr s p) = false := by have := HN.out; rwa [show i + 0 = p from by omega] at this
      go_wp2_with fail
      go_quiet ((go_at_call 11; exact Calls.quiet_of_same (isDigit_same (chr s p) _)))
      have HV2 : Hid (Inv b s p w (wr.drewN nq)) := HV.out.draws h2 nq
      have e2 : ((p : Int) == (i : Int)) = true := by rw [beq_iff_eq]; omega
      go_wp2_with fail
      refine (itoa_any hi (by omega) (by omega) _ HV2.out.2.2.2.2.1).mono ?_
      rintro e w3 ⟨rfl, hb3⟩
      have HV3 : Hid (Inv b s p w w3) := HV2.out.later hb3 h2
      have HF3 : Hid (F.answers w3.tape) := HV3.out.answers HF.out
      go_wp2_with fail
      refine (errorf_new F _ what lo hi _ w3 HF3.out printedA).mono ?_
      rintro e w4 ⟨⟨pp, rfl⟩, hb4⟩
      have HV4 : Hid (Inv b s p w w4) := HV3.out.later hb4 h2
      go_wp2_with fail
      go_ret2
      refine ⟨⟨pp, rfl⟩, ?_⟩
      rw [show i = p from by omega]
      exact HV4.out
end Go.Proofs.Qxb6609012aFmt.numb
