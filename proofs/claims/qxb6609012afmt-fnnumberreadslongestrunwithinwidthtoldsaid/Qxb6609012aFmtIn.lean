import Derived.Test.Qxb6609012aFmtInv
namespace Go.Proofs.Qxb6609012aFmt.numb
open Go.RowKit Go.Extern.Stop Go.Stop Go.Extern plain leaf

set_option maxHeartbeats 3200000 in
theorem num_in (F : Interp) (b : Nat) (s what : ByteArray) (i R : Nat) (lo hi : Int) (h0 : -99999999 ≤ hi) (h1 : hi ≤ 999999999) (hr : Run s i R) (hs : s.size ≤ 1048576) (hR1 : 1 ≤ R) (hRW : R ≤ wid hi)
    (w : World) (hF : F.answers w.tape) (h2 : 2 < b) (hI : Inv b s i w w) :
    Calls Tryf.prog 10 #[.pointer (some ⟨b, 0, none⟩), .string what, .int .i64 lo, .int .i64 hi] w fun e w' =>
      (((val s i R : Int) < lo ∨ hi < (val s i R : Int)) → ∃ p, e = .returned (.tuple #[.int .i64 0, .iface 46 (.pointer (some p))])) ∧ (¬ ((val s i R : Int) < lo ∨ hi < (val s i R : Int)) → e = .returned (.tuple #[.int .i64 (val s i R : Int), .nilIface])) ∧ Inv b s (i + R) w w' := by
  have HR : Hid (Run s i R) := hr
  generalize hval : val s i R = v
  have HVAL : Hid (val s i R = v) := hval
  clear hval
  obtain ⟨hR, hd, hend⟩ := hr
  have hwb := wid_bounds hi h0 h1
  have HD : Hid (∀ j, j < R → isD (chr s (i + j)) = true) := hd
  have HN : Hid (isD (chr s (i + R)) = false) := hend
  have HF : Hid (F.answers w.tape) := hF
  have HI : Hid (Inv b s i w w) := hI
  have hns := num_size hi
  obtain ⟨k0, k1, k2, k3, k4, k5⟩ := hI
  clear hd hF hend
  go_enter Tryf.func10, Tryf.ntmps10
  go_wp2_with fail
  clear k0 k1 k2 k3 k4 k5
  go_loopw [20] (fun _ W => ∃ p : Nat, i ≤ p ∧ p ≤ i + R ∧ Inv b s p w W) (fun _ W => s.size - posOf b W)
  case atStart => exact ⟨i, by omega, by omega, HI.out⟩
  case round =>
    obtain ⟨p, hp1, hp2, hinv⟩ := hrel
    have HV : Hid (Inv b s p w wr) := hinv
    obtain ⟨q0, q1, q2, q3, q4, q5⟩ := hinv
    have HT : Hid (Tab wr) := q4
    have hsub : IntKind.i64.wrap ((p : Int) - (i : Int)) = (p : Int) - (i : Int) := by rw [IntKind.wrap_i64]; omega
    clear q3 q4 q5
    by_cases hlt : p < i + R
    · skip
      have hps : p < s.size := by omega
      have hpi : (p : Int) < (s.size : Int) := by omega
      have hd1 : decide ((p : Int) < (s.size : Int)) = true := by simp; omega
      have hg := chr_at s p hps
      have hdp : isD (chr s p) = true := by have := HD.out (p - i) (by omega); rwa [show i + (p - i) = p from by omega] at this
      have e1 : decide ((p : Int) - (i : Int) < (wid hi : Int)) = true := by simp; omega
      go_wp2_with fail
      go_region_held3 (fun w' => w'.cell? ⟨b, 0, none⟩ = some (.string s) ∧ w'.cell? ⟨b, 1, none⟩ = some (.int .i64 (p : Int))) (first | exact ⟨q1, q2⟩ | exact ⟨l0, l1⟩)
        (first
        | (go_at_call 11; refine (isDigit_any (chr s p) _).mono ?_; rintro e w' ⟨rfl, rfl⟩)
        | (go_at_call 12; refine (itoa_any hi (by omega) (by omega) _ ?ht).mono ?_; (case ht => exact HT.out); rintro e w1 ⟨rfl, hb1⟩; have l0 : w1.cell? ⟨b, 0, none⟩ = some (.string s) := (hb1.cell (p := ⟨b, 0, none⟩) q0).trans q1; have l1 : w1.cell? ⟨b, 1, none⟩ = some (.int .i64 (p : Int)) := (hb1.cell (p := ⟨b, 1, none⟩) q0).trans q2))
      have HV1 : Hid (Inv b s p w w1) := HV.out.later ((Below.refl wr.heap.size wr).drew.trans hb1) h2
      have l2 : w1.frozen? ⟨b, 1, none⟩ = false := HV1.out.2.2.2.1
      have HP : Hid (posOf b wr = p) := posOf_eq q2
      go_wp2_with fail
      go_roundw
      case rel => exact ⟨p + 1, by omega, by omega, HV1.out.step h2 _ (by omega)⟩
      case measure =>
        rw [HP.out, posOf_eq (HV1.out.step h2 _ (by omega)).2.2.1]
        omega
    by_cases hle : s.size ≤ p
    · skip
      have hd1 : decide ((p : Int) < (s.size : Int)) = false := by simp; omega
      have hd2 : decide (p < s.size) = false := by simp; omega
      go_wp2_with fail
      go_quiet (fail)
      have HV2 : Hid (Inv b s p w (wr.drewN nq)) := HV.out.draws h2 nq
      have e2 : ((p : Int) == (i : Int)) = false := by rw [beq_eq_false_iff_ne]; omega
      have hdn : isD (chr s p) = false := by have := HN.out; rwa [show i + R = p from by omega] at this
      go_wp2_with fail
      refine (peek_any b s p (by omega) hs (wr.drewN nq) HV2.out.2.1 HV2.out.2.2.1).mono ?_
      rintro e w2 ⟨rfl, n2, rfl⟩
      go_wp2_with fail
      refine (isDigit_any (chr s p) _).mono ?_
      rw [hdn]
      rintro e w' ⟨rfl, rfl⟩
      have hsl : ∀ W : World, (Instr.slice 9 (.string s) (some (.int .i64 (i : Int))) (some (.int .i64 (p : Int))) none).run Tryf.prog W = .ok (.string (s.extract i p)) W := fun W => by
        rw [run_slice_string_if W 9 s .i64 .i64 i p Tryf.underlying9, if_pos ⟨by omega, by omega⟩, if_pos ⟨by omega, by omega⟩, Int.toNat_natCast, Int.toNat_natCast]
      have HA : Hid (Lib.atoi (s.extract i p).data.toList = some (v : Int)) := by
        have := atoi_run s i R HR.out hR1
        rw [HVAL.out, show i + R = p from by omega] at this
        exact this
      have HZ : Hid ((s.extract i p).size ≤ 18) := by
        have := extract_size s i R hR
        rw [show i + R = p from by omega] at this
        show (s.extract i p).size ≤ 18
        omega
      go_wp2_with fail
      go_region_held3 (fun w' => w'.cell? ⟨b, 0, none⟩ = some (.string s) ∧ w'.cell? ⟨b, 1, none⟩ = some (.int .i64 (p : Int))) (first | exact ⟨q1, q2⟩ | exact ⟨l0, l1⟩)
        (first
        | (go_at_call 15; refine (atoi_any (s.extract i p) (v : Int) HZ.out HA.out _).mono ?_; rintro e w5 ⟨rfl, hb5⟩; have l0 : w5.cell? ⟨b, 0, none⟩ = some (.string s) := (hb5.cell (p := ⟨b, 0, none⟩) q0).trans q1; have l1 : w5.cell? ⟨b, 1, none⟩ = some (.int .i64 (p : Int)) := (hb5.cell (p := ⟨b, 1, none⟩) q0).trans q2))
      have HV5 : Hid (Inv b s p w w5) := HV.out.later ((below_drewN (Below.refl wr.heap.size wr) _).drew.trans hb5) h2
      have HF5 : Hid (F.answers w5.tape) := HV5.out.answers HF.out
      clear hsl
      by_cases c1 : (v : Int) < lo
      · have g1 : decide ((v : Int) < lo) = true := by simp; omega
        go_wp2_with fail
        refine (errorf_new F _ what (v : Int) lo hi w5 HF5.out printedB).mono ?_
        rintro e w6 ⟨⟨pp, rfl⟩, hb6⟩
        have HV6 : Hid (Inv b s p w w6) := HV5.out.later hb6 h2
        go_wp2_with fail
        go_ret2
        refine ⟨fun _ => ⟨pp, rfl⟩, fun hc => absurd (Or.inl c1) hc, ?_⟩
        rw [show i + R = p from by omega]
        exact HV6.out
      by_cases c2 : hi < (v : Int)
      · have g1 : decide ((v : Int) < lo) = false := by simp; omega
        have g2 : decide (hi < (v : Int)) = true := by simp; omega
        go_wp2_with fail
        refine (errorf_new F _ what (v : Int) lo hi w5 HF5.out printedB).mono ?_
        rintro e w6 ⟨⟨pp, rfl⟩, hb6⟩
        have HV6 : Hid (Inv b s p w w6) := HV5.out.later hb6 h2
        go_wp2_with fail
        go_ret2
        refine ⟨fun _ => ⟨pp, rfl⟩, fun hc => absurd (Or.inr c2) hc, ?_⟩
        rw [show i + R = p from by omega]
        exact HV6.out
      have g1 : decide ((v : Int) < lo) = false := by simp; omega
      have g2 : decide (hi < (v : Int)) = false := by simp; omega
      go_wp2_with fail
      go_ret2
      refine ⟨fun hc => absurd hc (by omega), (by first | exact rfl | exact fun _ => rfl), ?_⟩
      rw [show i + R = p from by omega]
      exact HV5.out
    · skip
      have hps : p < s.size := by omega
      have hpi : (p : Int) < (s.size : Int) := by omega
      have hd1 : decide ((p : Int) < (s.size : Int)) = true := by simp; omega
      have hg := chr_at s p hps
      have hdp : isD (chr s p) = false := by have := HN.out; rwa [show i + R = p from by omega] at this
      go_wp2_with fail
      go_quiet ((go_at_call 11; exact Calls.quiet_of_same (isDigit_same (chr s p) _)))
      have HV2 : Hid (Inv b s p w (wr.drewN nq)) := HV.out.draws h2 nq
      have e2 : ((p : Int) == (i : Int)) = false := by rw [beq_eq_false_iff_ne]; omega
      have hdn : isD (chr s p) = false := by have := HN.out; rwa [show i + R = p from by omega] at this
      go_wp2_with fail
      refine (peek_any b s p (by omega) hs (wr.drewN nq) HV2.out.2.1 HV2.out.2.2.1).mono ?_
      rintro e w2 ⟨rfl, n2, rfl⟩
      go_wp2_with fail
      refine (isDigit_any (chr s p) _).mono ?_
      rw [hdn]
      rintro e w' ⟨rfl, rfl⟩
      have hsl : ∀ W : World, (Instr.slice 9 (.string s) (some (.int .i64 (i : Int))) (some (.int .i64 (p : Int))) none).run Tryf.prog W = .ok (.string (s.extract i p)) W := fun W => by
        rw [run_slice_string_if W 9 s .i64 .i64 i p Tryf.underlying9, if_pos ⟨by omega, by omega⟩, if_pos ⟨by omega, by omega⟩, Int.toNat_natCast, Int.toNat_natCast]
      have HA : Hid (Lib.atoi (s.extract i p).data.toList = some (v : Int)) := by
        have := atoi_run s i R HR.out hR1
        rw [HVAL.out, show i + R = p from by omega] at this
        exact this
      have HZ : Hid ((s.extract i p).size ≤ 18) := by
        have := extract_size s i R hR
        rw [show i + R = p from by omega] at this
        show (s.extract i p).size ≤ 18
        omega
      go_wp2_with fail
      go_region_held3 (fun w' => w'.cell? ⟨b, 0, none⟩ = some (.string s) ∧ w'.cell? ⟨b, 1, none⟩ = some (.int .i64 (p : Int))) (first | exact ⟨q1, q2⟩ | exact ⟨l0, l1⟩)
        (first
        | (go_at_call 15; refine (atoi_any (s.extract i p) (v : Int) HZ.out HA.out _).mono ?_; rintro e w5 ⟨rfl, hb5⟩; have l0 : w5.cell? ⟨b, 0, none⟩ = some (.string s) := (hb5.cell (p := ⟨b, 0, none⟩) q0).trans q1; have l1 : w5.cell? ⟨b, 1, none⟩ = some (.int .i64 (p : Int)) := (hb5.cell (p := ⟨b, 1, none⟩) q0).trans q2))
      have HV5 : Hid (Inv b s p w w5) := HV.out.later ((below_drewN (Below.refl wr.heap.size wr) _).drew.trans hb5) h2
      have HF5 : Hid (F.answers w5.tape) := HV5.out.answers HF.out
      clear hsl
      by_cases c1 : (v : Int) < lo
      · have g1 : decide ((v : Int) < lo) = true := by simp; omega
        go_wp2_with fail
        refine (errorf_new F _ what (v : Int) lo hi w5 HF5.out printedB).mono ?_
        rintro e w6 ⟨⟨pp, rfl⟩, hb6⟩
        have HV6 : Hid (Inv b s p w w6) := HV5.out.later hb6 h2
        go_wp2_with fail
        go_ret2
        refine ⟨fun _ => ⟨pp, rfl⟩, fun hc => absurd (Or.inl c1) hc, ?_⟩
        rw [show i + R = p from by omega]
        exact HV6.out
      by_cases c2 : hi < (v : Int)
      · have g1 : decide ((v : Int) < lo) = false := by simp; omega
        have g2 : decide (hi < (v : Int)) = true := by simp; omega
        go_wp2_with fail
        refine (errorf_new F _ what (v : Int) lo hi w5 HF5.out printedB).mono ?_
        rintro e w6 ⟨⟨pp, rfl⟩, hb6⟩
        have HV6 : Hid (Inv b s p w w6) := HV5.out.later hb6 h2
        go_wp2_with fail
        go_ret2
        refine ⟨fun _ => ⟨pp, rfl⟩, fun hc => absurd (Or.inr c2) hc, ?_⟩
        rw [show i + R = p from by omega]
        exact HV6.out
      have g1 : decide ((v : Int) < lo) = false := by simp; omega
      have g2 : decide (hi < (v : Int)) = false := by simp; omega
      go_wp2_with fail
      go_ret2
      refine ⟨fun hc => absurd hc (by omega), (by first | exact rfl | exact fun _ => rfl), ?_⟩
      rw [show i + R = p from by omega]
      exact HV5.out
end Go.Proofs.Qxb6609012aFmt.numb
