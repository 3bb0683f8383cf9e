import Derived.Test.Qxb6615697aRows
import Derived.WalkKit
import Derived.ProofKit
import Derived.OpenShut
import Derived.ShutString
import Derived.Handy
import Derived.Test.Qxb6615697aSliceWalks
namespace Go.Proofs.Qxb6615697a.fnNewSliceNestsDepthTimes
open Go.ChangeShapes Go.WideShapes Go.ChangeAt Go.RowKit
open nests
open Go.ChangeMaps (open_string shut_string)
set_option linter.unusedVariables false      -- a walk need not use every 'w<i>' (that an integer argument fits its kind)

theorem own : ownKnob Try.prog.godebug = none := by kernel_rfl

set_option maxHeartbeats 1600000 in
theorem walk_main (a0 a1 : Int) (a2 : ByteArray) (a3 : Int) (d : Nat) (h2 : a2.size ≤ 65536) (h3 : 1 ≤ d) (h4 : d ≤ 256) (w : World) :
    Calls Try.prog 3 #[.int .u8 a0, .int .u16 a1, .string a2, .int .i64 a3, .int .i64 d] w fun e w' => e = .returned (.bool true) ∧ Grown w w' := by
  have e1 : decide ((65536 : Int) < (a2.size : Int)) = false := by simp; omega
  have e2 : decide ((d : Int) < 1) = false := by simp; omega
  have e3 : decide ((256 : Int) < (d : Int)) = false := by simp; omega
  go_enter Try.func3, Try.ntmps3
  go_wp2_with (first
    | (go_at_call 5; refine (bytes_any _ _ _ _ _ h2 _).mono ?_; rintro e w' ⟨rfl, rfl⟩)
    | (go_at_call 6; refine (newBasic_any _ _ _ _ _).mono ?_; rintro e w' ⟨rfl, rfl⟩)
    | (go_at_call 7; refine (newSliceB_any _ _).mono ?_; rintro e w' ⟨rfl, rfl⟩))
  go_loopw [12, 13, 14] (fun s i _ W => ∃ k : Nat, 1 ≤ k ∧ k ≤ d ∧ i = .int .i64 k ∧ s = .pointer (some ⟨w.heap.size + k, 0, none⟩) ∧ Chain w.heap.size k a2 w W) (fun _ i _ _ => d - (intOf i).toNat)
  case atStart => exact ⟨1, Nat.le_refl _, h3, rfl, rfl, chain_one _ _ _ _ _⟩
  case round =>
    obtain ⟨k, hk1, hk, rfl, rfl, hch⟩ := hrel
    by_cases hlt : k < d
    · go_wp2_with (go_at_call 8; refine (newSlice_any _ _).mono ?_; rintro e w' ⟨rfl, rfl⟩)
      go_roundw
      case rel => exact ⟨k + 1, by omega, by omega, by go_num, by rw [hch.1]; rfl, hch.push hk1⟩
      case measure => simp [intOf]; omega
    · obtain rfl : k = d := by omega
      obtain ⟨hs, hc0, hc1, hcc, hg⟩ := hch
      have hstr := str_slice w.heap.size a2 wr k h4 h2 hc0 hc1 hcc (k - 1) (by omega)
      rw [show k - 1 + 1 = k from by omega] at hstr
      have HS : Hid (Calls Try.prog 9 #[.pointer (some ⟨w.heap.size + k, 0, none⟩)] wr fun e w' => e = .returned (.string (tail a2 k)) ∧ wr = w') := hstr
      have HC : Hid (∀ j, 1 ≤ j → j < k → wr.cell? ⟨w.heap.size + (j + 1), 0, none⟩ = some (.iface 26 (.pointer (some ⟨w.heap.size + j, 0, none⟩)))) := hcc
      have hgl := brk_glue k a2
      have hbs : (brk k).size ≤ 512 := by rw [brk_size]; omega
      clear hs hc0 hcc hstr hk
      go_wp2_with (first
        | (go_at_call 9; refine HS.out.mono ?_; rintro e w' ⟨rfl, rfl⟩)
        | (go_at_call 10; refine (brackets_any _ _ h4).mono ?_; rintro e w' ⟨rfl, rfl⟩))
      clear HS hgl hbs
      go_loop [15, 16, 17] (fun c i _ => ∃ m r : Nat, 1 ≤ m ∧ m + r ≤ k ∧ k ≤ m + r ∧ i = .int .i64 m ∧ c = .pointer (some ⟨w.heap.size + (r + 1), 0, none⟩)) (fun _ i _ => k - (intOf i).toNat)
      case atStart => exact ⟨1, k - 1, Nat.le_refl _, by omega, by omega, rfl, by rw [show k - 1 + 1 = k from by omega]⟩
      case round =>
        obtain ⟨m, r, hm0, hm1, hm2, rfl, rfl⟩ := hrel
        by_cases hr : 0 < r
        · have hlt2 : m < k := by omega
          have hcr := HC.out r hr (by omega)
          go_wp2_with (first
            | (go_at_call 12; refine (elem_any _ _ _ hcr).mono ?_; rintro e w' ⟨rfl, rfl⟩)
            | (go_at_call 11; refine (asSlice_any _ _).mono ?_; rintro e w' ⟨rfl, rfl⟩))
          go_round
          case rel => exact ⟨m + 1, r - 1, by omega, by omega, by omega, by go_num, by rw [show r - 1 + 1 = r from by omega]⟩
          case measure => simp [intOf]; omega
        · obtain rfl : r = 0 := by omega
          have hlt2 : ¬ m < k := by omega
          have heq := eql24
          go_wp2_with (first
            | (go_at_call 12; refine (elem_any _ _ _ hc1).mono ?_; rintro e w' ⟨rfl, rfl⟩)
            | (go_at_call 13; refine (asBasic_any _ _).mono ?_; rintro e w' ⟨rfl, rfl⟩))
          go_ret
          exact ⟨rfl, hg⟩

/-! ### THE WALK: the Go text returns true -/
theorem walk (a0 : Int) (a1 : Int) (a2 : ByteArray) (a3 : Int) (a4 : Int) (w0 : (Lit.int .u8 a0).wf = true) (w1 : (Lit.int .u16 a1).wf = true) (w2 : a2.size ≤ maxLen) (w3 : (Lit.int .i64 a3).wf = true) (w4 : (Lit.int .i64 a4).wf = true) (w : World) :
    Calls Try.prog 3 #[.int .u8 a0, .int .u16 a1, .string a2, .int .i64 a3, .int .i64 a4] w fun e w' => e = .returned (.bool true) ∧ Grown w w' := by
  unfold maxLen at w2
  by_cases h1 : (1048576 : Int) < a2.size
  · go_enter Try.func3, Try.ntmps3
    go_wp2
    go_ret
    exact ⟨rfl, by repeat (first | exact Grown.refl _ | apply Grown.drew | apply Grown.alloc)⟩
  by_cases h2 : (65536 : Int) < a2.size
  · go_enter Try.func3, Try.ntmps3
    go_wp2
    go_ret
    exact ⟨rfl, by repeat (first | exact Grown.refl _ | apply Grown.drew | apply Grown.alloc)⟩
  by_cases h3 : a4 < 1
  · go_enter Try.func3, Try.ntmps3
    go_wp2
    go_ret
    exact ⟨rfl, by repeat (first | exact Grown.refl _ | apply Grown.drew | apply Grown.alloc)⟩
  by_cases h4 : 256 < a4
  · go_enter Try.func3, Try.ntmps3
    go_wp2
    go_ret
    exact ⟨rfl, by repeat (first | exact Grown.refl _ | apply Grown.drew | apply Grown.alloc)⟩
  obtain ⟨d, rfl⟩ := Int.eq_ofNat_of_zero_le (show 0 ≤ a4 by omega)
  clear w4
  exact walk_main a0 a1 a2 a3 d (by omega) (by omega) (by omega) w

/-! ### THE ROW -/
set_option maxRecDepth 100000 in
theorem lifted (os : Os) (started : os.Started) (H : Type) (enc : TypeId × Value → H) :
    ReturnsInHanded {} Try.checked os 3 .any (Rows.fnNewSliceNestsDepthTimesSpec.pre6 enc Try.prog Try.f3 Rows.fnNewSliceNestsDepthTimesRow.domain false) (Rows.fnNewSliceNestsDepthTimesSpec.post enc Try.prog Try.f3 false true false false) := by
  refine returnsInHanded_of_change (C := Try.checked) own started (by kernel_rfl) Try.func3
    (ChangeSpec.witness6 (enc := enc) (C := Try.checked) false ⟨#[], #[.int .u8 0, .int .u16 0, .string ByteArray.empty, .int .i64 0, .int .i64 0], []⟩ 8 (by kernel_rfl) (by kernel_rfl) (by kernel_rfl) (by kernel_rfl)) ?_
  intro W base args ds gs before hval0 hW hcnd _
  have hval : ∀ (j : Nat) t v, Try.f3.params[j]? = some t → args[j]? = some v → Value.okWide Try.prog W .any base t v := hval0
  have hW' := hW
  obtain ⟨p, q, hA0, hV, rfl, hfz, hnd⟩ := hW
  have hA : DataW.TrodAll enc Try.prog W 0 (fun _ => true) true Try.f3.params.toList args.toList ds p := hA0
  rw [Try.params3] at hA hval
  obtain ⟨v0, vs0, d0, ds0, p0, q0, hargs, rfl, rfl, h0, r0⟩ := trodAll_cons hA
  obtain ⟨v1, vs1, d1, ds1, p1, q1, rfl, rfl, rfl, h1, r1⟩ := trodAll_cons r0
  obtain ⟨v2, vs2, d2, ds2, p2, q2, rfl, rfl, rfl, h2, r2⟩ := trodAll_cons r1
  obtain ⟨v3, vs3, d3, ds3, p3, q3, rfl, rfl, rfl, h3, r3⟩ := trodAll_cons r2
  obtain ⟨v4, vs4, d4, ds4, p4, q4, rfl, rfl, rfl, h4, r4⟩ := trodAll_cons r3
  obtain ⟨rfl, rfl, rfl⟩ := trodAll_nil r4
  obtain rfl : args = #[v0, v1, v2, v3, v4] := by cases args; simp_all
  obtain ⟨rfl, rfl⟩ := trodVars_none hV
  obtain ⟨a0, rfl, rfl, rfl, w0⟩ := open_int Try.underlying5 (hval 0 5 v0 rfl rfl) h0
  obtain ⟨a1, rfl, rfl, rfl, w1⟩ := open_int Try.underlying22 (hval 1 22 v1 rfl rfl) h1
  obtain ⟨a2, rfl, rfl, rfl, w2⟩ := open_string Try.underlying9 (hval 2 9 v2 rfl rfl) h2
  obtain ⟨a3, rfl, rfl, rfl, w3⟩ := open_int Try.underlying3 (hval 3 3 v3 rfl rfl) h3
  obtain ⟨a4, rfl, rfl, rfl, w4⟩ := open_int Try.underlying3 (hval 4 3 v4 rfl rfl) h4
  clear hA0 hval0
  simp only [List.append_nil] at hW'
  refine (walk a0 a1 a2 a3 a4 w0 w1 w2 w3 w4 W).mono fun e W' ⟨he, hg⟩ => ?_
  subst he
  exact ⟨_, rfl, post_of_same (pa := []) (pv := []) hW' (fun _ _ _ => (trodAll_cons_mk (shut_bool Try.underlying4 _) trodAll_mk0)) (fun sp _ => (trodAll_cons_mk (shut_int Try.underlying5 w0) (trodAll_cons_mk (shut_int Try.underlying22 w1) (trodAll_cons_mk (shut_string Try.underlying9 w2) (trodAll_cons_mk (shut_int Try.underlying3 w3) (trodAll_cons_mk (shut_int Try.underlying3 w4) trodAll_mk0)))))) (fun _ _ => rfl) rfl
    (hg.frame _) hg.2.1 (ok_one (by kernel_rfl) rfl (okWide_bool_mk Try.underlying4 _))⟩

theorem over : Rows.fnNewSliceNestsDepthTimesRow.holds Try.pinned (OpenSpec.ofChange Rows.fnNewSliceNestsDepthTimesSpec) :=
  OpenClaim.holds_of_wide 3 Try.f3 rfl rfl rfl rfl rfl rfl rfl ⟨rfl, rfl, rfl, rfl, rfl⟩ rfl rfl rfl rfl rfl (by kernel_rfl) Try.func3 (by kernel_rfl)
    (of_decide_eq_true (by kernel_rfl)) (by unfold Func.isWrapper; first | (rw [if_pos (by decide +kernel)]; kernel_rfl) | (rw [if_neg (by decide +kernel)]; exact ⟨rfl, rfl⟩))
    (fun os started H enc _ => lifted os started H enc)

/-- THE STATEMENT -/
theorem proved : Rows.FnNewSliceNestsDepthTimesSaid :=
  over
end Go.Proofs.Qxb6615697a.fnNewSliceNestsDepthTimes
