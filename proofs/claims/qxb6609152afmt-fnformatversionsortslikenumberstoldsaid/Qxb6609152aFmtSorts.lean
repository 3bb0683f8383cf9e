import Derived.Test.Qxb6609152aFmtFacts
namespace Go.Proofs.Qxb6609152aFmt.sorts
open Go.RowKit Go.Extern.Stop Go.Stop Go.Extern facts

set_option maxHeartbeats 800000 in
theorem walk (F : Interp) (a b : Int) (wa : (Lit.int .u64 a).wf = true) (wb : (Lit.int .u64 b).wf = true) (w : World) (hF : F.told.answers w.tape) :
    Calls Tryf.prog 6 #[.int .u64 a, .int .u64 b] w fun e w' => e = .returned (.bool true) ∧ Below w.heap.size w w' := by
  obtain ⟨a0, a1⟩ := u64_bounds wa
  obtain ⟨b0, b1⟩ := u64_bounds wb
  have less : Op.bytesLess (ver a).toList (ver b).toList = decide (a < b) := by
    rw [ver_list, ver_list, hex.hexw_less 16 _ _ (by omega) (by omega)]
    congr 1
    exact propext ⟨fun h => by omega, fun h => by omega⟩
  have same : ((ver a).toList == (ver b).toList) = (a == b) := by
    rw [ver_list, ver_list]
    by_cases e : a = b
    · subst e; simp
    · have h1 : (hex.hexw 16 a.toNat == hex.hexw 16 b.toNat) = false := by
        rw [beq_eq_false_iff_ne]
        exact fun h => e (by have := hex.hexw_inj 16 _ _ (by omega) (by omega) h; omega)
      have h2 : (a == b) = false := by rw [beq_eq_false_iff_ne]; exact e
      rw [h1, h2]
  have sa := ver_size a
  have sb := ver_size b
  have HV := version_told F
  have hV : Hid (∀ (n : Int), (Lit.int .u64 n).wf = true → ∀ (w : World), F.told.answers w.tape → Calls Tryf.prog 9 #[.int .u64 n] w fun e w' => e = .returned (.string (ver n)) ∧ Below w.heap.size w w') := HV
  have HF : Hid (F.told.answers w.tape) := hF
  clear HV hF a0 a1 b0 b1
  go_enter Tryf.func6, Tryf.ntmps6
  go_wp2_with fail
  refine (hV.out a wa _ HF.out).mono ?_
  rintro e w1 ⟨rfl, hw1⟩
  go_wp2_with fail
  refine (hV.out b wb _ (by rw [hw1.tape]; exact HF.out)).mono ?_
  rintro e w2 ⟨rfl, hw2⟩
  go_wp2
  go_ret
  exact ⟨rfl, hw1.trans (hw2.mono hw1.size)⟩
end Go.Proofs.Qxb6609152aFmt.sorts
