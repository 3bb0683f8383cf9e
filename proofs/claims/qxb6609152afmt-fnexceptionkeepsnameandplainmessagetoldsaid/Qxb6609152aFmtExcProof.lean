import Derived.Test.Qxb6609152aFmtExc
import Derived.Test.Qxb6609152aFmtCards
import Derived.ProofKit
import Derived.OpenShut
import Derived.ShutString
import Derived.Stop.JoinedAt
import Derived.Stop.Texts
import Derived.Stop.JoinedTold
import Derived.SizedLaws
import Derived.SevenToldRow
namespace Go.Proofs.Qxb6609152aFmt.fnExceptionKeepsNameAndPlainMessage
open Go.ChangeShapes Go.WideShapes Go.ChangeAt Go.RowKit Go.Kit
open Go.ChangeMaps (open_string shut_string)
open Go.Extern.Stop Go.Stop Go.Extern

theorem own : ownKnob Tryf.prog.godebug = none := by kernel_rfl
theorem laidOut : laidOutB Tryf.pinned.checked.prog = true := by kernel_rfl
theorem stops : Tryf.pinned.checked.prog.stops = Rows.fnExceptionKeepsNameAndPlainMessageRow.stops := by kernel_rfl
theorem stopKnobs : Tryf.pinned.checked.prog.stopKnobs = [] := by kernel_rfl
theorem quiet (os : Os) : Stop.quiet Tryf.pinned.checked.prog os := by
  intro k hk
  rw [stopKnobs] at hk
  cases hk

set_option maxRecDepth 100000 in
theorem lifted (os : Os) (started : os.Started) (H : Type) (enc : TypeId × Value → H) :
    ReturnsInTold none {} Tryf.checked os 7 .any Input.okWide ((OpenSpec.ofChange Rows.fnExceptionKeepsNameAndPlainMessageSpec).preRow enc Tryf.prog Tryf.f7 [] false []) (fun F => ((OpenSpec.ofChange Rows.fnExceptionKeepsNameAndPlainMessageSpec).at F).post enc Tryf.prog Tryf.f7 false true false false) (aloneAtReturn Tryf.prog) nothingAlways := by
  refine returnsInTold_of_row (C := Tryf.checked) (s := OpenSpec.ofChange Rows.fnExceptionKeepsNameAndPlainMessageSpec) (by kernel_rfl) own started (by kernel_rfl) Tryf.func7
    (OpenSpec.witness_stopped (enc := enc) (C := Tryf.checked) false ⟨#[], #[.string ⟨#[]⟩, .string ⟨#[]⟩], []⟩ 8 (by kernel_rfl) (by kernel_rfl) (by kernel_rfl) (by kernel_rfl)) ?_
  intro F W base args ds gs before _ hF hval0 hW _ _ hsz _ _
  have hval : ∀ (j : Nat) t v, Tryf.f7.params[j]? = some t → args[j]? = some v → Value.okWide Tryf.prog W .any base t v := hval0
  have hW' := hW
  obtain ⟨p, q, hA0, hV, rfl, hfz, hnd⟩ := hW
  have hA : DataW.TrodAll enc Tryf.prog W 0 (fun _ => true) true Tryf.f7.params.toList args.toList ds p := hA0
  rw [Tryf.params7] at hA hval
  obtain ⟨v0, vs0, d0, ds0, p0, q0, hargs, rfl, rfl, h0, r0⟩ := trodAll_cons hA
  obtain ⟨v1, vs1, d1, ds1, p1, q1, rfl, rfl, rfl, h1, r1⟩ := trodAll_cons r0
  obtain ⟨rfl, rfl, rfl⟩ := trodAll_nil r1
  obtain rfl : args = #[v0, v1] := by cases args; simp_all
  obtain ⟨rfl, rfl⟩ := trodVars_none hV
  obtain ⟨a0, rfl, rfl, rfl, w0⟩ := open_string Tryf.underlying9 (hval 0 9 v0 rfl rfl) h0
  obtain ⟨a1, rfl, rfl, rfl, w1⟩ := open_string Tryf.underlying9 (hval 1 9 v1 rfl rfl) h1
  clear hA0 hval0 hsz
  refine (exc.walk F a0 a1 w0 w1 W hF).mono fun e W' ⟨he, hB⟩ => ?_
  subst he
  refine ⟨_, rfl, _, _, _, [], [], [], hW', ?_, ?_, rfl, hB.frame _, fun h => by cases h⟩
  · exact trodAll_cons_mk (shut_bool Tryf.underlying4 _) trodAll_mk0
  · exact trodAll_cons_mk (shut_string Tryf.underlying9 w0) (trodAll_cons_mk (shut_string Tryf.underlying9 w1) trodAll_mk0)

/-- THE STATEMENT: the told card. -/
theorem proved : Rows.FnExceptionKeepsNameAndPlainMessageToldSaid :=
  Claim7.holds_of_told_any 7 Tryf.f7 _ _ [] _ _ _ (by kernel_rfl) rfl rfl rfl laidOut (by kernel_rfl) rfl ⟨rfl, rfl, rfl, rfl, rfl, rfl, rfl⟩ rfl rfl (by kernel_rfl) (by kernel_rfl) Tryf.func7 (by kernel_rfl)
    (of_decide_eq_true (by kernel_rfl)) (of_decide_eq_true (by kernel_rfl)) stops.symm rfl stopKnobs.symm (by kernel_rfl)
    (by kernel_rfl) (by kernel_rfl) (by kernel_rfl) (by kernel_rfl) (by kernel_rfl) (by kernel_rfl) (by kernel_rfl) (by kernel_rfl) (by kernel_rfl) rfl (by kernel_rfl) rfl rfl
    rfl rfl
    rfl (by kernel_rfl) (by kernel_rfl) (by kernel_rfl) (by decide) (by kernel_rfl)
    (OpenClaim.moreEntering_of (by kernel_rfl) (by kernel_rfl) (by kernel_rfl) (by kernel_rfl) (by kernel_rfl) (by kernel_rfl) (by kernel_rfl) (by kernel_rfl) (by kernel_rfl) (by kernel_rfl))
    ⟨_, WideRow.started_initial, quiet _⟩
    (fun os started _ H enc _ => lifted os started H enc)
end Go.Proofs.Qxb6609152aFmt.fnExceptionKeepsNameAndPlainMessage
