import Derived.Test.Qxb6609152aFmtFacts
import Derived.Stop.AnyFormat
import Derived.BigQuiet
import Derived.Deep.QuietTactic
namespace Go.Proofs.Qxb6609152aFmt.exc
open Go.RowKit Go.Extern.Stop Go.Stop Go.Extern facts

/-! ### THE PLAIN PART: a format without '%' is its own text -/
theorem parse_plain : ∀ (fuel : Nat) (l : List UInt8), l.length < fuel → (∀ c ∈ l, c ≠ 37) → FmtText.parseFrom fuel l = some (l.map fun c => FmtText.Piece.lit [c])
  | 0, _, h, _ => by omega
  | fuel + 1, [], _, _ => by simp [FmtText.parseFrom]
  | fuel + 1, c :: r, h, hc => by
    have ih := parse_plain fuel r (by simpa using h) (fun x hx => hc x (List.mem_cons_of_mem _ hx))
    have hne : c ≠ 37 := hc c (List.mem_cons_self)
    rw [FmtText.parseFrom]
    · rw [ih]; rfl
    · exact fun e => hne e

theorem render_plain : ∀ l : List UInt8, FmtText.render false (l.map fun c => FmtText.Piece.lit [c]) [] = some l
  | [] => by simp [FmtText.render]
  | c :: r => by simp [FmtText.render, render_plain r]

theorem text_plain (l : List UInt8) (h : ∀ c ∈ l, c ≠ 37) : FmtText.text (FmtCalls.frontName 0) [l] = some l := by
  show FmtText.text "fmt.Sprintf" [l] = some l
  rw [FmtText.text_sprintf (parse_plain (l.length + 1) l (by omega) h) FmtText.operands_nil, render_plain]

theorem len_list (s : ByteArray) : s.data.toList.length = s.size := Array.length_toList
/-- The message: what fmt.Sprintf gives for the format alone. -/
def msg (F : Interp) (f : ByteArray) : ByteArray := FmtStop.textOf (F (FmtCalls.frontName 0) [f.data.toList] 0)

theorem msg_plain (F : Interp) (f : ByteArray) (hs : f.size ≤ 524288) (h : ∀ c ∈ f.data.toList, c ≠ 37) : msg F.told f = f := by
  have hlen : f.data.toList.length = f.size := len_list f
  have ht := Go.Stop.told_string F (text_plain f.data.toList h) (by omega)
  have hl := Go.Kit.textOf_list F.told (FmtCalls.frontName 0) [f.data.toList]
  rw [ht] at hl
  show FmtStop.textOf (F.told (FmtCalls.frontName 0) [f.data.toList] 0) = f
  exact ByteArray.ext (Array.toList_inj.1 hl)

/-! ### hasPercent -/
def pct (s : ByteArray) : Bool := s.data.toList.contains 37
theorem get_list (s : ByteArray) (k : Nat) (h : k < s.size) (h' : k < s.data.toList.length) : s[k]'h = s.data.toList[k]'h' := rfl

set_option maxHeartbeats 400000 in
theorem pct_any (s : ByteArray) (hs : s.size ≤ 524288) (w : World) :
    Calls Tryf.prog 16 #[.string s] w fun e w' => e = .returned (.bool (pct s)) ∧ w = w' := by
  go_enter Tryf.func16, Tryf.ntmps16
  go_wp2
  go_loop [3] (fun i => ∃ k : Nat, k ≤ s.size ∧ i = .int .i64 k ∧ Hid (∀ c ∈ s.data.toList.take k, c ≠ 37)) (fun i => s.size - (intOf i).toNat)
  case atStart => exact ⟨0, Nat.zero_le _, rfl, show ∀ c ∈ s.data.toList.take 0, c ≠ 37 by simp⟩
  case round =>
    obtain ⟨k, hk, rfl, hno⟩ := hrel
    have hlen := len_list s
    have HL : Hid (s.data.toList.length = s.size) := hlen
    clear hlen
    by_cases hlt : k < s.size
    · by_cases h37 : s[k] = 37
      · have hb : ((s[k].toNat : Int) == 37) = true := by rw [h37]; rfl
        have hp : pct s = true := by
          unfold pct
          rw [List.contains_iff_mem]
          rw [get_list s k hlt (by rw [HL.out]; exact hlt)] at h37
          rw [← h37]
          exact List.getElem_mem _
        clear h37
        go_wp2
        go_ret
        exact ⟨rfl, rfl⟩
      · have hb : ((s[k].toNat : Int) == 37) = false := by
          rw [beq_eq_false_iff_ne]
          intro e
          exact h37 (UInt8.toNat_inj.1 (by have : s[k].toNat = 37 := by omega
                                           rw [this]; rfl))
        have H37 : Hid (s[k] ≠ 37) := h37
        clear h37
        go_wp2
        go_round
        case rel =>
          refine ⟨k + 1, by omega, by go_num, ?_⟩
          show ∀ c ∈ s.data.toList.take (k + 1), c ≠ 37
          intro c hc
          rw [List.take_succ_eq_append_getElem (by rw [HL.out]; exact hlt)] at hc
          rcases List.mem_append.1 hc with h | h
          · exact hno.out c h
          · rw [List.mem_singleton.1 h]; exact H37.out
        case measure => simp [intOf]; omega
    · have hp : pct s = false := by
        unfold pct
        rw [← Bool.not_eq_true, List.contains_iff_mem]
        intro hm
        have := hno.out 37 (by rw [List.take_of_length_le (by rw [HL.out]; omega)]; exact hm)
        exact this rfl
      go_wp2
      go_ret
      exact ⟨rfl, rfl⟩

/-! ### exception, ZZexceptionFields -/
theorem printed_zero (f : ByteArray) : FmtStop.printed? f 0 = some [] ∨ FmtStop.printed? f 0 = none := by
  cases h : FmtStop.printed? f 0 with
  | none => exact Or.inr rfl
  | some l =>
    refine Or.inl ?_
    have := FmtStop.printed_lt f 0 l h
    cases l with
    | nil => rfl
    | cons x r => exact absurd (this x List.mem_cons_self) (by omega)

set_option maxHeartbeats 800000 in
theorem exception_any (F : Interp) (name f : ByteArray) (w : World) (hF : F.answers w.tape) :
    Calls Tryf.prog 19 #[.string name, .string f, .slice none 0 0] w fun e w' => e = .returned (.iface 37 (.pointer (some ⟨w.heap.size, 0, none⟩))) ∧ w' = (w.alloc (.cells #[.string name, .string (msg F f)] 43)).drew := by
  have hF' := answers_open hF
  have f1 := call20
  have f2 := guard
  rcases printed_zero f with hp | hp
  · go_enter Tryf.func19, Tryf.ntmps19
    go_wp2
    apply rows_value nextTurns
    case hr =>
      go_simp
      exact ⟨rfl, rfl⟩
    case h =>
      go_wp2
      go_ret
      exact ⟨rfl, rfl⟩
  · go_enter Tryf.func19, Tryf.ntmps19
    go_wp2
    go_ret
    exact ⟨rfl, rfl⟩

theorem assert37 (W : World) (v : Value) : (Instr.typeAssert (.iface 37 v) 40 37 true).run Tryf.prog W = .ok (.tuple #[v, .bool true]) W := by kernel_rfl

set_option maxHeartbeats 800000 in
theorem fields_any (F : Interp) (name f : ByteArray) (w : World) (hF : F.answers w.tape) :
    Calls Tryf.prog 15 #[.string name, .string f] w fun e w' => e = .returned (.tuple #[.string name, .string (msg F f), .bool true]) ∧ Below w.heap.size w w' := by
  have ha := assert37
  have HF : Hid (F.answers w.tape) := hF
  have q0 : (w.alloc (.cells #[.string name, .string (msg F f)] 43)).cell? ⟨w.heap.size, 0, none⟩ = some (.string name) := by rw [World.cell?_alloc_at _ _ _ _ rfl]; rfl
  have q1 : (w.alloc (.cells #[.string name, .string (msg F f)] 43)).cell? ⟨w.heap.size, 1, none⟩ = some (.string (msg F f)) := by rw [World.cell?_alloc_at _ _ _ _ rfl]; rfl
  clear hF
  go_enter Tryf.func15, Tryf.ntmps15
  go_wp2_with (go_at_call 19; refine (exception_any F name f _ HF.out).mono ?_; rintro e w1 ⟨rfl, rfl⟩)
  go_quiet (fail)
  go_wp2
  go_ret3
  exact ⟨rfl, below_drewN ((Below.refl _ _).alloc (Nat.le_refl _) _).drew _⟩

theorem bytes_any (name f : ByteArray) (hn : name.size ≤ 1048576) (hf : f.size ≤ 1048576) (hs : name.size + f.size ≤ 1048576) (w : World) :
    Calls Tryf.prog 14 #[.string name, .string f] w fun e w' => e = .returned (.bool true) ∧ w = w' := by
  go_enter Tryf.func14, Tryf.ntmps14
  go_wp2
  go_ret
  exact ⟨rfl, rfl⟩

theorem bytes_no (name f : ByteArray) (hm : name.size ≤ 9223372036854775807) (hk : f.size ≤ 9223372036854775807) (h : 1048576 < name.size + f.size) (w : World) :
    Calls Tryf.prog 14 #[.string name, .string f] w fun e w' => e = .returned (.bool false) ∧ w = w' := by
  by_cases h1 : (1048576 : Int) < name.size
  · go_enter Tryf.func14, Tryf.ntmps14
    go_wp2
    go_ret
    exact ⟨rfl, rfl⟩
  by_cases h2 : (1048576 : Int) < f.size
  · go_enter Tryf.func14, Tryf.ntmps14
    go_wp2
    go_ret
    exact ⟨rfl, rfl⟩
  go_enter Tryf.func14, Tryf.ntmps14
  go_wp2
  go_ret
  exact ⟨rfl, rfl⟩

set_option maxHeartbeats 800000 in
theorem main (F : Interp) (name f : ByteArray) (hn : name.size ≤ 524288) (hf : f.size ≤ 524288) (w : World) (hF : F.told.answers w.tape) :
    Calls Tryf.prog 7 #[.string name, .string f] w fun e w' => e = .returned (.bool true) ∧ Below w.heap.size w w' := by
  have HF : Hid (F.told.answers w.tape) := hF
  have e1 : decide ((524288 : Int) < (name.size : Int)) = false := by simp; omega
  have e2 : decide ((524288 : Int) < (f.size : Int)) = false := by simp; omega
  clear hF
  cases hp : pct f with
  | true =>
    have HP : Hid (pct f = true) := hp
    clear hp
    go_enter Tryf.func7, Tryf.ntmps7
    go_wp2_with (first
      | (go_at_call 14; refine (bytes_any name f (by omega) (by omega) (by omega) _).mono ?_; rintro e w' ⟨rfl, rfl⟩)
      | (go_at_call 15; refine (fields_any F.told name f _ HF.out).mono ?_; rintro e w1 ⟨rfl, hw1⟩)
      | (go_at_call 16; refine (pct_any f hf _).mono ?_; rw [HP.out]; rintro e w' ⟨rfl, rfl⟩))
    go_ret
    exact ⟨rfl, hw1⟩
  | false =>
    have HP : Hid (pct f = false) := hp
    have hm := msg_plain F f hf (by
      intro c hc e
      subst e
      have : pct f = true := by unfold pct; rw [List.contains_iff_mem]; exact hc
      rw [this] at hp
      cases hp)
    clear hp
    go_enter Tryf.func7, Tryf.ntmps7
    go_wp2_with (first
      | (go_at_call 14; refine (bytes_any name f (by omega) (by omega) (by omega) _).mono ?_; rintro e w' ⟨rfl, rfl⟩)
      | (go_at_call 15; refine (fields_any F.told name f _ HF.out).mono ?_; rintro e w1 ⟨rfl, hw1⟩)
      | (go_at_call 16; refine (pct_any f hf _).mono ?_; rw [HP.out]; rintro e w' ⟨rfl, rfl⟩))
    go_ret
    exact ⟨rfl, hw1⟩

set_option maxHeartbeats 800000 in
theorem walk (F : Interp) (name f : ByteArray) (hn : name.size ≤ maxLen) (hf : f.size ≤ maxLen) (w : World) (hF : F.told.answers w.tape) :
    Calls Tryf.prog 7 #[.string name, .string f] w fun e w' => e = .returned (.bool true) ∧ Below w.heap.size w w' := by
  unfold maxLen at hn hf
  by_cases h1 : 1048576 < name.size + f.size
  · clear hF
    go_enter Tryf.func7, Tryf.ntmps7
    go_wp2_with (go_at_call 14; refine (bytes_no name f (by omega) (by omega) h1 _).mono ?_; rintro e w' ⟨rfl, rfl⟩)
    go_ret
    exact ⟨rfl, Below.refl _ _⟩
  by_cases h2 : (524288 : Int) < name.size
  · clear hF
    go_enter Tryf.func7, Tryf.ntmps7
    go_wp2_with (go_at_call 14; refine (bytes_any name f (by omega) (by omega) (by omega) _).mono ?_; rintro e w' ⟨rfl, rfl⟩)
    go_ret
    exact ⟨rfl, Below.refl _ _⟩
  by_cases h3 : (524288 : Int) < f.size
  · clear hF
    go_enter Tryf.func7, Tryf.ntmps7
    go_wp2_with (go_at_call 14; refine (bytes_any name f (by omega) (by omega) (by omega) _).mono ?_; rintro e w' ⟨rfl, rfl⟩)
    go_ret
    exact ⟨rfl, Below.refl _ _⟩
  exact main F name f (by omega) (by omega) w hF
end Go.Proofs.Qxb6609152aFmt.exc
