import Derived.Test.Qxb6609012aFmtLeaf
namespace Go.Proofs.Qxb6609012aFmt.numb
open Go.RowKit Go.Extern.Stop Go.Stop Go.Extern plain leaf

/-- WHAT LIES IN MEMORY IN THE LOOP: the parser at block b stands at place p. -/
def Inv (b : Nat) (s : ByteArray) (p : Nat) (w W : World) : Prop :=
  b < W.heap.size ∧ W.cell? ⟨b, 0, none⟩ = some (.string s) ∧ W.cell? ⟨b, 1, none⟩ = some (.int .i64 (p : Int)) ∧ W.frozen? ⟨b, 1, none⟩ = false ∧ Tab W ∧ Below b w W

def posOf (b : Nat) (W : World) : Nat := match W.cell? ⟨b, 1, none⟩ with
  | some (.int _ n) => n.toNat
  | _ => 0
theorem posOf_eq {b p : Nat} {W : World} (h : W.cell? ⟨b, 1, none⟩ = some (.int .i64 (p : Int))) : posOf b W = p := by
  unfold posOf; rw [h]; exact Int.toNat_natCast p

theorem Inv.later {b p : Nat} {s : ByteArray} {w W W' : World} (h : Inv b s p w W) (hb : Below W.heap.size W W') (h2 : 2 < b) : Inv b s p w W' := by
  obtain ⟨h1, c0, c1, fz, ht, hB⟩ := h
  have hsz := hb.size
  exact ⟨by omega, (hb.cell (p := ⟨b, 0, none⟩) h1).trans c0, (hb.cell (p := ⟨b, 1, none⟩) h1).trans c1, (hb.frozen (p := ⟨b, 1, none⟩) h1).trans fz, ht.below hb (by omega), hB.trans (hb.mono (by omega))⟩

theorem Inv.step {b p : Nat} {s : ByteArray} {w W : World} (h : Inv b s p w W) (h2 : 2 < b) (v : Int) (hv : v = ((p + 1 : Nat) : Int)) : Inv b s (p + 1) w (W.setCell ⟨b, 1, none⟩ (.int .i64 v)) := by
  obtain ⟨h1, c0, c1, fz, ht, hB⟩ := h
  have hBW : Below b W (W.setCell ⟨b, 1, none⟩ (.int .i64 v)) := (Below.refl b W).setCell (Nat.le_refl _) _
  refine ⟨by rw [World.size_setCell]; exact h1, ?_, ?_, ?_, ht.below hBW h2, hB.trans hBW⟩
  · rw [World.cell?_setCell_other _ _ _ _ (by intro h; injection h; omega)]; exact c0
  · rw [World.cell?_setCell_same _ _ _ c1, hv]
  · rw [World.frozen?_setCell]; exact fz

theorem Inv.draws {b p : Nat} {s : ByteArray} {w W : World} (h : Inv b s p w W) (h2 : 2 < b) (n : Nat) : Inv b s p w (W.drewN n) :=
  h.later (below_drewN (Below.refl _ _) n) h2

theorem Inv.answers {b p : Nat} {s : ByteArray} {w W : World} (h : Inv b s p w W) {F : Interp} (hF : F.answers w.tape) : F.answers W.tape := by
  rw [h.2.2.2.2.2.tape]; exact hF

theorem isDigit_same (c : UInt8) (w : World) : Calls Tryf.prog 11 #[.int .u8 (c.toNat : Int)] w fun e w' => e = .returned (.bool (isD c)) ∧ w' = w :=
  (isDigit_any c w).mono fun _ _ h => ⟨h.1, h.2.symm⟩

/-- fmt.Errorf at a slice of four operands that lies in a block of its own. -/
theorem errorf_new (F : Interp) (f what : ByteArray) (a b c : Int) (W : World) (hF : F.answers W.tape)
    (hp : ∀ w : World, (FmtDoors.printed f 4).run Tryf.prog w = .ok [(0, 115, false), (1, 100, false), (2, 100, false), (3, 100, false)] w) :
    Calls Tryf.prog 14 #[.string f, .slice (some ⟨W.heap.size, 0, none⟩) 4 4] (W.alloc (.cells #[.iface 9 (.string what), .iface 3 (.int .i64 a), .iface 3 (.int .i64 b), .iface 3 (.int .i64 c)] 20))
      fun e w' => (∃ p, e = .returned (.iface 46 (.pointer (some p)))) ∧ Below W.heap.size W w' := by
  refine (errorf_any F f what a b c W.heap.size (W.alloc (.cells #[.iface 9 (.string what), .iface 3 (.int .i64 a), .iface 3 (.int .i64 b), .iface 3 (.int .i64 c)] 20)) hF hp ?_ ?_ ?_ ?_).mono ?_
  · rw [World.cell?_alloc_at _ _ _ _ rfl]; rfl
  · rw [World.cell?_alloc_at _ _ _ _ rfl]; rfl
  · rw [World.cell?_alloc_at _ _ _ _ rfl]; rfl
  · rw [World.cell?_alloc_at _ _ _ _ rfl]; rfl
  · rintro e w' ⟨h1, h2⟩
    exact ⟨h1, ((Below.refl W.heap.size W).alloc (Nat.le_refl _) _).trans (h2.mono (by simp))⟩

end Go.Proofs.Qxb6609012aFmt.numb
