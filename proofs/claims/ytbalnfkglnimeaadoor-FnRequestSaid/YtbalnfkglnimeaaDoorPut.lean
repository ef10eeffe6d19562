/-
  The package's bePutUint32 and bePutUint64 (functions 32, 22), each by a contract.
-/
import Derived.Test.YtbalnfkglnimeaaDoorBuild
namespace Go.Proofs.YtbalnfkglnimeaaDoor
open Go.RowKit

/-- Four bytes laid from ⟨g, o⟩ on. -/
def st4 (w : World) (g o : Nat) (a b c d : Int) : World :=
  (((w.setCell ⟨g, o, none⟩ (.int .u8 a)).setCell ⟨g, o + 1, none⟩ (.int .u8 b)).setCell ⟨g, o + 2, none⟩ (.int .u8 c)).setCell ⟨g, o + 3, none⟩ (.int .u8 d)

/-- The four cells from ⟨g, o⟩ on hold bytes, and may be written. -/
def Four (w : World) (g o : Nat) : Prop := ∀ j, j < 4 → (∃ x, w.cell? ⟨g, o + j, none⟩ = some (.int .u8 x)) ∧ w.frozen? ⟨g, o + j, none⟩ = false

set_option maxRecDepth 100000 in
set_option maxHeartbeats 400000 in
theorem put32_any (g o n cap : Nat) (v : Int) (w : World) (hn : 4 ≤ n) (hn2 : n ≤ 64) (hv0 : 0 ≤ v) (hv1 : v ≤ 4294967295) (hF : Four w g o) :
    Calls Tryd.prog 32 #[.slice (some ⟨g, o, none⟩) n cap, .int .u32 v] w fun e w' => e = .returned (.tuple #[]) ∧ st4 w g o (v / 16777216) (v / 65536 % 256) (v / 256 % 256) (v % 256) = w' := by
  obtain ⟨⟨x0, h0⟩, f0⟩ := hF 0 (by omega)
  obtain ⟨⟨x1, h1⟩, f1⟩ := hF 1 (by omega)
  obtain ⟨⟨x2, h2⟩, f2⟩ := hF 2 (by omega)
  obtain ⟨⟨x3, h3⟩, f3⟩ := hF 3 (by omega)
  clear hF
  rw [Nat.add_zero] at h0 f0
  go_enter Tryd.func32, Tryd.ntmps32
  go_wp2
  go_end0
  exact ⟨rfl, rfl⟩

theorem st4_far {w : World} {g o : Nat} {a b c d : Int} {p : Addr} (h : p.block ≠ g ∨ p.off < o ∨ o + 4 ≤ p.off) : (st4 w g o a b c d).cell? p = w.cell? p := by
  unfold st4
  have hne : ∀ j, j < 4 → (⟨g, o + j, none⟩ : Addr) ≠ p := fun j hj e => by subst e; simp at h; omega
  rw [World.cell?_setCell_other _ _ _ _ (hne 3 (by omega)), World.cell?_setCell_other _ _ _ _ (hne 2 (by omega)), World.cell?_setCell_other _ _ _ _ (hne 1 (by omega)), World.cell?_setCell_other _ _ _ _ (by simpa using hne 0 (by omega))]

theorem st4_frozen {w : World} {g o : Nat} {a b c d : Int} {p : Addr} : (st4 w g o a b c d).frozen? p = w.frozen? p := by
  unfold st4
  rw [World.frozen?_setCell, World.frozen?_setCell, World.frozen?_setCell, World.frozen?_setCell]

theorem st4_four {w : World} {g o o' : Nat} {a b c d : Int} (h : Four w g o') (ho : o + 4 ≤ o') : Four (st4 w g o a b c d) g o' := fun j hj => by
  obtain ⟨⟨x, hx⟩, hf⟩ := h j hj
  exact ⟨⟨x, (st4_far (.inr (.inr (by simp; omega)))).trans hx⟩, st4_frozen.trans hf⟩

/-- What the four stores leave at the four cells. -/
theorem st4_at {w : World} {g o : Nat} {a b c d : Int} (h : Four w g o) :
    (st4 w g o a b c d).cell? ⟨g, o, none⟩ = some (.int .u8 a) ∧ (st4 w g o a b c d).cell? ⟨g, o + 1, none⟩ = some (.int .u8 b) ∧ (st4 w g o a b c d).cell? ⟨g, o + 2, none⟩ = some (.int .u8 c) ∧ (st4 w g o a b c d).cell? ⟨g, o + 3, none⟩ = some (.int .u8 d) := by
  obtain ⟨⟨x0, h0⟩, _⟩ := h 0 (by omega)
  obtain ⟨⟨x1, h1⟩, _⟩ := h 1 (by omega)
  obtain ⟨⟨x2, h2⟩, _⟩ := h 2 (by omega)
  obtain ⟨⟨x3, h3⟩, _⟩ := h 3 (by omega)
  rw [Nat.add_zero] at h0
  have ne : ∀ i j : Nat, i ≠ j → (⟨g, i, none⟩ : Addr) ≠ ⟨g, j, none⟩ := fun i j hij e => by cases e; exact hij rfl
  unfold st4
  refine ⟨?_, ?_, ?_, ?_⟩
  · rw [World.cell?_setCell_other _ _ _ _ (ne _ _ (by omega)), World.cell?_setCell_other _ _ _ _ (ne _ _ (by omega)), World.cell?_setCell_other _ _ _ _ (ne _ _ (by omega))]
    exact World.cell?_setCell_same _ _ _ h0
  · rw [World.cell?_setCell_other _ _ _ _ (ne _ _ (by omega)), World.cell?_setCell_other _ _ _ _ (ne _ _ (by omega))]
    exact World.cell?_setCell_same _ _ _ ((World.cell?_setCell_other _ _ _ _ (ne _ _ (by omega))).trans h1)
  · rw [World.cell?_setCell_other _ _ _ _ (ne _ _ (by omega))]
    exact World.cell?_setCell_same _ _ _ ((World.cell?_setCell_other _ _ _ _ (ne _ _ (by omega))).trans ((World.cell?_setCell_other _ _ _ _ (ne _ _ (by omega))).trans h2))
  · exact World.cell?_setCell_same _ _ _ ((World.cell?_setCell_other _ _ _ _ (ne _ _ (by omega))).trans ((World.cell?_setCell_other _ _ _ _ (ne _ _ (by omega))).trans ((World.cell?_setCell_other _ _ _ _ (ne _ _ (by omega))).trans h3)))

/-- Eight bytes, the highest first. -/
def st8 (w : World) (g o : Nat) (v : Int) : World :=
  st4 (st4 w g o (v / 4294967296 % 4294967296 / 16777216) (v / 4294967296 % 4294967296 / 65536 % 256) (v / 4294967296 % 4294967296 / 256 % 256) (v / 4294967296 % 256)) g (o + 4) (v % 4294967296 / 16777216) (v % 4294967296 / 65536 % 256) (v % 4294967296 / 256 % 256) (v % 256)

set_option maxRecDepth 100000 in
set_option maxHeartbeats 400000 in
theorem put64_any (g o n cap : Nat) (v : Int) (w : World) (hn : 8 ≤ n) (hn2 : n ≤ 64) (hcap : n ≤ cap) (hF : Four w g o) (hF4 : Four w g (o + 4)) :
    Calls Tryd.prog 22 #[.slice (some ⟨g, o, none⟩) n cap, .int .u64 v] w fun e w' => e = .returned (.tuple #[]) ∧ st8 w g o v = w' := by
  obtain ⟨⟨x7, h7⟩, _⟩ := hF4 3 (by omega)
  have HF := Lib.hid hF
  have HF4 := Lib.hid hF4
  clear hF hF4
  rw [show o + 4 + 3 = o + 7 by omega] at h7
  have hc4 : 4 < cap := by omega
  go_enter Tryd.func22, Tryd.ntmps22
  go_wp2_with fail
  refine (put32_any g o n cap _ w (by omega) hn2 (by omega) (by omega) HF.out).mono ?_
  rintro e w' ⟨rfl, rfl⟩
  go_wp2_with fail
  refine (put32_any g (o + 4) (n - 4) (cap - 4) _ _ (by omega) (by omega) (by omega) (by omega) (st4_four HF4.out (Nat.le_refl _))).mono ?_
  rintro e w' ⟨rfl, rfl⟩
  go_wp2_with fail
  go_end0
  exact ⟨rfl, rfl⟩

end Go.Proofs.YtbalnfkglnimeaaDoor
