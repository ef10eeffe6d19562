/-
  Words and small contracts that both statements share: fresh bytes, the check that the package answers at all (function 6), the copy of bytes (function 14).
-/
import Derived.Test.YtbalnfkglnimeaaDoorProg
import Derived.WalkKit
import Derived.WalkSpells
import Derived.WalkLawsBesides
import Derived.Handy
import Derived.Lib.Hide
import Derived.Lib.SlBytesRow
import Derived.Deep.AppendLies
namespace Go.Proofs.YtbalnfkglnimeaaDoor
open Go.RowKit

theorem Tryd.info5 : (Tryd.prog.info? 5).map (fun i => (i.zero, i.size, i.bytes)) = some (some (.int .u8 0), 1, 1) := by kernel_rfl

/-- The cells that hold the bytes of s. -/
def byteVals (s : ByteArray) : List Value := s.data.toList.map fun b => .int .u8 (b.toNat : Int)

theorem byteVals_length (s : ByteArray) : (byteVals s).length = s.size := by simp [byteVals]

theorem byteVals_get (s : ByteArray) (i : Nat) (h : i < s.size) : (byteVals s)[i]? = some (.int .u8 (s[i].toNat : Int)) := by
  have h' : i < s.data.toList.length := by simpa using h
  simp [byteVals, List.getElem?_map, List.getElem?_eq_getElem h', ByteArray.getElem_eq_getElem_data]

/-- The value is a slice of memory from block B on, and its elements are the bytes of s. -/
def Fresh (B : Nat) (w : World) (v : Value) (s : ByteArray) : Prop :=
  ∃ g o cap, v = .slice (some ⟨g, o, none⟩) s.size cap ∧ B ≤ g ∧ g < w.heap.size ∧ s.size ≤ cap ∧ Lib.Bytes w g o s

theorem fresh_of_owns {B : Nat} {w : World} {v : Value} {n : Nat} {xs : List Value} (s : ByteArray) (h : w.ownsRow B 5 1 v n xs) (hx : xs = byteVals s) (hs : 0 < s.size) : Fresh B w v s := by
  subst hx
  have hn : n = s.size := by have := h.1; rw [byteVals_length] at this; omega
  subst hn
  obtain ⟨g, cap, rfl, hb, hl⟩ := h.form hs
  refine ⟨g, 0, cap, rfl, hb, hl, ?_, fun i hi => ?_⟩
  · rcases h.2 with ⟨hv, _⟩ | ⟨g', cap', cur, hv, _, _, hcap, _⟩
    · cases hv
    · simp only [Value.slice.injEq] at hv; omega
  · have := h.cells (g := g) rfl i _ (byteVals_get s i hi)
    have e : (⟨g, 0, none⟩ : Addr).add i = ⟨g, 0 + i, none⟩ := by unfold Addr.add; split <;> simp_all
    rwa [e] at this

theorem Fresh.below {B B' : Nat} {w w' : World} {v : Value} {s : ByteArray} (h : Fresh B w v s) (hb : Below B' w w') (hB : w.heap.size ≤ B') : Fresh B w' v s := by
  obtain ⟨g, o, cap, hv, h1, h2, h3, h4⟩ := h
  exact ⟨g, o, cap, hv, h1, Nat.lt_of_lt_of_le h2 hb.size, h3, fun i hi => (hb.cell (p := ⟨g, o + i, none⟩) (by show g < B'; omega)).trans (h4 i hi)⟩

theorem Fresh.mono {B B' : Nat} {w : World} {v : Value} {s : ByteArray} (h : Fresh B w v s) (hB : B' ≤ B) : Fresh B' w v s := by
  obtain ⟨g, o, cap, hv, h1, h2, h3, h4⟩ := h
  exact ⟨g, o, cap, hv, by omega, h2, h3, h4⟩

set_option maxRecDepth 100000 in
set_option maxHeartbeats 400000 in
/-- slices.Clone of bytes. -/
theorem clone_any (g o cap : Nat) (s : ByteArray) (w : World) (hs : 0 < s.size) (hm : s.size ≤ 140737488351232) (hc : Lib.Bytes w g o s) (hg : g < w.heap.size) :
    Calls Tryd.prog 14 #[.slice (some ⟨g, o, none⟩) s.size cap] w fun e w' => ∃ v, e = .returned v ∧ Fresh w.heap.size w' v s ∧ Below w.heap.size w w' := by
  obtain ⟨i0, hi, hz0, hz1, hz2⟩ := info_parts Tryd.info5
  have hnil := fun (wx : World) (a : Option Addr) (n c n' c' : Nat) => Lib.run_eql_slice_nil (P := Tryd.prog) wx 22 5 a n c n' c' Tryd.underlying22
  have HC := Lib.hid hc
  clear hc
  go_enter Tryd.func14, Tryd.ntmps14
  go_wp2_with (at_builtin; refine wpList_append_own _ rfl (.tmp 5) (.tmp 6) 22 rfl w.heap.size 5 i0 (.int .u8 0) 1 1 Tryd.underlying22 hi hz0 hz1 hz2 rfl (by decide) _ 0 [] rfl (World.ownsRow_made w #[] 0 (Nat.le_refl _) (by decide) rfl) ⟨g, o, none⟩ s.size cap (byteVals s) rfl ?c0 ?c1 ?c2 ?c3 ?c4 ?c5 ?_)
  case c0 => rw [byteVals_length]; omega
  case c1 =>
    intro j u hj
    have hjs : j < s.size := by
      have := (List.getElem?_eq_some_iff.1 hj).1
      rwa [byteVals_length] at this
    rw [byteVals_get s j hjs] at hj
    cases hj
    have e : (⟨g, o, none⟩ : Addr).add j = ⟨g, o + j, none⟩ := by unfold Addr.add; split <;> simp_all
    rw [e, World.cell?_alloc_past _ _ _ hg]
    exact HC.out j hjs
  case c2 =>
    intro u hu
    simp only [byteVals, List.mem_map] at hu
    obtain ⟨b, _, rfl⟩ := hu
    rfl
  case c3 => unfold maxLen; omega
  case c4 => omega
  case c5 => simp
  intro v' w1 hown hgrow _
  go_wp2
  go_ret
  refine ⟨v', rfl, fresh_of_owns s hown (by simp) hs, ?_⟩
  exact ((Below.refl _ _).alloc (Nat.le_refl _) _).grown hgrow (by simp) (fun k hk => by simp [Value.ownBlock] at hk; omega)

set_option maxHeartbeats 400000 in
theorem works_any (w : World) : Calls Tryd.prog 6 #[] w fun e w' => e = .returned (.bool true) ∧ Below w.heap.size w w' := by
  go_enter Tryd.func6, Tryd.ntmps6
  go_wp2
  refine wp_loop_rounds 2 ?_
  rw [rounds_succ]
  go_wp2
  rw [rounds_succ]
  go_wp2
  go_ret
  exact ⟨rfl, (Below.refl _ _).alloc (Nat.le_refl _) _⟩

end Go.Proofs.YtbalnfkglnimeaaDoor
