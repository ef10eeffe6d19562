/-
  The package's key: algorithms and decodeAuthKey (functions 27, 20), each by a contract.
-/
import Derived.Test.YtbalnfkglnimeaaDoorSpec
import Derived.Deep.QuietTactic
import Derived.BigQuiet
import Derived.Laws.EntriesVeiled
namespace Go.Proofs.YtbalnfkglnimeaaDoor
open Go.RowKit

set_option maxRecDepth 100000 in
set_option maxHeartbeats 400000 in
theorem algorithms_any (k : Int) (hk : k = 1 ∨ k = 2) (w : World) :
    Calls Tryd.prog 27 #[.int .i64 k] w fun e w' => ∃ z fn, e = .returned (.agg #[.int .i64 4, .int .i64 32, .int .i64 z, .func (.func fn) #[] #[]]) ∧ Below w.heap.size w w' := by
  rcases hk with rfl | rfl
  · go_enter Tryd.func27, Tryd.ntmps27
    go_wp2
    go_returns
    exact ⟨_, _, rfl, ((Below.refl _ _).alloc (Nat.le_refl _) _).alloc (by simp) _⟩
  · go_enter Tryd.func27, Tryd.ntmps27
    go_wp2
    go_returns
    exact ⟨_, _, rfl, ((Below.refl _ _).alloc (Nat.le_refl _) _).alloc (by simp) _⟩

/-- '[]byte(s)'. -/
theorem bytes_of_string (w : World) (s : ByteArray) : ∃ g cap w1, (convert 9 22 (.string s)).run Tryd.prog w = .ok (.slice (some ⟨g, 0, none⟩) s.size cap) w1 ∧ Below w.heap.size w w1 ∧ g = w.heap.size ∧ g < w1.heap.size ∧ s.size ≤ cap ∧ Lib.Bytes w1 g 0 s := by
  have hcap : s.size ≤ grownCap w s.size 0 5 := grownCap_ge w s.size 0 5
  refine ⟨_, _, _, run_bytes_of_string w 9 22 5 s Tryd.underlying9 Tryd.underlying22 Tryd.underlying5, ((Below.refl _ _).drew).alloc (by simp) _, rfl, by simp, hcap, fun i hi => ?_⟩
  rw [Nat.zero_add]
  have h := World.cell?_alloc_mark w.drew (bytesRow s (grownCap w s.size 0 5)) 5 ((bytesRow s (grownCap w s.size 0 5)).size, (bytesRow s (grownCap w s.size 0 5)).size + 1) i
  rw [bytesRow_at s _ i (by simpa using hi)] at h
  exact h

set_option maxRecDepth 100000 in
set_option maxHeartbeats 400000 in
theorem decode_ascii (k : Int) (hk : k = 1 ∨ k = 2) (t s : ByteArray) (w : World) (ht : t.size = s.size + 6) (hn : ((t.extract 0 4).toList == [72, 69, 88, 58]) = false) (hy : ((t.extract 0 6).toList == [65, 83, 67, 73, 73, 58]) = true)
    (he : t.extract 6 t.size = s) (hs : 4 ≤ s.size) (hs2 : s.size ≤ 32) :
    Calls Tryd.prog 20 #[.agg #[.int .i64 k, .string t, .int .u32 0]] w fun e w' => ∃ v, e = .returned (.tuple #[v, .nilIface]) ∧ Fresh w.heap.size w' v s ∧ Below w.heap.size w w' := by
  have HT := Lib.hid ht
  have ht6 : 10 ≤ t.size := by omega
  have ht7 : t.size ≤ 38 := by omega
  clear ht
  go_enter Tryd.func20, Tryd.ntmps20
  go_wp2_with fail
  go_quiet (fail)
  obtain ⟨g, cp, w1, kc, hb1, hg, hg1, hcp, hby⟩ := bytes_of_string ((w.alloc (Obj.cells #[Value.int IntKind.i64 k, Value.string t, Value.int IntKind.u32 0] 42)).drewN nq) s
  have hc0 : w1.cell? ⟨w.heap.size, 0, none⟩ = some (.int .i64 k) := (hb1.cell (p := ⟨w.heap.size, 0, none⟩) (by simp)).trans (by simp [go_sem])
  have HG := Lib.hid hg
  have HBY := Lib.hid hby
  have HB1 := Lib.hid hb1
  clear hg hby hb1
  go_wp2_with fail
  refine (algorithms_any k hk _).mono ?_
  rintro e w2 ⟨z, fn, rfl, hb2⟩
  go_wp2_with fail
  go_ret2
  have hg2 := HG.out
  simp at hg2
  refine ⟨.slice (some ⟨g, 0, none⟩) s.size cp, rfl, ?_, ?_⟩
  · have F1 : Fresh w.heap.size w1 (.slice (some ⟨g, 0, none⟩) s.size cp) s := ⟨g, 0, cp, rfl, by omega, hg1, hcp, HBY.out⟩
    exact (F1.below hb2 (Nat.le_refl _)).below ((Below.refl _ _).alloc (Nat.le_refl _) _ : Below w2.heap.size w2 _) (Nat.le_refl _)
  · have hb1 := HB1.out.mono (B' := w.heap.size) (by simp)
    have hb2' := hb2.mono (B' := w.heap.size) (by have := hb1.size; simp at this; omega)
    exact ((below_drewN ((Below.refl _ _).alloc (Nat.le_refl _) _) nq).trans (hb1.trans hb2')).alloc (by have := hb1.size; have := hb2'.size; simp at *; omega) _

set_option maxRecDepth 100000 in
set_option maxHeartbeats 400000 in
theorem decode_hex (k : Int) (hk : k = 1 ∨ k = 2) (t u s : ByteArray) (w : World) (ht : t.size = u.size + 4) (hy : ((t.extract 0 4).toList == [72, 69, 88, 58]) = true)
    (he : t.extract 4 t.size = u) (hu : IsHex u s) (hs : 4 ≤ s.size) (hs2 : s.size ≤ 32) :
    Calls Tryd.prog 20 #[.agg #[.int .i64 k, .string t, .int .u32 0]] w fun e w' => ∃ v, e = .returned (.tuple #[v, .nilIface]) ∧ Fresh w.heap.size w' v s ∧ Below w.heap.size w w' := by
  have HU := Lib.hid hu
  have hu1 := hu.1
  have ht6 : 4 ≤ t.size := by omega
  have ht7 : t.size ≤ 68 := by omega
  clear ht hu hu1
  go_enter Tryd.func20, Tryd.ntmps20
  go_wp2_with fail
  go_quiet (fail)
  go_wp2_with fail
  refine (hexBytes_any u s _ HU.out (by omega)).mono ?_
  rintro e w1 ⟨v, rfl, hown, hb1⟩
  obtain ⟨g, o, cp, rfl, hg, hg1, hcp, hby⟩ := fresh_of_owns s hown rfl (by omega)
  have hc0 : w1.cell? ⟨w.heap.size, 0, none⟩ = some (.int .i64 k) := (hb1.cell (p := ⟨w.heap.size, 0, none⟩) (by simp)).trans (by simp [go_sem])
  have HBY := Lib.hid hby
  have HB1 := Lib.hid hb1
  have HG := Lib.hid hg
  clear hby hb1 hown hg
  go_wp2_with fail
  refine (algorithms_any k hk _).mono ?_
  rintro e w2 ⟨z, fn, rfl, hb2⟩
  go_wp2_with fail
  go_ret2
  have hg2 := HG.out
  simp at hg2
  refine ⟨.slice (some ⟨g, o, none⟩) s.size cp, rfl, ?_, ?_⟩
  · have F1 : Fresh w.heap.size w1 (.slice (some ⟨g, o, none⟩) s.size cp) s := ⟨g, o, cp, rfl, by omega, hg1, hcp, HBY.out⟩
    exact (F1.below hb2 (Nat.le_refl _)).below ((Below.refl _ _).alloc (Nat.le_refl _) _ : Below w2.heap.size w2 _) (Nat.le_refl _)
  · have hb1 := HB1.out.mono (B' := w.heap.size) (by simp)
    have hb2' := hb2.mono (B' := w.heap.size) (by have := hb1.size; simp at this; omega)
    exact ((below_drewN ((Below.refl _ _).alloc (Nat.le_refl _) _) nq).trans (hb1.trans hb2')).alloc (by have := hb1.size; have := hb2'.size; simp at *; omega) _

end Go.Proofs.YtbalnfkglnimeaaDoor
