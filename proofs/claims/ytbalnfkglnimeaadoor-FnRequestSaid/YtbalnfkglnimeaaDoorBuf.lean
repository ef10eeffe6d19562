/-
  The package's Buffer: put and writeBE (functions 24, 31), each by a contract: the bytes that are appended to the buffer's own slice.
-/
import Derived.Test.YtbalnfkglnimeaaDoorKey
import Derived.Deep.RegionLaw
import Derived.BigRegion
import Derived.IntWalk
namespace Go.Proofs.YtbalnfkglnimeaaDoor
open Go.RowKit

@[go_sem] theorem as5_5 (v : Value) (w : World) : (Instr.typeAssert (.iface 5 v) 20 5 true).run Tryd.prog w = .ok (.tuple #[v, .bool true]) w := by kernel_rfl
@[go_sem] theorem as51_5 (v : Value) (w : World) : (Instr.typeAssert (.iface 51 v) 20 5 true).run Tryd.prog w = .ok (.tuple #[.int .u8 0, .bool false]) w := by kernel_rfl
@[go_sem] theorem as51_51 (v : Value) (w : World) : (Instr.typeAssert (.iface 51 v) 20 51 true).run Tryd.prog w = .ok (.tuple #[v, .bool true]) w := by kernel_rfl
@[go_sem] theorem as67_5 (v : Value) (w : World) : (Instr.typeAssert (.iface 67 v) 20 5 true).run Tryd.prog w = .ok (.tuple #[.int .u8 0, .bool false]) w := by kernel_rfl
@[go_sem] theorem as67_51 (v : Value) (w : World) : (Instr.typeAssert (.iface 67 v) 20 51 true).run Tryd.prog w = .ok (.tuple #[.int .i8 0, .bool false]) w := by kernel_rfl
@[go_sem] theorem as67_67 (v : Value) (w : World) : (Instr.typeAssert (.iface 67 v) 20 67 true).run Tryd.prog w = .ok (.tuple #[v, .bool true]) w := by kernel_rfl
@[go_sem] theorem as31_5 (v : Value) (w : World) : (Instr.typeAssert (.iface 31 v) 20 5 true).run Tryd.prog w = .ok (.tuple #[.int .u8 0, .bool false]) w := by kernel_rfl
@[go_sem] theorem as31_51 (v : Value) (w : World) : (Instr.typeAssert (.iface 31 v) 20 51 true).run Tryd.prog w = .ok (.tuple #[.int .i8 0, .bool false]) w := by kernel_rfl
@[go_sem] theorem as31_67 (v : Value) (w : World) : (Instr.typeAssert (.iface 31 v) 20 67 true).run Tryd.prog w = .ok (.tuple #[.int .u32 0, .bool false]) w := by kernel_rfl
@[go_sem] theorem as31_31 (v : Value) (w : World) : (Instr.typeAssert (.iface 31 v) 20 31 true).run Tryd.prog w = .ok (.tuple #[v, .bool true]) w := by kernel_rfl
@[go_sem] theorem as68_5 (v : Value) (w : World) : (Instr.typeAssert (.iface 68 v) 20 5 true).run Tryd.prog w = .ok (.tuple #[.int .u8 0, .bool false]) w := by kernel_rfl
@[go_sem] theorem as68_51 (v : Value) (w : World) : (Instr.typeAssert (.iface 68 v) 20 51 true).run Tryd.prog w = .ok (.tuple #[.int .i8 0, .bool false]) w := by kernel_rfl
@[go_sem] theorem as68_67 (v : Value) (w : World) : (Instr.typeAssert (.iface 68 v) 20 67 true).run Tryd.prog w = .ok (.tuple #[.int .u32 0, .bool false]) w := by kernel_rfl
@[go_sem] theorem as68_31 (v : Value) (w : World) : (Instr.typeAssert (.iface 68 v) 20 31 true).run Tryd.prog w = .ok (.tuple #[.int .u32 0, .bool false]) w := by kernel_rfl
@[go_sem] theorem as68_68 (v : Value) (w : World) : (Instr.typeAssert (.iface 68 v) 20 68 true).run Tryd.prog w = .ok (.tuple #[v, .bool true]) w := by kernel_rfl

/-- The buffer at block c holds the bytes l, in a row of its own from block B on. -/
def Buf (B c : Nat) (w : World) (l : List Int) : Prop :=
  c < B ∧ B ≤ w.heap.size ∧ w.frozen? ⟨c, 0, none⟩ = false ∧ ∃ v, w.cell? ⟨c, 0, none⟩ = some v ∧ w.ownsRow B 5 1 v l.length (l.map (Value.int .u8))

theorem buf_step {B c g cp : Nat} {v : Value} {w w1 : World} {o : Obj} {l : List Int} {x : Int} (hcB : c < B) (hB : B ≤ w.heap.size) (hf : w.frozen? ⟨c, 0, none⟩ = false) (hv : w.cell? ⟨c, 0, none⟩ = some v)
    (hlt : ∀ b, v.ownBlock = some b → B ≤ b)
    (hown : w1.ownsRow B 5 1 (.slice (some ⟨g, 0, none⟩) (l.length + 1) cp) (l.length + 1) (l.map (Value.int .u8) ++ [.int .u8 x])) (hgrow : (w.alloc o).grownBy w1 v.ownBlock) :
    (w1.cell? ⟨c, 0, none⟩ = some v ∧ w1.frozen? ⟨c, 0, none⟩ = false) ∧
    (Buf B c (w1.setCell ⟨c, 0, none⟩ (.slice (some ⟨g, 0, none⟩) (l.length + 1) cp)) (l ++ [x]) ∧ Below c w (w1.setCell ⟨c, 0, none⟩ (.slice (some ⟨g, 0, none⟩) (l.length + 1) cp))) := by
  have hb : Below B w w1 := ((Below.refl B w).alloc hB o).grown hgrow (by simp; omega) hlt
  have h1 : w1.cell? ⟨c, 0, none⟩ = some v := (hb.cell (p := ⟨c, 0, none⟩) hcB).trans hv
  have h2 : w1.frozen? ⟨c, 0, none⟩ = false := (hb.frozen (p := ⟨c, 0, none⟩) hcB).trans hf
  refine ⟨⟨h1, h2⟩, ⟨hcB, ?_, ?_, _, World.cell?_setCell_same _ _ _ h1, ?_⟩, (hb.mono (B' := c) (by omega)).setCell (p := ⟨c, 0, none⟩) (Nat.le_refl _) _⟩
  · have := hb.size; simp [World.setCell]; omega
  · rw [World.frozen?_setCell]; exact h2
  · have := ownsRow_setCell_below hown (a := ⟨c, 0, none⟩) hcB (.slice (some ⟨g, 0, none⟩) (l.length + 1) cp)
    simpa using this

theorem grown_drew {w w1 : World} {r : Option Nat} (h : w.drew.grownBy w1 r) : w.grownBy w1 r := ⟨h.os, h.tape, h.output, h.size, h.block⟩

set_option maxRecDepth 100000 in
set_option maxHeartbeats 400000 in
theorem write_u8 (c B : Nat) (l : List Int) (x : Int) (w : World) (h : Hid (Buf B c w l)) (hn : l.length ≤ 64) :
    Calls Tryd.prog 31 #[.pointer (some ⟨c, 0, none⟩), .iface 5 (.int .u8 x)] w fun e w' => e = .returned (.tuple #[]) ∧ Buf B c w' (l ++ [x]) ∧ Below c w w' := by
  obtain ⟨i0, hi, hz0, hz1, hz2⟩ := info_parts Tryd.info5
  obtain ⟨hcB, hB, hf, v, hv, hown⟩ := h.out
  have HO := Lib.hid hown
  clear h hown
  go_enter Tryd.func31, Tryd.ntmps31
  go_wp2_with (at_builtin; refine wpList_append_lies _ rfl (.tmp 17) (.tmp 19) 22 rfl B 5 i0 (.int .u8 0) 1 1 Tryd.underlying22 hi hz0 hz1 hz2 rfl (by decide) _ _ _ rfl (HO.out.alloc _) ⟨w.heap.size, 0, none⟩ 1 1 [.int .u8 x] rfl rfl (cell_one_new _ _ _) (by intro u hu; simp at hu; subst hu; rfl) (by decide) (by unfold maxLen; omega) (by omega) (by simp; omega) _ rfl ?_)
  intro g cp w1 hown' hgrow _ _
  obtain ⟨⟨q1, q2⟩, R⟩ := buf_step hcB hB hf hv (fun b hb => (HO.out.lt b hb).1) hown' hgrow
  have HR := Lib.hid R
  clear hown' hgrow R HO
  go_wp2
  go_end0
  exact ⟨rfl, HR.out.1, HR.out.2⟩

set_option maxRecDepth 100000 in
set_option maxHeartbeats 400000 in
theorem write_i8 (c B : Nat) (l : List Int) (w : World) (h : Hid (Buf B c w l)) (hn : l.length ≤ 64) :
    Calls Tryd.prog 31 #[.pointer (some ⟨c, 0, none⟩), .iface 51 (.int .i8 0)] w fun e w' => e = .returned (.tuple #[]) ∧ Buf B c w' (l ++ [0]) ∧ Below c w w' := by
  obtain ⟨i0, hi, hz0, hz1, hz2⟩ := info_parts Tryd.info5
  obtain ⟨hcB, hB, hf, v, hv, hown⟩ := h.out
  have HO := Lib.hid hown
  clear h hown
  go_enter Tryd.func31, Tryd.ntmps31
  go_wp2_with (at_builtin; refine wpList_append_lies _ rfl (.tmp 30) (.tmp 33) 22 rfl B 5 i0 (.int .u8 0) 1 1 Tryd.underlying22 hi hz0 hz1 hz2 rfl (by decide) _ _ _ rfl (HO.out.alloc _) ⟨w.heap.size, 0, none⟩ 1 1 [.int .u8 0] rfl rfl (cell_one_new _ _ _) (by intro u hu; simp at hu; subst hu; rfl) (by decide) (by unfold maxLen; omega) (by omega) (by simp; omega) _ rfl ?_)
  intro g cp w1 hown' hgrow _ _
  obtain ⟨⟨q1, q2⟩, R⟩ := buf_step hcB hB hf hv (fun b hb => (HO.out.lt b hb).1) hown' hgrow
  have HR := Lib.hid R
  clear hown' hgrow R HO
  go_wp2
  go_end0
  exact ⟨rfl, HR.out.1, HR.out.2⟩

set_option maxRecDepth 100000 in
set_option maxHeartbeats 400000 in
/-- put, of the number 0: n bytes 0. -/
theorem put_zero (c B n : Nat) (l : List Int) (w : World) (h : Hid (Buf B c w l)) (hn : l.length + n ≤ 64) :
    Calls Tryd.prog 24 #[.pointer (some ⟨c, 0, none⟩), .int .u64 0, .int .i64 n] w fun e w' => e = .returned (.tuple #[]) ∧ Buf B c w' (l ++ List.replicate n 0) ∧ Below c w w' := by
  obtain ⟨i0, hi, hz0, hz1, hz2⟩ := info_parts Tryd.info5
  go_enter Tryd.func24, Tryd.ntmps24
  go_wp2
  go_loopw [6] (fun i wr => ∃ (k : Nat) (z : Int), k ≤ n ∧ i = .int .i64 z ∧ Hid (z = (n : Int) - 1 - k) ∧ Hid (Buf B c wr (l ++ List.replicate k 0)) ∧ Below c w wr) (fun i _ => (intOf i + 1).toNat)
  case atStart => exact ⟨0, (n : Int) - 1, by omega, rfl, by unfold Hid; omega, by simpa using h, Below.refl _ _⟩
  case round =>
    obtain ⟨k, z, hk, rfl, HZ, HB, hbel⟩ := hrel
    obtain ⟨hcB, hB, hf, v, hv, hown⟩ := HB.out
    have hlen : (l ++ List.replicate k (0 : Int)).length = l.length + k := by simp
    have hzero : l ++ List.replicate (k + 1) (0 : Int) = l ++ List.replicate k (0 : Int) ++ [0] := by rw [List.replicate_succ']; simp
    generalize hL : l ++ List.replicate k (0 : Int) = L at HB hown hlen hzero
    have hL64 : k < n → L.length ≤ 64 := fun _ => by omega
    have HO := Lib.hid hown
    have HBel := Lib.hid hbel
    have HZZ := Lib.hid hzero
    have HLL := Lib.hid hL64
    have HLQ := Lib.hid hL
    clear hL hown hbel hzero hlen hL64
    by_cases hlt : k < n
    · have h0 : (0 : Int) ≤ z := by have := HZ.out; omega
      have h63 : z ≤ 63 := by have := HZ.out; omega
      have hw8 : IntKind.i64.wrap (8 * z) = 8 * z := IntWalk.i64_in _ (by omega)
      have hsh : ∀ wx : World, (Op.shift BinOp.shr IntKind.u64 0 IntKind.i64 (8 * z)).run Tryd.prog wx = .ok (.int .u64 0) wx := fun wx => by
        rw [shift_shr_any _ _ _ _ (by omega)]
        simp [Sem.run_pure]
      have hl64 := HLL.out hlt
      have hw0 : IntKind.u8.wrap 0 = 0 := rfl
      have hva : ∀ o, (wr.alloc o).cell? ⟨c, 0, none⟩ = some v := fun o => ((((Below.refl B wr).alloc hB o).cell (p := ⟨c, 0, none⟩) hcB)).trans hv
      go_wp2_with fail
      go_region_law (refine step_append_lies _ rfl (.tmp 17) (.tmp 23) 22 rfl B 5 i0 (.int .u8 0) 1 1 Tryd.underlying22 hi hz0 hz1 hz2 rfl (by decide) v _ _ (by simp [Act.eval]) (HO.out.drew.alloc _) ⟨_, 0, none⟩ 1 1 [.int .u8 0] (by simp [Act.eval]) rfl (cell_one_new _ _ _) (by intro u hu; simp at hu; subst hu; rfl) (by decide) (by unfold maxLen; omega) (by omega) (by simp; omega) _ rfl ?_; intro g cp w1 hown' hgrow _ _; obtain ⟨⟨q1, q2⟩, R⟩ := buf_step (l := L) hcB hB hf hv (fun b hb => (HO.out.lt b hb).1) hown' (grown_drew hgrow); have HR := Lib.hid R; clear hown' hgrow R)
      all_goals
        clear hv hf hva hsh hw8 hw0
        go_wp2
        go_roundw
        case rel => exact ⟨k + 1, z - 1, by omega, rfl, by have := HZ.out; unfold Hid; omega, by rw [HZZ.out]; exact HR.out.1, HBel.out.trans HR.out.2⟩
        case measure => simp [intOf]; omega
    · have h0 : ¬ (0 : Int) ≤ z := by have := HZ.out; omega
      go_wp2
      go_end0
      have hkn : k = n := by omega
      subst hkn
      exact ⟨rfl, by rw [HLQ.out]; exact HB.out, HBel.out⟩

set_option maxRecDepth 100000 in
set_option maxHeartbeats 400000 in
theorem write_short (c B : Nat) (l : List Int) (w : World) (h : Hid (Buf B c w l)) (hn : l.length + 4 ≤ 64) :
    Calls Tryd.prog 31 #[.pointer (some ⟨c, 0, none⟩), .iface 67 (.int .u32 0)] w fun e w' => e = .returned (.tuple #[]) ∧ Buf B c w' (l ++ List.replicate 4 0) ∧ Below c w w' := by
  go_enter Tryd.func31, Tryd.ntmps31
  go_wp2_with fail
  refine (put_zero c B 4 l w h hn).mono ?_
  rintro e w1 ⟨rfl, hb1, hb2⟩
  have H1 := Lib.hid hb1
  have H2 := Lib.hid hb2
  clear hb1 hb2
  go_wp2_with fail
  go_end0
  exact ⟨rfl, H1.out, H2.out⟩

set_option maxRecDepth 100000 in
set_option maxHeartbeats 400000 in
theorem write_u32 (c B : Nat) (l : List Int) (w : World) (h : Hid (Buf B c w l)) (hn : l.length + 4 ≤ 64) :
    Calls Tryd.prog 31 #[.pointer (some ⟨c, 0, none⟩), .iface 31 (.int .u32 0)] w fun e w' => e = .returned (.tuple #[]) ∧ Buf B c w' (l ++ List.replicate 4 0) ∧ Below c w w' := by
  go_enter Tryd.func31, Tryd.ntmps31
  go_wp2_with fail
  refine (put_zero c B 4 l w h hn).mono ?_
  rintro e w1 ⟨rfl, hb1, hb2⟩
  have H1 := Lib.hid hb1
  have H2 := Lib.hid hb2
  clear hb1 hb2
  go_wp2_with fail
  go_end0
  exact ⟨rfl, H1.out, H2.out⟩

set_option maxRecDepth 100000 in
set_option maxHeartbeats 400000 in
theorem write_stamp (c B : Nat) (l : List Int) (w : World) (h : Hid (Buf B c w l)) (hn : l.length + 8 ≤ 64) :
    Calls Tryd.prog 31 #[.pointer (some ⟨c, 0, none⟩), .iface 68 (.int .u64 0)] w fun e w' => e = .returned (.tuple #[]) ∧ Buf B c w' (l ++ List.replicate 8 0) ∧ Below c w w' := by
  go_enter Tryd.func31, Tryd.ntmps31
  go_wp2_with fail
  refine (put_zero c B 8 l w h hn).mono ?_
  rintro e w1 ⟨rfl, hb1, hb2⟩
  have H1 := Lib.hid hb1
  have H2 := Lib.hid hb2
  clear hb1 hb2
  go_wp2_with fail
  go_end0
  exact ⟨rfl, H1.out, H2.out⟩

end Go.Proofs.YtbalnfkglnimeaaDoor
