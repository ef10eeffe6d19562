/-
  The package's buildV4Request (function 21) by a contract: a buffer of 48 bytes, the first with version and mode, the others 0.
-/
import Derived.Test.YtbalnfkglnimeaaDoorBuf
namespace Go.Proofs.YtbalnfkglnimeaaDoor
open Go.RowKit

/-- The world in which the message and the empty buffer have been laid. -/
def mWorld (w : World) (x : Int) : World := (w.alloc (.cells #[.int .u8 x, .int .u8 0, .int .i8 0, .int .i8 0, .int .u32 0, .int .u32 0, .int .u32 0, .int .u64 0, .int .u64 0, .int .u64 0, .int .u64 0] 70)).alloc (.cells #[.slice none 0 0] 57)

theorem mWorld_buf (w : World) (x : Int) : Buf (w.heap.size + 2) (w.heap.size + 1) (mWorld w x) [] := by
  refine ⟨by omega, by simp [mWorld], by simp [mWorld, go_sem], .slice none 0 0, by simp [mWorld, go_sem], World.ownsRow_nil _ _ _ _⟩

theorem mWorld_below (w : World) (x : Int) : Below w.heap.size w (mWorld w x) := ((Below.refl _ _).alloc (Nat.le_refl _) _).alloc (by simp) _

/-- The message's own cells, behind writes that leave all below the buffer as it was. -/
theorem mWorld_cells {w w' : World} {x : Int} (h : Below (w.heap.size + 1) (mWorld w x) w') :
    w'.cell? ⟨w.heap.size, 1, none⟩ = some (.int .u8 0) ∧
    w'.cell? ⟨w.heap.size, 2, none⟩ = some (.int .i8 0) ∧
    w'.cell? ⟨w.heap.size, 3, none⟩ = some (.int .i8 0) ∧
    w'.cell? ⟨w.heap.size, 4, none⟩ = some (.int .u32 0) ∧
    w'.cell? ⟨w.heap.size, 5, none⟩ = some (.int .u32 0) ∧
    w'.cell? ⟨w.heap.size, 6, none⟩ = some (.int .u32 0) ∧
    w'.cell? ⟨w.heap.size, 7, none⟩ = some (.int .u64 0) ∧
    w'.cell? ⟨w.heap.size, 8, none⟩ = some (.int .u64 0) ∧
    w'.cell? ⟨w.heap.size, 9, none⟩ = some (.int .u64 0) ∧
    w'.cell? ⟨w.heap.size, 10, none⟩ = some (.int .u64 0) := by
  refine ⟨(h.cell (p := ⟨w.heap.size, 1, none⟩) (Nat.lt_succ_self _)).trans (by simp [mWorld, go_sem]), (h.cell (p := ⟨w.heap.size, 2, none⟩) (Nat.lt_succ_self _)).trans (by simp [mWorld, go_sem]), (h.cell (p := ⟨w.heap.size, 3, none⟩) (Nat.lt_succ_self _)).trans (by simp [mWorld, go_sem]), (h.cell (p := ⟨w.heap.size, 4, none⟩) (Nat.lt_succ_self _)).trans (by simp [mWorld, go_sem]), (h.cell (p := ⟨w.heap.size, 5, none⟩) (Nat.lt_succ_self _)).trans (by simp [mWorld, go_sem]), (h.cell (p := ⟨w.heap.size, 6, none⟩) (Nat.lt_succ_self _)).trans (by simp [mWorld, go_sem]), (h.cell (p := ⟨w.heap.size, 7, none⟩) (Nat.lt_succ_self _)).trans (by simp [mWorld, go_sem]), (h.cell (p := ⟨w.heap.size, 8, none⟩) (Nat.lt_succ_self _)).trans (by simp [mWorld, go_sem]), (h.cell (p := ⟨w.heap.size, 9, none⟩) (Nat.lt_succ_self _)).trans (by simp [mWorld, go_sem]), (h.cell (p := ⟨w.heap.size, 10, none⟩) (Nat.lt_succ_self _)).trans (by simp [mWorld, go_sem])⟩

theorem bits3 : bits BinOp.and IntKind.u8 0 199 = 0 ∧ bits BinOp.or IntKind.u8 0 24 = 24 ∧ bits BinOp.and IntKind.u8 24 248 = 24 ∧ bits BinOp.or IntKind.u8 24 3 = 27 ∧ bits BinOp.and IntKind.u8 27 63 = 27 ∧ bits BinOp.or IntKind.u8 27 0 = 27 := by decide +kernel
theorem bits4 : bits BinOp.and IntKind.u8 0 199 = 0 ∧ bits BinOp.or IntKind.u8 0 32 = 32 ∧ bits BinOp.and IntKind.u8 32 248 = 32 ∧ bits BinOp.or IntKind.u8 32 3 = 35 ∧ bits BinOp.and IntKind.u8 35 63 = 35 ∧ bits BinOp.or IntKind.u8 35 0 = 35 := by decide +kernel

theorem list48 (x : Int) : ((((((((((([] ++ [x]) ++ [(0 : Int)]) ++ [0]) ++ [0]) ++ List.replicate 4 0) ++ List.replicate 4 0) ++ List.replicate 4 0) ++ List.replicate 8 0) ++ List.replicate 8 0) ++ List.replicate 8 0) ++ List.replicate 8 0) = x :: List.replicate 47 0 := rfl

set_option maxRecDepth 100000 in
set_option maxHeartbeats 2000000 in
theorem build_three (q : Nat) (w : World) (h0 : w.cell? ⟨q, 0, none⟩ = some (.int .i64 3)) (h4 : w.cell? ⟨q, 4, none⟩ = some (.bool false)) (hq : q < w.heap.size) :
    Calls Tryd.prog 21 #[.pointer (some ⟨q, 0, none⟩)] w fun e w' => e = .returned (.tuple #[.pointer (some ⟨w.heap.size + 1, 0, none⟩), .nilIface]) ∧
      Buf (w.heap.size + 2) (w.heap.size + 1) w' (27 :: List.replicate 47 0) ∧ Below w.heap.size w w' := by
  obtain ⟨b1, b2, b3, b4, b5, b6⟩ := bits3
  have HB0 := Lib.hid (mWorld_buf w 27)
  go_enter Tryd.func21, Tryd.ntmps21
  go_wp2_with (first | (go_at_call 28; go_in) | (go_at_call 29; go_in) | (go_at_call 30; go_in))
  refine (write_u8 (w.heap.size + 1) (w.heap.size + 2) _ 27 _ HB0 (by simp)).mono ?_
  rintro e w1 ⟨rfl, hb, hl⟩
  have HB1 := Lib.hid hb
  have hbel : Below (w.heap.size + 1) (mWorld w 27) w1 := hl
  have hc1 := (mWorld_cells hbel).1
  clear HB0
  have HL := Lib.hid hbel
  clear hb hl hbel
  go_wp2_with fail
  refine (write_u8 (w.heap.size + 1) (w.heap.size + 2) _ 0 _ HB1 (by simp)).mono ?_
  rintro e w2 ⟨rfl, hb, hl⟩
  have HB2 := Lib.hid hb
  have hbel := HL.out.trans hl
  have hc2 := (mWorld_cells hbel).2.1
  clear HL HB1
  clear hc1
  have HL := Lib.hid hbel
  clear hb hl hbel
  go_wp2_with fail
  refine (write_i8 (w.heap.size + 1) (w.heap.size + 2) _ _ HB2 (by simp)).mono ?_
  rintro e w3 ⟨rfl, hb, hl⟩
  have HB3 := Lib.hid hb
  have hbel := HL.out.trans hl
  have hc3 := (mWorld_cells hbel).2.2.1
  clear HL HB2
  clear hc2
  have HL := Lib.hid hbel
  clear hb hl hbel
  go_wp2_with fail
  refine (write_i8 (w.heap.size + 1) (w.heap.size + 2) _ _ HB3 (by simp)).mono ?_
  rintro e w4 ⟨rfl, hb, hl⟩
  have HB4 := Lib.hid hb
  have hbel := HL.out.trans hl
  have hc4 := (mWorld_cells hbel).2.2.2.1
  clear HL HB3
  clear hc3
  have HL := Lib.hid hbel
  clear hb hl hbel
  go_wp2_with fail
  refine (write_short (w.heap.size + 1) (w.heap.size + 2) _ _ HB4 (by simp)).mono ?_
  rintro e w5 ⟨rfl, hb, hl⟩
  have HB5 := Lib.hid hb
  have hbel := HL.out.trans hl
  have hc5 := (mWorld_cells hbel).2.2.2.2.1
  clear HL HB4
  clear hc4
  have HL := Lib.hid hbel
  clear hb hl hbel
  go_wp2_with fail
  refine (write_short (w.heap.size + 1) (w.heap.size + 2) _ _ HB5 (by simp)).mono ?_
  rintro e w6 ⟨rfl, hb, hl⟩
  have HB6 := Lib.hid hb
  have hbel := HL.out.trans hl
  have hc6 := (mWorld_cells hbel).2.2.2.2.2.1
  clear HL HB5
  clear hc5
  have HL := Lib.hid hbel
  clear hb hl hbel
  go_wp2_with fail
  refine (write_u32 (w.heap.size + 1) (w.heap.size + 2) _ _ HB6 (by simp)).mono ?_
  rintro e w7 ⟨rfl, hb, hl⟩
  have HB7 := Lib.hid hb
  have hbel := HL.out.trans hl
  have hc7 := (mWorld_cells hbel).2.2.2.2.2.2.1
  clear HL HB6
  clear hc6
  have HL := Lib.hid hbel
  clear hb hl hbel
  go_wp2_with fail
  refine (write_stamp (w.heap.size + 1) (w.heap.size + 2) _ _ HB7 (by simp)).mono ?_
  rintro e w8 ⟨rfl, hb, hl⟩
  have HB8 := Lib.hid hb
  have hbel := HL.out.trans hl
  have hc8 := (mWorld_cells hbel).2.2.2.2.2.2.2.1
  clear HL HB7
  clear hc7
  have HL := Lib.hid hbel
  clear hb hl hbel
  go_wp2_with fail
  refine (write_stamp (w.heap.size + 1) (w.heap.size + 2) _ _ HB8 (by simp)).mono ?_
  rintro e w9 ⟨rfl, hb, hl⟩
  have HB9 := Lib.hid hb
  have hbel := HL.out.trans hl
  have hc9 := (mWorld_cells hbel).2.2.2.2.2.2.2.2.1
  clear HL HB8
  clear hc8
  have HL := Lib.hid hbel
  clear hb hl hbel
  go_wp2_with fail
  refine (write_stamp (w.heap.size + 1) (w.heap.size + 2) _ _ HB9 (by simp)).mono ?_
  rintro e w10 ⟨rfl, hb, hl⟩
  have HB10 := Lib.hid hb
  have hbel := HL.out.trans hl
  have hc10 := (mWorld_cells hbel).2.2.2.2.2.2.2.2.2
  clear HL HB9
  clear hc9
  have HL := Lib.hid hbel
  clear hb hl hbel
  go_wp2_with fail
  refine (write_stamp (w.heap.size + 1) (w.heap.size + 2) _ _ HB10 (by simp)).mono ?_
  rintro e w11 ⟨rfl, hb, hl⟩
  have HB11 := Lib.hid hb
  have hbel := HL.out.trans hl
  clear HL HB10
  clear hc10
  have HL := Lib.hid hbel
  clear hb hl hbel
  go_wp2_with fail
  go_ret2
  refine ⟨rfl, ?_, (mWorld_below w 27).trans (HL.out.mono (by omega))⟩
  have := HB11.out
  rw [list48] at this
  exact this

set_option maxRecDepth 100000 in
set_option maxHeartbeats 2000000 in
theorem build_four (q : Nat) (w : World) (h0 : w.cell? ⟨q, 0, none⟩ = some (.int .i64 4)) (h4 : w.cell? ⟨q, 4, none⟩ = some (.bool false)) (hq : q < w.heap.size) :
    Calls Tryd.prog 21 #[.pointer (some ⟨q, 0, none⟩)] w fun e w' => e = .returned (.tuple #[.pointer (some ⟨w.heap.size + 1, 0, none⟩), .nilIface]) ∧
      Buf (w.heap.size + 2) (w.heap.size + 1) w' (35 :: List.replicate 47 0) ∧ Below w.heap.size w w' := by
  obtain ⟨b1, b2, b3, b4, b5, b6⟩ := bits4
  have HB0 := Lib.hid (mWorld_buf w 35)
  go_enter Tryd.func21, Tryd.ntmps21
  go_wp2_with (first | (go_at_call 28; go_in) | (go_at_call 29; go_in) | (go_at_call 30; go_in))
  refine (write_u8 (w.heap.size + 1) (w.heap.size + 2) _ 35 _ HB0 (by simp)).mono ?_
  rintro e w1 ⟨rfl, hb, hl⟩
  have HB1 := Lib.hid hb
  have hbel : Below (w.heap.size + 1) (mWorld w 35) w1 := hl
  have hc1 := (mWorld_cells hbel).1
  clear HB0
  have HL := Lib.hid hbel
  clear hb hl hbel
  go_wp2_with fail
  refine (write_u8 (w.heap.size + 1) (w.heap.size + 2) _ 0 _ HB1 (by simp)).mono ?_
  rintro e w2 ⟨rfl, hb, hl⟩
  have HB2 := Lib.hid hb
  have hbel := HL.out.trans hl
  have hc2 := (mWorld_cells hbel).2.1
  clear HL HB1
  clear hc1
  have HL := Lib.hid hbel
  clear hb hl hbel
  go_wp2_with fail
  refine (write_i8 (w.heap.size + 1) (w.heap.size + 2) _ _ HB2 (by simp)).mono ?_
  rintro e w3 ⟨rfl, hb, hl⟩
  have HB3 := Lib.hid hb
  have hbel := HL.out.trans hl
  have hc3 := (mWorld_cells hbel).2.2.1
  clear HL HB2
  clear hc2
  have HL := Lib.hid hbel
  clear hb hl hbel
  go_wp2_with fail
  refine (write_i8 (w.heap.size + 1) (w.heap.size + 2) _ _ HB3 (by simp)).mono ?_
  rintro e w4 ⟨rfl, hb, hl⟩
  have HB4 := Lib.hid hb
  have hbel := HL.out.trans hl
  have hc4 := (mWorld_cells hbel).2.2.2.1
  clear HL HB3
  clear hc3
  have HL := Lib.hid hbel
  clear hb hl hbel
  go_wp2_with fail
  refine (write_short (w.heap.size + 1) (w.heap.size + 2) _ _ HB4 (by simp)).mono ?_
  rintro e w5 ⟨rfl, hb, hl⟩
  have HB5 := Lib.hid hb
  have hbel := HL.out.trans hl
  have hc5 := (mWorld_cells hbel).2.2.2.2.1
  clear HL HB4
  clear hc4
  have HL := Lib.hid hbel
  clear hb hl hbel
  go_wp2_with fail
  refine (write_short (w.heap.size + 1) (w.heap.size + 2) _ _ HB5 (by simp)).mono ?_
  rintro e w6 ⟨rfl, hb, hl⟩
  have HB6 := Lib.hid hb
  have hbel := HL.out.trans hl
  have hc6 := (mWorld_cells hbel).2.2.2.2.2.1
  clear HL HB5
  clear hc5
  have HL := Lib.hid hbel
  clear hb hl hbel
  go_wp2_with fail
  refine (write_u32 (w.heap.size + 1) (w.heap.size + 2) _ _ HB6 (by simp)).mono ?_
  rintro e w7 ⟨rfl, hb, hl⟩
  have HB7 := Lib.hid hb
  have hbel := HL.out.trans hl
  have hc7 := (mWorld_cells hbel).2.2.2.2.2.2.1
  clear HL HB6
  clear hc6
  have HL := Lib.hid hbel
  clear hb hl hbel
  go_wp2_with fail
  refine (write_stamp (w.heap.size + 1) (w.heap.size + 2) _ _ HB7 (by simp)).mono ?_
  rintro e w8 ⟨rfl, hb, hl⟩
  have HB8 := Lib.hid hb
  have hbel := HL.out.trans hl
  have hc8 := (mWorld_cells hbel).2.2.2.2.2.2.2.1
  clear HL HB7
  clear hc7
  have HL := Lib.hid hbel
  clear hb hl hbel
  go_wp2_with fail
  refine (write_stamp (w.heap.size + 1) (w.heap.size + 2) _ _ HB8 (by simp)).mono ?_
  rintro e w9 ⟨rfl, hb, hl⟩
  have HB9 := Lib.hid hb
  have hbel := HL.out.trans hl
  have hc9 := (mWorld_cells hbel).2.2.2.2.2.2.2.2.1
  clear HL HB8
  clear hc8
  have HL := Lib.hid hbel
  clear hb hl hbel
  go_wp2_with fail
  refine (write_stamp (w.heap.size + 1) (w.heap.size + 2) _ _ HB9 (by simp)).mono ?_
  rintro e w10 ⟨rfl, hb, hl⟩
  have HB10 := Lib.hid hb
  have hbel := HL.out.trans hl
  have hc10 := (mWorld_cells hbel).2.2.2.2.2.2.2.2.2
  clear HL HB9
  clear hc9
  have HL := Lib.hid hbel
  clear hb hl hbel
  go_wp2_with fail
  refine (write_stamp (w.heap.size + 1) (w.heap.size + 2) _ _ HB10 (by simp)).mono ?_
  rintro e w11 ⟨rfl, hb, hl⟩
  have HB11 := Lib.hid hb
  have hbel := HL.out.trans hl
  clear HL HB10
  clear hc10
  have HL := Lib.hid hbel
  clear hb hl hbel
  go_wp2_with fail
  go_ret2
  refine ⟨rfl, ?_, (mWorld_below w 35).trans (HL.out.mono (by omega))⟩
  have := HB11.out
  rw [list48] at this
  exact this

end Go.Proofs.YtbalnfkglnimeaaDoor
