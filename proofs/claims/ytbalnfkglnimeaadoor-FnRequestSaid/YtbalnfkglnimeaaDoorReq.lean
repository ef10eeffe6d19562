/-
  The thin package's Request (function 9) with its closure (15), by contracts.
-/
import Derived.Test.YtbalnfkglnimeaaDoorZZ
namespace Go.Proofs.YtbalnfkglnimeaaDoor
open Go.RowKit

set_option maxRecDepth 100000 in
set_option maxHeartbeats 400000 in
theorem request1_any (ver : Int) (hver : ver = 3 ∨ ver = 4) (tr : Int) (htr : Hid (0 ≤ tr ∧ tr < 18446744073709551616)) (a0 a1 a2 a3 a4 c : Nat) (x : Value) (w : World)
    (h0 : w.cell? ⟨a0, 0, none⟩ = some (.int .i64 ver)) (h1 : w.cell? ⟨a1, 0, none⟩ = some (.int .i64 0)) (h2 : w.cell? ⟨a2, 0, none⟩ = some (.string { data := #[] })) (h3 : w.cell? ⟨a3, 0, none⟩ = some (.int .u32 0)) (h4 : w.cell? ⟨a4, 0, none⟩ = some (.int .u64 tr))
    (hc : w.cell? ⟨c, 0, none⟩ = some x) (hf : w.frozen? ⟨c, 0, none⟩ = false) (hl : c < w.heap.size) (hl4 : a4 < w.heap.size) :
    Calls Tryd.prog 15 #[.pointer (some ⟨a0, 0, none⟩), .pointer (some ⟨a1, 0, none⟩), .pointer (some ⟨a2, 0, none⟩), .pointer (some ⟨a3, 0, none⟩), .pointer (some ⟨a4, 0, none⟩), .pointer (some ⟨c, 0, none⟩)] w fun e w' =>
      ∃ v w1 s, e = .returned (.bool true) ∧ Req ver tr s ∧ Fresh w.heap.size w1 v s ∧ Below w.heap.size w w1 ∧ w' = w1.setCell ⟨c, 0, none⟩ v := by
  have HV := Lib.hid hver
  clear hver
  have h4a : ∀ o, (w.alloc o).cell? ⟨a4, 0, none⟩ = some (.int .u64 tr) := fun o => (((Below.refl w.heap.size w).alloc (Nat.le_refl _) o).cell (p := ⟨a4, 0, none⟩) hl4).trans h4
  go_enter Tryd.func15, Tryd.ntmps15
  go_wp2_with fail
  refine (zzrequest_any ver HV.out w.heap.size tr htr _ (by simp [go_sem]) (by simp [go_sem]) (by simp [go_sem]) (by simp)).mono ?_
  rintro e w1 ⟨v, s, rfl, hreq, hf1, hb1⟩
  obtain ⟨g, o, cp, rfl, k1, k2, _, k4⟩ := hf1
  have hs0 : 0 < s.size := by rw [hreq.1]; omega
  have hs64 : s.size ≤ 64 := by rw [hreq.1]; omega
  have hbel0 : Below w.heap.size w w1 := ((Below.refl _ _).alloc (Nat.le_refl _) _).trans (hb1.mono (by simp))
  have HB1 := Lib.hid hbel0
  have HR := Lib.hid hreq
  have K4 := Lib.hid k4
  clear hb1 hreq k4 hbel0 h4a
  go_wp2_with fail
  refine (clone_any g o cp s w1 hs0 (by omega) K4.out k2).mono ?_
  rintro e w2 ⟨v2, rfl, hf2, hb2⟩
  have hbel : Below w.heap.size w w2 := HB1.out.trans (hb2.mono HB1.out.size)
  have hc2 : w2.cell? ⟨c, 0, none⟩ = some x := (hbel.cell (p := ⟨c, 0, none⟩) hl).trans hc
  have hf3 : w2.frozen? ⟨c, 0, none⟩ = false := (hbel.frozen (p := ⟨c, 0, none⟩) hl).trans hf
  have F := Lib.hid hf2
  obtain ⟨g2, o2, cp2, rfl, _, _, _, h5⟩ := hf2
  have HBL := Lib.hid hbel
  clear h5 hbel hb2
  go_wp2_with fail
  go_returns
  exact ⟨_, w2, s, rfl, HR.out, F.out.mono HB1.out.size, HBL.out, rfl⟩

/-- Behind the closure: the variable at block c holds a request's fresh bytes. -/
def LaidReq (ver tr : Int) (c : Nat) (w w' : World) : Prop := ∃ s, Req ver tr s ∧ Laid s c w w'

set_option maxRecDepth 100000 in
set_option maxHeartbeats 400000 in
theorem try_request (ver : Int) (hver : ver = 3 ∨ ver = 4) (tr : Int) (htr : Hid (0 ≤ tr ∧ tr < 18446744073709551616)) (a0 a1 a2 a3 a4 c : Nat) (x : Value) (w : World)
    (h0 : w.cell? ⟨a0, 0, none⟩ = some (.int .i64 ver)) (h1 : w.cell? ⟨a1, 0, none⟩ = some (.int .i64 0)) (h2 : w.cell? ⟨a2, 0, none⟩ = some (.string { data := #[] })) (h3 : w.cell? ⟨a3, 0, none⟩ = some (.int .u32 0)) (h4 : w.cell? ⟨a4, 0, none⟩ = some (.int .u64 tr))
    (hc : w.cell? ⟨c, 0, none⟩ = some x) (hf : w.frozen? ⟨c, 0, none⟩ = false) (l0 : a0 < w.heap.size) (l1 : a1 < w.heap.size) (l2 : a2 < w.heap.size) (l3 : a3 < w.heap.size) (l4 : a4 < w.heap.size) (hl : c < w.heap.size) :
    Calls Tryd.prog 11 #[.func (.func 15) #[] #[.pointer (some ⟨a0, 0, none⟩), .pointer (some ⟨a1, 0, none⟩), .pointer (some ⟨a2, 0, none⟩), .pointer (some ⟨a3, 0, none⟩), .pointer (some ⟨a4, 0, none⟩), .pointer (some ⟨c, 0, none⟩)]] w fun e w' => e = .returned (.bool true) ∧ LaidReq ver tr c w w' := by
  have hmf : ∀ (fn : Fn) (first cap : Array Value) (w : World), (Instr.makeFunc fn first cap).run Tryd.prog w = .ok (.func fn first cap) w := fun _ _ _ _ => rfl
  have hB := (Below.refl w.heap.size w).alloc (Nat.le_refl _) (.cells #[.bool false] 4)
  have b0 := (hB.cell (p := ⟨a0, 0, none⟩) l0).trans h0
  have b1 := (hB.cell (p := ⟨a1, 0, none⟩) l1).trans h1
  have b2 := (hB.cell (p := ⟨a2, 0, none⟩) l2).trans h2
  have b3 := (hB.cell (p := ⟨a3, 0, none⟩) l3).trans h3
  have b4 := (hB.cell (p := ⟨a4, 0, none⟩) l4).trans h4
  have hc1 := (hB.cell (p := ⟨c, 0, none⟩) hl).trans hc
  have hf1 := (hB.frozen (p := ⟨c, 0, none⟩) hl).trans hf
  clear hB h0 h1 h2 h3 h4 hc hf
  go_enter_defers Tryd.func11, Tryd.ntmps11
  go_wp2_with fail
  refine (request1_any ver hver tr htr a0 a1 a2 a3 a4 c x _ b0 b1 b2 b3 b4 hc1 hf1 (by simp; omega) (by simp; omega)).mono ?_
  rintro e w' ⟨v, w1, s, rfl, hreq, hF, hB, rfl⟩
  have hL := laid_final hl hc1 hf1 hF hB
  have hq := laid_flag (v := v) hl hB
  generalize hW : w1.setCell ⟨c, 0, none⟩ v = w2 at hq hL
  clear hW
  obtain ⟨hq, hqf⟩ := hq
  have HL : Hid (LaidReq ver tr c w (w2.setCell ⟨w.heap.size, 0, none⟩ (.bool true))) := Lib.hid ⟨s, hreq, hL⟩
  clear hL hreq
  go_wp2_with fail
  refine leaves_cons (f := 19) (args := #[.pointer (some ⟨w.heap.size, 0, none⟩)]) (by simp) (by simp [go_sem]) ?_
  refine (catch_idle ⟨w.heap.size, 0, none⟩ _).mono ?_
  rintro e u' w'' ⟨rfl, rfl, rfl⟩
  simp [Leaves, settle, results, Tryd.results11, go_sem, hq]
  exact HL.out

set_option maxRecDepth 100000 in
set_option maxHeartbeats 400000 in
/-- impl.Request, without a code. -/
theorem request_any (ver : Int) (hver : ver = 3 ∨ ver = 4) (tr : Int) (htr : Hid (0 ≤ tr ∧ tr < 18446744073709551616)) (w : World) :
    Calls Tryd.prog 9 #[.int .i64 ver, .int .i64 0, .string { data := #[] }, .int .u32 0, .int .u64 tr] w fun e w' => ∃ v s, e = .returned (.tuple #[v, .bool true]) ∧ Req ver tr s ∧ Fresh w.heap.size w' v s ∧ Below w.heap.size w w' := by
  have hmf : ∀ (fn : Fn) (first cap : Array Value) (w : World), (Instr.makeFunc fn first cap).run Tryd.prog w = .ok (.func fn first cap) w := fun _ _ _ _ => rfl
  have HV := Lib.hid hver
  clear hver
  go_enter Tryd.func9, Tryd.ntmps9
  go_wp2_with fail
  refine (try_request ver HV.out tr htr w.heap.size (w.heap.size + 1) (w.heap.size + 1 + 1) (w.heap.size + 1 + 1 + 1) (w.heap.size + 1 + 1 + 1 + 1) (w.heap.size + 1 + 1 + 1 + 1 + 1) (.slice none 0 0) _ (by simp [go_sem]) (by simp [go_sem]) (by simp [go_sem]) (by simp [go_sem]) (by simp [go_sem]) (by simp [go_sem]) (by simp [go_sem]) (by simp <;> omega) (by simp <;> omega) (by simp <;> omega) (by simp <;> omega) (by simp <;> omega) (by simp <;> omega)).mono ?_
  rintro e w1 ⟨rfl, s, hreq, hL⟩
  obtain ⟨v, hvc, hvf, hF, hsz, hbl⟩ := hL
  have HR := Lib.hid hreq
  have F := Lib.hid hF
  have B := Lib.hid (hbl w.heap.size (by omega))
  obtain ⟨g, o, cp, rfl, _, _, _, h4⟩ := hF
  clear h4 hbl hreq
  have hres : (w1.setCell ⟨w.heap.size + 1 + 1 + 1 + 1 + 1, 0, none⟩ (.slice (some ⟨g, o, none⟩) s.size cp)).cell? ⟨w.heap.size + 1 + 1 + 1 + 1 + 1, 0, none⟩ = some (.slice (some ⟨g, o, none⟩) s.size cp) := World.cell?_setCell_same _ _ _ hvc
  go_wp2_with fail
  refine bodyPost_ret (v := .tuple #[.slice (some ⟨g, o, none⟩) s.size cp, .bool true]) (by simp [results, Tryd.results9, go_sem, hres]) rfl ?_
  refine ⟨_, s, rfl, HR.out, ?_, ?_⟩
  · exact (F.out.setCell (by simp <;> omega) _).mono (by simp <;> omega)
  · exact ((((((((Below.refl _ _).alloc (Nat.le_refl _) _).alloc (by simp <;> omega) _).alloc (by simp <;> omega) _).alloc (by simp <;> omega) _).alloc (by simp <;> omega) _).alloc (by simp <;> omega) _).trans B.out).setCell (by show w.heap.size ≤ w.heap.size + 1 + 1 + 1 + 1 + 1; omega) _

end Go.Proofs.YtbalnfkglnimeaaDoor
