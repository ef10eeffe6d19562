/-
  The thin package's Key (function 7) with its closure (12), the guarded call 'try' (11, 19) and ZZKey (13), each by a contract.
-/
import Derived.Test.YtbalnfkglnimeaaDoorAuth
import Derived.Defers
import Derived.Recover
import Derived.Laws.Pointers
namespace Go.Proofs.YtbalnfkglnimeaaDoor
open Go.RowKit

/-- What decodeAuthKey is asked to do with the text t: to hand back the bytes s, in memory of its own. -/
def Decodes (t s : ByteArray) : Prop := ∀ (k : Int) (w : World), (k = 1 ∨ k = 2) →
  Calls Tryd.prog 20 #[.agg #[.int .i64 k, .string t, .int .u32 0]] w fun e w' => ∃ v, e = .returned (.tuple #[v, .nilIface]) ∧ Fresh w.heap.size w' v s ∧ Below w.heap.size w w'

set_option maxRecDepth 100000 in
set_option maxHeartbeats 400000 in
theorem zzkey_any (t s : ByteArray) (hd : Hid (Decodes t s)) (k : Int) (hk : k = 1 ∨ k = 2) (w : World) :
    Calls Tryd.prog 13 #[.agg #[.int .i64 k, .string t, .int .u32 0]] w fun e w' => ∃ v, e = .returned (.tuple #[v, .nilIface]) ∧ Fresh w.heap.size w' v s ∧ Below w.heap.size w w' := by
  go_enter Tryd.func13, Tryd.ntmps13
  go_wp2_with fail
  refine (hd.out k _ hk).mono ?_
  rintro e w1 ⟨v, rfl, hf, hb⟩
  have HF := Lib.hid hf
  have HB := Lib.hid hb
  clear hf hb
  go_wp2_with fail
  go_ret2
  refine ⟨v, rfl, HF.out.mono (by simp), ((Below.refl _ _).alloc (Nat.le_refl _) _).trans (HB.out.mono (by simp))⟩

set_option maxRecDepth 100000 in
set_option maxHeartbeats 400000 in
/-- The closure: it lays the key into the variable at block c. -/
theorem key1_any (t s : ByteArray) (hd : Hid (Decodes t s)) (hs : 0 < s.size) (hs2 : s.size ≤ 64) (k : Int) (hk : k = 1 ∨ k = 2) (a b c : Nat) (x : Value) (w : World)
    (ha : w.cell? ⟨a, 0, none⟩ = some (.int .i64 k)) (hb : w.cell? ⟨b, 0, none⟩ = some (.string t)) (hc : w.cell? ⟨c, 0, none⟩ = some x) (hf : w.frozen? ⟨c, 0, none⟩ = false) (hl : c < w.heap.size) :
    Calls Tryd.prog 12 #[.pointer (some ⟨a, 0, none⟩), .pointer (some ⟨b, 0, none⟩), .pointer (some ⟨c, 0, none⟩)] w fun e w' => ∃ v w1, e = .returned (.bool true) ∧ Fresh w.heap.size w1 v s ∧ Below w.heap.size w w1 ∧ w' = w1.setCell ⟨c, 0, none⟩ v := by
  go_enter Tryd.func12, Tryd.ntmps12
  go_wp2_with fail
  refine (zzkey_any t s hd k hk _).mono ?_
  rintro e w1 ⟨v, rfl, hf1, hb1⟩
  obtain ⟨g, o, cp, rfl, h1, h2, h3, h4⟩ := hf1
  have HB1 := Lib.hid hb1
  have H4 := Lib.hid h4
  clear hb1 h4
  go_wp2_with fail
  refine (clone_any g o cp s w1 hs (by omega) H4.out h2).mono ?_
  rintro e w2 ⟨v2, rfl, hf2, hb2⟩
  have hbel : Below w.heap.size w w2 := HB1.out.trans (hb2.mono HB1.out.size)
  have hc2 : w2.cell? ⟨c, 0, none⟩ = some x := (hbel.cell (p := ⟨c, 0, none⟩) hl).trans hc
  have hf3 : w2.frozen? ⟨c, 0, none⟩ = false := (hbel.frozen (p := ⟨c, 0, none⟩) hl).trans hf
  have F := Lib.hid hf2
  obtain ⟨g2, o2, cp2, rfl, _, _, _, h5⟩ := hf2
  have HBL := Lib.hid hbel
  have HB2 := Lib.hid hb2
  clear h5 hbel hb2
  go_wp2_with fail
  go_returns
  exact ⟨_, w2, rfl, F.out.mono HB1.out.size, HBL.out, rfl⟩

/-- The deferred closure of 'try' behind a return: there is nothing to recover. -/
theorem catch_idle (p : Addr) (w : World) :
    CallsD Tryd.prog 19 #[.pointer (some p)] .returning w fun e u' w' => e = .returned (.tuple #[]) ∧ u' = .returning ∧ w' = w := by
  refine callsD_of_wpS Tryd.func19 rfl fun c₀ cs hu => ?_
  apply wpS_seq
  apply wpS_region
  simp [wpOpsS, go_sem, recoverD, hu, Tryd.ntmps19, Exit.thenS]
  refine wpS_cond (t := false) (by simp [Act.eval, Array.replicate]) ?_
  simp only [Bool.false_eq_true, if_false]
  refine wpS_of_wp (wp_skip ?_)
  cases c₀
  simp_all [bodyPostS, results, Tryd.results19]

/-- Behind the closure: the variable at block c holds fresh bytes; nothing else below has turned. -/
def Laid (s : ByteArray) (c : Nat) (w w' : World) : Prop :=
  ∃ v, w'.cell? ⟨c, 0, none⟩ = some v ∧ w'.frozen? ⟨c, 0, none⟩ = false ∧ Fresh w.heap.size w' v s ∧ w.heap.size ≤ w'.heap.size ∧ ∀ B, B ≤ c → Below B w w'

theorem Fresh.setCell {B : Nat} {w : World} {v : Value} {s : ByteArray} (h : Fresh B w v s) {p : Addr} (hp : p.block < B) (u : Value) : Fresh B (w.setCell p u) v s := by
  obtain ⟨g, o, cap, hv, h1, h2, h3, h4⟩ := h
  refine ⟨g, o, cap, hv, h1, by simpa [World.setCell] using h2, h3, fun i hi => ?_⟩
  rw [World.cell?_setCell_other _ _ _ _ (by intro e; subst e; simp at hp; omega)]
  exact h4 i hi

theorem laid_flag {c : Nat} {v : Value} {w w1 : World} (hl : c < w.heap.size) (hB : Below (w.alloc (.cells #[.bool false] 4)).heap.size (w.alloc (.cells #[.bool false] 4)) w1) :
    (w1.setCell ⟨c, 0, none⟩ v).cell? ⟨w.heap.size, 0, none⟩ = some (.bool false) ∧ (w1.setCell ⟨c, 0, none⟩ v).frozen? ⟨w.heap.size, 0, none⟩ = false := by
  constructor
  · rw [World.cell?_setCell_other _ _ _ _ (by intro e; cases e; omega), hB.cell (p := ⟨w.heap.size, 0, none⟩) (by simp)]
    simp [go_sem]
  · rw [World.frozen?_setCell, hB.frozen (p := ⟨w.heap.size, 0, none⟩) (by simp)]
    simp [go_sem]

theorem laid_final {s : ByteArray} {c : Nat} {v x : Value} {w w1 : World} (hl : c < w.heap.size)
    (hc1 : (w.alloc (.cells #[.bool false] 4)).cell? ⟨c, 0, none⟩ = some x) (hf1 : (w.alloc (.cells #[.bool false] 4)).frozen? ⟨c, 0, none⟩ = false)
    (hF : Fresh (w.alloc (.cells #[.bool false] 4)).heap.size w1 v s) (hB : Below (w.alloc (.cells #[.bool false] 4)).heap.size (w.alloc (.cells #[.bool false] 4)) w1) :
    Laid s c w ((w1.setCell ⟨c, 0, none⟩ v).setCell ⟨w.heap.size, 0, none⟩ (.bool true)) := by
  have hz : (w.alloc (.cells #[.bool false] 4)).heap.size = w.heap.size + 1 := by simp
  rw [hz] at hF
  have hc2 := (hB.cell (p := ⟨c, 0, none⟩) (by rw [hz]; show c < _; omega)).trans hc1
  refine ⟨v, ?_, ?_, ?_, ?_, fun B hBc => ?_⟩
  · rw [World.cell?_setCell_other _ _ _ _ (by intro e; cases e; omega)]
    exact World.cell?_setCell_same _ _ _ hc2
  · rw [World.frozen?_setCell, World.frozen?_setCell, hB.frozen (p := ⟨c, 0, none⟩) (by rw [hz]; show c < _; omega)]; exact hf1
  · exact ((hF.setCell (by show c < _; omega) v).setCell (by show w.heap.size < _; omega) _).mono (by omega)
  · have := hB.size
    simp [World.setCell] at this ⊢
    omega
  · exact ((((Below.refl B w).alloc (by omega) _).trans (hB.mono (by rw [hz]; omega))).setCell (by exact hBc) v).setCell (by show B ≤ w.heap.size; omega) _

set_option maxRecDepth 100000 in
set_option maxHeartbeats 400000 in
theorem try_key (t s : ByteArray) (hd : Hid (Decodes t s)) (hs : 0 < s.size) (hs2 : s.size ≤ 64) (k : Int) (hk : k = 1 ∨ k = 2) (a b c : Nat) (x : Value) (w : World)
    (ha : w.cell? ⟨a, 0, none⟩ = some (.int .i64 k)) (hb : w.cell? ⟨b, 0, none⟩ = some (.string t)) (hc : w.cell? ⟨c, 0, none⟩ = some x) (hf : w.frozen? ⟨c, 0, none⟩ = false) (hla : a < w.heap.size) (hlb : b < w.heap.size) (hl : c < w.heap.size) :
    Calls Tryd.prog 11 #[.func (.func 12) #[] #[.pointer (some ⟨a, 0, none⟩), .pointer (some ⟨b, 0, none⟩), .pointer (some ⟨c, 0, none⟩)]] w fun e w' => e = .returned (.bool true) ∧ Laid s c w w' := by
  have hmf : ∀ (fn : Fn) (first cap : Array Value) (w : World), (Instr.makeFunc fn first cap).run Tryd.prog w = .ok (.func fn first cap) w := fun _ _ _ _ => rfl
  have hB := (Below.refl w.heap.size w).alloc (Nat.le_refl _) (.cells #[.bool false] 4)
  have ha1 := (hB.cell (p := ⟨a, 0, none⟩) hla).trans ha
  have hb1 := (hB.cell (p := ⟨b, 0, none⟩) hlb).trans hb
  have hc1 := (hB.cell (p := ⟨c, 0, none⟩) hl).trans hc
  have hf1 := (hB.frozen (p := ⟨c, 0, none⟩) hl).trans hf
  clear hB
  clear ha hb hc hf
  go_enter_defers Tryd.func11, Tryd.ntmps11
  go_wp2_with fail
  refine (key1_any t s hd hs hs2 k hk a b c x _ ha1 hb1 hc1 hf1 (by simp; omega)).mono ?_
  rintro e w' ⟨v, w1, rfl, hF, hB, rfl⟩
  have hL := laid_final hl hc1 hf1 hF hB
  have hq := laid_flag (v := v) hl hB
  generalize hW : w1.setCell ⟨c, 0, none⟩ v = w2 at hq hL
  clear hW
  obtain ⟨hq, hqf⟩ := hq
  have HL := Lib.hid hL
  clear hL
  go_wp2_with fail
  refine leaves_cons (f := 19) (args := #[.pointer (some ⟨w.heap.size, 0, none⟩)]) (by simp) (by simp [go_sem]) ?_
  refine (catch_idle ⟨w.heap.size, 0, none⟩ _).mono ?_
  rintro e u' w'' ⟨rfl, rfl, rfl⟩
  simp [Leaves, settle, results, Tryd.results11, go_sem, hq]
  exact HL.out

set_option maxRecDepth 100000 in
set_option maxHeartbeats 400000 in
/-- impl.Key. -/
theorem key_any (t s : ByteArray) (hd : Hid (Decodes t s)) (hs : 0 < s.size) (hs2 : s.size ≤ 64) (k : Int) (hk : k = 1 ∨ k = 2) (w : World) :
    Calls Tryd.prog 7 #[.int .i64 k, .string t] w fun e w' => ∃ v, e = .returned (.tuple #[v, .bool true]) ∧ Fresh w.heap.size w' v s ∧ Below w.heap.size w w' := by
  have hmf : ∀ (fn : Fn) (first cap : Array Value) (w : World), (Instr.makeFunc fn first cap).run Tryd.prog w = .ok (.func fn first cap) w := fun _ _ _ _ => rfl
  go_enter Tryd.func7, Tryd.ntmps7
  go_wp2_with fail
  refine (try_key t s hd hs hs2 k hk w.heap.size (w.heap.size + 1) (w.heap.size + 1 + 1) (.slice none 0 0) _ (by simp [go_sem]) (by simp [go_sem]) (by simp [go_sem]) (by simp [go_sem]) (by simp <;> omega) (by simp <;> omega) (by simp <;> omega)).mono ?_
  rintro e w1 ⟨rfl, hL⟩
  obtain ⟨v, hvc, hvf, hF, hsz, hbl⟩ := hL
  have F := Lib.hid hF
  have B := Lib.hid (hbl w.heap.size (by omega))
  obtain ⟨g, o, cp, rfl, _, _, _, h4⟩ := hF
  clear h4 hbl
  have hres : (w1.setCell ⟨w.heap.size + 1 + 1, 0, none⟩ (.slice (some ⟨g, o, none⟩) s.size cp)).cell? ⟨w.heap.size + 1 + 1, 0, none⟩ = some (.slice (some ⟨g, o, none⟩) s.size cp) := World.cell?_setCell_same _ _ _ hvc
  go_wp2_with fail
  refine bodyPost_ret (v := .tuple #[.slice (some ⟨g, o, none⟩) s.size cp, .bool true]) (by simp [results, Tryd.results7, go_sem, hres]) rfl ?_
  refine ⟨_, rfl, ?_, ?_⟩
  · exact (F.out.setCell (by simp <;> omega) _).mono (by simp <;> omega)
  · exact (((((Below.refl _ _).alloc (Nat.le_refl _) _).alloc (by simp <;> omega) _).alloc (by simp <;> omega) _).trans B.out).setCell (by show w.heap.size ≤ w.heap.size + 1 + 1; omega) _

end Go.Proofs.YtbalnfkglnimeaaDoor
