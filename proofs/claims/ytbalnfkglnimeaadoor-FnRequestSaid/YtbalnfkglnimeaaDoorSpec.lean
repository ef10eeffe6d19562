/-
  The reference's Hex and Printable (functions 8, 5), each by a contract.
-/
import Derived.Test.YtbalnfkglnimeaaDoorHex
import Derived.Deep.RegionLaw
import Derived.BigRegion
namespace Go.Proofs.YtbalnfkglnimeaaDoor
open Go.RowKit

def hexL (l : List UInt8) : List UInt8 := l.flatMap fun c => [UInt8.ofNat (dg (c.toNat / 16)), UInt8.ofNat (dg (c.toNat % 16))]
def hexS (s : ByteArray) : ByteArray := ⟨(hexL s.data.toList).toArray⟩

theorem hexL_length (l : List UInt8) : (hexL l).length = 2 * l.length := by
  induction l with
  | nil => rfl
  | cons c l ih => simp only [hexL, List.flatMap_cons, List.length_append, List.length_cons, List.length_nil] at ih ⊢; omega

theorem hexL_get (l : List UInt8) : ∀ k c, l[k]? = some c → (hexL l)[2 * k]? = some (UInt8.ofNat (dg (c.toNat / 16))) ∧ (hexL l)[2 * k + 1]? = some (UInt8.ofNat (dg (c.toNat % 16))) := by
  induction l with
  | nil => intro k c h; simp at h
  | cons x l ih =>
    intro k c h
    have e : hexL (x :: l) = UInt8.ofNat (dg (x.toNat / 16)) :: UInt8.ofNat (dg (x.toNat % 16)) :: hexL l := rfl
    rw [e]
    match k with
    | 0 => simp at h; subst h; exact ⟨rfl, rfl⟩
    | k + 1 =>
      have := ih k c (by simpa using h)
      rw [show 2 * (k + 1) = 2 * k + 1 + 1 by omega]
      simpa using this

theorem dg_lt (n : Nat) (h : n < 16) : dg n < 256 := by unfold dg; split <;> omega

theorem hexS_size (s : ByteArray) : (hexS s).size = 2 * s.size := by
  have : (hexS s).size = (hexL s.data.toList).length := by simp [hexS, ByteArray.size]
  rw [this, hexL_length]; simp

theorem isHex_hexS (s : ByteArray) : IsHex (hexS s) s := by
  refine ⟨hexS_size s, fun k h h1 h2 => ?_⟩
  have hk : s.data.toList[k]? = some s[k] := by
    rw [List.getElem?_eq_getElem (by simpa using h)]; rfl
  have hb := s[k].toNat_lt
  have g := hexL_get s.data.toList k s[k] hk
  have e1 : some ((hexS s)[2 * k]'h1) = (hexL s.data.toList)[2 * k]? := by
    rw [List.getElem?_eq_getElem (by rw [hexL_length]; simp; omega)]; rfl
  have e2 : some ((hexS s)[2 * k + 1]'h2) = (hexL s.data.toList)[2 * k + 1]? := by
    rw [List.getElem?_eq_getElem (by rw [hexL_length]; simp; omega)]; rfl
  rw [g.1] at e1
  rw [g.2] at e2
  rw [Option.some.inj e1, Option.some.inj e2]
  have d1 := dg_lt (s[k].toNat / 16) (by omega)
  have d2 := dg_lt (s[k].toNat % 16) (by omega)
  constructor
  · rw [UInt8.toNat_ofNat']; omega
  · rw [UInt8.toNat_ofNat']; omega

def digits : ByteArray := { data := #[48, 49, 50, 51, 52, 53, 54, 55, 56, 57, 97, 98, 99, 100, 101, 102] }

theorem digits_get : ∀ n : Fin 16, digits[n.val].toNat = dg n.val := by decide +kernel

theorem digits_at (n : Nat) (hn : n < 16) (w : World) : (Instr.index 9 (.string { data := #[48, 49, 50, 51, 52, 53, 54, 55, 56, 57, 97, 98, 99, 100, 101, 102] }) (.int .u8 (n : Int))).run Tryd.prog w = .ok (.int .u8 (dg n : Nat)) w := by
  rw [run_index_string _ _ _ _ _ Tryd.underlying9, dif_pos ⟨by omega, by show (n : Int) < 16; omega⟩]
  have h := digits_get ⟨n, hn⟩
  have e : ((n : Int)).toNat = n := by omega
  simp only [e]
  rw [← h]; rfl

theorem and15 (c : Nat) (hc : c < 256) : bits BinOp.and IntKind.u8 (c : Int) 15 = ((c % 16 : Nat) : Int) := by
  have h : ∀ c : Fin 256, bits BinOp.and IntKind.u8 (c.val : Int) 15 = ((c.val % 16 : Nat) : Int) := by decide +kernel
  exact h ⟨c, hc⟩

theorem take_hexVals (s : ByteArray) (k : Nat) (h : k < s.size) : (byteVals (hexS s)).take (2 * k + 2) = (byteVals (hexS s)).take (2 * k) ++ [.int .u8 (dg (s[k].toNat / 16) : Nat), .int .u8 (dg (s[k].toNat % 16) : Nat)] := by
  have hz := hexS_size s
  have hh := (isHex_hexS s).2 k h (by omega) (by omega)
  rw [show 2 * k + 2 = 2 * k + 1 + 1 by omega, take_byteVals _ _ (by omega), take_byteVals _ _ (by omega), hh.1, hh.2, List.append_assoc]; rfl

theorem hexs_step {s : ByteArray} {k c g cp : Nat} {w wr w1 : World} {o : Obj} {v : Value} (hk : k < s.size) (hc : c = s[k].toNat) (hown : wr.ownsRow w.heap.size 5 1 v (2 * k) ((byteVals (hexS s)).take (2 * k)))
    (hown' : w1.ownsRow w.heap.size 5 1 (.slice (some ⟨g, 0, none⟩) (2 * k + 2) cp) (2 * k + 2) ((byteVals (hexS s)).take (2 * k) ++ [.int .u8 (dg (c / 16) : Nat), .int .u8 (dg (c % 16) : Nat)])) (hgrow : (wr.alloc o).drew.grownBy w1 v.ownBlock) (hbel : Below w.heap.size w wr) :
    w1.ownsRow w.heap.size 5 1 (.slice (some ⟨g, 0, none⟩) (2 * k + 2) cp) (2 * (k + 1)) ((byteVals (hexS s)).take (2 * (k + 1))) ∧ Below w.heap.size w w1 := by
  constructor
  · rw [show 2 * (k + 1) = 2 * k + 2 by omega, take_hexVals s k hk, ← hc]
    exact hown'
  · exact ((hbel.alloc hbel.size o).drew).grown hgrow (by have := hbel.size; simp; omega) (fun b hb => (hown.lt b hb).1)

set_option maxRecDepth 100000 in
set_option maxHeartbeats 400000 in
/-- spec.Hex. -/
theorem hex_any (b off cap : Nat) (s : ByteArray) (w : World) (hs : 0 < s.size) (hm : s.size ≤ 64) (hc : Lib.Bytes w b off s) (hb : b < w.heap.size) :
    Calls Tryd.prog 8 #[.slice (some ⟨b, off, none⟩) s.size cap] w fun e w' => e = .returned (.string (hexS s)) ∧ Below w.heap.size w w' := by
  obtain ⟨i0, hi, hz0, hz1, hz2⟩ := info_parts Tryd.info5
  have HC := Lib.hid hc
  clear hc
  go_enter Tryd.func8, Tryd.ntmps8
  go_wp2
  go_loopw [3, 9] (fun v i wr => ∃ k : Nat, k ≤ s.size ∧ i = .int .i64 k ∧ wr.ownsRow w.heap.size 5 1 v (2 * k) ((byteVals (hexS s)).take (2 * k)) ∧ Below w.heap.size w wr) (fun _ i _ => s.size - (intOf i).toNat)
  case atStart => exact ⟨0, by omega, rfl, World.ownsRow_made w #[] 0 (Nat.le_refl _) (by decide) rfl, (Below.refl _ _).alloc (Nat.le_refl _) _⟩
  case round =>
    obtain ⟨k, hk, rfl, hown, hbel⟩ := hrel
    rename_i u3
    by_cases hlt : k < s.size
    · have hcell : wr.cell? ⟨b, off + k, none⟩ = some (.int .u8 (s[k].toNat : Int)) := (hbel.cell (p := ⟨b, off + k, none⟩) hb).trans (HC.out k hlt)
      have hbd := s[k].toNat_lt
      obtain ⟨c, hc⟩ : ∃ c, c = s[k].toNat := ⟨_, rfl⟩
      rw [← hc] at hcell hbd
      have HK := Lib.hid hc
      clear hc
      have hx1 := digits_at (c / 16) (by omega)
      have hx2 := digits_at (c % 16) (by omega)
      rw [show ((c / 16 : Nat) : Int) = (c : Int) / 16 by omega] at hx1
      rw [← and15 c (by omega)] at hx2
      go_wp2_with fail
      go_region_law (refine step_append_lies _ rfl (.tmp 13) (.tmp 20) 22 rfl w.heap.size 5 i0 (.int .u8 0) 1 1 Tryd.underlying22 hi hz0 hz1 hz2 rfl (by decide) u3 _ _ (by simp [Act.eval]) (hown.drew.alloc _) ⟨wr.heap.size, 0, none⟩ 2 2 [.int .u8 (dg (c / 16) : Nat), .int .u8 (dg (c % 16) : Nat)] (by simp [Act.eval]) rfl (cell_two_new _ _ _ _) (by intro u hu; simp at hu; rcases hu with rfl | rfl <;> rfl) (by decide) (by unfold maxLen; omega) (by omega) (by have := hbel.size; simp; omega) _ rfl ?_; intro g cp w1 hown' hgrow _ _)
      all_goals
        have R := hexs_step hlt HK.out hown hown' hgrow hbel
        clear hown' hgrow hown hbel
        go_wp2
        go_roundw
        case rel => exact ⟨k + 1, by omega, by go_num, R.1, R.2⟩
        case measure => simp [intOf]; omega
    · have hk2 : k = s.size := by omega
      subst hk2
      have hz := hexS_size s
      rw [List.take_of_length_le (by rw [byteVals_length]; omega)] at hown
      obtain ⟨g, o, cp, rfl, hg1, hg2, hg3, hg4⟩ := fresh_of_owns (hexS s) hown rfl (by omega)
      have hcv := Lib.run_convert_whole (P := Tryd.prog) wr 22 5 9 Tryd.underlying22 Tryd.underlying5 Tryd.underlying9 g o (hexS s) hg4 cp
      clear hg4 hown hz
      go_wp2
      go_ret
      exact ⟨rfl, hbel⟩

/-- All bytes are printable ones of ASCII. -/
def prt (s : ByteArray) : Bool := s.data.toList.all fun c => decide (32 ≤ c.toNat ∧ c.toNat ≤ 126)

/-- The first k bytes are printable. -/
def PrtTo (s : ByteArray) (k : Nat) : Prop := ∀ i (h : i < s.size), i < k → 32 ≤ s[i].toNat ∧ s[i].toNat ≤ 126

theorem prt_true {s : ByteArray} (h : PrtTo s s.size) : prt s = true := by
  unfold prt
  rw [List.all_eq_true]
  intro c hc
  obtain ⟨i, hi, rfl⟩ := List.getElem_of_mem hc
  have := h i (by simpa using hi) (by simpa using hi)
  exact decide_eq_true this

theorem prt_false {s : ByteArray} (i : Nat) (hi : i < s.size) (h : ¬ (32 ≤ s[i].toNat ∧ s[i].toNat ≤ 126)) : prt s = false := by
  unfold prt
  rw [List.all_eq_false]
  exact ⟨s[i], by
    have hm : s.data.toList[i]'(by simpa using hi) ∈ s.data.toList := List.getElem_mem _
    exact hm, by simpa using h⟩

theorem ret_bool {a b : Bool} (h : a = b) : Ending.returned (.bool a) = .returned (.bool b) := by rw [h]

set_option maxRecDepth 100000 in
set_option maxHeartbeats 400000 in
/-- spec.Printable. -/
theorem printable_any (b off cap : Nat) (s : ByteArray) (w : World) (hs : 0 < s.size) (hm : s.size ≤ 64) (hc : Lib.Bytes w b off s) :
    Calls Tryd.prog 5 #[.slice (some ⟨b, off, none⟩) s.size cap] w fun e w' => e = .returned (.bool (prt s)) ∧ w = w' := by
  have HC := Lib.hid hc
  clear hc
  go_enter Tryd.func5, Tryd.ntmps5
  go_wp2
  go_loop [7] (fun i => ∃ k : Nat, k ≤ s.size ∧ i = .int .i64 k ∧ Hid (PrtTo s k)) (fun i => s.size - (intOf i).toNat)
  case atStart => exact ⟨0, by omega, rfl, fun i h h0 => by omega⟩
  case round =>
    obtain ⟨k, hk, rfl, HP⟩ := hrel
    by_cases hlt : k < s.size
    · have hcell : w.cell? ⟨b, off + k, none⟩ = some (.int .u8 (s[k].toNat : Int)) := HC.out k hlt
      obtain ⟨c, hc⟩ : ∃ c, c = s[k].toNat := ⟨_, rfl⟩
      rw [← hc] at hcell
      have HK := Lib.hid hc
      clear hc
      by_cases h1 : c < 32
      · go_wp2
        go_ret
        exact ⟨ret_bool (prt_false k hlt (by rw [← HK.out]; omega)).symm, rfl⟩
      · by_cases h2 : 126 < c
        · go_wp2
          go_ret
          exact ⟨ret_bool (prt_false k hlt (by rw [← HK.out]; omega)).symm, rfl⟩
        · go_wp2
          go_round
          case rel => exact ⟨k + 1, by omega, by go_num, fun i h hi => by
            by_cases e : i = k
            · subst e; rw [← HK.out]; omega
            · exact HP.out i h (by omega)⟩
          case measure => simp [intOf]; omega
    · have hk2 : k = s.size := by omega
      subst hk2
      go_wp2
      go_ret
      exact ⟨ret_bool (prt_true HP.out).symm, rfl⟩

end Go.Proofs.YtbalnfkglnimeaaDoor
