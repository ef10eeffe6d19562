/-
  Hexadecimal digits: the package's hexDigit and hexBytes (functions 34, 26), the reference's Hex and Printable (functions 8, 5), each by a contract.
-/
import Derived.Test.YtbalnfkglnimeaaDoorBase
namespace Go.Proofs.YtbalnfkglnimeaaDoor
open Go.RowKit

/-- The code of the digit n (0 to 15). -/
def dg (n : Nat) : Nat := if n < 10 then 48 + n else 87 + n

set_option maxRecDepth 100000 in
set_option maxHeartbeats 400000 in
theorem hexDigit_any (n : Nat) (hn : n < 16) (c : Int) (hc : c = dg n) (w : World) :
    Calls Tryd.prog 34 #[.int .u8 c] w fun e w' => e = .returned (.tuple #[.int .u8 n, .bool true]) ∧ w = w' := by
  have h2 : (48 ≤ c ∧ c ≤ 57 ∧ c - 48 = n) ∨ (97 ≤ c ∧ c ≤ 102 ∧ c - 87 = n) := by
    subst hc; unfold dg; split <;> omega
  clear hc
  rcases h2 with ⟨h3, h4, h5⟩ | ⟨h3, h4, h5⟩
  · have H5 := Lib.hid h5
    clear h5
    go_enter Tryd.func34, Tryd.ntmps34
    go_wp2
    go_ret2
    exact ⟨by show Ending.returned (.tuple #[.int .u8 (c - 48), .bool true]) = _; rw [H5.out], rfl⟩
  · have H5 := Lib.hid h5
    clear h5
    go_enter Tryd.func34, Tryd.ntmps34
    go_wp2
    go_ret2
    exact ⟨by show Ending.returned (.tuple #[.int .u8 (c - 97 + 10), .bool true]) = _; rw [← H5.out, show c - 97 + 10 = c - 87 by omega], rfl⟩

/-- The text t holds the hexadecimal digits of the bytes of s, two a byte. -/
def IsHex (t s : ByteArray) : Prop := t.size = 2 * s.size ∧ ∀ k (h : k < s.size) (h1 : 2 * k < t.size) (h2 : 2 * k + 1 < t.size), t[2 * k].toNat = dg (s[k].toNat / 16) ∧ t[2 * k + 1].toNat = dg (s[k].toNat % 16)

theorem or_nibbles : ∀ c : Nat, c < 256 → bits BinOp.or IntKind.u8 ((c : Int) / 16 * 16) ((c : Int) % 16) = c := by
  have h : ∀ c : Fin 256, bits BinOp.or IntKind.u8 ((c.val : Int) / 16 * 16) ((c.val : Int) % 16) = (c.val : Int) := by decide +kernel
  exact fun c hc => h ⟨c, hc⟩

theorem take_byteVals (s : ByteArray) (k : Nat) (h : k < s.size) : (byteVals s).take (k + 1) = (byteVals s).take k ++ [.int .u8 (s[k].toNat : Int)] := by
  rw [List.take_add_one, byteVals_get s k h]; rfl

theorem hex_step {s : ByteArray} {k c : Nat} {w wr w1 : World} {o : Obj} {v v' : Value} (hk : k < s.size) (hc : c = s[k].toNat) (hown : wr.ownsRow w.heap.size 5 1 v k ((byteVals s).take k))
    (hown' : w1.ownsRow w.heap.size 5 1 v' (k + 1) ((byteVals s).take k ++ [.int .u8 (bits BinOp.or IntKind.u8 ((c : Int) / 16 * 16) ((c : Int) % 16))])) (hgrow : (wr.alloc o).grownBy w1 v.ownBlock) (hbel : Below w.heap.size w wr) :
    w1.ownsRow w.heap.size 5 1 v' (k + 1) ((byteVals s).take (k + 1)) ∧ Below w.heap.size w w1 := by
  have hb := s[k].toNat_lt
  constructor
  · rw [take_byteVals s k hk, ← hc]
    rwa [or_nibbles c (by omega)] at hown'
  · exact (hbel.alloc hbel.size o).grown hgrow (by have := hbel.size; simp; omega) (fun b hb => (hown.lt b hb).1)

set_option maxRecDepth 100000 in
set_option maxHeartbeats 400000 in
theorem hexBytes_any (t s : ByteArray) (w : World) (h : IsHex t s) (hm : s.size ≤ 140737488351232) :
    Calls Tryd.prog 26 #[.string t] w fun e w' => ∃ v, e = .returned (.tuple #[v, .nilIface]) ∧ w'.ownsRow w.heap.size 5 1 v s.size (byteVals s) ∧ Below w.heap.size w w' := by
  obtain ⟨i0, hi, hz0, hz1, hz2⟩ := info_parts Tryd.info5
  have HT := Lib.hid h.1
  have HD := Lib.hid h.2
  clear h
  go_enter Tryd.func26, Tryd.ntmps26
  go_wp2
  go_loopw [4, 5] (fun v i wr => ∃ k j : Nat, k ≤ s.size ∧ j ≤ 2 * s.size ∧ Hid (j = 2 * k) ∧ i = .int .i64 j ∧ wr.ownsRow w.heap.size 5 1 v k ((byteVals s).take k) ∧ Below w.heap.size w wr) (fun _ i _ => 2 * s.size - (intOf i).toNat)
  case atStart => exact ⟨0, 0, by omega, by omega, rfl, rfl, World.ownsRow_made w #[] 0 (Nat.le_refl _) (by decide) rfl, (Below.refl _ _).alloc (Nat.le_refl _) _⟩
  case round =>
    obtain ⟨k, j, hk, hj, HJ, rfl, hown, hbel⟩ := hrel
    by_cases hlt : k < s.size
    · have hj1 : j + 1 < t.size := by have := HT.out; have := HJ.out; omega
      have hj2 : j < t.size := by omega
      have E1 : Hid (((t[j]'hj2).toNat : Int) = (dg (s[k].toNat / 16) : Nat)) := Lib.hid (by
        have hh := HJ.out
        subst hh
        exact congrArg _ (HD.out k hlt (by omega) (by omega)).1)
      have E2 : Hid (((t[j + 1]'hj1).toNat : Int) = (dg (s[k].toNat % 16) : Nat)) := Lib.hid (by
        have hh := HJ.out
        subst hh
        exact congrArg _ (HD.out k hlt (by omega) (by omega)).2)
      have hb := s[k].toNat_lt
      obtain ⟨c, hc⟩ : ∃ c, c = s[k].toNat := ⟨_, rfl⟩
      rw [← hc] at E1 E2 hb
      have HC := Lib.hid hc
      clear hc
      go_wp2_with fail
      refine (hexDigit_any (c / 16) (by omega) _ E1.out _).mono ?_
      rintro e w' ⟨rfl, rfl⟩
      go_wp2_with fail
      refine (hexDigit_any (c % 16) (by omega) _ E2.out _).mono ?_
      rintro e w' ⟨rfl, rfl⟩
      go_wp2_with (at_builtin; refine wpList_append_own _ rfl (.tmp 41) (.tmp 46) 22 rfl w.heap.size 5 i0 (.int .u8 0) 1 1 Tryd.underlying22 hi hz0 hz1 hz2 rfl (by decide) _ _ _ rfl (hown.alloc _) ⟨wr.heap.size, 0, none⟩ 1 1 [.int .u8 (bits BinOp.or IntKind.u8 ((c : Int) / 16 * 16) ((c : Int) % 16))] rfl rfl ?c1 ?c2 ?c3 ?c4 ?c5 ?_)
      case c1 => exact cell_one_new _ _ _
      case c2 => intro u hu; simp at hu; subst hu; rfl
      case c3 => unfold maxLen; omega
      case c4 => omega
      case c5 => have := hbel.size; simp; omega
      intro v' w1 hown' hgrow _
      have R := hex_step hlt (by rw [HC.out]) hown hown' hgrow hbel
      clear hown' hgrow hown hbel
      go_wp2
      go_roundw
      case rel => exact ⟨k + 1, j + 2, by omega, by have := HJ.out; omega, by have := HJ.out; unfold Hid; omega, by go_num, R.1, R.2⟩
      case measure => have := HJ.out; have := HT.out; simp [intOf]; omega
    · have hk2 : k = s.size := by omega
      subst hk2
      have hj1 : ¬ j + 1 < t.size := by have := HT.out; have := HJ.out; omega
      have hmod : (t.size : Int) % 2 = 0 := by have := HT.out; omega
      have HB : Hid (j = t.size) := Lib.hid (by have := HT.out; have := HJ.out; omega)
      go_wp2
      go_ret2
      refine ⟨_, rfl, ?_, hbel⟩
      rwa [List.take_of_length_le (by rw [byteVals_length]; omega)] at hown

end Go.Proofs.YtbalnfkglnimeaaDoor
