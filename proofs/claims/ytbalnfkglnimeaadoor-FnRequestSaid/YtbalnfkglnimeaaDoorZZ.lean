/-
  The package's ZZRequest (function 16) by a contract: 48 fresh bytes, the first with version and mode, the last eight the number that is sent.
-/
import Derived.Test.YtbalnfkglnimeaaDoorPut
namespace Go.Proofs.YtbalnfkglnimeaaDoor
open Go.RowKit

/-- Byte j (0 the highest) of a number of 64 bits. -/
def cB (tr : Int) (j : Nat) : Int := tr / 256 ^ (7 - j) % 256

/-- The bytes of a request. -/
def Req (ver tr : Int) (s : ByteArray) : Prop := s.size = 48 ∧ (∀ h : 0 < s.size, (s[0].toNat : Int) = ver * 8 + 3) ∧ ∀ j (h : 40 + j < s.size), (s[40 + j].toNat : Int) = cB tr j

theorem cB_vals (v : Int) (h0 : 0 ≤ v) (h1 : v < 18446744073709551616) :
    v / 4294967296 % 4294967296 / 16777216 = cB v 0 ∧ v / 4294967296 % 4294967296 / 65536 % 256 = cB v 1 ∧ v / 4294967296 % 4294967296 / 256 % 256 = cB v 2 ∧ v / 4294967296 % 256 = cB v 3 ∧
    v % 4294967296 / 16777216 = cB v 4 ∧ v % 4294967296 / 65536 % 256 = cB v 5 ∧ v % 4294967296 / 256 % 256 = cB v 6 ∧ v % 256 = cB v 7 := by
  have e0 : cB v 0 = v / 72057594037927936 % 256 := rfl
  have e1 : cB v 1 = v / 281474976710656 % 256 := rfl
  have e2 : cB v 2 = v / 1099511627776 % 256 := rfl
  have e3 : cB v 3 = v / 4294967296 % 256 := rfl
  have e4 : cB v 4 = v / 16777216 % 256 := rfl
  have e5 : cB v 5 = v / 65536 % 256 := rfl
  have e6 : cB v 6 = v / 256 % 256 := rfl
  have e7 : cB v 7 = v / 1 % 256 := rfl
  rw [e0, e1, e2, e3, e4, e5, e6, e7]
  refine ⟨?_, ?_, ?_, ?_, ?_, ?_, ?_, ?_⟩ <;> omega

theorem cB_range (v : Int) (j : Nat) : 0 ≤ cB v j ∧ cB v j < 256 := by unfold cB; omega

/-- Cells that hold bytes, as a string of bytes. -/
theorem bytes_of_cells {w : World} {g : Nat} (n : Nat) (f : Nat → Int) (hf : ∀ i, i < n → 0 ≤ f i ∧ f i < 256) (hc : ∀ i, i < n → w.cell? ⟨g, i, none⟩ = some (.int .u8 (f i))) :
    ∃ s : ByteArray, s.size = n ∧ Lib.Bytes w g 0 s ∧ ∀ i (h : i < s.size), (s[i].toNat : Int) = f i := by
  have key : ∀ i (h : i < (⟨((List.range n).map fun i => UInt8.ofNat (f i).toNat).toArray⟩ : ByteArray).size), (((⟨((List.range n).map fun i => UInt8.ofNat (f i).toNat).toArray⟩ : ByteArray)[i]).toNat : Int) = f i := fun i h => by
    have hin : i < n := by simpa [ByteArray.size] using h
    have e : (⟨((List.range n).map fun i => UInt8.ofNat (f i).toNat).toArray⟩ : ByteArray)[i]'h = UInt8.ofNat (f i).toNat := by
      show (((List.range n).map fun i => UInt8.ofNat (f i).toNat).toArray)[i]'(by simpa [ByteArray.size] using h) = _
      simp
    rw [e, UInt8.toNat_ofNat']
    have := hf i hin
    omega
  refine ⟨⟨((List.range n).map fun i => UInt8.ofNat (f i).toNat).toArray⟩, by simp [ByteArray.size], fun i hi => ?_, key⟩
  rw [Nat.zero_add, key i hi]
  exact hc i (by simpa [ByteArray.size] using hi)

theorem st8_far {w : World} {g o : Nat} {v : Int} {p : Addr} (h : p.block ≠ g ∨ p.off < o ∨ o + 8 ≤ p.off) : (st8 w g o v).cell? p = w.cell? p := by
  unfold st8
  rw [st4_far (by omega), st4_far (by omega)]

theorem st8_at {w : World} {g o : Nat} {v : Int} (h : Four w g o) (h4 : Four w g (o + 4)) (h0 : 0 ≤ v) (h1 : v < 18446744073709551616) (j : Nat) (hj : j < 8) : (st8 w g o v).cell? ⟨g, o + j, none⟩ = some (.int .u8 (cB v j)) := by
  obtain ⟨e0, e1, e2, e3, e4, e5, e6, e7⟩ := cB_vals v h0 h1
  unfold st8
  rw [e0, e1, e2, e3, e4, e5, e6, e7]
  have A := st4_at (a := cB v 0) (b := cB v 1) (c := cB v 2) (d := cB v 3) h
  have B := st4_at (a := cB v 4) (b := cB v 5) (c := cB v 6) (d := cB v 7) (st4_four (o := o) (a := cB v 0) (b := cB v 1) (c := cB v 2) (d := cB v 3) h4 (Nat.le_refl _))
  have hj8 : j = 0 ∨ j = 1 ∨ j = 2 ∨ j = 3 ∨ j = 4 ∨ j = 5 ∨ j = 6 ∨ j = 7 := by omega
  rcases hj8 with rfl | rfl | rfl | rfl | rfl | rfl | rfl | rfl
  · rw [st4_far (.inr (.inl (by simp)))]; exact A.1
  · rw [st4_far (.inr (.inl (by simp)))]; exact A.2.1
  · rw [st4_far (.inr (.inl (by simp)))]; exact A.2.2.1
  · rw [st4_far (.inr (.inl (by simp)))]; exact A.2.2.2
  · exact B.1
  · exact B.2.1
  · exact B.2.2.1
  · exact B.2.2.2

theorem st8_below {B : Nat} {a w : World} {g o : Nat} {v : Int} (h : Below B a w) (hg : B ≤ g) : Below B a (st8 w g o v) := by
  unfold st8 st4
  exact ((((((((h.setCell (p := ⟨g, _, none⟩) hg _).setCell (p := ⟨g, _, none⟩) hg _).setCell (p := ⟨g, _, none⟩) hg _).setCell (p := ⟨g, _, none⟩) hg _).setCell (p := ⟨g, _, none⟩) hg _).setCell (p := ⟨g, _, none⟩) hg _).setCell (p := ⟨g, _, none⟩) hg _).setCell (p := ⟨g, _, none⟩) hg _)

set_option maxRecDepth 100000 in
/-- What the eight stores leave of a fresh row of 48 bytes. -/
theorem req_row {B g cap : Nat} {ver tr : Int} {w : World} (hver : ver = 3 ∨ ver = 4) (h0 : 0 ≤ tr) (h1 : tr < 18446744073709551616)
    (hown : w.ownsRow B 5 1 (.slice (some ⟨g, 0, none⟩) 48 cap) 48 (((ver * 8 + 3) :: List.replicate 47 0).map (Value.int .u8))) :
    (Four w g 40 ∧ Four w g (40 + 4)) ∧ ∃ s, Req ver tr s ∧ Lib.Bytes (st8 w g 40 tr) g 0 s := by
  have hlen : (((ver * 8 + 3) :: List.replicate 47 0).map (Value.int .u8)).length = 48 := by simp
  have hcell : ∀ i, i < 48 → w.cell? ⟨g, i, none⟩ = some (.int .u8 (if i = 0 then ver * 8 + 3 else 0)) := fun i hi => by
    rw [hown.cellAt i (by omega)]
    match i, hi with
    | 0, _ => rfl
    | i + 1, hi =>
      rw [List.map_cons, List.getElem?_cons_succ, List.map_replicate, List.getElem?_replicate]
      rw [if_pos (by omega)]; rfl
  have hfour : ∀ o, o + 4 ≤ 48 → Four w g o := fun o ho j hj => ⟨⟨_, hcell (o + j) (by omega)⟩, hown.frozenAt (o + j)⟩
  refine ⟨⟨hfour 40 (by omega), hfour 44 (by omega)⟩, ?_⟩
  obtain ⟨s, hs, hb, hv⟩ := bytes_of_cells (w := st8 w g 40 tr) (g := g) 48 (fun i => if i < 40 then (if i = 0 then ver * 8 + 3 else 0) else cB tr (i - 40))
    (fun i hi => by
      have := cB_range tr (i - 40)
      split
      · split
        · omega
        · omega
      · omega)
    (fun i hi => by
      split
      · rename_i h40
        rw [st8_far (.inr (.inl h40))]
        exact hcell i hi
      · rename_i h40
        have := st8_at (hfour 40 (by omega)) (hfour 44 (by omega)) h0 h1 (i - 40) (by omega)
        rwa [show 40 + (i - 40) = i by omega] at this)
  refine ⟨s, ⟨hs, fun h => ?_, fun j h => ?_⟩, hb⟩
  · rw [hv 0 h]; rfl
  · rw [hv (40 + j) h, if_neg (by omega), show 40 + j - 40 = j by omega]

theorem build_any (ver : Int) (hver : ver = 3 ∨ ver = 4) (q : Nat) (w : World) (h0 : w.cell? ⟨q, 0, none⟩ = some (.int .i64 ver)) (h4 : w.cell? ⟨q, 4, none⟩ = some (.bool false)) (hq : q < w.heap.size) :
    Calls Tryd.prog 21 #[.pointer (some ⟨q, 0, none⟩)] w fun e w' => e = .returned (.tuple #[.pointer (some ⟨w.heap.size + 1, 0, none⟩), .nilIface]) ∧
      Buf (w.heap.size + 2) (w.heap.size + 1) w' ((ver * 8 + 3) :: List.replicate 47 0) ∧ Below w.heap.size w w' := by
  rcases hver with rfl | rfl
  · exact build_three q w h0 h4 hq
  · exact build_four q w h0 h4 hq

set_option maxRecDepth 100000 in
set_option maxHeartbeats 1000000 in
theorem zzrequest_any (ver : Int) (hver : ver = 3 ∨ ver = 4) (q : Nat) (tr : Int) (htr : Hid (0 ≤ tr ∧ tr < 18446744073709551616)) (w : World)
    (h0 : w.cell? ⟨q, 0, none⟩ = some (.int .i64 ver)) (h1 : w.cell? ⟨q, 1, none⟩ = some (.int .i64 0)) (h4 : w.cell? ⟨q, 4, none⟩ = some (.bool false)) (hq : q < w.heap.size) :
    Calls Tryd.prog 16 #[.pointer (some ⟨q, 0, none⟩), .int .u64 tr] w fun e w' => ∃ v s, e = .returned (.tuple #[v, .nilIface]) ∧ Req ver tr s ∧ Fresh w.heap.size w' v s ∧ Below w.heap.size w w' := by
  have HV := Lib.hid hver
  clear hver
  go_enter Tryd.func16, Tryd.ntmps16
  go_wp2_with fail
  refine (build_any ver HV.out q w h0 h4 hq).mono ?_
  rintro e w1 ⟨rfl, hbuf, hbel⟩
  obtain ⟨_, _, _, v, hv, hown⟩ := hbuf
  obtain ⟨g, cap, rfl, hg1, hg2⟩ := hown.form (by simp)
  have hown' : w1.ownsRow (w.heap.size + 2) 5 1 (.slice (some ⟨g, 0, none⟩) 48 cap) 48 (((ver * 8 + 3) :: List.replicate 47 0).map (Value.int .u8)) := by simpa using hown
  have hv' : w1.cell? ⟨w.heap.size + 1, 0, none⟩ = some (.slice (some ⟨g, 0, none⟩) 48 cap) := by simpa using hv
  have hcap : 48 ≤ cap := by
    rcases hown'.2 with ⟨hx, _⟩ | ⟨_, _, _, hx, _, _, hc, _⟩
    · cases hx
    · simp only [Value.slice.injEq] at hx; omega
  obtain ⟨⟨hF, hF4⟩, s, hreq, hby⟩ := req_row (tr := tr) HV.out htr.out.1 htr.out.2 hown'
  have hq1 : (st8 w1 g 40 tr).cell? ⟨q, 1, none⟩ = some (.int .i64 0) := (st8_far (.inl (by show q ≠ g; omega))).trans ((hbel.cell (p := ⟨q, 1, none⟩) hq).trans h1)
  have hv2 : (st8 w1 g 40 tr).cell? ⟨w.heap.size + 1, 0, none⟩ = some (.slice (some ⟨g, 0, none⟩) 48 cap) := (st8_far (.inl (by show w.heap.size + 1 ≠ g; omega))).trans hv'
  have hB2 : Below w.heap.size w (st8 w1 g 40 tr) := st8_below hbel (by omega)
  have hsz : w1.heap.size ≤ (st8 w1 g 40 tr).heap.size := (st8_below (Below.refl 0 w1) (Nat.zero_le g)).size
  have HP := Lib.hid (put64_any g 40 8 (cap - 40) tr w1 (by omega) (by omega) (by omega) hF hF4)
  have hcc : 40 < cap := by omega
  have HR := Lib.hid hreq
  have HBY := Lib.hid hby
  have HB := Lib.hid hB2
  clear hv hown hown' hF hF4 hreq hby hB2 hbel
  generalize st8 w1 g 40 tr = w2 at hq1 hv2 HP HBY HB hsz
  go_wp2_with fail
  refine HP.out.mono ?_
  rintro e w' ⟨rfl, rfl⟩
  go_wp2_with fail
  go_ret2
  exact ⟨.slice (some ⟨g, 0, none⟩) 48 cap, s, rfl, HR.out, ⟨g, 0, cap, by rw [HR.out.1], by omega, by omega, by rw [HR.out.1]; exact hcap, HBY.out⟩, HB.out⟩

end Go.Proofs.YtbalnfkglnimeaaDoor
