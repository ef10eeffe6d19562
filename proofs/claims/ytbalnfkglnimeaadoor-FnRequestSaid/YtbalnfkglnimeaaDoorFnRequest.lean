/-
  The statement FnRequest's function (4): what a call does, in every case.
-/
import Derived.Test.YtbalnfkglnimeaaDoorReq
import Derived.Laws.BitsAllLaws
namespace Go.Proofs.YtbalnfkglnimeaaDoor
open Go.RowKit

/-- The highest k bytes of a number of 64 bits. -/
def hiB (tr : Int) (k : Nat) : Int := tr / 256 ^ (8 - k)

theorem hiB_zero {tr : Int} (h0 : 0 ≤ tr) (h1 : tr < 18446744073709551616) : hiB tr 0 = 0 := by
  have e : hiB tr 0 = tr / 18446744073709551616 := rfl
  rw [e]; omega

theorem hiB_eight (tr : Int) : hiB tr 8 = tr := by
  have e : hiB tr 8 = tr / 1 := rfl
  rw [e]; omega

theorem hiB_step {tr : Int} (h0 : 0 ≤ tr) (h1 : tr < 18446744073709551616) (k : Nat) (hk : k < 8) :
    IntKind.u64.wrap (hiB tr k * 256) = hiB tr k * 256 ∧ bits BinOp.or IntKind.u64 (hiB tr k * 256) (cB tr k) = hiB tr (k + 1) ∧ 0 ≤ hiB tr k := by
  have hk8 : k = 0 ∨ k = 1 ∨ k = 2 ∨ k = 3 ∨ k = 4 ∨ k = 5 ∨ k = 6 ∨ k = 7 := by omega
  have key : 0 ≤ hiB tr k ∧ hiB tr k < 72057594037927936 ∧ hiB tr (k + 1) = hiB tr k * 256 + cB tr k := by
    rcases hk8 with rfl | rfl | rfl | rfl | rfl | rfl | rfl | rfl
    · have e : hiB tr 0 = tr / 18446744073709551616 := rfl
      have e1 : hiB tr (0 + 1) = tr / 72057594037927936 := rfl
      have e2 : cB tr 0 = tr / 72057594037927936 % 256 := rfl
      rw [e, e1, e2]; omega
    · have e : hiB tr 1 = tr / 72057594037927936 := rfl
      have e1 : hiB tr (1 + 1) = tr / 281474976710656 := rfl
      have e2 : cB tr 1 = tr / 281474976710656 % 256 := rfl
      rw [e, e1, e2]; omega
    · have e : hiB tr 2 = tr / 281474976710656 := rfl
      have e1 : hiB tr (2 + 1) = tr / 1099511627776 := rfl
      have e2 : cB tr 2 = tr / 1099511627776 % 256 := rfl
      rw [e, e1, e2]; omega
    · have e : hiB tr 3 = tr / 1099511627776 := rfl
      have e1 : hiB tr (3 + 1) = tr / 4294967296 := rfl
      have e2 : cB tr 3 = tr / 4294967296 % 256 := rfl
      rw [e, e1, e2]; omega
    · have e : hiB tr 4 = tr / 4294967296 := rfl
      have e1 : hiB tr (4 + 1) = tr / 16777216 := rfl
      have e2 : cB tr 4 = tr / 16777216 % 256 := rfl
      rw [e, e1, e2]; omega
    · have e : hiB tr 5 = tr / 16777216 := rfl
      have e1 : hiB tr (5 + 1) = tr / 65536 := rfl
      have e2 : cB tr 5 = tr / 65536 % 256 := rfl
      rw [e, e1, e2]; omega
    · have e : hiB tr 6 = tr / 65536 := rfl
      have e1 : hiB tr (6 + 1) = tr / 256 := rfl
      have e2 : cB tr 6 = tr / 256 % 256 := rfl
      rw [e, e1, e2]; omega
    · have e : hiB tr 7 = tr / 256 := rfl
      have e1 : hiB tr (7 + 1) = tr / 1 := rfl
      have e2 : cB tr 7 = tr / 1 % 256 := rfl
      rw [e, e1, e2]; omega
  obtain ⟨k1, k2, k3⟩ := key
  obtain ⟨c1, c2⟩ := cB_range tr k
  refine ⟨?_, ?_, k1⟩
  · rw [IntKind.wrap_u64]; omega
  · rw [u64_or _ _ (by omega) (by omega) c1 (by omega), k3]
    obtain ⟨a, ha⟩ : ∃ a : Nat, hiB tr k = a := ⟨(hiB tr k).toNat, by omega⟩
    obtain ⟨b, hb⟩ : ∃ b : Nat, cB tr k = b := ⟨(cB tr k).toNat, by omega⟩
    rw [ha, hb]
    have h := Nat.two_pow_add_eq_or_of_lt (i := 8) (b := b) (by omega) a
    rw [show ((a : Int) * 256).toNat = 2 ^ 8 * a by omega, show ((b : Int)).toNat = b by omega, ← h]
    omega

set_option maxRecDepth 100000 in
set_option maxHeartbeats 1000000 in
theorem fnRequest_three (tr : Int) (htr : Hid (0 ≤ tr ∧ tr < 18446744073709551616)) (w : World) :
    Calls Tryd.prog 4 #[.int .i64 3, .int .u64 tr] w fun e w' => e = .returned (.bool true) ∧ Below w.heap.size w w' := by
  have b1 : bits BinOp.and IntKind.u8 3 7 = 3 := rfl
  have b2 : bits BinOp.and IntKind.u8 27 7 = 3 := rfl
  go_enter Tryd.func4, Tryd.ntmps4
  go_wp2_with fail
  refine (request_any 3 (by omega) tr htr w).mono ?_
  rintro e w1 ⟨v, s, rfl, hreq, hF, hbel⟩
  obtain ⟨g, o, cp, hv, _, hg, hcp, hy⟩ := hF
  rw [hreq.1] at hv hcp
  subst hv
  have c0 : w1.cell? ⟨g, o, none⟩ = some (.int .u8 27) := by
    have h := hy 0 (by rw [hreq.1]; omega)
    rw [hreq.2.1] at h
    exact h
  have hcp4 : 40 < cp := by omega
  have HY := Lib.hid hy
  have HR := Lib.hid hreq
  have HB := Lib.hid hbel
  clear hy hreq hbel
  go_wp2_with fail
  go_loop [7, 50] (fun n i => ∃ k : Nat, k ≤ 8 ∧ i = .int .i64 k ∧ n = .int .u64 (hiB tr k)) (fun _ i => 8 - (intOf i).toNat)
  case atStart => exact ⟨0, by omega, rfl, by rw [hiB_zero htr.out.1 htr.out.2]⟩
  case round =>
    obtain ⟨k, hk, rfl, hn⟩ := hrel
    by_cases hlt : k < 8
    · subst hn
      have hcell : w1.cell? ⟨g, o + 40 + k, none⟩ = some (.int .u8 (cB tr k)) := by
        have h := HY.out (40 + k) (by rw [HR.out.1]; omega)
        rw [HR.out.2.2 k, ← Nat.add_assoc] at h
        exact h
      obtain ⟨hs1, hs2, hs3⟩ := hiB_step htr.out.1 htr.out.2 k hlt
      obtain ⟨hr1, hr2⟩ := cB_range tr k
      go_wp2
      go_round
      case rel => exact ⟨k + 1, by omega, by go_num, rfl⟩
      case measure => simp [intOf]; omega
    · obtain rfl : k = 8 := by omega
      rw [hiB_eight] at hn
      subst hn
      go_wp2_with fail
      refine (works_any _).mono ?_
      rintro e w4 ⟨rfl, hB4⟩
      go_wp2_with fail
      go_ret
      exact ⟨rfl, HB.out.trans (hB4.mono HB.out.size)⟩

set_option maxRecDepth 100000 in
set_option maxHeartbeats 1000000 in
theorem fnRequest_four (tr : Int) (htr : Hid (0 ≤ tr ∧ tr < 18446744073709551616)) (w : World) :
    Calls Tryd.prog 4 #[.int .i64 4, .int .u64 tr] w fun e w' => e = .returned (.bool true) ∧ Below w.heap.size w w' := by
  have b1 : bits BinOp.and IntKind.u8 4 7 = 4 := rfl
  have b2 : bits BinOp.and IntKind.u8 35 7 = 3 := rfl
  go_enter Tryd.func4, Tryd.ntmps4
  go_wp2_with fail
  refine (request_any 4 (by omega) tr htr w).mono ?_
  rintro e w1 ⟨v, s, rfl, hreq, hF, hbel⟩
  obtain ⟨g, o, cp, hv, _, hg, hcp, hy⟩ := hF
  rw [hreq.1] at hv hcp
  subst hv
  have c0 : w1.cell? ⟨g, o, none⟩ = some (.int .u8 35) := by
    have h := hy 0 (by rw [hreq.1]; omega)
    rw [hreq.2.1] at h
    exact h
  have hcp4 : 40 < cp := by omega
  have HY := Lib.hid hy
  have HR := Lib.hid hreq
  have HB := Lib.hid hbel
  clear hy hreq hbel
  go_wp2_with fail
  go_loop [7, 50] (fun n i => ∃ k : Nat, k ≤ 8 ∧ i = .int .i64 k ∧ n = .int .u64 (hiB tr k)) (fun _ i => 8 - (intOf i).toNat)
  case atStart => exact ⟨0, by omega, rfl, by rw [hiB_zero htr.out.1 htr.out.2]⟩
  case round =>
    obtain ⟨k, hk, rfl, hn⟩ := hrel
    by_cases hlt : k < 8
    · subst hn
      have hcell : w1.cell? ⟨g, o + 40 + k, none⟩ = some (.int .u8 (cB tr k)) := by
        have h := HY.out (40 + k) (by rw [HR.out.1]; omega)
        rw [HR.out.2.2 k, ← Nat.add_assoc] at h
        exact h
      obtain ⟨hs1, hs2, hs3⟩ := hiB_step htr.out.1 htr.out.2 k hlt
      obtain ⟨hr1, hr2⟩ := cB_range tr k
      go_wp2
      go_round
      case rel => exact ⟨k + 1, by omega, by go_num, rfl⟩
      case measure => simp [intOf]; omega
    · obtain rfl : k = 8 := by omega
      rw [hiB_eight] at hn
      subst hn
      go_wp2_with fail
      refine (works_any _).mono ?_
      rintro e w4 ⟨rfl, hB4⟩
      go_wp2_with fail
      go_ret
      exact ⟨rfl, HB.out.trans (hB4.mono HB.out.size)⟩

set_option maxRecDepth 100000 in
set_option maxHeartbeats 400000 in
theorem fnRequest_else (ver tr : Int) (w : World) (h3 : (ver != 3) = true) (h4 : (ver != 4) = true) :
    Calls Tryd.prog 4 #[.int .i64 ver, .int .u64 tr] w fun e w' => e = .returned (.bool true) ∧ Below w.heap.size w w' := by
  go_enter Tryd.func4, Tryd.ntmps4
  go_wp2_with fail
  refine (works_any _).mono ?_
  rintro e w4 ⟨rfl, hB4⟩
  go_wp2_with fail
  go_ret
  exact ⟨rfl, hB4⟩

end Go.Proofs.YtbalnfkglnimeaaDoor
