/-
  The statement FnKey's function (3): what a call does, in every case.
-/
import Derived.Test.YtbalnfkglnimeaaDoorKey
import Derived.Lib.IndexBytes
namespace Go.Proofs.YtbalnfkglnimeaaDoor
open Go.RowKit

def preAscii : ByteArray := { data := #[65, 83, 67, 73, 73, 58] }
def preHex : ByteArray := { data := #[72, 69, 88, 58] }

theorem app_data (a b : ByteArray) : (a ++ b).data.toList = a.data.toList ++ b.data.toList := by simp [ByteArray.data_append]
theorem app_size (a b : ByteArray) : (a ++ b).size = a.size + b.size := by simp [ByteArray.size_append]

theorem ext_list {a b : ByteArray} (h : a.data.toList = b.data.toList) : a = b := ByteArray.ext (Array.toList_inj.1 h)

theorem decodes_ascii (s : ByteArray) (hs : 4 ≤ s.size) (hs2 : s.size ≤ 32) : Decodes ({ data := #[65, 83, 67, 73, 73, 58] } ++ s) s := by
  intro k w hk
  show Calls Tryd.prog 20 #[.agg #[.int .i64 k, .string (preAscii ++ s), .int .u32 0]] w _
  have hsz : (preAscii ++ s).size = s.size + 6 := by rw [app_size, show preAscii.size = 6 from rfl]; omega
  have hd : (preAscii ++ s).data.toList = [65, 83, 67, 73, 73, 58] ++ s.data.toList := app_data _ _
  refine decode_ascii k hk _ s w hsz ?_ ?_ ?_ hs hs2
  · rw [Lib.toList_data, Lib.extract_data, hd]; rfl
  · rw [Lib.toList_data, Lib.extract_data, hd]; rfl
  · exact ext_list (by rw [Lib.extract_to_end, hd]; rfl)

theorem decodes_hex (s : ByteArray) (hs : 4 ≤ s.size) (hs2 : s.size ≤ 32) : Decodes ({ data := #[72, 69, 88, 58] } ++ hexS s) s := by
  intro k w hk
  show Calls Tryd.prog 20 #[.agg #[.int .i64 k, .string (preHex ++ hexS s), .int .u32 0]] w _
  have hsz : (preHex ++ hexS s).size = (hexS s).size + 4 := by rw [app_size, show preHex.size = 4 from rfl]; omega
  have hd : (preHex ++ hexS s).data.toList = [72, 69, 88, 58] ++ (hexS s).data.toList := app_data _ _
  refine decode_hex k hk _ (hexS s) s w hsz ?_ ?_ (isHex_hexS s) hs hs2
  · rw [Lib.toList_data, Lib.extract_data, hd]; rfl
  · exact ext_list (by rw [Lib.extract_to_end, hd]; rfl)

theorem bytes_below {w w' : World} {b off B : Nat} {s : ByteArray} (h : Lib.Bytes w b off s) (hb : b < B) (hB : Below B w w') : Lib.Bytes w' b off s :=
  fun i hi => (hB.cell (p := ⟨b, off + i, none⟩) hb).trans (h i hi)

set_option maxRecDepth 100000 in
set_option maxHeartbeats 1000000 in
theorem fnKey_good (k : Int) (hk : k = 1 ∨ k = 2) (b off cap : Nat) (s : ByteArray) (w : World) (hs : 4 ≤ s.size) (hs2 : s.size ≤ 32) (hp : prt s = true) (hc : Lib.Bytes w b off s) (hb : b < w.heap.size) :
    Calls Tryd.prog 3 #[.int .i64 k, .slice (some ⟨b, off, none⟩) s.size cap] w fun e w' => e = .returned (.bool true) ∧ Below w.heap.size w w' := by
  have HC := Lib.hid hc
  have HD1 := Lib.hid (Lib.hid (decodes_ascii s hs hs2))
  have HD2 := Lib.hid (Lib.hid (decodes_hex s hs hs2))
  have hcv := Lib.run_convert_whole (P := Tryd.prog) w 22 5 9 Tryd.underlying22 Tryd.underlying5 Tryd.underlying9 b off s hc cap
  have HP := printable_any b off cap s w (by omega) (by omega) hc
  rw [hp] at HP
  have HP2 := Lib.hid HP
  clear hc hp HP
  have hne : (k != 1) = true ∧ (k != 2) = false ∨ (k != 1) = false := by
    rcases hk with rfl | rfl
    · exact .inr rfl
    · exact .inl ⟨rfl, rfl⟩
  have hhs : (hexS s).size ≤ 64 := by rw [hexS_size]; omega
  rcases hne with ⟨hn1, hn2⟩ | hn1
  all_goals
    go_enter Tryd.func3, Tryd.ntmps3
    go_wp2_with fail
    refine HP2.out.mono ?_
    rintro e w' ⟨rfl, rfl⟩
    go_wp2_with fail
    refine (key_any _ s HD1.out (by omega) (by omega) k hk _).mono ?_
    rintro e w1 ⟨v1, rfl, hF1, hB1⟩
    obtain ⟨g1, o1, c1, rfl, _, hg1, _, hy1⟩ := hF1
    have HC1 := Lib.hid (bytes_below HC.out hb hB1)
    have HB1 := Lib.hid hB1
    have HY1 := Lib.hid hy1
    clear hcv hB1 hy1
    go_wp2_with fail
    refine (hex_any b off cap s w1 (by omega) (by omega) HC1.out (by have := HB1.out.size; omega)).mono ?_
    rintro e w2 ⟨rfl, hB2⟩
    have HB2 := Lib.hid hB2
    clear hB2
    go_wp2_with fail
    refine (key_any _ s HD2.out (by omega) (by omega) k hk _).mono ?_
    rintro e w3 ⟨v3, rfl, hF3, hB3⟩
    obtain ⟨g3, o3, c3, rfl, _, hg3, _, hy3⟩ := hF3
    have hB13 : Below w1.heap.size w1 w3 := HB2.out.trans (hB3.mono HB2.out.size)
    have hB03 : Below w.heap.size w w3 := HB1.out.trans (hB13.mono HB1.out.size)
    have hcv1 := Lib.run_convert_whole (P := Tryd.prog) w3 22 5 9 Tryd.underlying22 Tryd.underlying5 Tryd.underlying9 g1 o1 s (bytes_below HY1.out hg1 hB13) c1
    have hcv2 := Lib.run_convert_whole (P := Tryd.prog) w3 22 5 9 Tryd.underlying22 Tryd.underlying5 Tryd.underlying9 b off s (bytes_below HC.out hb hB03) cap
    have hcv3 := Lib.run_convert_whole (P := Tryd.prog) w3 22 5 9 Tryd.underlying22 Tryd.underlying5 Tryd.underlying9 g3 o3 s hy3 c3
    have HB03 := Lib.hid hB03
    clear hB13 hB03 hy3 hB3
    go_wp2_with fail
    refine (works_any _).mono ?_
    rintro e w4 ⟨rfl, hB4⟩
    go_wp2_with fail
    go_ret
    exact ⟨rfl, HB03.out.trans (hB4.mono HB03.out.size)⟩

set_option maxRecDepth 100000 in
set_option maxHeartbeats 400000 in
theorem fnKey_long (k : Int) (a : Option Addr) (len cap : Nat) (w : World) (h : 2147483647 < len) :
    Calls Tryd.prog 3 #[.int .i64 k, .slice a len cap] w fun e w' => e = .returned (.bool true) ∧ Below w.heap.size w w' := by
  go_enter Tryd.func3, Tryd.ntmps3
  go_wp2_with fail
  go_ret
  exact ⟨rfl, Below.refl _ _⟩

set_option maxRecDepth 100000 in
set_option maxHeartbeats 400000 in
theorem fnKey_kind (k : Int) (a : Option Addr) (len cap : Nat) (w : World) (h : len ≤ 2147483647) (h1 : (k != 1) = true) (h2 : (k != 2) = true) :
    Calls Tryd.prog 3 #[.int .i64 k, .slice a len cap] w fun e w' => e = .returned (.bool true) ∧ Below w.heap.size w w' := by
  go_enter Tryd.func3, Tryd.ntmps3
  go_wp2_with fail
  refine (works_any _).mono ?_
  rintro e w4 ⟨rfl, hB4⟩
  go_wp2_with fail
  go_ret
  exact ⟨rfl, hB4⟩

set_option maxRecDepth 100000 in
set_option maxHeartbeats 400000 in
theorem fnKey_short (k : Int) (hk : k = 1 ∨ k = 2) (a : Option Addr) (len cap : Nat) (w : World) (h1 : len < 4) :
    Calls Tryd.prog 3 #[.int .i64 k, .slice a len cap] w fun e w' => e = .returned (.bool true) ∧ Below w.heap.size w w' := by
  have hne : (k != 1) = true ∧ (k != 2) = false ∨ (k != 1) = false := by
    rcases hk with rfl | rfl
    · exact .inr rfl
    · exact .inl ⟨rfl, rfl⟩
  clear hk
  rcases hne with ⟨hn1, hn2⟩ | hn1
  all_goals
    go_enter Tryd.func3, Tryd.ntmps3
    go_wp2_with fail
    refine (works_any _).mono ?_
    rintro e w4 ⟨rfl, hB4⟩
    go_wp2_with fail
    go_ret
    exact ⟨rfl, hB4⟩

set_option maxRecDepth 100000 in
set_option maxHeartbeats 400000 in
theorem fnKey_wide (k : Int) (hk : k = 1 ∨ k = 2) (a : Option Addr) (len cap : Nat) (w : World) (h : len ≤ 2147483647) (h1 : 32 < len) :
    Calls Tryd.prog 3 #[.int .i64 k, .slice a len cap] w fun e w' => e = .returned (.bool true) ∧ Below w.heap.size w w' := by
  have hne : (k != 1) = true ∧ (k != 2) = false ∨ (k != 1) = false := by
    rcases hk with rfl | rfl
    · exact .inr rfl
    · exact .inl ⟨rfl, rfl⟩
  clear hk
  rcases hne with ⟨hn1, hn2⟩ | hn1
  all_goals
    go_enter Tryd.func3, Tryd.ntmps3
    go_wp2_with fail
    refine (works_any _).mono ?_
    rintro e w4 ⟨rfl, hB4⟩
    go_wp2_with fail
    go_ret
    exact ⟨rfl, hB4⟩

set_option maxRecDepth 100000 in
set_option maxHeartbeats 400000 in
theorem fnKey_odd (k : Int) (hk : k = 1 ∨ k = 2) (b off cap : Nat) (s : ByteArray) (w : World) (hs : 4 ≤ s.size) (hs2 : s.size ≤ 32) (hp : prt s = false) (hc : Lib.Bytes w b off s) :
    Calls Tryd.prog 3 #[.int .i64 k, .slice (some ⟨b, off, none⟩) s.size cap] w fun e w' => e = .returned (.bool true) ∧ Below w.heap.size w w' := by
  have HP := printable_any b off cap s w (by omega) (by omega) hc
  rw [hp] at HP
  have HP2 := Lib.hid HP
  clear hc hp HP
  have hne : (k != 1) = true ∧ (k != 2) = false ∨ (k != 1) = false := by
    rcases hk with rfl | rfl
    · exact .inr rfl
    · exact .inl ⟨rfl, rfl⟩
  clear hk
  rcases hne with ⟨hn1, hn2⟩ | hn1
  all_goals
    go_enter Tryd.func3, Tryd.ntmps3
    go_wp2_with fail
    refine HP2.out.mono ?_
    rintro e w' ⟨rfl, rfl⟩
    go_wp2_with fail
    refine (works_any _).mono ?_
    rintro e w4 ⟨rfl, hB4⟩
    go_wp2_with fail
    go_ret
    exact ⟨rfl, hB4⟩

end Go.Proofs.YtbalnfkglnimeaaDoor
