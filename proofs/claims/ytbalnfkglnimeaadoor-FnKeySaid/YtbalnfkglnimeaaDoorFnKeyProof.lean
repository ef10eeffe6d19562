/-
  Proved: laws.FnKey returns true for every kind and every key, and leaves the key as it was. Conditions: none beyond the given statement's own.
  The row's frame below is the kit's own skeleton (proof-skeleton.mjs); the walk is by the contracts of this claim's other texts.
-/
import Derived.Test.YtbalnfkglnimeaaDoorRows
import Derived.Test.YtbalnfkglnimeaaDoorFnKey
import Derived.WalkKit
import Derived.ProofKit
import Derived.OpenShut
import Derived.ShutString
import Derived.ChangeOld
import Derived.Below
namespace Go.Proofs.YtbalnfkglnimeaaDoor.fnKey
open Go.ChangeShapes Go.WideShapes Go.ChangeAt Go.RowKit
open Go.ChangeMaps (open_string shut_string)
set_option linter.unusedVariables false

theorem own : ownKnob Tryd.prog.godebug = none := by kernel_rfl
theorem laidOut : laidOutB Tryd.prog = true := by kernel_rfl

/-- WHAT THE WALK IS TOLD OF A SLICE OF INTEGERS THAT CAME IN: it is nil; or it leads to a row of 'cap' cells, the numbers 'zs' (the first 'len' are its elements, the rest its spare room), each fitting its kind. -/
def IsRow (k : IntKind) (w : World) (a : Option Addr) (len cap : Nat) (zs : List Int) : Prop :=
  (a = none ∧ len = 0 ∧ cap = 0 ∧ zs = []) ∨
  ∃ x, a = some x ∧ len ≤ cap ∧ cap ≤ maxLen ∧ zs.length = cap ∧ (∀ i, i < zs.length → w.cell? (x.add i) = some (.int k (zs.getD i 0))) ∧ ∀ n ∈ zs, (Lit.int k n).wf = true

/-- The first n numbers of a row of bytes, as bytes. -/
theorem bytes_of_row {w : World} {b off n : Nat} {zs : List Int} (hc : ∀ i, i < zs.length → w.cell? ⟨b, off + i, none⟩ = some (.int .u8 (zs.getD i 0))) (hn : n ≤ zs.length) (hwf : ∀ x ∈ zs, (Lit.int .u8 x).wf = true) :
    ∃ s : ByteArray, s.size = n ∧ Lib.Bytes w b off s := by
  refine ⟨⟨((zs.take n).map fun x => UInt8.ofNat x.toNat).toArray⟩, by simp [ByteArray.size]; omega, fun i hi => ?_⟩
  have hin : i < n := by simp [ByteArray.size] at hi; omega
  have hiz : i < zs.length := by omega
  rw [hc i hiz]
  have hx : zs.getD i 0 = zs[i] := by simp [List.getD, List.getElem?_eq_getElem hiz]
  have hw := hwf zs[i] (List.getElem_mem hiz)
  have hr : 0 ≤ zs[i] ∧ zs[i] ≤ 255 := by
    simp only [Lit.wf, Bool.and_eq_true, decide_eq_true_eq] at hw
    exact hw
  have e : (⟨((zs.take n).map fun x => UInt8.ofNat x.toNat).toArray⟩ : ByteArray)[i]'hi = UInt8.ofNat zs[i].toNat := by
    show (((zs.take n).map fun x => UInt8.ofNat x.toNat).toArray)[i]'(by simpa [ByteArray.size] using hi) = _
    simp
  rw [hx, e, UInt8.toNat_ofNat']
  congr 2
  omega

/-! ### STEP 1: THE WALK: the Go text returns true, AND WRITES NOTHING THAT WAS THERE: 'Below w.heap.size w w'' (Derived/Below.lean: '.refl', '.alloc', '.drew', '.setCell' at a new block, '.trans'). Open each 'IsRow' by 'rcases' AHEAD of 'go_enter'; part every test ahead of the walk. -/
theorem walk (a0 : Int) (a1 : Option Addr) (len1 cap1 : Nat) (z1 : List Int) (w : World) (w0 : (Lit.int .i64 a0).wf = true) (w1 : IsRow .u8 w a1 len1 cap1 z1) :
    Calls Tryd.prog 3 #[.int .i64 a0, .slice a1 len1 cap1] w fun e w' => e = .returned (.bool true) ∧ Below w.heap.size w w' := by
  by_cases hlong : 2147483647 < len1
  · exact fnKey_long a0 a1 len1 cap1 w hlong
  by_cases hk : a0 = 1 ∨ a0 = 2
  · by_cases hshort : len1 < 4
    · exact fnKey_short a0 hk a1 len1 cap1 w hshort
    by_cases hwide : 32 < len1
    · exact fnKey_wide a0 hk a1 len1 cap1 w (by omega) hwide
    rcases w1 with ⟨_, h0, _, _⟩ | ⟨x, rfl, hle, _, hz, hcell, hwf⟩
    · omega
    obtain ⟨b, off, rfl, hc⟩ := ints_at hcell (by omega)
    obtain ⟨s, hs, hby⟩ := bytes_of_row (n := len1) hc (by omega) hwf
    have hb : b < w.heap.size := World.block_lt_of_cell? w ⟨b, off + 0, none⟩ (hc 0 (by omega))
    subst hs
    by_cases hp : prt s = true
    · exact fnKey_good a0 hk b off cap1 s w (by omega) (by omega) hp hby hb
    · exact fnKey_odd a0 hk b off cap1 s w (by omega) (by omega) (by simpa using hp) hby
  · have h1 : a0 ≠ 1 := fun h => hk (.inl h)
    have h2 : a0 ≠ 2 := fun h => hk (.inr h)
    exact fnKey_kind a0 a1 len1 cap1 w (by omega) (by simpa using h1) (by simpa using h2)

/-! ### THE ROW's STEP: WRITTEN OUT: LEAVE IT -/
set_option maxRecDepth 100000 in
theorem lifted (os : Os) (started : os.Started) (H : Type) (enc : TypeId × Value → H) :
    ReturnsInHanded {} Tryd.checked os 3 .any (Rows.fnKeySpec.pre6 enc Tryd.prog Tryd.f3 Rows.fnKeyRow.domain false) (Rows.fnKeySpec.post enc Tryd.prog Tryd.f3 false true false false) := by
  refine returnsInHanded_of_change (C := Tryd.checked) own started (by kernel_rfl) Tryd.func3
    (ChangeSpec.witness6 (enc := enc) (C := Tryd.checked) false ⟨#[], #[.int .i64 0, .slice none 0 0], []⟩ 8 (by kernel_rfl) (by kernel_rfl) (by kernel_rfl) (by kernel_rfl)) ?_
  intro W base args ds gs before hval0 hW hcnd _
  have hval : ∀ (j : Nat) t v, Tryd.f3.params[j]? = some t → args[j]? = some v → Value.okWide Tryd.prog W .any base t v := hval0
  have hW' := hW
  obtain ⟨p, q, hA0, hV, rfl, hfz, hnd⟩ := hW
  have hA : DataW.TrodAll enc Tryd.prog W 0 (fun _ => true) true Tryd.f3.params.toList args.toList ds p := hA0
  rw [Tryd.params3] at hA hval
  obtain ⟨v0, vs0, d0, ds0, p0, q0, hargs, rfl, rfl, h0, r0⟩ := trodAll_cons hA
  obtain ⟨v1, vs1, d1, ds1, p1, q1, rfl, rfl, rfl, h1, r1⟩ := trodAll_cons r0
  obtain ⟨rfl, rfl, rfl⟩ := trodAll_nil r1
  obtain rfl : args = #[v0, v1] := by cases args; simp_all
  obtain ⟨rfl, rfl⟩ := trodVars_none hV
  obtain ⟨a0, rfl, rfl, rfl, w0⟩ := open_int Tryd.underlying3 (hval 0 3 v0 rfl rfl) h0
  obtain ⟨a1, len1, cap1, rfl⟩ := okWide_slice Tryd.underlying22 (hval 1 22 v1 rfl rfl)
  have k1 := h1
  have lt1 : ∀ x ∈ p1, x.block < W.heap.size := by obtain ⟨m, hm⟩ := k1; exact DataW.trod_lt m _ _ _ hm
  obtain ⟨z1, w1⟩ : ∃ zs, IsRow .u8 W a1 len1 cap1 zs := by
    obtain ⟨fuel, hf⟩ := h1
    rcases open_ints Tryd.underlying22 Tryd.underlying5 (by kernel_rfl) hf with ⟨hcs, _⟩ | ⟨x, l, c, zs, hcs, _, hl, hm, hz, _, hcell, hwz⟩
    · simp [Value.cells] at hcs
      obtain ⟨rfl, rfl, rfl⟩ := hcs
      exact ⟨[], .inl ⟨rfl, rfl, rfl, rfl⟩⟩
    · simp [Value.cells] at hcs
      obtain ⟨rfl, rfl, rfl⟩ := hcs
      exact ⟨zs, .inr ⟨_, rfl, hl, hm, by simpa using hz, hcell, hwz⟩⟩
  clear hA0 hval0
  refine (walk a0 a1 len1 cap1 z1 W w0 w1).mono fun e W' ⟨he, bel⟩ => ?_
  subst he
  exact ⟨_, rfl, _, _, _, [], _, [], hW', trodAll_mk1 (shut_bool Tryd.underlying4 _), (trodAll_cons_mk (shut_int Tryd.underlying3 w0) (trodAll_cons_mk (Below.trod laidOut (by kernel_rfl) (of_decide_eq_true (by kernel_rfl)) k1 bel lt1) trodAll_mk0)), rfl, bel.frame _, fun h => by cases h⟩

theorem over : Rows.fnKeyRow.holds Tryd.pinned (OpenSpec.ofChange Rows.fnKeySpec) :=
  OpenClaim.holds_of_wide 3 Tryd.f3 rfl rfl rfl rfl rfl rfl rfl ⟨rfl, rfl, rfl, rfl, rfl⟩ rfl rfl rfl rfl rfl (by kernel_rfl) Tryd.func3 (by kernel_rfl)
    (of_decide_eq_true (by kernel_rfl)) (by unfold Func.isWrapper; first | (rw [if_pos (by decide +kernel)]; kernel_rfl) | (rw [if_neg (by decide +kernel)]; exact ⟨rfl, rfl⟩))
    (fun os started H enc _ => lifted os started H enc)

/-- ████ THE STATEMENT ████ -/
theorem proved : Rows.FnKeySaid := over
#print axioms proved
end Go.Proofs.YtbalnfkglnimeaaDoor.fnKey
