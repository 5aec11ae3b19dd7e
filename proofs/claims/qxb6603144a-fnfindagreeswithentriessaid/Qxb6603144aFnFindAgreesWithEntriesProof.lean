/-
  A PROOF OF 'Rows.FnFindAgreesWithEntriesSaid'. The frame after the guide's template and its shell for a law over slices ('Below'); the walks: Qxb6603144aMain.
-/
import Derived.Test.Qxb6603144aRows
import Derived.WalkKit
import Derived.ProofKit
import Derived.OpenShut
import Derived.ShutString
import Derived.ChangeOld
import Derived.Below
import Derived.SliceStrings
import Derived.Test.Qxb6603144aClosed
import Derived.Test.Qxb6603144aMain
namespace Go.Proofs.Qxb6603144a.fnFindAgreesWithEntries
open Go.ChangeShapes Go.WideShapes Go.ChangeAt Go.RowKit
open Go.ChangeMaps (open_string shut_string)
set_option linter.unusedVariables false

theorem own : ownKnob Try.prog.godebug = none := by kernel_rfl
theorem laidOut : laidOutB Try.prog = true := by kernel_rfl
theorem cells9 : Try.prog.cellsOf 9 = 1 := by kernel_rfl
theorem cells38 : Try.prog.cellsOf 38 = 1 := by kernel_rfl

/-- A slice of numbers that came in: nil; or its cells. -/
def FndRow (w : World) (fo : Option Addr) (fn fcap : Nat) (F : Nat → Int) : Prop :=
  (fo = none ∧ fn = 0) ∨ ∃ x, fo = some x ∧ (∀ i, i < fn → w.cell? (x.add i) = some (.int .u32 (F i))) ∧ ∀ i, i < fn → 0 ≤ F i ∧ F i < 4294967296

/-! ### STEP 1: THE WALK -/
theorem walk (w : World) (mo : Option Nat) (mval : ByteArray → Int) (mhas : ByteArray → Bool) (N : Nat) (hM : MapIs w mo mval mhas N) (eo : Option Addr) (n cap : Nat) (E : Nat → ByteArray) (hE : EntRow w eo n E) (bytes : Int)
    (fo : Option Addr) (fn fcap : Nat) (F : Nat → Int) (hF : FndRow w fo fn fcap F) (s : ByteArray) :
    Calls Try.prog 6 #[.map mo, .slice eo n cap, .int .i64 bytes, .slice fo fn fcap, .string s] w fun e w' => e = .returned (.bool true) ∧ Below w.heap.size w w' := by
  by_cases h : 65536 < n ∨ (n ≤ 65536 ∧ 65536 < fn) ∨ (n ≤ 65536 ∧ fn ≤ 65536 ∧ 1048576 < s.size)
  · exact main_great w (.map mo) eo fo n cap fn fcap bytes s h
  · have hn : n ≤ 65536 := by omega
    have hf : fn ≤ 65536 := by omega
    have hs : s.size ≤ 1048576 := by omega
    rcases hF with ⟨rfl, rfl⟩ | ⟨x, rfl, hcx, hwx⟩
    · have hE' := hE
      rcases hE'.2.2 with h0 | ⟨b0, off0, rfl, hb0, hc0⟩
      · exact main_nil_B w mo mval mhas N hM eo n cap E hE (by omega) bytes fcap s hs hn
      · exact main_nil_A w mo mval mhas N hM b0 off0 n cap E hE hc0 bytes fcap s hs hn
    · by_cases h1024 : 1024 ≤ fn
      · obtain ⟨b, off, spot⟩ := x
        have hc := hcx 0 (by omega)
        have hspot : spot = none := by simpa [Addr.add] using World.cell?_spot hc
        subst hspot
        have hcx' : ∀ i, i < fn → w.cell? ⟨b, off + i, none⟩ = some (.int .u32 (F i)) := fun i hi => by rw [← add_plain]; exact hcx i hi
        have hb : b < w.heap.size := World.block_lt_of_cell? w ⟨b, off + 0, none⟩ (hcx' 0 (by omega))
        have hE' := hE
        rcases hE'.2.2 with h0 | ⟨b0, off0, rfl, hb0, hc0⟩
        · exact main_some_B w mo mval mhas N hM eo n cap E hE (by omega) bytes b off fn fcap F hwx hb hcx' s hs hn hf h1024 (by omega)
        · exact main_some_A w mo mval mhas N hM b0 off0 n cap E hE hc0 bytes b off fn fcap F hwx hb hcx' s hs hn hf h1024 (by omega)
      · have hE' := hE
        rcases hE'.2.2 with h0 | ⟨b0, off0, rfl, hb0, hc0⟩
        · exact main_small_B w mo mval mhas N hM eo n cap E hE (by omega) bytes x fn fcap s hs hn (by omega)
        · exact main_small_A w mo mval mhas N hM b0 off0 n cap E hE hc0 bytes x fn fcap s hs hn (by omega)

/-! ### THE ROW's STEP -/
set_option maxRecDepth 100000 in
theorem lifted (os : Os) (started : os.Started) (H : Type) (enc : TypeId × Value → H) :
    ReturnsInHanded {} Try.checked os 6 .any (Rows.fnFindAgreesWithEntriesSpec.pre6 enc Try.prog Try.f6 Rows.fnFindAgreesWithEntriesRow.domain false) (Rows.fnFindAgreesWithEntriesSpec.post enc Try.prog Try.f6 false true false false) := by
  refine returnsInHanded_of_change (C := Try.checked) own started (by kernel_rfl) Try.func6
    (ChangeSpec.witness6 (enc := enc) (C := Try.checked) false ⟨#[], #[.map none, .slice none 0 0, .int .i64 0, .slice none 0 0, .string ByteArray.empty], []⟩ 8 (by kernel_rfl) (by kernel_rfl) (by kernel_rfl) (by kernel_rfl)) ?_
  intro W base args ds gs before hval0 hW hcnd _
  have hval : ∀ (j : Nat) t v, Try.f6.params[j]? = some t → args[j]? = some v → Value.okWide Try.prog W .any base t v := hval0
  have hW' := hW
  obtain ⟨p, q, hA0, hV, rfl, hfz, hnd⟩ := hW
  have hA : DataW.TrodAll enc Try.prog W 0 (fun _ => true) true Try.f6.params.toList args.toList ds p := hA0
  rw [Try.params6] at hA hval
  obtain ⟨v0, vs0, d0, ds0, p0, q0, hargs, rfl, rfl, h0, r0⟩ := trodAll_cons hA
  obtain ⟨v1, vs1, d1, ds1, p1, q1, rfl, rfl, rfl, h1, r1⟩ := trodAll_cons r0
  obtain ⟨v2, vs2, d2, ds2, p2, q2, rfl, rfl, rfl, h2, r2⟩ := trodAll_cons r1
  obtain ⟨v3, vs3, d3, ds3, p3, q3, rfl, rfl, rfl, h3, r3⟩ := trodAll_cons r2
  obtain ⟨v4, vs4, d4, ds4, p4, q4, rfl, rfl, rfl, h4, r4⟩ := trodAll_cons r3
  obtain ⟨rfl, rfl, rfl⟩ := trodAll_nil r4
  obtain rfl : args = #[v0, v1, v2, v3, v4] := by cases args; simp_all
  obtain ⟨rfl, rfl⟩ := trodVars_none hV
  obtain ⟨mo, rfl⟩ := okWide_map Try.underlying27 (hval 0 27 v0 rfl rfl)
  have k0 := h0
  have lt0 : ∀ x ∈ p0, x.block < W.heap.size := by obtain ⟨m, hm⟩ := k0; exact DataW.trod_lt m _ _ _ hm
  obtain ⟨mval, mhas, N, hM⟩ : ∃ mval mhas N, MapIs W mo mval mhas N := by
    obtain ⟨fuel, hf⟩ := h0
    rcases WideElems.open_map Try.underlying27 hf with ⟨hcs, _⟩ | ⟨bm, es, clock, m, rfl, hcs, hb, _, FT, hx⟩
    · simp [Value.cells] at hcs
      subst hcs
      exact ⟨_, _, _, mapIs_nil W⟩
    · simp [Value.cells] at hcs
      subst hcs
      have hown := World.ownsMap_of_fit (R := plainElem Try.prog 25) hb FT (fun x _ z hz => elemAt_plainElem_int Try.underlying25 hz)
      exact ⟨_, _, _, mapIs_own W bm _ _ hown (by have := Array.getElem?_eq_some_iff.1 hb; exact this.1)⟩
  obtain ⟨eo, n, cap, rfl⟩ := okWide_slice Try.underlying28 (hval 1 28 v1 rfl rfl)
  have k1 := h1
  have lt1 : ∀ x ∈ p1, x.block < W.heap.size := by obtain ⟨m, hm⟩ := k1; exact DataW.trod_lt m _ _ _ hm
  obtain ⟨E, hE⟩ : ∃ E, EntRow W eo n E := by
    obtain ⟨fuel, hf⟩ := h1
    rcases open_strings Try.underlying28 Try.underlying9 cells9 hf with ⟨hcs, _⟩ | ⟨x, l, c, ss, hcs, _, hl, hm, hz, _, hcell, hws⟩
    · simp [Value.cells] at hcs
      obtain ⟨rfl, rfl, rfl⟩ := hcs
      exact ⟨fun _ => ByteArray.empty, by unfold maxLen; omega, fun i hi => by omega, .inl rfl⟩
    · simp [Value.cells] at hcs
      obtain ⟨rfl, rfl, rfl⟩ := hcs
      simp only [if_true] at hz
      refine ⟨fun i => ss.getD i ByteArray.empty, Nat.le_trans hl hm, fun i hi => ?_, ?_⟩
      · have hi' : i < ss.length := by omega
        show (ss.getD i ByteArray.empty).size ≤ maxLen
        rw [List.getD_eq_getElem?_getD, List.getElem?_eq_getElem hi']
        exact hws _ (List.getElem_mem hi')
      · by_cases hn0 : n = 0
        · exact .inl hn0
        · obtain ⟨b, off, spot⟩ := x
          have hc := hcell 0 (by omega)
          have hspot : spot = none := by simpa [Addr.add] using World.cell?_spot hc
          subst hspot
          have hcx : ∀ i, i < n → W.cell? ⟨b, off + i, none⟩ = some (.string (ss.getD i ByteArray.empty)) := fun i hi => by rw [← add_plain]; exact hcell i (by omega)
          exact .inr ⟨b, off, rfl, World.block_lt_of_cell? W ⟨b, off + 0, none⟩ (hcx 0 (by omega)), hcx⟩
  obtain ⟨a2, rfl, rfl, rfl, w2⟩ := open_int Try.underlying3 (hval 2 3 v2 rfl rfl) h2
  obtain ⟨fo, fn, fcap, rfl⟩ := okWide_slice Try.underlying29 (hval 3 29 v3 rfl rfl)
  have k3 := h3
  have lt3 : ∀ x ∈ p3, x.block < W.heap.size := by obtain ⟨m, hm⟩ := k3; exact DataW.trod_lt m _ _ _ hm
  obtain ⟨F, hF⟩ : ∃ F, FndRow W fo fn fcap F := by
    obtain ⟨fuel, hf⟩ := h3
    rcases open_ints Try.underlying29 Try.underlying38 cells38 hf with ⟨hcs, _⟩ | ⟨x, l, c, zs, hcs, _, hl, hm, hz, _, hcell, hwz⟩
    · simp [Value.cells] at hcs
      obtain ⟨rfl, rfl, rfl⟩ := hcs
      exact ⟨fun _ => 0, .inl ⟨rfl, rfl⟩⟩
    · simp [Value.cells] at hcs
      obtain ⟨rfl, rfl, rfl⟩ := hcs
      simp only [if_true] at hz
      refine ⟨fun i => zs.getD i 0, .inr ⟨x, rfl, fun i hi => hcell i (by omega), fun i hi => ?_⟩⟩
      have hi' : i < zs.length := by omega
      show 0 ≤ zs.getD i 0 ∧ zs.getD i 0 < 4294967296
      rw [List.getD_eq_getElem?_getD, List.getElem?_eq_getElem hi']
      have := bounds_u32 (hwz _ (List.getElem_mem hi'))
      simp only [Option.getD_some]
      omega
  obtain ⟨a4, rfl, rfl, rfl, w4⟩ := open_string Try.underlying9 (hval 4 9 v4 rfl rfl) h4
  clear hA0 hval0
  refine (walk W mo mval mhas N hM eo n cap E hE a2 fo fn fcap F hF a4).mono fun e W' ⟨he, bel⟩ => ?_
  subst he
  exact ⟨_, rfl, _, _, _, [], _, [], hW', trodAll_mk1 (shut_bool Try.underlying4 _), (trodAll_cons_mk (Below.trod laidOut (by kernel_rfl) (of_decide_eq_true (by kernel_rfl)) k0 bel lt0) (trodAll_cons_mk (Below.trod laidOut (by kernel_rfl) (of_decide_eq_true (by kernel_rfl)) k1 bel lt1) (trodAll_cons_mk (shut_int Try.underlying3 w2) (trodAll_cons_mk (Below.trod laidOut (by kernel_rfl) (of_decide_eq_true (by kernel_rfl)) k3 bel lt3) (trodAll_cons_mk (shut_string Try.underlying9 w4) trodAll_mk0))))), rfl, bel.frame _, fun h => by cases h⟩

theorem over : Rows.fnFindAgreesWithEntriesRow.holds Try.pinned (OpenSpec.ofChange Rows.fnFindAgreesWithEntriesSpec) :=
  OpenClaim.holds_of_wide 6 Try.f6 rfl rfl rfl rfl rfl rfl rfl ⟨rfl, rfl, rfl, rfl, rfl⟩ rfl rfl rfl rfl rfl (by kernel_rfl) Try.func6 closed6
    (of_decide_eq_true (by kernel_rfl)) (by unfold Func.isWrapper; first | (rw [if_pos (by decide +kernel)]; kernel_rfl) | (rw [if_neg (by decide +kernel)]; exact ⟨rfl, rfl⟩))
    (fun os started H enc _ => lifted os started H enc)

/-- ████ THE STATEMENT ████ -/
theorem proved : Rows.FnFindAgreesWithEntriesSaid := over
end Go.Proofs.Qxb6603144a.fnFindAgreesWithEntries
