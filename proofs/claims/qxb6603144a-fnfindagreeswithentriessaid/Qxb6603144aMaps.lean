/-
  SEAT b6603144a: WHAT FnFindAgreesWithEntries IS TOLD OF ITS MAP, AND THE PLAIN LAW OF A CONSISTENT TABLE.
  'MapIs w mo mval mhas N': in every world that keeps w's old memory the map value mo answers each look-up by mval, mhas, and has N entries. Paid once for a nil map, once for another.
-/
import Derived.Test.Qxb6603144aChecked
import Derived.Test.Qxb6603144aPlain
import Derived.WalkKit
import Derived.WalkSpells
import Derived.Maps.OwnSet
namespace Go.Proofs.Qxb6603144a
open Go.RowKit
open Go.Maps (Keyed string_keyed)

theorem keys : Keyed Try.prog 9 := string_keyed Try.underlying9
theorem zero25 (w : World) : (zeroValue 25).run Try.prog w = .ok (.int .u64 0) w := by kernel_rfl

structure MapIs (w : World) (mo : Option Nat) (mval : ByteArray → Int) (mhas : ByteArray → Bool) (N : Nat) : Prop where
  look : ∀ wx : World, Below w.heap.size w wx → ∀ s : ByteArray, s.size ≤ maxLen → (Instr.lookup 27 (.map mo) (.string s) true).run Try.prog wx = .ok (.tuple #[.int .u64 (mval s), .bool (mhas s)]) wx
  len : ∀ wx : World, Below w.heap.size w wx → ∀ ty, (Builtin.len_ #[27] ty #[.map mo]).run Try.prog wx = .ok (.int .i64 (N : Int)) wx
  none_zero : ∀ s : ByteArray, mhas s = false → mval s = 0
  keys : ∃ K : List Lit, K.Nodup ∧ K.length = N ∧ ∀ s : ByteArray, mhas s = true → Lit.string s.data.toList ∈ K

theorem mapIs_nil (w : World) : MapIs w none (fun _ => 0) (fun _ => false) 0 where
  look := fun wx _ s hs => by simpa using Maps.look_nil (w := wx) true keys Try.underlying27 (zero25 _) (Go.WideMaps.keyOf_string_mk Try.underlying9 hs)
  len := fun wx _ ty => by simpa using Maps.len_nil (w := wx) Try.underlying27 ty
  none_zero := fun _ _ => rfl
  keys := ⟨[], List.nodup_nil, rfl, fun _ h => by cases h⟩

/-- The number that stands at a key. -/
def numAt {H : Type} (D : DataW H) (l : List UInt8) : Int :=
  match D.atKey (.string l) (.lit (.int .u64 0)) with
  | .lit (.int _ c) => c
  | _ => 0

theorem mapIs_own {H : Type} (w : World) (bm n : Nat) (D : DataW H) (hown : w.ownsMap Try.prog 9 (plainElem Try.prog 25) bm n D) (hbm : bm < w.heap.size) :
    MapIs w (some bm) (fun s => numAt D s.data.toList) (fun s => Maps.has D (.string s.data.toList)) (Maps.size D) where
  look := fun wx hb s hs => by
    have hown' : wx.ownsMap Try.prog 9 (plainElem Try.prog 25) bm n D := by
      obtain ⟨es, clock, hbk, F1, hle, hD⟩ := hown
      exact ⟨es, clock, by rw [hb.block bm hbm]; exact hbk, F1, hle, hD⟩
    obtain ⟨v, ps, hrun, hv⟩ := hown'.look_ok keys Try.underlying27 (zero25 _) (plainElem_int Try.underlying25 (a := 0) (by decide)) (Go.WideMaps.keyOf_string_mk Try.underlying9 hs)
    obtain ⟨a, rfl, hz, _⟩ := plainElem_int_inv Try.underlying25 hv
    have hat : D.atKey (.string s.data.toList) (.lit (.int .u64 0)) = .lit (.int .u64 a) := congrArg Prod.fst hz
    have e : numAt D s.data.toList = a := by unfold numAt; rw [hat]
    rw [e]; exact hrun
  len := fun wx hb ty => by
    have hown' : wx.ownsMap Try.prog 9 (plainElem Try.prog 25) bm n D := by
      obtain ⟨es, clock, hbk, F1, hle, hD⟩ := hown
      exact ⟨es, clock, by rw [hb.block bm hbm]; exact hbk, F1, hle, hD⟩
    exact hown'.len Try.underlying27 ty
  none_zero := fun s h => by
    unfold numAt
    rw [Maps.atKey_of_not_has h]
  keys := by
    obtain ⟨es, rfl, hp⟩ := hown.tidy keys
    refine ⟨es.map Prod.fst, ?_, by simp [Maps.size], fun s h => ?_⟩
    · unfold List.Nodup
      rw [List.pairwise_map]
      exact hp
    · rw [Maps.has_eq, List.any_eq_true] at h
      obtain ⟨p, hp1, hp2⟩ := h
      rw [← WideAt.sameKey_eq hp2]
      exact List.mem_map_of_mem hp1

/-! ### The plain law -/
theorem pigeon {α : Type} : ∀ (l K : List α), l.Nodup → (∀ x, x ∈ l → x ∈ K) → K.length ≤ l.length → ∀ x, x ∈ K → x ∈ l
  | [], K, _, _, hl, x, hx => by
    have : K = [] := List.eq_nil_of_length_eq_zero (by simpa using hl)
    rw [this] at hx; cases hx
  | y :: t, K, hn, hs, hl, x, hx => by
    obtain ⟨A, B, rfl⟩ := List.append_of_mem (hs y (by simp))
    have hn' := List.nodup_cons.1 hn
    have ht : ∀ z, z ∈ t → z ∈ A ++ B := fun z hz => by
      have h1 := hs z (by simp [hz])
      simp only [List.mem_append, List.mem_cons] at h1 ⊢
      rcases h1 with h1 | h1 | h1
      · exact .inl h1
      · exact absurd (h1 ▸ hz) hn'.1
      · exact .inr h1
    have ih := pigeon t (A ++ B) hn'.2 ht (by simp at hl ⊢; omega) x
    by_cases e : x = y
    · rw [e]; simp
    · simp only [List.mem_append, List.mem_cons] at hx
      rcases hx with hx | hx | hx
      · simp [ih (by simp [hx])]
      · exact absurd hx e
      · simp [ih (by simp [hx])]

/-- A consistent table: the i-th entry has the number i, and every key is an entry. -/
structure Consist (E : Nat → ByteArray) (n : Nat) (mval : ByteArray → Int) (mhas : ByteArray → Bool) : Prop where
  at' : ∀ i, i < n → mhas (E i) = true ∧ mval (E i) = (i : Int)
  only : ∀ s : ByteArray, mhas s = true → ∃ i, i < n ∧ E i = s
  zero : ∀ s : ByteArray, mhas s = false → mval s = 0

theorem consist_of {w : World} {mo : Option Nat} {mval : ByteArray → Int} {mhas : ByteArray → Bool} {N n : Nat} {E : Nat → ByteArray} (h : MapIs w mo mval mhas N) (hN : N = n)
    (hE : ∀ i, i < n → mhas (E i) = true ∧ mval (E i) = (i : Int)) : Consist E n mval mhas := by
  refine ⟨hE, fun s hs => ?_, h.none_zero⟩
  obtain ⟨K, _, hKl, hK⟩ := h.keys
  have hnd : ((List.range n).map fun i => Lit.string (E i).data.toList).Nodup := by
    unfold List.Nodup
    rw [List.pairwise_map]
    refine List.Pairwise.imp_of_mem ?_ (List.nodup_range (n := n))
    intro i j hi hj hne e
    simp only [Lit.string.injEq] at e
    have e' : E i = E j := Go.WideShapes.bytes_inj e
    have h1 := (hE i (by simpa using hi)).2
    have h2 := (hE j (by simpa using hj)).2
    rw [e', h2] at h1
    exact hne (by omega)
  have := pigeon _ K hnd (fun x hx => by
    obtain ⟨i, hi, rfl⟩ := List.mem_map.1 hx
    exact hK _ (hE i (by simpa using hi)).1) (by simp; omega) _ (hK s hs)
  obtain ⟨i, hi, e⟩ := List.mem_map.1 this
  simp only [Lit.string.injEq] at e
  exact ⟨i, by simpa using hi, Go.WideShapes.bytes_inj e⟩

theorem Consist.hit {E : Nat → ByteArray} {n : Nat} {mval : ByteArray → Int} {mhas : ByteArray → Bool} (h : Consist E n mval mhas) {s : ByteArray} {i : Nat} (hi : i < n) (e : E i = s) : mhas s = true ∧ mval s = (i : Int) := by
  rw [← e]; exact h.at' i hi
theorem Consist.miss {E : Nat → ByteArray} {n : Nat} {mval : ByteArray → Int} {mhas : ByteArray → Bool} (h : Consist E n mval mhas) {s : ByteArray} (hs : ∀ i, i < n → ¬ E i = s) : mhas s = false ∧ mval s = 0 := by
  have : mhas s = false := by
    cases e : mhas s with
    | false => rfl
    | true => obtain ⟨i, hi, he⟩ := h.only s e; exact absurd he (hs i hi)
  exact ⟨this, h.zero s this⟩
theorem Consist.val {E : Nat → ByteArray} {n : Nat} {mval : ByteArray → Int} {mhas : ByteArray → Bool} (h : Consist E n mval mhas) (s : ByteArray) : 0 ≤ mval s ∧ (mhas s = true → mval s < (n : Int)) := by
  cases e : mhas s with
  | false => rw [h.zero s e]; exact ⟨Int.le_refl _, fun h => by cases h⟩
  | true =>
    obtain ⟨i, hi, he⟩ := h.only s e
    rw [← he, (h.at' i hi).2]
    exact ⟨by omega, fun _ => by omega⟩

end Go.Proofs.Qxb6603144a
