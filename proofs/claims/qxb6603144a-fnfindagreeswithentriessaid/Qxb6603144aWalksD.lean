/-
  SEAT b6603144a: b1Consistent (14), b1Search (18): CONTRACTS over a map 'MapIs' and a row of strings 'EntRow'.
-/
import Derived.Test.Qxb6603144aWalksC
import Derived.Test.Qxb6603144aMaps
namespace Go.Proofs.Qxb6603144a
open Go.RowKit
set_option linter.unusedSimpArgs false

/-- A slice of n strings, E's. -/
def EntRow (w : World) (eo : Option Addr) (n : Nat) (E : Nat → ByteArray) : Prop :=
  n ≤ maxLen ∧ (∀ i, i < n → (E i).size ≤ maxLen) ∧ (n = 0 ∨ ∃ b off, eo = some ⟨b, off, none⟩ ∧ b < w.heap.size ∧ ∀ i, i < n → w.cell? ⟨b, off + i, none⟩ = some (.string (E i)))

def upTo (E : Nat → ByteArray) (mval : ByteArray → Int) (mhas : ByteArray → Bool) (k : Nat) : Prop := ∀ i, i < k → mhas (E i) = true ∧ mval (E i) = (i : Int)
theorem upTo_zero (E : Nat → ByteArray) (mval : ByteArray → Int) (mhas : ByteArray → Bool) : upTo E mval mhas 0 := fun i hi => absurd hi (Nat.not_lt_zero i)
theorem upTo_succ {E : Nat → ByteArray} {mval : ByteArray → Int} {mhas : ByteArray → Bool} {k : Nat} (h : upTo E mval mhas k) (h1 : mhas (E k) = true) (h2 : mval (E k) = (k : Int)) : upTo E mval mhas (k + 1) := by
  intro i hi
  by_cases e : i = k
  · rw [e]; exact ⟨h1, h2⟩
  · exact h i (by omega)

/-- What b1Consistent's answer says. -/
def ConsPost (E : Nat → ByteArray) (mval : ByteArray → Int) (mhas : ByteArray → Bool) (N n : Nat) (w : World) (e : Ending) (w' : World) : Prop :=
  ∃ c : Bool, e = .returned (.bool c) ∧ w = w' ∧ (c = true → N = n ∧ upTo E mval mhas n)
theorem consPost_no {E : Nat → ByteArray} {mval : ByteArray → Int} {mhas : ByteArray → Bool} {N n : Nat} {w : World} {e : Ending} (h : e = .returned (.bool false)) : ConsPost E mval mhas N n w e w := ⟨false, h, rfl, fun h => by cases h⟩
theorem consPost_yes {E : Nat → ByteArray} {mval : ByteArray → Int} {mhas : ByteArray → Bool} {N n k : Nat} {w : World} {e : Ending} (h : e = .returned (.bool true)) (hN : N = n) (hk : n = k) (hu : upTo E mval mhas k) : ConsPost E mval mhas N n w e w :=
  ⟨true, h, rfl, fun _ => ⟨hN, by rw [hk]; exact hu⟩⟩

set_option maxHeartbeats 800000 in
theorem consistent_any (w : World) (mo : Option Nat) (mval : ByteArray → Int) (mhas : ByteArray → Bool) (N : Nat) (hM : MapIs w mo mval mhas N) (eo : Option Addr) (n cap : Nat) (E : Nat → ByteArray) (hE : EntRow w eo n E) :
    Calls Try.prog 14 #[.map mo, .slice eo n cap] w (ConsPost E mval mhas N n w) := by
  have hlen := hM.len w (Below.refl _ _)
  obtain ⟨hn, hz, hE⟩ := hE
  unfold maxLen at hn
  by_cases hN : N = n
  · have h1 : N ≤ n := by omega
    have h2 : n ≤ N := by omega
    have HN : Hid (N = n) := hN
    clear hN
    rcases hE with h0 | ⟨b, off, rfl, hb, hc⟩
    · have h3 : n ≤ 0 := by omega
      clear h0
      go_enter Try.func14, Try.ntmps14
      go_wp2
      refine wp_loop_rounds 1 ?_
      rw [rounds_succ]
      go_wp2
      go_ret
      exact consPost_yes rfl HN.out (by omega) (upTo_zero _ _ _)
    · go_enter Try.func14, Try.ntmps14
      go_wp2
      go_loop [5] (fun i => ∃ k : Nat, k ≤ n ∧ i = .int .i64 k ∧ upTo E mval mhas k) (fun i => n - (intOf i).toNat)
      case atStart => exact ⟨0, Nat.zero_le _, rfl, upTo_zero _ _ _⟩
      case round =>
        clear hlen
        obtain ⟨k, hk, rfl, HA⟩ := hrel
        by_cases hlt : k < n
        · have hck := hc k hlt
          have hl := hM.look w (Below.refl _ _) (E k) (hz k hlt)
          clear hM hz hc
          rcases Bool.eq_false_or_eq_true (mhas (E k)) with e1 | e1
          · rcases Bool.eq_false_or_eq_true (mval (E k) != (k : Int)) with e2 | e2
            · go_wp2
              go_ret
              exact consPost_no rfl
            · go_wp2
              go_round
              case rel => exact ⟨k + 1, by omega, by go_num, upTo_succ HA e1 (by simpa using e2)⟩
              case measure => simp [intOf]; omega
          · go_wp2
            go_ret
            exact consPost_no rfl
        · go_wp2
          go_ret
          exact consPost_yes rfl HN.out (by omega) HA
  · go_enter Try.func14, Try.ntmps14
    go_wp2
    go_ret
    exact consPost_no rfl

theorem EntRow.later {w wx : World} {eo : Option Addr} {n : Nat} {E : Nat → ByteArray} (h : EntRow w eo n E) (hb : Below w.heap.size w wx) : EntRow wx eo n E := by
  obtain ⟨h1, h2, h3⟩ := h
  refine ⟨h1, h2, ?_⟩
  rcases h3 with h3 | ⟨b, off, e, hlt, hc⟩
  · exact .inl h3
  · exact .inr ⟨b, off, e, Nat.lt_of_lt_of_le hlt hb.size, fun i hi => (hb.cell (p := ⟨b, off + i, none⟩) hlt).trans (hc i hi)⟩

theorem ret_two {k : IntKind} {a b : Int} {c d : Bool} (h : a = b) (g : c = d) : Ending.returned (.tuple #[.int k a, .bool c]) = .returned (.tuple #[.int k b, .bool d]) := by rw [h, g]

set_option maxHeartbeats 800000 in
theorem search_any (w : World) (mval : ByteArray → Int) (mhas : ByteArray → Bool) (eo : Option Addr) (n cap : Nat) (E : Nat → ByteArray) (s : ByteArray) (hE : EntRow w eo n E) (hC : Consist E n mval mhas) :
    Calls Try.prog 18 #[.slice eo n cap, .string s] w fun e w' => e = .returned (.tuple #[.int .u64 (mval s), .bool (mhas s)]) ∧ ∃ m, w' = w.drewN m := by
  obtain ⟨hn, hz, hE⟩ := hE
  unfold maxLen at hn
  rcases hE with h0 | ⟨b, off, rfl, hb, hc⟩
  · have h3 : n ≤ 0 := by omega
    have hm := hC.miss (s := s) (fun i hi => by omega)
    have HM : Hid (mhas s = false ∧ mval s = 0) := hm
    clear h0 hm hC hz
    go_enter Try.func18, Try.ntmps18
    go_wp2
    refine wp_loop_rounds 1 ?_
    rw [rounds_succ]
    go_wp2
    go_ret2
    exact ⟨ret_two HM.out.2.symm HM.out.1.symm, 0, rfl⟩
  · go_enter Try.func18, Try.ntmps18
    go_wp2
    go_loopw [6] (fun i wr => ∃ k m : Nat, k ≤ n ∧ i = .int .i64 k ∧ wr = w.drewN m ∧ Hid (∀ j, j < k → ¬ E j = s)) (fun i _ => n - (intOf i).toNat)
    case atStart => exact ⟨0, 0, Nat.zero_le _, rfl, rfl, fun j hj => absurd hj (Nat.not_lt_zero j)⟩
    case round =>
      obtain ⟨k, m, hk, rfl, rfl, HA⟩ := hrel
      by_cases hlt : k < n
      · have hck := hc k hlt
        have hzk := hz k hlt
        clear hz hc
        by_cases he : E k = s
        · have hs := (sameB_iff (E k) s).2 he
          have HM : Hid (mhas s = true ∧ mval s = (k : Int)) := hC.hit hlt he
          clear he hC
          go_wp2_with (go_at_call 10; refine (bytes_any (E k) s _ hzk).mono ?_; rintro e w' ⟨rfl, q, rfl⟩)
          go_ret2
          exact ⟨ret_two HM.out.2.symm HM.out.1.symm, _, rfl⟩
        · have hs := sameB_false he
          clear hC
          go_wp2_with (go_at_call 10; refine (bytes_any (E k) s _ hzk).mono ?_; rintro e w' ⟨rfl, q, rfl⟩)
          go_roundw
          case rel =>
            refine ⟨k + 1, m + q, by omega, by go_num, by first | rfl | exact World.drewN_drewN _ _ _, fun j hj => ?_⟩
            by_cases e : j = k
            · rw [e]; exact he
            · exact HA.out j (by omega)
          case measure => simp [intOf]; omega
      · have HM : Hid (mhas s = false ∧ mval s = 0) := hC.miss (fun i hi => HA.out i (by omega))
        clear hC hz hc HA
        go_wp2
        go_ret2
        exact ⟨ret_two HM.out.2.symm HM.out.1.symm, m, rfl⟩

end Go.Proofs.Qxb6603144a
