/-
  SEAT b6602532a: THE PROJECT'S THREE CHECKS' CONTRACTS: validHeaderName (25), validHeaderValue (26), ValidName (22), and the two shims (13, 16).
-/
import Derived.Test.Qxb6602532aWalksA
namespace Go.Proofs.Qxb6602532a
open Go.RowKit
set_option linter.unusedSimpArgs false

def hdrN (s : ByteArray) : Bool := decide (0 < s.size) && allB hdrB s.data.toList
def valN (s : ByteArray) : Bool := allB valB s.data.toList
def namN (s : ByteArray) (m : Int) : Bool := decide (0 < s.size ∧ (s.size : Int) ≤ m) && allB namB s.data.toList

set_option maxHeartbeats 400000 in
theorem hvalue_any (s : ByteArray) (w : World) (hs : s.size ≤ maxLen) :
    Calls Try.prog 26 #[.string s] w fun e w' => e = .returned (.bool (valN s)) ∧ w' = w := by
  unfold maxLen at hs
  go_enter Try.func26, Try.ntmps26
  go_wp2
  go_loop [3] (fun i => ∃ k : Nat, k ≤ s.size ∧ i = .int .i64 k ∧ Hid (allB valB (s.data.toList.take k) = true)) (fun i => s.size - (intOf i).toNat)
  case atStart => exact ⟨0, Nat.zero_le _, rfl, allB_zero _ _⟩
  case round =>
    obtain ⟨k, hk, rfl, HA⟩ := hrel
    by_cases hlt : k < s.size
    · go_wp2
      all_goals first
        | (go_round
           case rel => exact ⟨k + 1, by omega, by go_num, allB_step _ s k hlt HA.out (by try simp only [beq_eq_false_iff_ne, beq_iff_eq, ne_eq] at *
                                                                                         simp only [valB, decide_eq_true_eq]; omega)⟩
           case measure => simp [intOf]; omega)
        | (go_ret
           exact ⟨ret_bool (allB_stop _ s k hlt (by try simp only [beq_eq_false_iff_ne, beq_iff_eq, ne_eq] at *
                                                    simp only [valB, decide_eq_false_iff_not]; omega)).symm, rfl⟩)
    · go_wp2
      go_ret
      exact ⟨ret_bool (allB_end _ s k (by omega) HA.out).symm, rfl⟩

theorem hdrN_empty (s : ByteArray) (h : s.size = 0) : hdrN s = false := by simp [hdrN, h]
theorem hdrN_stop (s : ByteArray) (k : Nat) (h : k < s.size) (hp : hdrB (s[k].toNat : Int) = false) : hdrN s = false := by
  simp [hdrN, allB_stop _ s k h hp]
theorem hdrN_end (s : ByteArray) (k : Nat) (h0 : ¬ s.size = 0) (h : s.size ≤ k) (ha : allB hdrB (s.data.toList.take k) = true) : hdrN s = true := by
  simp [hdrN, allB_end _ s k h ha]; omega

theorem isEmpty_yes (s : ByteArray) (h : s.size = 0) : s.toList.isEmpty = true := by
  rw [ByteArray.toList_eq]
  have e : s.data.toList = [] := List.eq_nil_of_length_eq_zero (by simpa using h)
  rw [e]; rfl
theorem isEmpty_no (s : ByteArray) (h : ¬ s.size = 0) : s.toList.isEmpty = false := by
  rw [ByteArray.toList_eq]
  have e : ¬ s.data.toList.length = 0 := by simpa using h
  cases hl : s.data.toList with
  | nil => rw [hl] at e; exact absurd rfl e
  | cons _ _ => rfl

set_option maxHeartbeats 800000 in
theorem hname_any (s : ByteArray) (w : World) (hs : s.size ≤ maxLen) :
    Calls Try.prog 25 #[.string s] w fun e w' => e = .returned (.bool (hdrN s)) ∧ w' = w := by
  unfold maxLen at hs
  by_cases h0 : s.size = 0
  · have he := isEmpty_yes s h0
    have H0 : Hid (s.size = 0) := h0
    clear h0
    go_enter Try.func25, Try.ntmps25
    go_wp2
    go_ret
    exact ⟨ret_bool (hdrN_empty s H0.out).symm, rfl⟩
  · have he := isEmpty_no s h0
    go_enter Try.func25, Try.ntmps25
    go_wp2
    go_loop [3] (fun i => ∃ k : Nat, k ≤ s.size ∧ i = .int .i64 k ∧ Hid (allB hdrB (s.data.toList.take k) = true)) (fun i => s.size - (intOf i).toNat)
    case atStart => exact ⟨0, Nat.zero_le _, rfl, allB_zero _ _⟩
    case round =>
      obtain ⟨k, hk, rfl, HA⟩ := hrel
      by_cases hlt : k < s.size
      · go_wp2
        all_goals first
          | (go_round
             case rel => exact ⟨k + 1, by omega, by go_num, allB_step _ s k hlt HA.out (by try simp only [beq_eq_false_iff_ne, beq_iff_eq, ne_eq] at *
                                                                                           simp only [hdrB, decide_eq_true_eq]; omega)⟩
             case measure => simp [intOf]; omega)
          | (go_ret
             exact ⟨ret_bool (hdrN_stop s k hlt (by try simp only [beq_eq_false_iff_ne, beq_iff_eq, ne_eq] at *
                                                    simp only [hdrB, decide_eq_false_iff_not]; omega)).symm, rfl⟩)
      · go_wp2
        go_ret
        exact ⟨ret_bool (hdrN_end s k h0 (by omega) HA.out).symm, rfl⟩

theorem namN_empty (s : ByteArray) (m : Int) (h : s.size = 0) : namN s m = false := by simp [namN, h]
theorem namN_long (s : ByteArray) (m : Int) (h : m < (s.size : Int)) : namN s m = false := by
  have : ¬ (s.size : Int) ≤ m := by omega
  simp [namN, this]
theorem namN_stop (s : ByteArray) (m : Int) (k : Nat) (h : k < s.size) (hp : namB (s[k].toNat : Int) = false) : namN s m = false := by
  simp [namN, allB_stop _ s k h hp]
theorem namN_end (s : ByteArray) (m : Int) (k : Nat) (h0 : ¬ s.size = 0) (hm : ¬ m < (s.size : Int)) (h : s.size ≤ k) (ha : allB namB (s.data.toList.take k) = true) : namN s m = true := by
  simp [namN, allB_end _ s k h ha]; omega

set_option maxHeartbeats 800000 in
theorem vname_any (s : ByteArray) (m : Int) (w : World) (hs : s.size ≤ maxLen) :
    Calls Try.prog 22 #[.string s, .int .i64 m] w fun e w' => e = .returned (.bool (namN s m)) ∧ w' = w := by
  unfold maxLen at hs
  by_cases h0 : s.size = 0
  · have he := isEmpty_yes s h0
    have H0 : Hid (s.size = 0) := h0
    clear h0
    go_enter Try.func22, Try.ntmps22
    go_wp2
    go_ret
    exact ⟨ret_bool (namN_empty s m H0.out).symm, rfl⟩
  · have he := isEmpty_no s h0
    by_cases hm : m < (s.size : Int)
    · go_enter Try.func22, Try.ntmps22
      go_wp2
      go_ret
      exact ⟨ret_bool (namN_long s m hm).symm, rfl⟩
    · go_enter Try.func22, Try.ntmps22
      go_wp2
      go_loop [5] (fun i => ∃ k : Nat, k ≤ s.size ∧ i = .int .i64 k ∧ Hid (allB namB (s.data.toList.take k) = true)) (fun i => s.size - (intOf i).toNat)
      case atStart => exact ⟨0, Nat.zero_le _, rfl, allB_zero _ _⟩
      case round =>
        obtain ⟨k, hk, rfl, HA⟩ := hrel
        by_cases hlt : k < s.size
        · go_wp2
          all_goals first
            | (go_round
               case rel => exact ⟨k + 1, by omega, by go_num, allB_step _ s k hlt HA.out (by try simp only [beq_eq_false_iff_ne, beq_iff_eq, ne_eq] at *
                                                                                             simp only [namB, decide_eq_true_eq]; omega)⟩
               case measure => simp [intOf]; omega)
            | (go_ret
               exact ⟨ret_bool (namN_stop s m k hlt (by try simp only [beq_eq_false_iff_ne, beq_iff_eq, ne_eq] at *
                                                        simp only [namB, decide_eq_false_iff_not]; omega)).symm, rfl⟩)
        · go_wp2
          go_ret
          exact ⟨ret_bool (namN_end s m k h0 (by omega) (by omega) HA.out).symm, rfl⟩

/-! ### The two shims -/
theorem zzname_any (s : ByteArray) (w : World) (hs : s.size ≤ maxLen) :
    Calls Try.prog 13 #[.string s] w fun e w' => e = .returned (.bool (hdrN s)) ∧ w' = w := by
  go_enter Try.func13, Try.ntmps13
  go_wp2_with (go_at_call 25; refine (hname_any s _ hs).mono ?_; rintro e w' ⟨rfl, rfl⟩)
  go_ret
  exact ⟨rfl, rfl⟩
theorem zzvalue_any (s : ByteArray) (w : World) (hs : s.size ≤ maxLen) :
    Calls Try.prog 16 #[.string s] w fun e w' => e = .returned (.bool (valN s)) ∧ w' = w := by
  go_enter Try.func16, Try.ntmps16
  go_wp2_with (go_at_call 26; refine (hvalue_any s _ hs).mono ?_; rintro e w' ⟨rfl, rfl⟩)
  go_ret
  exact ⟨rfl, rfl⟩

end Go.Proofs.Qxb6602532a
