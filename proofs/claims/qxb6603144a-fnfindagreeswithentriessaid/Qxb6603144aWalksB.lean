/-
  SEAT b6603144a: sameKey (20), ZZSameKey (9), b1SameBytes (10): CONTRACTS.
-/
import Derived.Test.Qxb6603144aWalksA
namespace Go.Proofs.Qxb6603144a
open Go.RowKit
set_option linter.unusedSimpArgs false

theorem sameB_size {a b : ByteArray} (h : ¬ a.size = b.size) : sameB a b = false := sameB_false (fun e => h (by rw [e]))
theorem sameB_toList (a b : ByteArray) : (a.toList == b.toList) = sameB a b := by
  rw [ByteArray.toList_eq, ByteArray.toList_eq, sameB, Bool.eq_iff_iff]; simp

theorem key_len (a b : ByteArray) (w : World) (h : ¬ a.size = b.size) :
    Calls Try.prog 20 #[.string a, .string b] w fun e w' => e = .returned (.bool (sameB a b)) ∧ ∃ n, w' = w.drewN n := by
  go_enter Try.func20, Try.ntmps20
  go_wp2
  go_ret
  exact ⟨ret_bool (sameB_size h).symm, 0, rfl⟩

theorem key_long (a b : ByteArray) (w : World) (h1 : a.size ≤ b.size) (h2 : b.size ≤ a.size) (h : 16 < a.size) :
    Calls Try.prog 20 #[.string a, .string b] w fun e w' => e = .returned (.bool (sameB a b)) ∧ ∃ n, w' = w.drewN n := by
  go_enter Try.func20, Try.ntmps20
  go_wp2
  go_ret
  exact ⟨ret_bool (sameB_toList a b), 0, rfl⟩

set_option maxHeartbeats 800000 in
theorem key8_no (a b : ByteArray) (w : World) (h1 : a.size ≤ b.size) (h2 : b.size ≤ a.size) (h8 : 8 ≤ a.size) (h16 : a.size ≤ 16) (hw : (wordI a == wordI b) = false) :
    Calls Try.prog 20 #[.string a, .string b] w fun e w' => e = .returned (.bool (sameB a b)) ∧ ∃ n, w' = w.drewN n := by
  go_enter Try.func20, Try.ntmps20
  go_wp2
  go_quiet ((go_at_call 23; exact Calls.quiet_of (word_any _ _ (by omega))))
  go_wp2
  go_ret
  exact ⟨ret_bool (no8 a b hw), nq, rfl⟩

set_option maxHeartbeats 800000 in
theorem key8_yes (a b : ByteArray) (w : World) (h1 : a.size ≤ b.size) (h2 : b.size ≤ a.size) (h8 : 8 ≤ a.size) (h16 : a.size ≤ 16) (hw : (wordI a == wordI b) = true) :
    Calls Try.prog 20 #[.string a, .string b] w fun e w' => e = .returned (.bool (sameB a b)) ∧ ∃ n, w' = w.drewN n := by
  go_enter Try.func20, Try.ntmps20
  go_wp2
  go_quiet ((go_at_call 23; exact Calls.quiet_of (word_any _ _ (by first | omega | (simp; omega)))))
  go_wp2
  go_ret
  exact ⟨ret_bool (eq8 a b h1 h2 h8 h16 hw), nq, rfl⟩

set_option maxHeartbeats 800000 in
theorem key4_no (a b : ByteArray) (w : World) (h1 : a.size ≤ b.size) (h2 : b.size ≤ a.size) (h4 : 4 ≤ a.size) (h8 : a.size < 8) (hw : (quarterI a == quarterI b) = false) :
    Calls Try.prog 20 #[.string a, .string b] w fun e w' => e = .returned (.bool (sameB a b)) ∧ ∃ n, w' = w.drewN n := by
  go_enter Try.func20, Try.ntmps20
  go_wp2
  go_quiet ((go_at_call 24; exact Calls.quiet_of (quarter_any _ _ (by omega))))
  go_wp2
  go_ret
  exact ⟨ret_bool (no4 a b hw), nq, rfl⟩

set_option maxHeartbeats 800000 in
theorem key4_yes (a b : ByteArray) (w : World) (h1 : a.size ≤ b.size) (h2 : b.size ≤ a.size) (h4 : 4 ≤ a.size) (h8 : a.size < 8) (hw : (quarterI a == quarterI b) = true) :
    Calls Try.prog 20 #[.string a, .string b] w fun e w' => e = .returned (.bool (sameB a b)) ∧ ∃ n, w' = w.drewN n := by
  go_enter Try.func20, Try.ntmps20
  go_wp2
  go_quiet ((go_at_call 24; exact Calls.quiet_of (quarter_any _ _ (by first | omega | (simp; omega)))))
  go_wp2
  go_ret
  exact ⟨ret_bool (eq4 a b h1 h2 h4 h8 hw), nq, rfl⟩

theorem key0 (a b : ByteArray) (w : World) (h1 : a.size ≤ 0) (h2 : b.size ≤ 0) :
    Calls Try.prog 20 #[.string a, .string b] w fun e w' => e = .returned (.bool (sameB a b)) ∧ ∃ n, w' = w.drewN n := by
  go_enter Try.func20, Try.ntmps20
  go_wp2
  go_ret
  exact ⟨ret_bool ((sameB_iff a b).2 (bytes_ext (by omega) (fun i hi => by omega))).symm, 0, rfl⟩


set_option maxHeartbeats 1600000 in
theorem key3 (a b : ByteArray) (w : World) (h1 : a.size = 3) (h2 : b.size = 3) :
    Calls Try.prog 20 #[.string a, .string b] w fun e w' => e = .returned (.bool (sameB a b)) ∧ ∃ n, w' = w.drewN n := by
  have q0 : 0 < a.size := by omega
  have q1 : (1 : Int) < (a.size : Int) := by omega
  have q2 : (2 : Int) < (a.size : Int) := by omega
  have r0 : 0 < b.size := by omega
  have r1 : (1 : Int) < (b.size : Int) := by omega
  have r2 : (2 : Int) < (b.size : Int) := by omega
  rcases Bool.eq_false_or_eq_true (((a[0]'(by omega)).toNat : Int) == ((b[0]'(by omega)).toNat : Int)) with e0 | e0
  · rcases Bool.eq_false_or_eq_true (((a[1]'(by omega)).toNat : Int) == ((b[1]'(by omega)).toNat : Int)) with e1 | e1
    · go_enter Try.func20, Try.ntmps20
      go_wp2
      go_quiet (fail)
      go_wp2
      go_quiet (fail)
      go_wp2
      go_ret
      refine ⟨ret_bool ?_, _, World.drewN_drewN _ _ _⟩
      simp only [bt_get] at e0 e1 ⊢
      exact eq_last a b 2 h1 h2 (below2 e0 e1)
    · go_enter Try.func20, Try.ntmps20
      go_wp2
      go_quiet (fail)
      go_wp2
      go_quiet (fail)
      go_wp2
      go_ret
      refine ⟨ret_bool ?_, _, World.drewN_drewN _ _ _⟩
      simp only [bt_get] at e1
      exact ne_at a b 1 e1
  · go_enter Try.func20, Try.ntmps20
    go_wp2
    go_quiet (fail)
    go_wp2
    go_quiet (fail)
    go_wp2
    go_ret
    refine ⟨ret_bool ?_, _, World.drewN_drewN _ _ _⟩
    simp only [bt_get] at e0
    exact ne_at a b 0 e0

set_option maxHeartbeats 1600000 in
theorem key2 (a b : ByteArray) (w : World) (h1 : a.size = 2) (h2 : b.size = 2) :
    Calls Try.prog 20 #[.string a, .string b] w fun e w' => e = .returned (.bool (sameB a b)) ∧ ∃ n, w' = w.drewN n := by
  have q0 : 0 < a.size := by omega
  have q1 : (1 : Int) < (a.size : Int) := by omega
  have r0 : 0 < b.size := by omega
  have r1 : (1 : Int) < (b.size : Int) := by omega
  rcases Bool.eq_false_or_eq_true (((a[0]'(by omega)).toNat : Int) == ((b[0]'(by omega)).toNat : Int)) with e0 | e0
  · rcases Bool.eq_false_or_eq_true (((a[1]'(by omega)).toNat : Int) == ((b[1]'(by omega)).toNat : Int)) with e1 | e1
    · go_enter Try.func20, Try.ntmps20
      go_wp2
      go_quiet (fail)
      go_wp2
      go_quiet (fail)
      go_wp2
      go_ret
      refine ⟨ret_bool ?_, _, World.drewN_drewN _ _ _⟩
      simp only [bt_get] at e0 e1
      rw [← eq_last a b 1 h1 h2 (below1 e0), e1]
    · go_enter Try.func20, Try.ntmps20
      go_wp2
      go_quiet (fail)
      go_wp2
      go_quiet (fail)
      go_wp2
      go_ret
      refine ⟨ret_bool ?_, _, World.drewN_drewN _ _ _⟩
      simp only [bt_get] at e1
      exact ne_at a b 1 e1
  · go_enter Try.func20, Try.ntmps20
    go_wp2
    go_quiet (fail)
    go_wp2
    go_quiet (fail)
    go_wp2
    go_ret
    refine ⟨ret_bool ?_, _, World.drewN_drewN _ _ _⟩
    simp only [bt_get] at e0
    exact ne_at a b 0 e0

set_option maxHeartbeats 1600000 in
theorem key1 (a b : ByteArray) (w : World) (h1 : a.size = 1) (h2 : b.size = 1) :
    Calls Try.prog 20 #[.string a, .string b] w fun e w' => e = .returned (.bool (sameB a b)) ∧ ∃ n, w' = w.drewN n := by
  have q0 : 0 < a.size := by omega
  have r0 : 0 < b.size := by omega
  rcases Bool.eq_false_or_eq_true (((a[0]'(by omega)).toNat : Int) == ((b[0]'(by omega)).toNat : Int)) with e0 | e0
  · go_enter Try.func20, Try.ntmps20
    go_wp2
    go_quiet (fail)
    go_wp2
    go_quiet (fail)
    go_wp2
    go_ret
    refine ⟨ret_bool ?_, _, World.drewN_drewN _ _ _⟩
    simp only [bt_get] at e0
    rw [← eq_last a b 0 h1 h2 (fun i hi => absurd hi (Nat.not_lt_zero i)), e0]
  · go_enter Try.func20, Try.ntmps20
    go_wp2
    go_quiet (fail)
    go_wp2
    go_quiet (fail)
    go_wp2
    go_ret
    refine ⟨ret_bool ?_, _, World.drewN_drewN _ _ _⟩
    simp only [bt_get] at e0
    exact ne_at a b 0 e0

/-- sameKey answers whether the two are one string. -/
theorem key_any (a b : ByteArray) (w : World) :
    Calls Try.prog 20 #[.string a, .string b] w fun e w' => e = .returned (.bool (sameB a b)) ∧ ∃ n, w' = w.drewN n := by
  by_cases h : a.size = b.size
  · by_cases h16 : 16 < a.size
    · exact key_long a b w (by omega) (by omega) h16
    · by_cases h8 : 8 ≤ a.size
      · rcases Bool.eq_false_or_eq_true (wordI a == wordI b) with e | e
        · exact key8_yes a b w (by omega) (by omega) h8 (by omega) e
        · exact key8_no a b w (by omega) (by omega) h8 (by omega) e
      · by_cases h4 : 4 ≤ a.size
        · rcases Bool.eq_false_or_eq_true (quarterI a == quarterI b) with e | e
          · exact key4_yes a b w (by omega) (by omega) h4 (by omega) e
          · exact key4_no a b w (by omega) (by omega) h4 (by omega) e
        · by_cases h3 : a.size = 3
          · exact key3 a b w h3 (by omega)
          · by_cases h2 : a.size = 2
            · exact key2 a b w h2 (by omega)
            · by_cases h1 : a.size = 1
              · exact key1 a b w h1 (by omega)
              · exact key0 a b w (by omega) (by omega)
  · exact key_len a b w h

theorem zzkey_any (a b : ByteArray) (w : World) :
    Calls Try.prog 9 #[.string a, .string b] w fun e w' => e = .returned (.bool (sameB a b)) ∧ ∃ n, w' = w.drewN n := by
  go_enter Try.func9, Try.ntmps9
  go_wp2_with (go_at_call 20; refine (key_any a b _).mono ?_; rintro e w' ⟨rfl, n, rfl⟩)
  go_ret
  exact ⟨rfl, _, rfl⟩

end Go.Proofs.Qxb6603144a
