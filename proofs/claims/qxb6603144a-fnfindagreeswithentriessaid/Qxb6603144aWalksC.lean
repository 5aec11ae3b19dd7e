/-
  SEAT b6603144a: b1SameBytes (10), the guards zzBytes (8, 11): CONTRACTS.
-/
import Derived.Test.Qxb6603144aWalksB
namespace Go.Proofs.Qxb6603144a
open Go.RowKit
set_option linter.unusedSimpArgs false

theorem guard8_yes (a b : ByteArray) (w : World) (h : a.size + b.size ≤ 1048576) :
    Calls Try.prog 8 #[.string a, .string b] w fun e w' => e = .returned (.bool true) ∧ w' = w := by
  go_enter Try.func8, Try.ntmps8
  go_wp2
  go_ret
  exact ⟨rfl, rfl⟩
theorem guard8_no (a b : ByteArray) (w : World) (ha : a.size ≤ maxLen) (hb : b.size ≤ maxLen) (h : ¬ a.size + b.size ≤ 1048576) :
    Calls Try.prog 8 #[.string a, .string b] w fun e w' => e = .returned (.bool false) ∧ w' = w := by
  unfold maxLen at ha hb
  rcases (show ¬ a.size ≤ 1048576 ∨ (a.size ≤ 1048576 ∧ ¬ b.size ≤ 1048576) ∨ (a.size ≤ 1048576 ∧ b.size ≤ 1048576) from by omega) with h1 | ⟨h1, h2⟩ | ⟨h1, h2⟩
  all_goals
    go_enter Try.func8, Try.ntmps8
    go_wp2
    go_ret
    exact ⟨rfl, rfl⟩
theorem guard11_yes (a : ByteArray) (i x : Int) (w : World) (h : a.size ≤ 1048576) :
    Calls Try.prog 11 #[.string a, .int .i64 i, .int .u8 x] w fun e w' => e = .returned (.bool true) ∧ w' = w := by
  go_enter Try.func11, Try.ntmps11
  go_wp2
  go_ret
  exact ⟨rfl, rfl⟩
theorem guard11_no (a : ByteArray) (i x : Int) (w : World) (h : ¬ a.size ≤ 1048576) :
    Calls Try.prog 11 #[.string a, .int .i64 i, .int .u8 x] w fun e w' => e = .returned (.bool false) ∧ w' = w := by
  go_enter Try.func11, Try.ntmps11
  go_wp2
  go_ret
  exact ⟨rfl, rfl⟩

theorem sameB_upto {a b : ByteArray} {k : Nat} (hs : a.size = b.size) (hk : a.size ≤ k) (h : ∀ j, j < k → bt a j = bt b j) : true = sameB a b :=
  ((sameB_iff a b).2 (bytes_ext hs fun i hi => h i (by omega))).symm

set_option maxHeartbeats 800000 in
theorem bytes_any (a b : ByteArray) (w : World) (ha : a.size ≤ maxLen) :
    Calls Try.prog 10 #[.string a, .string b] w fun e w' => e = .returned (.bool (sameB a b)) ∧ ∃ n, w' = w.drewN n := by
  unfold maxLen at ha
  by_cases hs : a.size = b.size
  · have HS : Hid (a.size = b.size) := hs
    have h1 : a.size ≤ b.size := by omega
    have h2 : b.size ≤ a.size := by omega
    clear hs
    go_enter Try.func10, Try.ntmps10
    go_wp2
    go_loopw [5] (fun i wr => ∃ k n : Nat, k ≤ a.size ∧ i = .int .i64 k ∧ wr = w.drewN n ∧ Hid (∀ j, j < k → bt a j = bt b j)) (fun i _ => a.size - (intOf i).toNat)
    case atStart => exact ⟨0, 0, Nat.zero_le _, rfl, rfl, fun j hj => absurd hj (Nat.not_lt_zero j)⟩
    case round =>
      obtain ⟨k, n, hk, rfl, rfl, HA⟩ := hrel
      by_cases hlt : k < a.size
      · have hlb : k < b.size := by omega
        have i1 : (k : Int) < (a.size : Int) := by omega
        have i2 : (k : Int) < (b.size : Int) := by omega
        go_wp2
        go_quiet (fail)
        go_wp2
        · have e : (((a[k]'hlt).toNat : Int) != ((b[k]'hlb).toNat : Int)) = true := by assumption
          go_ret
          refine ⟨ret_bool ?_, _, World.drewN_drewN _ _ _⟩
          simp only [bt_get] at e
          exact ne_at a b k (by simpa using e)
        · have e : (((a[k]'hlt).toNat : Int) != ((b[k]'hlb).toNat : Int)) = false := by assumption
          go_roundw
          case rel =>
            refine ⟨k + 1, n + nq, by omega, by go_num, rfl, fun j hj => ?_⟩
            simp only [bt_get] at e
            by_cases h : j = k
            · rw [h]; simpa using e
            · exact HA.out j (by omega)
          case measure => simp [intOf]; omega
      · go_wp2
        go_ret
        exact ⟨ret_bool (sameB_upto HS.out (by omega) HA.out), n, rfl⟩
  · go_enter Try.func10, Try.ntmps10
    go_wp2
    go_ret
    exact ⟨ret_bool (sameB_size hs).symm, 0, rfl⟩

end Go.Proofs.Qxb6603144a
