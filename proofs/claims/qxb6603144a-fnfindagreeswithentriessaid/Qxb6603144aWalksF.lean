/-
  SEAT b6603144a: quickHash (21): CONTRACT.
-/
import Derived.Test.Qxb6603144aWalksE
namespace Go.Proofs.Qxb6603144a
open Go.RowKit
set_option linter.unusedSimpArgs false

def hw (s : ByteArray) : Nat → Int
  | 0 => 0
  | k + 1 => bits .or .u64 (IntKind.u64.wrap (hw s k * 256)) (IntKind.u64.wrap (bt s k))
def mixH (x y : Int) : Int := IntKind.u64.wrap (bits .xor .u64 x y * 11400714819323198485)
/-- quickHash. -/
def qh (s : ByteArray) : Int :=
  if s.size < 8 then mixH (s.size : Int) (hw s s.size) else mixH (mixH (mixH (s.size : Int) (wordI s)) (wordI (s.extract (s.size / 2 - 4) s.size))) (wordI (s.extract (s.size - 8) s.size))
theorem qh_short {s : ByteArray} {k : Nat} (h : s.size < 8) (hk : k = s.size) : IntKind.u64.wrap (bits .xor .u64 (s.size : Int) (hw s k) * 11400714819323198485) = qh s := by
  unfold qh; rw [if_pos h, hk]; rfl
theorem qh_long {s : ByteArray} (h : 8 ≤ s.size) : mixH (mixH (mixH (s.size : Int) (wordI s)) (wordI (s.extract (s.size / 2 - 4) s.size))) (wordI (s.extract (s.size - 8) s.size)) = qh s := by
  unfold qh; rw [if_neg (by omega)]

set_option maxHeartbeats 800000 in
theorem hash_short (s : ByteArray) (w : World) (h : s.size < 8) :
    Calls Try.prog 21 #[.string s] w fun e w' => e = .returned (.int .u64 (qh s)) ∧ ∃ n, w' = w.drewN n := by
  go_enter Try.func21, Try.ntmps21
  go_wp2
  go_loop [4, 14] (fun x i => ∃ k : Nat, k ≤ s.size ∧ i = .int .i64 k ∧ x = .int .u64 (hw s k)) (fun _ i => s.size - (intOf i).toNat)
  case atStart => exact ⟨0, Nat.zero_le _, rfl, rfl⟩
  case round =>
    obtain ⟨k, hk, rfl, rfl⟩ := hrel
    by_cases hlt : k < s.size
    · have i1 : (k : Int) < (s.size : Int) := by omega
      go_wp2
      go_round
      case rel => exact ⟨k + 1, by omega, by go_num, by rw [bt_get]; rfl⟩
      case measure => simp [intOf]; omega
    · go_wp2
      go_ret
      exact ⟨ret_int (qh_short h (by omega)), 0, rfl⟩

set_option maxHeartbeats 800000 in
theorem hash_long (s : ByteArray) (w : World) (h : 8 ≤ s.size) (hs : s.size ≤ 9223372036854775807) :
    Calls Try.prog 21 #[.string s] w fun e w' => e = .returned (.int .u64 (qh s)) ∧ ∃ n, w' = w.drewN n := by
  go_enter Try.func21, Try.ntmps21
  go_wp2_with (go_at_call 23; refine (word_any _ _ (by first | omega | (simp; omega))).mono ?_; rintro e w' ⟨rfl, n, rfl⟩)
  go_ret
  exact ⟨ret_int (qh_long h), _, rfl⟩

theorem hash_any (s : ByteArray) (q : Int) (hq : Hid (q = qh s)) (w : World) (hs : s.size ≤ maxLen) :
    Calls Try.prog 21 #[.string s] w fun e w' => e = .returned (.int .u64 q) ∧ ∃ n, w' = w.drewN n := by
  rw [hq.out]
  by_cases h : s.size < 8
  · exact hash_short s w h
  · unfold maxLen at hs
    exact hash_long s w (by omega) (by omega)

end Go.Proofs.Qxb6603144a
