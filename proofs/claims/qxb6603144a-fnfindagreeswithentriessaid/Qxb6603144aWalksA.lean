/-
  SEAT b6603144a: word (23), quarter (24): CONTRACTS.
-/
import Derived.Test.Qxb6603144aChecked
import Derived.Test.Qxb6603144aPlain
import Derived.WalkKit
import Derived.WalkSpells
import Derived.WalkLawsBesides
import Derived.Lib.EndianBits
import Derived.Deep.QuietTactic
import Derived.BigQuiet
namespace Go.Proofs.Qxb6603144a
open Go.RowKit
set_option linter.unusedSimpArgs false

theorem ret_bool {a b : Bool} (h : a = b) : Ending.returned (.bool a) = .returned (.bool b) := by rw [h]
theorem ret_int {k : IntKind} {a b : Int} (h : a = b) : Ending.returned (.int k a) = .returned (.int k b) := by rw [h]

set_option maxHeartbeats 1600000 in
theorem word_bits (b0 b1 b2 b3 b4 b5 b6 b7 : Int) (h0 : 0 ≤ b0 ∧ b0 < 256) (h1 : 0 ≤ b1 ∧ b1 < 256) (h2 : 0 ≤ b2 ∧ b2 < 256) (h3 : 0 ≤ b3 ∧ b3 < 256) (h4 : 0 ≤ b4 ∧ b4 < 256) (h5 : 0 ≤ b5 ∧ b5 < 256) (h6 : 0 ≤ b6 ∧ b6 < 256) (h7 : 0 ≤ b7 ∧ b7 < 256) :
    bits .or .u64 (bits .or .u64 (bits .or .u64 (bits .or .u64 (bits .or .u64 (bits .or .u64 (bits .or .u64 (IntKind.u64.wrap b0) (IntKind.u64.wrap (IntKind.u64.wrap b1 * 256))) (IntKind.u64.wrap (IntKind.u64.wrap b2 * 65536))) (IntKind.u64.wrap (IntKind.u64.wrap b3 * 16777216))) (IntKind.u64.wrap (IntKind.u64.wrap b4 * 4294967296))) (IntKind.u64.wrap (IntKind.u64.wrap b5 * 1099511627776))) (IntKind.u64.wrap (IntKind.u64.wrap b6 * 281474976710656))) (IntKind.u64.wrap (IntKind.u64.wrap b7 * 72057594037927936)) = b0 + b1 * 256 + b2 * 65536 + b3 * 16777216 + b4 * 4294967296 + b5 * 1099511627776 + b6 * 281474976710656 + b7 * 72057594037927936 := by
  simp (disch := omega) only [u64_wrap_id, u64_or8, u64_or16, u64_or24, u64_or32, u64_or40, u64_or48, u64_or56]
theorem quarter_bits (b0 b1 b2 b3 : Int) (h0 : 0 ≤ b0 ∧ b0 < 256) (h1 : 0 ≤ b1 ∧ b1 < 256) (h2 : 0 ≤ b2 ∧ b2 < 256) (h3 : 0 ≤ b3 ∧ b3 < 256) :
    bits .or .u32 (bits .or .u32 (bits .or .u32 (IntKind.u32.wrap b0) (IntKind.u32.wrap (IntKind.u32.wrap b1 * 256))) (IntKind.u32.wrap (IntKind.u32.wrap b2 * 65536))) (IntKind.u32.wrap (IntKind.u32.wrap b3 * 16777216)) = b0 + b1 * 256 + b2 * 65536 + b3 * 16777216 := by
  simp (disch := omega) only [u32_wrap_id, u32_or8, u32_or16, u32_or24]
theorem bt_in (s : ByteArray) (i : Nat) : 0 ≤ bt s i ∧ bt s i < 256 := ⟨bt_lo s i, bt_hi s i⟩

set_option maxHeartbeats 800000 in
theorem word_any (s : ByteArray) (w : World) (h : 8 ≤ s.size) :
    Calls Try.prog 23 #[.string s] w fun e w' => e = .returned (.int .u64 (wordI s)) ∧ ∃ n, w' = w.drewN n := by
  have q0 : 0 < s.size := by omega
  have q1 : (1 : Int) < (s.size : Int) := by omega
  have q2 : (2 : Int) < (s.size : Int) := by omega
  have q3 : (3 : Int) < (s.size : Int) := by omega
  have q4 : (4 : Int) < (s.size : Int) := by omega
  have q5 : (5 : Int) < (s.size : Int) := by omega
  have q6 : (6 : Int) < (s.size : Int) := by omega
  have q7 : (7 : Int) < (s.size : Int) := by omega
  go_enter Try.func23, Try.ntmps23
  go_wp2
  go_quiet (fail)
  go_wp2
  go_ret
  refine ⟨ret_int ?_, nq, rfl⟩
  simp only [bt_get]
  exact word_bits _ _ _ _ _ _ _ _ (bt_in s 0) (bt_in s 1) (bt_in s 2) (bt_in s 3) (bt_in s 4) (bt_in s 5) (bt_in s 6) (bt_in s 7)

set_option maxHeartbeats 800000 in
theorem quarter_any (s : ByteArray) (w : World) (h : 4 ≤ s.size) :
    Calls Try.prog 24 #[.string s] w fun e w' => e = .returned (.int .u32 (quarterI s)) ∧ ∃ n, w' = w.drewN n := by
  have q0 : 0 < s.size := by omega
  have q1 : (1 : Int) < (s.size : Int) := by omega
  have q2 : (2 : Int) < (s.size : Int) := by omega
  have q3 : (3 : Int) < (s.size : Int) := by omega
  go_enter Try.func24, Try.ntmps24
  go_wp2
  go_quiet (fail)
  go_wp2
  go_ret
  refine ⟨ret_int ?_, nq, rfl⟩
  simp only [bt_get]
  exact quarter_bits _ _ _ _ (bt_in s 0) (bt_in s 1) (bt_in s 2) (bt_in s 3)

end Go.Proofs.Qxb6603144a
