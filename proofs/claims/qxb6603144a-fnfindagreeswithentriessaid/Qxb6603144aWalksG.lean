/-
  SEAT b6603144a: find (22): CONTRACTS.
-/
import Derived.Test.Qxb6603144aWalksF
namespace Go.Proofs.Qxb6603144a
open Go.RowKit
set_option linter.unusedSimpArgs false
set_option linter.unusedVariables false

/-- The slot that find looks into. -/
theorem slot_of (q : Int) : ∃ i : Nat, i < 1024 ∧ IntKind.u64.wrap (q * 11400714819323198485) / 18014398509481984 = (i : Int) := by
  have h : IntKind.u64.wrap (q * 11400714819323198485) = (q * 11400714819323198485) % 18446744073709551616 := IntKind.wrap_u64 _
  refine ⟨(IntKind.u64.wrap (q * 11400714819323198485) / 18014398509481984).toNat, ?_, ?_⟩
  · rw [h]; omega
  · rw [h]; omega

set_option maxHeartbeats 800000 in
theorem find_hit (w : World) (T FB : Nat) (mo : Option Nat) (b off : Nat) (n cap fn : Nat) (s : ByteArray) (q : Int) (hq : Hid (q = qh s)) (hs : s.size ≤ maxLen)
    (i : Nat) (hi : IntKind.u64.wrap (q * 11400714819323198485) / 18014398509481984 = (i : Int)) (hif : i < fn) (v : Int) (h0 : 0 ≤ v) (h1 : v < 4294967296) (hn : n ≤ 65536)
    (cv : w.cell? ⟨FB, i, none⟩ = some (.int .u32 v)) (c0 : w.cell? ⟨T, 0, none⟩ = some (.map mo)) (c1 : w.cell? ⟨T, 1, none⟩ = some (.slice (some ⟨b, off, none⟩) n cap)) (c3 : w.cell? ⟨T, 3, none⟩ = some (.slice (some ⟨FB, 0, none⟩) fn fn))
    (k : Nat) (hk : IntKind.u64.wrap (v - 1) = (k : Int)) (hkn : k < n) (t : ByteArray) (ct : w.cell? ⟨b, off + k, none⟩ = some (.string t)) (ht : (t.toList == s.toList) = true) :
    Calls Try.prog 22 #[.pointer (some ⟨T, 0, none⟩), .string s] w fun e w' => e = .returned (.tuple #[.int .u64 k, .bool true]) ∧ ∃ m, w' = w.drewN m := by
  have i2 : (k : Int) < (n : Int) := by omega
  have qn := eq29
  have i1 : (i : Int) < (fn : Int) := by omega
  go_enter Try.func22, Try.ntmps22
  go_wp2
  go_quiet ((go_at_call 21; exact Calls.quiet_of (hash_any s q hq _ hs)))
  go_wp2
  go_ret2
  exact ⟨rfl, _, rfl⟩

set_option maxHeartbeats 800000 in
theorem find_out_no (w : World) (T FB : Nat) (mo : Option Nat) (eo : Option Addr) (n cap fn : Nat) (s : ByteArray) (q : Int) (hq : Hid (q = qh s)) (hs : s.size ≤ maxLen)
    (i : Nat) (hi : IntKind.u64.wrap (q * 11400714819323198485) / 18014398509481984 = (i : Int)) (hif : i < fn) (v : Int) (h0 : 0 ≤ v) (h1 : v < 4294967296) (hn : n ≤ 65536)
    (cv : w.cell? ⟨FB, i, none⟩ = some (.int .u32 v)) (c0 : w.cell? ⟨T, 0, none⟩ = some (.map mo)) (c1 : w.cell? ⟨T, 1, none⟩ = some (.slice eo n cap)) (c3 : w.cell? ⟨T, 3, none⟩ = some (.slice (some ⟨FB, 0, none⟩) fn fn))
    (hk : ¬ IntKind.u64.wrap (v - 1) < (n : Int)) (mv : Int) (look : ∀ m, (Instr.lookup 27 (.map mo) (.string s) true).run Try.prog (w.drewN m) = .ok (.tuple #[.int .u64 mv, .bool false]) (w.drewN m)) :
    Calls Try.prog 22 #[.pointer (some ⟨T, 0, none⟩), .string s] w fun e w' => e = .returned (.tuple #[.int .u64 mv, .bool false]) ∧ ∃ m, w' = w.drewN m := by
  have qn := eq29
  have i1 : (i : Int) < (fn : Int) := by omega
  go_enter Try.func22, Try.ntmps22
  go_wp2
  go_quiet ((go_at_call 21; exact Calls.quiet_of (hash_any s q hq _ hs)))
  go_wp2
  go_ret2
  exact ⟨rfl, _, rfl⟩

set_option maxHeartbeats 800000 in
theorem find_out_yes (w : World) (T FB : Nat) (mo : Option Nat) (eo : Option Addr) (n cap fn : Nat) (s : ByteArray) (q : Int) (hq : Hid (q = qh s)) (hs : s.size ≤ maxLen)
    (i : Nat) (hi : IntKind.u64.wrap (q * 11400714819323198485) / 18014398509481984 = (i : Int)) (hif : i < fn) (v : Int) (h0 : 0 ≤ v) (h1 : v < 4294967296) (hn : n ≤ 65536)
    (cv : w.cell? ⟨FB, i, none⟩ = some (.int .u32 v)) (c0 : w.cell? ⟨T, 0, none⟩ = some (.map mo)) (c1 : w.cell? ⟨T, 1, none⟩ = some (.slice eo n cap)) (c3 : w.cell? ⟨T, 3, none⟩ = some (.slice (some ⟨FB, 0, none⟩) fn fn))
    (hk : ¬ IntKind.u64.wrap (v - 1) < (n : Int)) (mv : Int) (m0 : 0 ≤ mv) (m1 : mv < 65536) (look : ∀ m, (Instr.lookup 27 (.map mo) (.string s) true).run Try.prog (w.drewN m) = .ok (.tuple #[.int .u64 mv, .bool true]) (w.drewN m)) (fv : w.frozen? ⟨FB, i, none⟩ = false) :
    Calls Try.prog 22 #[.pointer (some ⟨T, 0, none⟩), .string s] w fun e w' => e = .returned (.tuple #[.int .u64 mv, .bool true]) ∧ ∃ m, w' = (w.setCell ⟨FB, i, none⟩ (.int .u32 (mv + 1))).drewN m := by
  have qn := eq29
  have i1 : (i : Int) < (fn : Int) := by omega
  go_enter Try.func22, Try.ntmps22
  go_wp2
  go_quiet ((go_at_call 21; exact Calls.quiet_of (hash_any s q hq _ hs)))
  go_wp2
  go_ret2
  exact ⟨rfl, _, rfl⟩

set_option maxHeartbeats 800000 in
theorem find_other_no (w : World) (T FB : Nat) (mo : Option Nat) (b off : Nat) (n cap fn : Nat) (s : ByteArray) (q : Int) (hq : Hid (q = qh s)) (hs : s.size ≤ maxLen)
    (i : Nat) (hi : IntKind.u64.wrap (q * 11400714819323198485) / 18014398509481984 = (i : Int)) (hif : i < fn) (v : Int) (h0 : 0 ≤ v) (h1 : v < 4294967296) (hn : n ≤ 65536)
    (cv : w.cell? ⟨FB, i, none⟩ = some (.int .u32 v)) (c0 : w.cell? ⟨T, 0, none⟩ = some (.map mo)) (c1 : w.cell? ⟨T, 1, none⟩ = some (.slice (some ⟨b, off, none⟩) n cap)) (c3 : w.cell? ⟨T, 3, none⟩ = some (.slice (some ⟨FB, 0, none⟩) fn fn))
    (k : Nat) (hk : IntKind.u64.wrap (v - 1) = (k : Int)) (hkn : k < n) (t : ByteArray) (ct : w.cell? ⟨b, off + k, none⟩ = some (.string t)) (ht : (t.toList == s.toList) = false) (mv : Int) (look : ∀ m, (Instr.lookup 27 (.map mo) (.string s) true).run Try.prog (w.drewN m) = .ok (.tuple #[.int .u64 mv, .bool false]) (w.drewN m)) :
    Calls Try.prog 22 #[.pointer (some ⟨T, 0, none⟩), .string s] w fun e w' => e = .returned (.tuple #[.int .u64 mv, .bool false]) ∧ ∃ m, w' = w.drewN m := by
  have i2 : (k : Int) < (n : Int) := by omega
  have qn := eq29
  have i1 : (i : Int) < (fn : Int) := by omega
  go_enter Try.func22, Try.ntmps22
  go_wp2
  go_quiet ((go_at_call 21; exact Calls.quiet_of (hash_any s q hq _ hs)))
  go_wp2
  go_ret2
  exact ⟨rfl, _, rfl⟩

set_option maxHeartbeats 800000 in
theorem find_other_yes (w : World) (T FB : Nat) (mo : Option Nat) (b off : Nat) (n cap fn : Nat) (s : ByteArray) (q : Int) (hq : Hid (q = qh s)) (hs : s.size ≤ maxLen)
    (i : Nat) (hi : IntKind.u64.wrap (q * 11400714819323198485) / 18014398509481984 = (i : Int)) (hif : i < fn) (v : Int) (h0 : 0 ≤ v) (h1 : v < 4294967296) (hn : n ≤ 65536)
    (cv : w.cell? ⟨FB, i, none⟩ = some (.int .u32 v)) (c0 : w.cell? ⟨T, 0, none⟩ = some (.map mo)) (c1 : w.cell? ⟨T, 1, none⟩ = some (.slice (some ⟨b, off, none⟩) n cap)) (c3 : w.cell? ⟨T, 3, none⟩ = some (.slice (some ⟨FB, 0, none⟩) fn fn))
    (k : Nat) (hk : IntKind.u64.wrap (v - 1) = (k : Int)) (hkn : k < n) (t : ByteArray) (ct : w.cell? ⟨b, off + k, none⟩ = some (.string t)) (ht : (t.toList == s.toList) = false) (mv : Int) (m0 : 0 ≤ mv) (m1 : mv < 65536) (look : ∀ m, (Instr.lookup 27 (.map mo) (.string s) true).run Try.prog (w.drewN m) = .ok (.tuple #[.int .u64 mv, .bool true]) (w.drewN m)) (fv : w.frozen? ⟨FB, i, none⟩ = false) :
    Calls Try.prog 22 #[.pointer (some ⟨T, 0, none⟩), .string s] w fun e w' => e = .returned (.tuple #[.int .u64 mv, .bool true]) ∧ ∃ m, w' = (w.setCell ⟨FB, i, none⟩ (.int .u32 (mv + 1))).drewN m := by
  have i2 : (k : Int) < (n : Int) := by omega
  have qn := eq29
  have i1 : (i : Int) < (fn : Int) := by omega
  go_enter Try.func22, Try.ntmps22
  go_wp2
  go_quiet ((go_at_call 21; exact Calls.quiet_of (hash_any s q hq _ hs)))
  go_wp2
  go_ret2
  exact ⟨rfl, _, rfl⟩

/-! ### The cache is nil: a row of 1024 is made and laid into the table -/
def row1024 : Obj := .cells (madeCells #[.int .u32 0] 1024) 38
theorem mk1024 (w : World) : (Instr.makeSlice 29 (.int .i64 1024) (.int .i64 1024)).run Try.prog w = .ok (.slice (some ⟨w.heap.size, 0, none⟩) 1024 1024) (w.alloc row1024) :=
  run_make_row' (P := Try.prog) 29 38 (.int .u32 0) 4 Try.underlying29 info38 rfl .i64 .i64 1024 (by omega) (by omega) w
def made (O : Obj) (N : Nat) (w : World) (T : Nat) : World := (w.setCell ⟨T, 3, none⟩ (.slice (some ⟨w.heap.size, 0, none⟩) N N)).alloc O

set_option maxHeartbeats 800000 in
theorem find_nil_no (O : Obj) (N : Nat) (hmk : ∀ w : World, (Instr.makeSlice 29 (.int .i64 1024) (.int .i64 1024)).run Try.prog w = .ok (.slice (some ⟨w.heap.size, 0, none⟩) N N) (w.alloc O)) (w : World) (T : Nat) (mo : Option Nat) (eo : Option Addr) (n cap : Nat) (s : ByteArray) (q : Int) (hq : Hid (q = qh s)) (hs : s.size ≤ maxLen)
    (i : Nat) (hi : IntKind.u64.wrap (q * 11400714819323198485) / 18014398509481984 = (i : Int)) (hif : i < N) (v : Int) (h0 : 0 ≤ v) (h1 : v < 4294967296) (hn : n ≤ 65536)
    (c3 : w.cell? ⟨T, 3, none⟩ = some (.slice none 0 0)) (f3 : w.frozen? ⟨T, 3, none⟩ = false) (hT : T < w.heap.size)
    (cv : (made O N w T).cell? ⟨w.heap.size, i, none⟩ = some (.int .u32 v)) (d0 : (made O N w T).cell? ⟨T, 0, none⟩ = some (.map mo)) (d1 : (made O N w T).cell? ⟨T, 1, none⟩ = some (.slice eo n cap)) (d3 : (made O N w T).cell? ⟨T, 3, none⟩ = some (.slice (some ⟨w.heap.size, 0, none⟩) N N))
    (hk : ¬ IntKind.u64.wrap (v - 1) < (n : Int)) (mv : Int) (look : ∀ m, (Instr.lookup 27 (.map mo) (.string s) true).run Try.prog ((made O N w T).drewN m) = .ok (.tuple #[.int .u64 mv, .bool false]) ((made O N w T).drewN m)) :
    Calls Try.prog 22 #[.pointer (some ⟨T, 0, none⟩), .string s] w fun e w' => e = .returned (.tuple #[.int .u64 mv, .bool false]) ∧ ∃ m, w' = (made O N w T).drewN m := by
  have qn := eq29
  have i1 : (i : Int) < (N : Int) := by omega
  unfold made at *
  go_enter Try.func22, Try.ntmps22
  go_wp2
  go_quiet ((go_at_call 21; exact Calls.quiet_of (hash_any s q hq _ hs)))
  go_wp2
  go_ret2
  exact ⟨rfl, _, rfl⟩

set_option maxHeartbeats 800000 in
theorem find_nil_yes (O : Obj) (N : Nat) (hmk : ∀ w : World, (Instr.makeSlice 29 (.int .i64 1024) (.int .i64 1024)).run Try.prog w = .ok (.slice (some ⟨w.heap.size, 0, none⟩) N N) (w.alloc O)) (w : World) (T : Nat) (mo : Option Nat) (eo : Option Addr) (n cap : Nat) (s : ByteArray) (q : Int) (hq : Hid (q = qh s)) (hs : s.size ≤ maxLen)
    (i : Nat) (hi : IntKind.u64.wrap (q * 11400714819323198485) / 18014398509481984 = (i : Int)) (hif : i < N) (v : Int) (h0 : 0 ≤ v) (h1 : v < 4294967296) (hn : n ≤ 65536)
    (c3 : w.cell? ⟨T, 3, none⟩ = some (.slice none 0 0)) (f3 : w.frozen? ⟨T, 3, none⟩ = false) (hT : T < w.heap.size)
    (cv : (made O N w T).cell? ⟨w.heap.size, i, none⟩ = some (.int .u32 v)) (d0 : (made O N w T).cell? ⟨T, 0, none⟩ = some (.map mo)) (d1 : (made O N w T).cell? ⟨T, 1, none⟩ = some (.slice eo n cap)) (d3 : (made O N w T).cell? ⟨T, 3, none⟩ = some (.slice (some ⟨w.heap.size, 0, none⟩) N N))
    (hk : ¬ IntKind.u64.wrap (v - 1) < (n : Int)) (mv : Int) (m0 : 0 ≤ mv) (m1 : mv < 65536) (look : ∀ m, (Instr.lookup 27 (.map mo) (.string s) true).run Try.prog ((made O N w T).drewN m) = .ok (.tuple #[.int .u64 mv, .bool true]) ((made O N w T).drewN m)) (fv : (made O N w T).frozen? ⟨w.heap.size, i, none⟩ = false) :
    Calls Try.prog 22 #[.pointer (some ⟨T, 0, none⟩), .string s] w fun e w' => e = .returned (.tuple #[.int .u64 mv, .bool true]) ∧ ∃ m, w' = ((made O N w T).setCell ⟨w.heap.size, i, none⟩ (.int .u32 (mv + 1))).drewN m := by
  have qn := eq29
  have i1 : (i : Int) < (N : Int) := by omega
  unfold made at *
  go_enter Try.func22, Try.ntmps22
  go_wp2
  go_quiet ((go_at_call 21; exact Calls.quiet_of (hash_any s q hq _ hs)))
  go_wp2
  go_ret2
  exact ⟨rfl, _, rfl⟩

end Go.Proofs.Qxb6603144a
