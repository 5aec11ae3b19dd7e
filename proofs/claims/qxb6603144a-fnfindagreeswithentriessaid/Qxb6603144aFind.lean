/-
  SEAT b6603144a: find (22), ZZFind (17): ONE CONTRACT EACH, over a consistent table. No new walk but the shim's.
-/
import Derived.Test.Qxb6603144aWalksG
namespace Go.Proofs.Qxb6603144a
open Go.RowKit
set_option linter.unusedVariables false

/-- What the cache holds behind find: at most slot i has turned, and only where s is found, to its number plus 1. -/
def turned (F : Nat → Int) (i : Nat) (v : Int) (h : Bool) (j : Nat) : Int := if h = true ∧ j = i then v + 1 else F j
theorem turned_no (F : Nat → Int) (i : Nat) (v : Int) (j : Nat) : turned F i v false j = F j := by simp [turned]
theorem turned_yes (F : Nat → Int) (i : Nat) (v : Int) (j : Nat) : turned F i v true j = if j = i then v + 1 else F j := by simp [turned]

def FindPost (w0 : World) (T FB fn : Nat) (F : Nat → Int) (v : Int) (h : Bool) (e : Ending) (w' : World) : Prop :=
  e = .returned (.tuple #[.int .u64 v, .bool h]) ∧ Below w0.heap.size w0 w' ∧ w'.cell? ⟨T, 3, none⟩ = some (.slice (some ⟨FB, 0, none⟩) fn fn) ∧ ∃ i, i < fn ∧ Row32 FB w' fn (turned F i v h)

theorem below_drewN {B : Nat} {a w : World} (h : Below B a w) (m : Nat) : Below B a (w.drewN m) := ⟨h.os, h.tape, h.output, h.size, h.block⟩
theorem wrap_pred {v : Int} {k n : Nat} (h0 : 0 ≤ v) (h1 : v < 4294967296) (hn : n ≤ 65536) (hk : IntKind.u64.wrap (v - 1) = (k : Int)) (hkn : k < n) : v = (k : Int) + 1 := by
  rw [IntKind.wrap_u64] at hk
  omega

theorem FindPost.same {w0 w w' : World} {T FB fn : Nat} {F : Nat → Int} {v : Int} {e : Ending} {i : Nat} {h : Bool} (hB : Below w0.heap.size w0 w) (hR : Row32 FB w fn F) (c3 : w.cell? ⟨T, 3, none⟩ = some (.slice (some ⟨FB, 0, none⟩) fn fn))
    (hi : i < fn) (hF : h = true → F i = v + 1) (he : e = .returned (.tuple #[.int .u64 v, .bool h])) (hw : ∃ m, w' = w.drewN m) : FindPost w0 T FB fn F v h e w' := by
  obtain ⟨m, rfl⟩ := hw
  refine ⟨he, below_drewN hB m, c3, i, hi, Row32.congr (F := F) hR fun j _ => ?_⟩
  cases h with
  | false => rw [turned_no]
  | true =>
    rw [turned_yes]
    by_cases e : j = i
    · rw [if_pos e, e]; exact hF rfl
    · rw [if_neg e]
theorem FindPost.wrote {w0 w w' : World} {T FB fn : Nat} {F : Nat → Int} {v : Int} {e : Ending} {i : Nat} (hB : Below w0.heap.size w0 w) (hFB : w0.heap.size ≤ FB) (hne : FB ≠ T) (hR : Row32 FB w fn F) (c3 : w.cell? ⟨T, 3, none⟩ = some (.slice (some ⟨FB, 0, none⟩) fn fn))
    (hi : i < fn) (he : e = .returned (.tuple #[.int .u64 v, .bool true])) (hw : ∃ m, w' = (w.setCell ⟨FB, i, none⟩ (.int .u32 (v + 1))).drewN m) : FindPost w0 T FB fn F v true e w' := by
  obtain ⟨m, rfl⟩ := hw
  refine ⟨he, below_drewN (hB.setCell hFB _) m, ?_, i, hi, Row32.congr (F := fun j => if j = i then v + 1 else F j) (hR.store i _) fun j _ => (turned_yes F i v j).symm⟩
  show (w.setCell ⟨FB, i, none⟩ (.int .u32 (v + 1))).cell? ⟨T, 3, none⟩ = _
  rw [World.cell?_setCell_other _ _ _ _ (by simp only [ne_eq, Addr.mk.injEq, not_and]; omega)]
  exact c3

theorem find_some (w0 w : World) (hB : Below w0.heap.size w0 w) (T FB : Nat) (hFB : w0.heap.size ≤ FB) (hne : FB ≠ T) (mo : Option Nat) (mval : ByteArray → Int) (mhas : ByteArray → Bool) (N : Nat) (hM : MapIs w0 mo mval mhas N)
    (eo : Option Addr) (n cap : Nat) (E : Nat → ByteArray) (hE : EntRow w0 eo n E) (hC : Consist E n mval mhas) (hn : n ≤ 65536) (fn : Nat) (h1024 : 1024 ≤ fn) (F : Nat → Int) (hR : Row32 FB w fn F) (hF : ∀ j, j < fn → 0 ≤ F j ∧ F j < 4294967296) (s : ByteArray) (hs : s.size ≤ maxLen)
    (c0 : w.cell? ⟨T, 0, none⟩ = some (.map mo)) (c1 : w.cell? ⟨T, 1, none⟩ = some (.slice eo n cap)) (c3 : w.cell? ⟨T, 3, none⟩ = some (.slice (some ⟨FB, 0, none⟩) fn fn)) :
    Calls Try.prog 22 #[.pointer (some ⟨T, 0, none⟩), .string s] w (FindPost w0 T FB fn F (mval s) (mhas s)) := by
  obtain ⟨i, hi, hslot⟩ := slot_of (qh s)
  have hif : i < fn := by omega
  have look : ∀ m, (Instr.lookup 27 (.map mo) (.string s) true).run Try.prog (w.drewN m) = .ok (.tuple #[.int .u64 (mval s), .bool (mhas s)]) (w.drewN m) := fun m => hM.look _ (below_drewN hB m) s hs
  have hv := hC.val s
  by_cases hid : IntKind.u64.wrap (F i - 1) < (n : Int)
  · obtain ⟨k, hk⟩ : ∃ k : Nat, IntKind.u64.wrap (F i - 1) = (k : Int) := ⟨(IntKind.u64.wrap (F i - 1)).toNat, by rw [IntKind.wrap_u64]; omega⟩
    have hkn : k < n := by omega
    rcases hE.2.2 with h0 | ⟨b, off, rfl, hb, hc⟩
    · omega
    · have ct : w.cell? ⟨b, off + k, none⟩ = some (.string (E k)) := (hB.cell (p := ⟨b, off + k, none⟩) hb).trans (hc k hkn)
      by_cases he : E k = s
      · have hm := hC.hit hkn he
        have hF' := wrap_pred (hF i hif).1 (hF i hif).2 hn hk hkn
        refine (find_hit w T FB mo b off n cap fn s (qh s) rfl hs i hslot hif (F i) (hF i hif).1 (hF i hif).2 hn (hR.1 i hif) c0 c1 c3 k hk hkn (E k) ct (by rw [he]; simp)).mono fun e w' h => ?_
        exact FindPost.same hB hR c3 hif (fun _ => by rw [hm.2]; exact hF') (by rw [hm.1, hm.2]; exact h.1) h.2
      · have hne' : ((E k).toList == s.toList) = false := by rw [sameB_toList]; exact sameB_false he
        cases e : mhas s with
        | false =>
          rw [e] at look
          refine (find_other_no w T FB mo b off n cap fn s (qh s) rfl hs i hslot hif (F i) (hF i hif).1 (hF i hif).2 hn (hR.1 i hif) c0 c1 c3 k hk hkn (E k) ct hne' (mval s) look).mono fun e' w' h => ?_
          exact FindPost.same hB hR c3 hif (fun h => by cases h) h.1 h.2
        | true =>
          rw [e] at look
          have hlt := hv.2 e
          refine (find_other_yes w T FB mo b off n cap fn s (qh s) rfl hs i hslot hif (F i) (hF i hif).1 (hF i hif).2 hn (hR.1 i hif) c0 c1 c3 k hk hkn (E k) ct hne' (mval s) hv.1 (by omega) look (hR.2.1 i)).mono fun e' w' h => ?_
          exact FindPost.wrote hB hFB hne hR c3 hif h.1 h.2
  · cases e : mhas s with
    | false =>
      rw [e] at look
      refine (find_out_no w T FB mo eo n cap fn s (qh s) rfl hs i hslot hif (F i) (hF i hif).1 (hF i hif).2 hn (hR.1 i hif) c0 c1 c3 hid (mval s) look).mono fun e' w' h => ?_
      exact FindPost.same hB hR c3 hif (fun h => by cases h) h.1 h.2
    | true =>
      rw [e] at look
      have hlt := hv.2 e
      refine (find_out_yes w T FB mo eo n cap fn s (qh s) rfl hs i hslot hif (F i) (hF i hif).1 (hF i hif).2 hn (hR.1 i hif) c0 c1 c3 hid (mval s) hv.1 (by omega) look (hR.2.1 i)).mono fun e' w' h => ?_
      exact FindPost.wrote hB hFB hne hR c3 hif h.1 h.2

theorem zfind_some (w0 w : World) (hB : Below w0.heap.size w0 w) (T FB : Nat) (hFB : w0.heap.size ≤ FB) (hne : FB ≠ T) (mo : Option Nat) (mval : ByteArray → Int) (mhas : ByteArray → Bool) (N : Nat) (hM : MapIs w0 mo mval mhas N)
    (eo : Option Addr) (n cap : Nat) (E : Nat → ByteArray) (hE : EntRow w0 eo n E) (hC : Consist E n mval mhas) (hn : n ≤ 65536) (fn : Nat) (h1024 : 1024 ≤ fn) (F : Nat → Int) (hR : Row32 FB w fn F) (hF : ∀ j, j < fn → 0 ≤ F j ∧ F j < 4294967296) (s : ByteArray) (hs : s.size ≤ maxLen)
    (c0 : w.cell? ⟨T, 0, none⟩ = some (.map mo)) (c1 : w.cell? ⟨T, 1, none⟩ = some (.slice eo n cap)) (c3 : w.cell? ⟨T, 3, none⟩ = some (.slice (some ⟨FB, 0, none⟩) fn fn)) :
    Calls Try.prog 17 #[.pointer (some ⟨T, 0, none⟩), .string s] w (FindPost w0 T FB fn F (mval s) (mhas s)) := by
  have h := find_some w0 w hB T FB hFB hne mo mval mhas N hM eo n cap E hE hC hn fn h1024 F hR hF s hs c0 c1 c3
  have H : Hid (Calls Try.prog 22 #[.pointer (some ⟨T, 0, none⟩), .string s] w (FindPost w0 T FB fn F (mval s) (mhas s))) := h
  clear h hF hR hC hE hM hB c0 c1 c3
  go_enter Try.func17, Try.ntmps17
  go_wp2_with (go_at_call 22; refine H.out.mono ?_; rintro e w' ⟨rfl, hp⟩)
  go_ret2
  exact ⟨rfl, hp⟩

/-! ### The cache is nil -/
theorem made_size (w : World) (T : Nat) : (w.setCell ⟨T, 3, none⟩ (.slice (some ⟨w.heap.size, 0, none⟩) 1024 1024)).heap.size = w.heap.size := by simp
theorem made_row (w : World) (T : Nat) : Row32 w.heap.size (made row1024 1024 w T) 1024 (fun _ => 0) := by
  have h := Row32.start (w.setCell ⟨T, 3, none⟩ (.slice (some ⟨w.heap.size, 0, none⟩) 1024 1024)) 1024
  rw [made_size] at h
  exact h
theorem made_old (w : World) (T j : Nat) (hT : T < w.heap.size) : (made row1024 1024 w T).cell? ⟨T, j, none⟩ = (w.setCell ⟨T, 3, none⟩ (.slice (some ⟨w.heap.size, 0, none⟩) 1024 1024)).cell? ⟨T, j, none⟩ :=
  World.cell?_alloc_lt _ _ _ (by rw [made_size]; exact hT)
theorem made_cell (w : World) (T j : Nat) (hT : T < w.heap.size) (hj : ¬ j = 3) : (made row1024 1024 w T).cell? ⟨T, j, none⟩ = w.cell? ⟨T, j, none⟩ := by
  rw [made_old w T j hT, World.cell?_setCell_other _ _ _ _ (by simp only [ne_eq, Addr.mk.injEq, not_and]; omega)]
theorem made_three (w : World) (T : Nat) (hT : T < w.heap.size) {u : Value} (h : w.cell? ⟨T, 3, none⟩ = some u) : (made row1024 1024 w T).cell? ⟨T, 3, none⟩ = some (.slice (some ⟨w.heap.size, 0, none⟩) 1024 1024) := by
  rw [made_old w T 3 hT]
  exact World.cell?_setCell_same _ _ _ h
theorem made_below {w0 w : World} (T : Nat) (hB : Below w0.heap.size w0 w) (hT : w0.heap.size ≤ T) : Below w0.heap.size w0 (made row1024 1024 w T) :=
  (hB.setCell (p := ⟨T, 3, none⟩) hT _).alloc (by rw [made_size]; exact hB.size) _

theorem find_nil (w0 w : World) (hB : Below w0.heap.size w0 w) (T : Nat) (hT : w0.heap.size ≤ T) (hTw : T < w.heap.size) (mo : Option Nat) (mval : ByteArray → Int) (mhas : ByteArray → Bool) (N : Nat) (hM : MapIs w0 mo mval mhas N)
    (eo : Option Addr) (n cap : Nat) (E : Nat → ByteArray) (hC : Consist E n mval mhas) (hn : n ≤ 65536) (s : ByteArray) (hs : s.size ≤ maxLen)
    (c0 : w.cell? ⟨T, 0, none⟩ = some (.map mo)) (c1 : w.cell? ⟨T, 1, none⟩ = some (.slice eo n cap)) (c3 : w.cell? ⟨T, 3, none⟩ = some (.slice none 0 0)) (f3 : w.frozen? ⟨T, 3, none⟩ = false) :
    Calls Try.prog 22 #[.pointer (some ⟨T, 0, none⟩), .string s] w (FindPost w0 T w.heap.size 1024 (fun _ => 0) (mval s) (mhas s)) := by
  obtain ⟨i, hi, hslot⟩ := slot_of (qh s)
  have hB' := made_below T hB hT
  have look : ∀ m, (Instr.lookup 27 (.map mo) (.string s) true).run Try.prog ((made row1024 1024 w T).drewN m) = .ok (.tuple #[.int .u64 (mval s), .bool (mhas s)]) ((made row1024 1024 w T).drewN m) := fun m => hM.look _ (below_drewN hB' m) s hs
  have hv := hC.val s
  have hR := made_row w T
  have hid : ¬ IntKind.u64.wrap (0 - 1) < (n : Int) := by rw [IntKind.wrap_u64]; omega
  have d0 := (made_cell w T 0 hTw (by omega)).trans c0
  have d1 := (made_cell w T 1 hTw (by omega)).trans c1
  have d3 := made_three w T hTw c3
  cases e : mhas s with
  | false =>
    rw [e] at look
    refine (find_nil_no row1024 1024 mk1024 w T mo eo n cap s (qh s) rfl hs i hslot hi 0 (by omega) (by omega) hn c3 f3 hTw (hR.1 i hi) d0 d1 d3 hid (mval s) look).mono fun e' w' h => ?_
    exact FindPost.same hB' hR d3 hi (fun h => by cases h) h.1 h.2
  | true =>
    rw [e] at look
    have hlt := hv.2 e
    refine (find_nil_yes row1024 1024 mk1024 w T mo eo n cap s (qh s) rfl hs i hslot hi 0 (by omega) (by omega) hn c3 f3 hTw (hR.1 i hi) d0 d1 d3 hid (mval s) hv.1 (by omega) look (hR.2.1 i)).mono fun e' w' h => ?_
    exact FindPost.wrote hB' (Nat.le_trans hT (Nat.le_of_lt hTw)) (by omega) hR d3 hi h.1 h.2

theorem zfind_nil (w0 w : World) (hB : Below w0.heap.size w0 w) (T : Nat) (hT : w0.heap.size ≤ T) (hTw : T < w.heap.size) (mo : Option Nat) (mval : ByteArray → Int) (mhas : ByteArray → Bool) (N : Nat) (hM : MapIs w0 mo mval mhas N)
    (eo : Option Addr) (n cap : Nat) (E : Nat → ByteArray) (hC : Consist E n mval mhas) (hn : n ≤ 65536) (s : ByteArray) (hs : s.size ≤ maxLen)
    (c0 : w.cell? ⟨T, 0, none⟩ = some (.map mo)) (c1 : w.cell? ⟨T, 1, none⟩ = some (.slice eo n cap)) (c3 : w.cell? ⟨T, 3, none⟩ = some (.slice none 0 0)) (f3 : w.frozen? ⟨T, 3, none⟩ = false) :
    Calls Try.prog 17 #[.pointer (some ⟨T, 0, none⟩), .string s] w (FindPost w0 T w.heap.size 1024 (fun _ => 0) (mval s) (mhas s)) := by
  have h := find_nil w0 w hB T hT hTw mo mval mhas N hM eo n cap E hC hn s hs c0 c1 c3 f3
  have H : Hid (Calls Try.prog 22 #[.pointer (some ⟨T, 0, none⟩), .string s] w (FindPost w0 T w.heap.size 1024 (fun _ => 0) (mval s) (mhas s))) := h
  clear h hC hM hB c0 c1 c3 f3 hT hTw
  go_enter Try.func17, Try.ntmps17
  go_wp2_with (go_at_call 22; refine H.out.mono ?_; rintro e w' ⟨rfl, hp⟩)
  go_ret2
  exact ⟨rfl, hp⟩

end Go.Proofs.Qxb6603144a
