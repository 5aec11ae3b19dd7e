/-
  SEAT b6603144a: A ROW OF uint32 THAT THE CALL MADE; b1Copy32 (15), ZZNewTable (16), ZZFound (19): CONTRACTS.
-/
import Derived.Test.Qxb6603144aWalksD
import Derived.Laws.IdiomStrings
import Derived.Deep.OwnRows
import Derived.Lib.SliceRun
namespace Go.Proofs.Qxb6603144a
open Go.RowKit
set_option linter.unusedSimpArgs false

/-- Block B of wr is a row of n numbers, F's, not frozen. -/
def Row32 (B : Nat) (wr : World) (n : Nat) (F : Nat → Int) : Prop :=
  (∀ j, j < n → wr.cell? ⟨B, j, none⟩ = some (.int .u32 (F j))) ∧ (∀ j, wr.frozen? ⟨B, j, none⟩ = false) ∧ B < wr.heap.size

theorem Row32.start (w : World) (n : Nat) : Row32 w.heap.size (w.alloc (.cells (madeCells #[.int .u32 0] n) 38)) n (fun _ => 0) := by
  refine ⟨fun j hj => ?_, fun j => ?_, by simp⟩
  · rw [World.cell?_alloc_mark]
    have h := congrArg (fun l : List Value => l[j]?) (toList_madeCells_one (.int .u32 0) n)
    simp only [Array.getElem?_toList] at h
    rw [h]; simp [hj]
  · rw [World.frozen?_alloc_mark]; simp
theorem Row32.store {B : Nat} {wr : World} {n : Nat} {F : Nat → Int} (h : Row32 B wr n F) (k : Nat) (v : Int) :
    Row32 B (wr.setCell ⟨B, k, none⟩ (.int .u32 v)) n (fun j => if j = k then v else F j) := by
  obtain ⟨h2, h3, h4⟩ := h
  refine ⟨fun j hj => ?_, fun j => by rw [World.frozen?_setCell]; exact h3 j, by simpa using h4⟩
  show _ = some (Value.int .u32 (if j = k then v else F j))
  by_cases e : j = k
  · subst e
    rw [if_pos rfl]
    exact World.cell?_setCell_same _ _ _ (h2 j hj)
  · rw [if_neg e, World.cell?_setCell_other _ _ _ _ (by simp only [ne_eq, Addr.mk.injEq, not_and]; omega)]
    exact h2 j hj
theorem Row32.other {B : Nat} {wr : World} {n : Nat} {F : Nat → Int} (h : Row32 B wr n F) {a : Addr} (ha : a.block ≠ B) (v : Value) : Row32 B (wr.setCell a v) n F := by
  obtain ⟨h2, h3, h4⟩ := h
  refine ⟨fun j hj => ?_, fun j => by rw [World.frozen?_setCell]; exact h3 j, by simpa using h4⟩
  rw [World.cell?_setCell_other _ _ _ _ (fun e => ha (by rw [e]))]
  exact h2 j hj
theorem Row32.later {B : Nat} {wr wx : World} {n : Nat} {F : Nat → Int} (h : Row32 B wr n F) (hb : Below wr.heap.size wr wx) : Row32 B wx n F := by
  obtain ⟨h2, h3, h4⟩ := h
  exact ⟨fun j hj => (hb.cell (p := ⟨B, j, none⟩) h4).trans (h2 j hj), fun j => (hb.frozen (p := ⟨B, j, none⟩) h4).trans (h3 j), Nat.lt_of_lt_of_le h4 hb.size⟩
theorem Row32.congr {B : Nat} {wr : World} {n : Nat} {F G : Nat → Int} (h : Row32 B wr n F) (e : ∀ j, j < n → F j = G j) : Row32 B wr n G :=
  ⟨fun j hj => by rw [← e j hj]; exact h.1 j hj, h.2⟩

theorem copied32 (F : Nat → Int) (k j : Nat) : (if j = k then F k else if j < k then F j else 0) = if j < k + 1 then F j else 0 := by
  by_cases e : j = k
  · subst e
    rw [if_pos rfl, if_pos (by omega)]
  · rw [if_neg e]
    by_cases h : j < k
    · rw [if_pos h, if_pos (by omega)]
    · rw [if_neg h, if_neg (by omega)]

theorem eq29 (w : World) (a : Option Addr) (n c n' c' : Nat) : (binOp .eql 29 (.slice a n c) (.slice none n' c')).run Try.prog w = .ok (.bool a.isNone) w := Lib.run_eql_slice_nil w _ _ a n c n' c' Try.underlying29
theorem ne29 (w : World) (a : Option Addr) (n c n' c' : Nat) : (binOp .neq 29 (.slice a n c) (.slice none n' c')).run Try.prog w = .ok (.bool (!a.isNone)) w := run_neq_slice_nil_any w _ _ a n c n' c' Try.underlying29
theorem info38 : (Try.prog.info? 38).map (fun i => (i.zero, i.size, i.bytes)) = some (some (.int .u32 0), 1, 4) := by kernel_rfl

theorem copy_nil (w : World) (n c : Nat) : Calls Try.prog 15 #[.slice none n c] w fun e w' => e = .returned (.slice none 0 0) ∧ w = w' := by
  have q := eq29
  go_enter Try.func15, Try.ntmps15
  go_wp2
  go_ret
  exact ⟨rfl, rfl⟩

set_option maxHeartbeats 800000 in
theorem copy_some (w : World) (b off n cap : Nat) (F : Nat → Int) (hn : n ≤ 65536) (hb : b < w.heap.size) (hc : ∀ i, i < n → w.cell? ⟨b, off + i, none⟩ = some (.int .u32 (F i))) :
    Calls Try.prog 15 #[.slice (some ⟨b, off, none⟩) n cap] w fun e w' => e = .returned (.slice (some ⟨w.heap.size, 0, none⟩) n n) ∧ Row32 w.heap.size w' n F ∧ Below w.heap.size w w' := by
  have q := eq29
  have hmk := run_make_row' (P := Try.prog) 29 38 (.int .u32 0) 4 Try.underlying29 info38 rfl .i64 .i64 n (by omega) (by omega)
  go_enter Try.func15, Try.ntmps15
  go_wp2
  go_loopw [4] (fun i wr => ∃ k : Nat, k ≤ n ∧ i = .int .i64 k ∧ Row32 w.heap.size wr n (fun j => if j < k then F j else 0) ∧ Below w.heap.size w wr) (fun i _ => n - (intOf i).toNat)
  case atStart => exact ⟨0, Nat.zero_le _, rfl, (Row32.start w n).congr (fun j _ => by simp), (Below.refl _ _).alloc (Nat.le_refl _) _⟩
  case round =>
    clear hmk q
    obtain ⟨k, hk, rfl, HR, HB⟩ := hrel
    by_cases hlt : k < n
    · have h1 : wr.cell? ⟨w.heap.size, k, none⟩ = some (.int .u32 0) := by simpa using HR.1 k hlt
      have h2 := HR.2.1 k
      have h3 : wr.cell? ⟨b, off + k, none⟩ = some (.int .u32 (F k)) := (HB.cell (p := ⟨b, off + k, none⟩) hb).trans (hc k hlt)
      clear hc
      go_wp2
      go_roundw
      case rel => exact ⟨k + 1, by omega, by go_num, (HR.store k _).congr (fun j _ => copied32 F k j), HB.setCell (Nat.le_refl _) _⟩
      case measure => simp [intOf]; omega
    · have HR' : Row32 w.heap.size wr n F := HR.congr (fun j hj => by rw [if_pos (by omega)])
      clear HR hc
      go_wp2
      go_ret
      exact ⟨rfl, HR', HB⟩

theorem table_any (w : World) (mo : Option Nat) (eo fo : Option Addr) (n cap fn fcap : Nat) (bytes : Int) :
    Calls Try.prog 16 #[.map mo, .slice eo n cap, .int .i64 bytes, .slice fo fn fcap] w fun e w' =>
      e = .returned (.pointer (some ⟨w.heap.size, 0, none⟩)) ∧ w.alloc (.cells #[.map mo, .slice eo n cap, .int .i64 bytes, .slice fo fn fcap] 42) = w' := by
  go_enter Try.func16, Try.ntmps16
  go_wp2
  go_ret
  exact ⟨rfl, rfl⟩

theorem found_any (w : World) (T : Nat) (fo : Option Addr) (fn fcap : Nat) (hc : w.cell? ⟨T, 3, none⟩ = some (.slice fo fn fcap)) :
    Calls Try.prog 19 #[.pointer (some ⟨T, 0, none⟩)] w fun e w' => e = .returned (.slice fo fn fcap) ∧ w = w' := by
  go_enter Try.func19, Try.ntmps19
  go_wp2
  go_ret
  exact ⟨rfl, rfl⟩

end Go.Proofs.Qxb6603144a
