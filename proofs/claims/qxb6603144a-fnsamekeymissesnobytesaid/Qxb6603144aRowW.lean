/-
  SEAT b6603144a: A ROW OF BYTES THAT THE CALL ITSELF MADE: what it holds, store by store, and what 'string(b)' makes of it; the changed string. No walk here.
-/
import Derived.Test.Qxb6603144aWalksC
import Derived.Laws.BitsAllLaws
import Derived.Laws.IdiomStrings
import Derived.Deep.OwnRows
namespace Go.Proofs.Qxb6603144a
open Go.RowKit

/-- Block 'w.heap.size' of wr is a row of n bytes, f's; else wr is w, grown. -/
def Row8 (w wr : World) (n : Nat) (f : Nat → Int) : Prop :=
  Grown w wr ∧ (∀ j, j < n → wr.cell? ⟨w.heap.size, j, none⟩ = some (.int .u8 (f j))) ∧ ∀ j, wr.frozen? ⟨w.heap.size, j, none⟩ = false

theorem Row8.start (w : World) (n : Nat) : Row8 w (w.alloc (.cells (madeCells #[.int .u8 0] n) 5)) n (fun _ => 0) := by
  refine ⟨(Grown.refl w).alloc _ _, fun j hj => ?_, fun j => ?_⟩
  · rw [World.cell?_alloc_mark]
    have h := congrArg (fun l : List Value => l[j]?) (toList_madeCells_one (.int .u8 0) n)
    simp only [Array.getElem?_toList] at h
    rw [h]; simp [hj]
  · rw [World.frozen?_alloc_mark]; simp
theorem Row8.store {w wr : World} {n : Nat} {f : Nat → Int} (h : Row8 w wr n f) (k : Nat) (hk : k < n) (v : Int) :
    Row8 w (wr.setCell ⟨w.heap.size, k, none⟩ (.int .u8 v)) n (fun j => if j = k then v else f j) := by
  obtain ⟨h1, h2, h3⟩ := h
  refine ⟨h1.setCell (Nat.le_refl _) _, fun j hj => ?_, fun j => by rw [World.frozen?_setCell]; exact h3 j⟩
  show _ = some (Value.int .u8 (if j = k then v else f j))
  by_cases e : j = k
  · subst e
    rw [if_pos rfl]
    exact World.cell?_setCell_same _ _ _ (h2 j hj)
  · rw [if_neg e, World.cell?_setCell_other _ _ _ _ (by simp only [ne_eq, Addr.mk.injEq, not_and]; omega)]
    exact h2 j hj
theorem Row8.cellAt {w wr : World} {n : Nat} {f : Nat → Int} (h : Row8 w wr n f) (k : Nat) (hk : k < n) : wr.cell? ⟨w.heap.size, k, none⟩ = some (.int .u8 (f k)) := h.2.1 k hk
theorem Row8.congr {w wr : World} {n : Nat} {f g : Nat → Int} (h : Row8 w wr n f) (e : ∀ j, j < n → f j = g j) : Row8 w wr n g :=
  ⟨h.1, fun j hj => by rw [← e j hj]; exact h.2.1 j hj, h.2.2⟩
theorem Row8.text {w wr : World} {f : Nat → Int} {s : ByteArray} (h : Row8 w wr s.size f) (e : ∀ j, j < s.size → f j = bt s j) (cap : Nat) :
    (convert 24 9 (.slice (some ⟨w.heap.size, 0, none⟩) s.size cap)).run Try.prog wr = .ok (.string s) wr := by
  have hl : s.data.toList.length = s.size := by simp
  have := run_convert_bytes_back (P := Try.prog) wr 24 9 5 ⟨w.heap.size, 0, none⟩ cap s.data.toList Try.underlying24 Try.underlying5 Try.underlying9 (fun j hj => by
    rw [hl] at hj
    have hc := h.2.1 j hj
    rw [e j hj, ← bt_get s j hj] at hc
    rw [Go.WideShapes.add_plain, Nat.zero_add]
    exact hc)
  rw [hl] at this
  simpa using this

/-! ### The string with one byte changed -/
def flip (a : ByteArray) (m : Nat) (v : Int) : ByteArray := ⟨(a.data.toList.set m (UInt8.ofNat v.toNat)).toArray⟩
theorem flip_size (a : ByteArray) (m : Nat) (v : Int) : (flip a m v).size = a.size := by
  show (flip a m v).data.size = a.data.size
  simp [flip]
theorem flip_bt (a : ByteArray) (m : Nat) (v : Int) (h0 : 0 ≤ v) (h1 : v < 256) (hm : m < a.size) (j : Nat) : bt (flip a m v) j = if j = m then v else bt a j := by
  have hl : m < a.data.toList.length := by simpa using hm
  unfold bt flip
  simp only [List.getD_eq_getElem?_getD]
  by_cases e : j = m
  · subst e
    rw [if_pos rfl, List.getElem?_set_self hl]
    simp only [Option.getD_some, UInt8.toNat_ofNat']
    omega
  · rw [if_neg e, List.getElem?_set_ne (fun h => e h.symm)]
theorem xor_ne (x y : Int) (h1 : 0 ≤ x) (h2 : x < 256) (h3 : 0 ≤ y) (h4 : y < 256) (hy : ¬ y = 0) : 0 ≤ bits .xor .u8 x y ∧ bits .xor .u8 x y < 256 ∧ ¬ bits .xor .u8 x y = x := by
  rw [u8_xor x y h1 h2 h3 h4]
  have hlt : x.toNat ^^^ y.toNat < 2 ^ 8 := Nat.xor_lt_two_pow (by omega) (by omega)
  refine ⟨by omega, by omega, fun e => ?_⟩
  have e' : x.toNat ^^^ y.toNat = x.toNat := by omega
  have : y.toNat = 0 := by
    have h := congrArg (fun z => x.toNat ^^^ z) e'
    simp only [← Nat.xor_assoc, Nat.xor_self, Nat.zero_xor] at h
    exact h
  omega
theorem flip_ne (a : ByteArray) (m : Nat) (v : Int) (h0 : 0 ≤ v) (h1 : v < 256) (hm : m < a.size) (hv : ¬ v = bt a m) : ¬ a = flip a m v := by
  intro e
  have := flip_bt a m v h0 h1 hm m
  rw [← e, if_pos rfl] at this
  exact hv this.symm

end Go.Proofs.Qxb6603144a
