/-
  SEAT b6603144a: THE ROWS' CLOSED FACTS WITH LITTLE MEMORY. By 'kernel_rfl' alone the facts mayEnter, liftsFinal, make each let the kernel decode the dump's long head sign by sign (9.4 GB each, near the lid). Here the head's signs come by 'String.toList_ofList', and the three facts are laws on any program whose head reads 'cut ..'.
-/
import Derived.Test.Qxb6603144aRows
import Derived.JoinedOf
import Derived.KernelRfl
namespace Go.Proofs.Qxb6603144a
open Go

theorem head_of (s : String) (l : List Char) (h : s = String.ofList l) (hh : (behindMainWord (wordsSigns l)).head? = some "cut".toList) :
    ∃ r : List (List Char), behindMainWord (wordsSigns s.toList) = "cut".toList :: r := by
  subst h
  rw [String.toList_ofList]
  cases e : behindMainWord (wordsSigns l) with
  | nil => rw [e] at hh; cases hh
  | cons c r => rw [e] at hh; simp only [List.head?_cons, Option.some.injEq] at hh; rw [hh]; exact ⟨r, rfl⟩
theorem mayEnter_gen (P : Program) (r : List (List Char)) (hr : behindMainWord (wordsSigns P.initOrder.toList) = "cut".toList :: r) (h1 : P.laysLater = false) (h2 : P.bearsReflect = false) (h3 : P.doorFits [] = true) : P.mayEnter = true := by
  have hs : stripLifts liftWords ("cut".toList :: r) = ([], "cut".toList :: r) := by kernel_rfl
  unfold Program.mayEnter
  rw [hr]
  dsimp only
  rw [hs, h1, h2]
  dsimp only
  rw [h3]
  simp
theorem liftsFinal_gen (P : Program) (r : List (List Char)) (hr : behindMainWord (wordsSigns P.initOrder.toList) = "cut".toList :: r) : P.liftsFinal = false := by
  have hs : stripLifts liftWords ("cut".toList :: r) = ([], "cut".toList :: r) := by kernel_rfl
  unfold Program.liftsFinal Program.headLifts
  rw [hr, hs]
  simp
theorem make_gen (P : Program) (r : List (List Char)) (hr : behindMainWord (wordsSigns P.initOrder.toList) = "cut".toList :: r) : P.make = some .cut := by
  unfold Program.make
  rw [hr]
  simp

set_option maxRecDepth 100000 in
theorem head_words : ∃ r : List (List Char), behindMainWord (wordsSigns Try.prog.initOrder.toList) = "cut".toList :: r :=
  head_of Try.prog.initOrder _ rfl (by kernel_rfl)
theorem mayEnter_ok : Try.prog.mayEnter = true :=
  let ⟨r, hr⟩ := head_words
  mayEnter_gen _ r hr (by kernel_rfl) (by kernel_rfl) (by kernel_rfl)
theorem liftsFinal_ok : Try.prog.liftsFinal = false :=
  let ⟨r, hr⟩ := head_words
  liftsFinal_gen _ r hr
theorem make_ok : Try.prog.make = some .cut :=
  let ⟨r, hr⟩ := head_words
  make_gen _ r hr

theorem closed3 : joinedFacts Try.prog 3 Try.f3 Rows.fnSameKeyIsByteEqualitySpec Rows.fnSameKeyIsByteEqualityRow = true := by
  unfold joinedFacts
  rw [mayEnter_ok, liftsFinal_ok, make_ok]
  kernel_rfl
theorem closed4 : joinedFacts Try.prog 4 Try.f4 Rows.fnSameKeyMissesNoByteSpec Rows.fnSameKeyMissesNoByteRow = true := by
  unfold joinedFacts
  rw [mayEnter_ok, liftsFinal_ok, make_ok]
  kernel_rfl
theorem closed6 : joinedFacts Try.prog 6 Try.f6 Rows.fnFindAgreesWithEntriesSpec Rows.fnFindAgreesWithEntriesRow = true := by
  unfold joinedFacts
  rw [mayEnter_ok, liftsFinal_ok, make_ok]
  kernel_rfl

end Go.Proofs.Qxb6603144a
