/-
  A PROOF OF 'Rows.FnValidNameExactSaid': the frame as the guide's skeleton tool lays it.
  The walk (STEP 1) is typed by hand; the rest is the guide's template.
-/
import Derived.Test.Qxb6602532aRows
import Derived.WalkKit
import Derived.ProofKit
import Derived.OpenShut
import Derived.ShutString
import Derived.Test.Qxb6602532aClosed
import Derived.Test.Qxb6602532aWalksB
namespace Go.Proofs.Qxb6602532a.fnValidNameExact
open Go.ChangeShapes Go.WideShapes Go.ChangeAt Go.RowKit
open Go.ChangeMaps (open_string shut_string)
set_option linter.unusedVariables false      -- a walk need not use every 'w<i>' (that an integer argument fits its kind)

theorem own : ownKnob Try.prog.godebug = none := by kernel_rfl

/-! ### THE PLAIN LAW -/
def lenB (s : ByteArray) (m : Int) : Bool := decide (0 < s.size ∧ (s.size : Int) ≤ m)
theorem lenB_yes {s : ByteArray} {m : Int} (h : 1 ≤ s.size) (hm : (s.size : Int) ≤ m) : true = lenB s m := by simp [lenB, hm]; omega
theorem lenB_no {s : ByteArray} {m : Int} (h : s.size = 0 ∨ m < (s.size : Int)) : false = lenB s m := by
  have : ¬ (0 < s.size ∧ (s.size : Int) ≤ m) := by omega
  simp [lenB, this]
theorem plain (s : ByteArray) (m : Int) (k : Nat) (h : s.size ≤ k) : (namN s m == wantN (lenB s m) namB s k) = true := by
  rw [wantN_end _ _ s k h]
  simp [namN, lenB]
theorem val_bool {a b : Bool} (h : a = b) : Value.bool a = .bool b := by rw [h]

/-! ### STEP 1: THE WALK: the Go text returns true. 'Grown w w'': the world has at most new blocks (Derived/RowKit3.lean). Part the cases AHEAD of 'go_enter' where a test parts the walk; take each callee by a contract of your own. -/
theorem walk (a0 : ByteArray) (a1 : Int) (w0 : a0.size ≤ maxLen) (w1 : (Lit.int .i64 a1).wf = true) (w : World) :
    Calls Try.prog 8 #[.string a0, .int .i64 a1] w fun e w' => e = .returned (.bool true) ∧ Grown w w' := by
  unfold maxLen at w0
  clear w1
  by_cases hsz : a0.size ≤ 1048576
  · have hg : decide (a0.size ≤ 1048576) = true := by simpa using hsz
    rcases (show (1 ≤ a0.size ∧ (a0.size : Int) ≤ a1) ∨ (1 ≤ a0.size ∧ a1 < (a0.size : Int)) ∨ a0.size = 0 from by omega) with ⟨hn, hm⟩ | ⟨hn, hm⟩ | hn
    all_goals
      go_enter Try.func8, Try.ntmps8
      go_wp2_with (go_at_call 20; refine (guard20 a0 a1 _ (by unfold maxLen; omega)).mono ?_; rintro e w' ⟨rfl, rfl⟩)
      go_loop [5, 6] (fun t i => ∃ k : Nat, k ≤ a0.size ∧ i = .int .i64 k ∧ t = .bool (wantN (lenB a0 a1) namB a0 k)) (fun _ i => a0.size - (intOf i).toNat)
      case atStart => exact ⟨0, Nat.zero_le _, rfl, val_bool (by rw [wantN_zero]; first | exact lenB_yes hn hm | exact lenB_no (.inl hn) | (rw [← lenB_no (.inr hm)]; exact decide_eq_false (by omega)))⟩
      case round =>
        obtain ⟨k, hk, rfl, rfl⟩ := hrel
        by_cases hlt : k < a0.size
        · go_wp2_with (go_at_call 21; refine (nameByte_any _ (Int.natCast_nonneg _) (byte_le _) _).mono ?_; rintro e w' ⟨rfl, rfl⟩)
          all_goals
            go_round
            case rel =>
              refine ⟨k + 1, by omega, by go_num, val_bool ?_⟩
              first
                | exact (wantN_no _ _ a0 k hlt (by simpa using (show (!namB (a0[k].toNat : Int)) = true from by assumption))).symm
                | exact (wantN_yes _ _ a0 k hlt (by simpa using (show (!namB (a0[k].toNat : Int)) = false from by assumption))).symm
            case measure => simp [intOf]; omega
        · go_wp2_with (go_at_call 22; refine (vname_any a0 a1 _ (by unfold maxLen; omega)).mono ?_; rintro e w' ⟨rfl, rfl⟩)
          go_ret
          exact ⟨ret_bool (plain a0 a1 k (by omega)), Grown.refl _⟩
  · have hg : decide (a0.size ≤ 1048576) = false := by simpa using hsz
    go_enter Try.func8, Try.ntmps8
    go_wp2_with (go_at_call 20; refine (guard20 a0 a1 _ (by unfold maxLen; omega)).mono ?_; rintro e w' ⟨rfl, rfl⟩)
    go_ret
    exact ⟨rfl, Grown.refl _⟩

/-! ### THE ROW's STEP: WRITTEN OUT: LEAVE IT -/
set_option maxRecDepth 100000 in
theorem lifted (os : Os) (started : os.Started) (H : Type) (enc : TypeId × Value → H) :
    ReturnsInHanded {} Try.checked os 8 .any (Rows.fnValidNameExactSpec.pre6 enc Try.prog Try.f8 Rows.fnValidNameExactRow.domain false) (Rows.fnValidNameExactSpec.post enc Try.prog Try.f8 false true false false) := by
  refine returnsInHanded_of_change (C := Try.checked) own started (by kernel_rfl) Try.func8
    (ChangeSpec.witness6 (enc := enc) (C := Try.checked) false ⟨#[], #[.string ByteArray.empty, .int .i64 0], []⟩ 8 (by kernel_rfl) (by kernel_rfl) (by kernel_rfl) (by kernel_rfl)) ?_
  intro W base args ds gs before hval0 hW hcnd _
  have hval : ∀ (j : Nat) t v, Try.f8.params[j]? = some t → args[j]? = some v → Value.okWide Try.prog W .any base t v := hval0
  have hW' := hW
  obtain ⟨p, q, hA0, hV, rfl, hfz, hnd⟩ := hW
  have hA : DataW.TrodAll enc Try.prog W 0 (fun _ => true) true Try.f8.params.toList args.toList ds p := hA0
  rw [Try.params8] at hA hval
  obtain ⟨v0, vs0, d0, ds0, p0, q0, hargs, rfl, rfl, h0, r0⟩ := trodAll_cons hA
  obtain ⟨v1, vs1, d1, ds1, p1, q1, rfl, rfl, rfl, h1, r1⟩ := trodAll_cons r0
  obtain ⟨rfl, rfl, rfl⟩ := trodAll_nil r1
  obtain rfl : args = #[v0, v1] := by cases args; simp_all
  obtain ⟨rfl, rfl⟩ := trodVars_none hV
  obtain ⟨a0, rfl, rfl, rfl, w0⟩ := open_string Try.underlying9 (hval 0 9 v0 rfl rfl) h0
  obtain ⟨a1, rfl, rfl, rfl, w1⟩ := open_int Try.underlying3 (hval 1 3 v1 rfl rfl) h1
  clear hA0 hval0
  simp only [List.append_nil] at hW'
  refine (walk a0 a1 w0 w1 W).mono fun e W' ⟨he, hg⟩ => ?_
  subst he
  exact ⟨_, rfl, post_of_same (pa := []) (pv := []) hW' (fun _ _ _ => (trodAll_cons_mk (shut_bool Try.underlying4 _) trodAll_mk0)) (fun sp _ => (trodAll_cons_mk (shut_string Try.underlying9 w0) (trodAll_cons_mk (shut_int Try.underlying3 w1) trodAll_mk0))) (fun _ _ => rfl) rfl
    (hg.frame _) hg.2.1 (ok_one (by kernel_rfl) rfl (okWide_bool_mk Try.underlying4 _))⟩

theorem over : Rows.fnValidNameExactRow.holds Try.pinned (OpenSpec.ofChange Rows.fnValidNameExactSpec) :=
  OpenClaim.holds_of_wide 8 Try.f8 rfl rfl rfl rfl rfl rfl rfl ⟨rfl, rfl, rfl, rfl, rfl⟩ rfl rfl rfl rfl rfl (by kernel_rfl) Try.func8 closed8
    (of_decide_eq_true (by kernel_rfl)) (by unfold Func.isWrapper; first | (rw [if_pos (by decide +kernel)]; kernel_rfl) | (rw [if_neg (by decide +kernel)]; exact ⟨rfl, rfl⟩))
    (fun os started H enc _ => lifted os started H enc)

/-- ████ THE STATEMENT ████ -/
theorem proved : Rows.FnValidNameExactSaid :=
  over
end Go.Proofs.Qxb6602532a.fnValidNameExact
