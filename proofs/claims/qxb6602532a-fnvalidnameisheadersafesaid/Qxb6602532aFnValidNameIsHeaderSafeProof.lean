/-
  A PROOF OF 'Rows.FnValidNameIsHeaderSafeSaid': the frame as the guide's skeleton tool lays it.
  The walk (STEP 1) is typed by hand; the rest is the guide's template.
-/
import Derived.Test.Qxb6602532aRows
import Derived.WalkKit
import Derived.ProofKit
import Derived.OpenShut
import Derived.ShutString
import Derived.Test.Qxb6602532aClosed
import Derived.Test.Qxb6602532aWalksB
namespace Go.Proofs.Qxb6602532a.fnValidNameIsHeaderSafe
open Go.ChangeShapes Go.WideShapes Go.ChangeAt Go.RowKit
open Go.ChangeMaps (open_string shut_string)
set_option linter.unusedVariables false      -- a walk need not use every 'w<i>' (that an integer argument fits its kind)

theorem own : ownKnob Try.prog.godebug = none := by kernel_rfl

/-! ### THE PLAIN LAW -/
theorem plain_val (s : ByteArray) (m : Int) (h : namN s m = true) : valN s = true := by
  unfold namN at h
  rw [Bool.and_eq_true] at h
  exact allB_mono nam_val _ h.2
theorem plain_hdr (s : ByteArray) (m : Int) (k : Nat) (hk : s.size ≤ k) (h : namN s m = true) (hp : wantN true plnB s k = true) : hdrN s = true := by
  rw [wantN_end _ _ s k hk, Bool.true_and] at hp
  unfold namN at h
  rw [Bool.and_eq_true, decide_eq_true_eq] at h
  unfold hdrN
  rw [allB_both nam_hdr _ h.2 hp]
  simp [h.1.1]
theorem val_bool {a b : Bool} (h : a = b) : Value.bool a = .bool b := by rw [h]
/-- What the law's own loop gathers: 'a colon or an at sign among the first k bytes'. -/
def hasB (s : ByteArray) (k : Nat) : Bool := !wantN true plnB s k
theorem hasB_zero (s : ByteArray) : hasB s 0 = false := by rw [hasB, wantN_zero]; rfl
theorem hasB_hit (s : ByteArray) (k : Nat) (h : k < s.size) (hp : plnB (s[k].toNat : Int) = false) : hasB s (k + 1) = true := by rw [hasB, wantN_no _ _ s k h hp]; rfl
theorem hasB_miss (s : ByteArray) (k : Nat) (h : k < s.size) (hp : plnB (s[k].toNat : Int) = true) : hasB s (k + 1) = hasB s k := by rw [hasB, wantN_yes _ _ s k h hp]; rfl

/-! ### STEP 1: THE WALK: the Go text returns true. 'Grown w w'': the world has at most new blocks (Derived/RowKit3.lean). Part the cases AHEAD of 'go_enter' where a test parts the walk; take each callee by a contract of your own. -/
theorem walk (a0 : ByteArray) (a1 : Int) (w0 : a0.size ≤ maxLen) (w1 : (Lit.int .i64 a1).wf = true) (w : World) :
    Calls Try.prog 10 #[.string a0, .int .i64 a1] w fun e w' => e = .returned (.bool true) ∧ Grown w w' := by
  unfold maxLen at w0
  clear w1
  by_cases hsz : a0.size ≤ 1048576
  · have hg : decide (a0.size ≤ 1048576) = true := by simpa using hsz
    by_cases hh : namN a0 a1 = true
    · have hv := plain_val a0 a1 hh
      go_enter Try.func10, Try.ntmps10
      go_wp2_with (first | (go_at_call 24; refine (guard24 a0 a1 _ (by unfold maxLen; omega)).mono ?_; rintro e w' ⟨rfl, rfl⟩) | (go_at_call 22; refine (vname_any a0 a1 _ (by unfold maxLen; omega)).mono ?_; rintro e w' ⟨rfl, rfl⟩) | (go_at_call 16; refine (zzvalue_any a0 _ (by unfold maxLen; omega)).mono ?_; rintro e w' ⟨rfl, rfl⟩))
      go_loop [5, 6] (fun t i => ∃ k : Nat, k ≤ a0.size ∧ i = .int .i64 k ∧ t = .bool (hasB a0 k)) (fun _ i => a0.size - (intOf i).toNat)
      case atStart => exact ⟨0, Nat.zero_le _, rfl, val_bool (hasB_zero a0).symm⟩
      case round =>
        obtain ⟨k, hk, rfl, rfl⟩ := hrel
        by_cases hlt : k < a0.size
        · go_wp2
          all_goals
            go_round
            case rel =>
              refine ⟨k + 1, by omega, by go_num, val_bool ?_⟩
              first
                | exact (hasB_hit a0 k hlt (by try simp only [beq_eq_false_iff_ne, beq_iff_eq, ne_eq] at *
                                               simp only [plnB, decide_eq_false_iff_not]; omega)).symm
                | exact (hasB_miss a0 k hlt (by try simp only [beq_eq_false_iff_ne, ne_eq] at *
                                                simp only [plnB, decide_eq_true_eq]; omega)).symm
            case measure => simp [intOf]; omega
        · by_cases hb : hasB a0 k = true
          · go_wp2
            go_ret
            exact ⟨rfl, Grown.refl _⟩
          · have hb' : hasB a0 k = false := by simpa using hb
            have hd := plain_hdr a0 a1 k (by omega) hh (by simpa [hasB] using hb')
            clear hb
            go_wp2_with (go_at_call 13; refine (zzname_any a0 _ (by unfold maxLen; omega)).mono ?_; rintro e w' ⟨rfl, rfl⟩)
            go_ret
            exact ⟨rfl, Grown.refl _⟩
    · have hh' : namN a0 a1 = false := by simpa using hh
      clear hh
      go_enter Try.func10, Try.ntmps10
      go_wp2_with (first | (go_at_call 24; refine (guard24 a0 a1 _ (by unfold maxLen; omega)).mono ?_; rintro e w' ⟨rfl, rfl⟩) | (go_at_call 22; refine (vname_any a0 a1 _ (by unfold maxLen; omega)).mono ?_; rintro e w' ⟨rfl, rfl⟩))
      go_ret
      exact ⟨rfl, Grown.refl _⟩
  · have hg : decide (a0.size ≤ 1048576) = false := by simpa using hsz
    go_enter Try.func10, Try.ntmps10
    go_wp2_with (go_at_call 24; refine (guard24 a0 a1 _ (by unfold maxLen; omega)).mono ?_; rintro e w' ⟨rfl, rfl⟩)
    go_ret
    exact ⟨rfl, Grown.refl _⟩

/-! ### THE ROW's STEP: WRITTEN OUT: LEAVE IT -/
set_option maxRecDepth 100000 in
theorem lifted (os : Os) (started : os.Started) (H : Type) (enc : TypeId × Value → H) :
    ReturnsInHanded {} Try.checked os 10 .any (Rows.fnValidNameIsHeaderSafeSpec.pre6 enc Try.prog Try.f10 Rows.fnValidNameIsHeaderSafeRow.domain false) (Rows.fnValidNameIsHeaderSafeSpec.post enc Try.prog Try.f10 false true false false) := by
  refine returnsInHanded_of_change (C := Try.checked) own started (by kernel_rfl) Try.func10
    (ChangeSpec.witness6 (enc := enc) (C := Try.checked) false ⟨#[], #[.string ByteArray.empty, .int .i64 0], []⟩ 8 (by kernel_rfl) (by kernel_rfl) (by kernel_rfl) (by kernel_rfl)) ?_
  intro W base args ds gs before hval0 hW hcnd _
  have hval : ∀ (j : Nat) t v, Try.f10.params[j]? = some t → args[j]? = some v → Value.okWide Try.prog W .any base t v := hval0
  have hW' := hW
  obtain ⟨p, q, hA0, hV, rfl, hfz, hnd⟩ := hW
  have hA : DataW.TrodAll enc Try.prog W 0 (fun _ => true) true Try.f10.params.toList args.toList ds p := hA0
  rw [Try.params10] at hA hval
  obtain ⟨v0, vs0, d0, ds0, p0, q0, hargs, rfl, rfl, h0, r0⟩ := trodAll_cons hA
  obtain ⟨v1, vs1, d1, ds1, p1, q1, rfl, rfl, rfl, h1, r1⟩ := trodAll_cons r0
  obtain ⟨rfl, rfl, rfl⟩ := trodAll_nil r1
  obtain rfl : args = #[v0, v1] := by cases args; simp_all
  obtain ⟨rfl, rfl⟩ := trodVars_none hV
  obtain ⟨a0, rfl, rfl, rfl, w0⟩ := open_string Try.underlying9 (hval 0 9 v0 rfl rfl) h0
  obtain ⟨a1, rfl, rfl, rfl, w1⟩ := open_int Try.underlying3 (hval 1 3 v1 rfl rfl) h1
  clear hA0 hval0
  simp only [List.append_nil] at hW'
  refine (walk a0 a1 w0 w1 W).mono fun e W' ⟨he, hg⟩ => ?_
  subst he
  exact ⟨_, rfl, post_of_same (pa := []) (pv := []) hW' (fun _ _ _ => (trodAll_cons_mk (shut_bool Try.underlying4 _) trodAll_mk0)) (fun sp _ => (trodAll_cons_mk (shut_string Try.underlying9 w0) (trodAll_cons_mk (shut_int Try.underlying3 w1) trodAll_mk0))) (fun _ _ => rfl) rfl
    (hg.frame _) hg.2.1 (ok_one (by kernel_rfl) rfl (okWide_bool_mk Try.underlying4 _))⟩

theorem over : Rows.fnValidNameIsHeaderSafeRow.holds Try.pinned (OpenSpec.ofChange Rows.fnValidNameIsHeaderSafeSpec) :=
  OpenClaim.holds_of_wide 10 Try.f10 rfl rfl rfl rfl rfl rfl rfl ⟨rfl, rfl, rfl, rfl, rfl⟩ rfl rfl rfl rfl rfl (by kernel_rfl) Try.func10 closed10
    (of_decide_eq_true (by kernel_rfl)) (by unfold Func.isWrapper; first | (rw [if_pos (by decide +kernel)]; kernel_rfl) | (rw [if_neg (by decide +kernel)]; exact ⟨rfl, rfl⟩))
    (fun os started H enc _ => lifted os started H enc)

/-- ████ THE STATEMENT ████ -/
theorem proved : Rows.FnValidNameIsHeaderSafeSaid :=
  over
end Go.Proofs.Qxb6602532a.fnValidNameIsHeaderSafe
