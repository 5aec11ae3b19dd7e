/-
  A PROOF OF 'Rows.FnSameKeyMissesNoByteSaid': the frame as the guide's skeleton tool lays it.
  The walk (STEP 1) is typed by hand; the rest is the guide's template.
-/
import Derived.Test.Qxb6603144aRows
import Derived.WalkKit
import Derived.ProofKit
import Derived.OpenShut
import Derived.ShutString
import Derived.Test.Qxb6603144aClosed
import Derived.Test.Qxb6603144aRowW
namespace Go.Proofs.Qxb6603144a.fnSameKeyMissesNoByte
open Go.ChangeShapes Go.WideShapes Go.ChangeAt Go.RowKit
open Go.ChangeMaps (open_string shut_string)
set_option linter.unusedVariables false      -- a walk need not use every 'w<i>' (that an integer argument fits its kind)

theorem own : ownKnob Try.prog.godebug = none := by kernel_rfl

theorem guard_yes (a : ByteArray) (i x : Int) (w : World) (h : a.size ≤ 1048576) :
    Calls Try.prog 11 #[.string a, .int .i64 i, .int .u8 x] w fun e w' => e = .returned (.bool true) ∧ w = w' :=
  (guard11_yes a i x w h).mono fun _ _ h => ⟨h.1, h.2.symm⟩
theorem copied (a : ByteArray) (k : Nat) (hk : k < a.size) (j : Nat) : (if j = k then ((a[k]'hk).toNat : Int) else if j < k then bt a j else 0) = if j < k + 1 then bt a j else 0 := by
  by_cases e : j = k
  · subst e
    rw [if_pos rfl, if_pos (by omega), bt_get]
  · rw [if_neg e]
    by_cases h : j < k
    · rw [if_pos h, if_pos (by omega)]
    · rw [if_neg h, if_neg (by omega)]
theorem grown_drewN {w wr : World} (h : Grown w wr) (n : Nat) : Grown w (wr.drewN n) := h

set_option maxHeartbeats 1600000 in
theorem walk_main (a0 : ByteArray) (m : Nat) (a2 : Int) (hsz : a0.size ≤ 1048576) (hm : m < a0.size) (h2 : 0 ≤ a2) (h3 : a2 < 256) (hx : (a2 == 0) = false) (w : World) :
    Calls Try.prog 4 #[.string a0, .int .i64 m, .int .u8 a2] w fun e w' => e = .returned (.bool true) ∧ Grown w w' := by
  have hmk := run_make_row' (P := Try.prog) 24 5 (.int .u8 0) 1 Try.underlying24 (by kernel_rfl) rfl .i64 .i64 a0.size (by omega) (by omega)
  have i1 : (m : Int) < (a0.size : Int) := by omega
  go_enter Try.func4, Try.ntmps4
  go_wp2_with (go_at_call 11; refine (guard_yes a0 _ _ _ hsz).mono ?_; rintro e w' ⟨rfl, rfl⟩)
  go_loopw [8] (fun i wr => ∃ k : Nat, k ≤ a0.size ∧ i = .int .i64 k ∧ Row8 w wr a0.size (fun j => if j < k then bt a0 j else 0)) (fun i _ => a0.size - (intOf i).toNat)
  case atStart => exact ⟨0, Nat.zero_le _, rfl, (Row8.start w a0.size).congr (fun j _ => by simp)⟩
  case round =>
    clear hmk
    obtain ⟨k, hk, rfl, HR⟩ := hrel
    by_cases hlt : k < a0.size
    · have hc : wr.cell? ⟨w.heap.size, k, none⟩ = some (.int .u8 0) := by simpa using HR.cellAt k hlt
      have hf := HR.2.2 k
      go_wp2
      go_roundw
      case rel => exact ⟨k + 1, by omega, by go_num, (HR.store k hlt _).congr (fun j _ => copied a0 k hlt j)⟩
      case measure => simp [intOf]; omega
    · have HB : Row8 w wr a0.size (bt a0) := HR.congr (fun j hj => by rw [if_pos (by omega)])
      clear HR
      have hT := HB.text (s := a0) (fun _ _ => rfl) a0.size
      have hc := HB.cellAt m hm
      have hf := HB.2.2 m
      have HO := HB.store m hm (bits .xor .u8 (bt a0 m) a2)
      have hX := xor_ne (bt a0 m) a2 (bt_lo a0 m) (bt_hi a0 m) h2 h3 (by simpa using hx)
      have hT2 : (convert 24 9 (.slice (some ⟨w.heap.size, 0, none⟩) a0.size a0.size)).run Try.prog (wr.setCell ⟨w.heap.size, m, none⟩ (.int .u8 (bits .xor .u8 (bt a0 m) a2))) = .ok (.string (flip a0 m (bits .xor .u8 (bt a0 m) a2))) (wr.setCell ⟨w.heap.size, m, none⟩ (.int .u8 (bits .xor .u8 (bt a0 m) a2))) := by
        have := Row8.text (s := flip a0 m (bits .xor .u8 (bt a0 m) a2)) (by rw [flip_size]; exact HO) (fun j _ => (flip_bt a0 m _ hX.1 hX.2.1 hm j).symm) a0.size
        rw [flip_size] at this
        exact this
      have hs1 : sameB a0 a0 = true := (sameB_iff _ _).2 rfl
      have hs2 : sameB a0 (flip a0 m (bits .xor .u8 (bt a0 m) a2)) = false := sameB_false (flip_ne a0 m _ hX.1 hX.2.1 hm hX.2.2)
      have hs3 : sameB (flip a0 m (bits .xor .u8 (bt a0 m) a2)) a0 = false := sameB_false (fun e => flip_ne a0 m _ hX.1 hX.2.1 hm hX.2.2 e.symm)
      have HG : Hid (Grown w (wr.setCell ⟨w.heap.size, m, none⟩ (.int .u8 (bits .xor .u8 (bt a0 m) a2)))) := HO.1
      clear HB HO hX
      go_wp2_with (go_at_call 9; refine (zzkey_any _ _ _).mono ?_; rintro e w' ⟨rfl, n, rfl⟩)
      go_ret
      exact ⟨rfl, grown_drewN HG.out _⟩

/-! ### STEP 1: THE WALK: the Go text returns true. 'Grown w w'': the world has at most new blocks (Derived/RowKit3.lean). Part the cases AHEAD of 'go_enter' where a test parts the walk; take each callee by a contract of your own. -/
theorem walk (a0 : ByteArray) (a1 : Int) (a2 : Int) (w0 : a0.size ≤ maxLen) (w1 : (Lit.int .i64 a1).wf = true) (w2 : (Lit.int .u8 a2).wf = true) (w : World) :
    Calls Try.prog 4 #[.string a0, .int .i64 a1, .int .u8 a2] w fun e w' => e = .returned (.bool true) ∧ Grown w w' := by
  obtain ⟨h2, h3⟩ : 0 ≤ a2 ∧ a2 < 256 := by
    have := bounds_u8 w2
    omega
  unfold maxLen at w0
  by_cases hsz : a0.size ≤ 1048576
  · by_cases hi : a1 < 0
    · go_enter Try.func4, Try.ntmps4
      go_wp2_with (go_at_call 11; refine (guard_yes a0 _ _ _ hsz).mono ?_; rintro e w' ⟨rfl, rfl⟩)
      go_ret
      exact ⟨rfl, Grown.refl _⟩
    · by_cases hj : (a0.size : Int) ≤ a1
      · go_enter Try.func4, Try.ntmps4
        go_wp2_with (go_at_call 11; refine (guard_yes a0 _ _ _ hsz).mono ?_; rintro e w' ⟨rfl, rfl⟩)
        go_ret
        exact ⟨rfl, Grown.refl _⟩
      · rcases Bool.eq_false_or_eq_true (a2 == 0) with hx | hx
        · go_enter Try.func4, Try.ntmps4
          go_wp2_with (go_at_call 11; refine (guard_yes a0 _ _ _ hsz).mono ?_; rintro e w' ⟨rfl, rfl⟩)
          go_ret
          exact ⟨rfl, Grown.refl _⟩
        · obtain ⟨m, rfl⟩ : ∃ m : Nat, a1 = (m : Int) := ⟨a1.toNat, by omega⟩
          exact walk_main a0 m a2 hsz (by omega) h2 h3 hx w
  · go_enter Try.func4, Try.ntmps4
    go_wp2_with (go_at_call 11; refine (guard11_no a0 _ _ _ hsz).mono ?_; rintro e w' ⟨rfl, rfl⟩)
    go_ret
    exact ⟨rfl, Grown.refl _⟩

/-! ### THE ROW's STEP: WRITTEN OUT: LEAVE IT -/
set_option maxRecDepth 100000 in
theorem lifted (os : Os) (started : os.Started) (H : Type) (enc : TypeId × Value → H) :
    ReturnsInHanded {} Try.checked os 4 .any (Rows.fnSameKeyMissesNoByteSpec.pre6 enc Try.prog Try.f4 Rows.fnSameKeyMissesNoByteRow.domain false) (Rows.fnSameKeyMissesNoByteSpec.post enc Try.prog Try.f4 false true false false) := by
  refine returnsInHanded_of_change (C := Try.checked) own started (by kernel_rfl) Try.func4
    (ChangeSpec.witness6 (enc := enc) (C := Try.checked) false ⟨#[], #[.string ByteArray.empty, .int .i64 0, .int .u8 0], []⟩ 8 (by kernel_rfl) (by kernel_rfl) (by kernel_rfl) (by kernel_rfl)) ?_
  intro W base args ds gs before hval0 hW hcnd _
  have hval : ∀ (j : Nat) t v, Try.f4.params[j]? = some t → args[j]? = some v → Value.okWide Try.prog W .any base t v := hval0
  have hW' := hW
  obtain ⟨p, q, hA0, hV, rfl, hfz, hnd⟩ := hW
  have hA : DataW.TrodAll enc Try.prog W 0 (fun _ => true) true Try.f4.params.toList args.toList ds p := hA0
  rw [Try.params4] at hA hval
  obtain ⟨v0, vs0, d0, ds0, p0, q0, hargs, rfl, rfl, h0, r0⟩ := trodAll_cons hA
  obtain ⟨v1, vs1, d1, ds1, p1, q1, rfl, rfl, rfl, h1, r1⟩ := trodAll_cons r0
  obtain ⟨v2, vs2, d2, ds2, p2, q2, rfl, rfl, rfl, h2, r2⟩ := trodAll_cons r1
  obtain ⟨rfl, rfl, rfl⟩ := trodAll_nil r2
  obtain rfl : args = #[v0, v1, v2] := by cases args; simp_all
  obtain ⟨rfl, rfl⟩ := trodVars_none hV
  obtain ⟨a0, rfl, rfl, rfl, w0⟩ := open_string Try.underlying9 (hval 0 9 v0 rfl rfl) h0
  obtain ⟨a1, rfl, rfl, rfl, w1⟩ := open_int Try.underlying3 (hval 1 3 v1 rfl rfl) h1
  obtain ⟨a2, rfl, rfl, rfl, w2⟩ := open_int Try.underlying5 (hval 2 5 v2 rfl rfl) h2
  clear hA0 hval0
  simp only [List.append_nil] at hW'
  refine (walk a0 a1 a2 w0 w1 w2 W).mono fun e W' ⟨he, hg⟩ => ?_
  subst he
  exact ⟨_, rfl, post_of_same (pa := []) (pv := []) hW' (fun _ _ _ => (trodAll_cons_mk (shut_bool Try.underlying4 _) trodAll_mk0)) (fun sp _ => (trodAll_cons_mk (shut_string Try.underlying9 w0) (trodAll_cons_mk (shut_int Try.underlying3 w1) (trodAll_cons_mk (shut_int Try.underlying5 w2) trodAll_mk0)))) (fun _ _ => rfl) rfl
    (hg.frame _) hg.2.1 (ok_one (by kernel_rfl) rfl (okWide_bool_mk Try.underlying4 _))⟩

theorem over : Rows.fnSameKeyMissesNoByteRow.holds Try.pinned (OpenSpec.ofChange Rows.fnSameKeyMissesNoByteSpec) :=
  OpenClaim.holds_of_wide 4 Try.f4 rfl rfl rfl rfl rfl rfl rfl ⟨rfl, rfl, rfl, rfl, rfl⟩ rfl rfl rfl rfl rfl (by kernel_rfl) Try.func4 closed4
    (of_decide_eq_true (by kernel_rfl)) (by unfold Func.isWrapper; first | (rw [if_pos (by decide +kernel)]; kernel_rfl) | (rw [if_neg (by decide +kernel)]; exact ⟨rfl, rfl⟩))
    (fun os started H enc _ => lifted os started H enc)

/-- ████ THE STATEMENT ████ -/
theorem proved : Rows.FnSameKeyMissesNoByteSaid :=
  over
end Go.Proofs.Qxb6603144a.fnSameKeyMissesNoByte
