/-
  SEAT b6603144a: FnFindAgreesWithEntries (6): THE WALK.
-/
import Derived.Test.Qxb6603144aFind
namespace Go.Proofs.Qxb6603144a
open Go.RowKit
set_option linter.unusedSimpArgs false
set_option linter.unusedVariables false

theorem tab0 (w : World) (x0 x1 x2 x3 : Value) : (w.alloc (.cells #[x0, x1, x2, x3] 42)).cell? ⟨w.heap.size, 0, none⟩ = some x0 := by rw [World.cell?_alloc_mark]; rfl
theorem tab1 (w : World) (x0 x1 x2 x3 : Value) : (w.alloc (.cells #[x0, x1, x2, x3] 42)).cell? ⟨w.heap.size, 1, none⟩ = some x1 := by rw [World.cell?_alloc_mark]; rfl
theorem tab3 (w : World) (x0 x1 x2 x3 : Value) : (w.alloc (.cells #[x0, x1, x2, x3] 42)).cell? ⟨w.heap.size, 3, none⟩ = some x3 := by rw [World.cell?_alloc_mark]; rfl
theorem tabF (w : World) (x0 x1 x2 x3 : Value) (j : Nat) : (w.alloc (.cells #[x0, x1, x2, x3] 42)).frozen? ⟨w.heap.size, j, none⟩ = false := by rw [World.frozen?_alloc_mark]; simp

/-- What the law's last loop counts. -/
def Few (i0 k : Nat) (c : Int) : Prop := 0 ≤ c ∧ c ≤ 1 ∧ (k ≤ i0 → c = 0)
theorem few_zero (i0 : Nat) : Few i0 0 0 := ⟨Int.le_refl _, by decide, fun _ => rfl⟩
theorem few_same {i0 k : Nat} {c : Int} (h : Few i0 k c) : Few i0 (k + 1) c := ⟨h.1, h.2.1, fun hk => h.2.2 (by omega)⟩
theorem few_more {i0 k : Nat} {c : Int} (h : Few i0 k c) (e : k = i0) : Few i0 (k + 1) (c + 1) := by
  have := h.2.2 (by omega)
  exact ⟨by omega, by omega, fun hk => by omega⟩
/-- Where the cache has turned. -/
theorem turned_at {F : Nat → Int} {i0 k : Nat} {v : Int} {h : Bool} (hd : ¬ turned F i0 v h k = F k) : h = true ∧ k = i0 ∧ turned F i0 v h k = v + 1 := by
  unfold turned at hd ⊢
  by_cases hc : h = true ∧ k = i0
  · rw [if_pos hc]; exact ⟨hc.1, hc.2, rfl⟩
  · rw [if_neg hc] at hd; exact absurd rfl hd

set_option maxRecDepth 20000 in
set_option maxHeartbeats 4000000 in
theorem main_some_A (w : World) (mo : Option Nat) (mval : ByteArray → Int) (mhas : ByteArray → Bool) (N : Nat) (hM : Hid (MapIs w mo mval mhas N)) (b0 off0 : Nat) (n cap : Nat) (E : Nat → ByteArray) (hE : Hid (EntRow w (some ⟨b0, off0, none⟩) n E)) (hc : ∀ i, i < n → w.cell? ⟨b0, off0 + i, none⟩ = some (.string (E i)))
    (bytes : Int) (b off fn fcap : Nat) (F : Nat → Int) (hF : Hid (∀ j, j < fn → 0 ≤ F j ∧ F j < 4294967296)) (hb : b < w.heap.size) (hcf : Hid (∀ i, i < fn → w.cell? ⟨b, off + i, none⟩ = some (.int .u32 (F i)))) (s : ByteArray) (hs : s.size ≤ 1048576) (hn : n ≤ 65536) (hf : fn ≤ 65536) (h1024 : Hid (1024 ≤ fn)) (hI : (1024 : Int) ≤ (fn : Int)) :
    Calls Try.prog 6 #[.map mo, .slice (some ⟨b0, off0, none⟩) n cap, .int .i64 bytes, .slice (some ⟨b, off, none⟩) fn fcap, .string s] w fun e w' => e = .returned (.bool true) ∧ Below w.heap.size w w' := by
  have qn := ne29
  go_enter Try.func6, Try.ntmps6
  go_wp2
  go_loop [11, 12] (fun t i => ∃ (k : Nat) (x : Int), k ≤ n ∧ i = .int .i64 k ∧ t = .int .i64 x) (fun _ i => n - (intOf i).toNat)
  case atStart => exact ⟨0, _, Nat.zero_le _, rfl, rfl⟩
  case round =>
    obtain ⟨k, x, hk, rfl, rfl⟩ := hrel
    by_cases hlt : k < n
    · have hck := hc k hlt
      clear hc
      go_wp2
      · go_ret
        exact ⟨rfl, Below.refl _ _⟩
      · go_round
        case rel => exact ⟨k + 1, _, by omega, by go_num, rfl⟩
        case measure => simp [intOf]; omega
    · clear hc
      go_wp2_with fail
      · go_ret
        exact ⟨rfl, Below.refl _ _⟩
      refine (consistent_any w mo mval mhas N hM.out _ n cap E hE.out).mono ?_
      rintro e w' ⟨c, rfl, rfl, hcc⟩
      cases c with
      | false =>
        clear hcc
        go_wp2
        go_ret
        exact ⟨rfl, Below.refl _ _⟩
      | true =>
        have HC : Hid (Consist E n mval mhas) := consist_of hM.out (hcc rfl).1 (hcc rfl).2
        clear hcc
        go_wp2_with fail
        refine (copy_some w b off fn fcap F hf hb hcf.out).mono ?_
        rintro e w1 ⟨rfl, HR1, HB1⟩
        have h1B := HB1.size
        go_wp2_with (go_at_call 16; refine (table_any _ _ _ _ _ _ _ _ _).mono ?_; rintro e w2 ⟨rfl, rfl⟩)
        refine (zfind_some w _ (HB1.alloc h1B _) w1.heap.size w.heap.size (Nat.le_refl _) (Nat.ne_of_lt HR1.2.2) mo mval mhas N hM.out _ n cap E hE.out HC.out hn fn h1024.out F (HR1.later ((Below.refl _ _).alloc (Nat.le_refl _) _)) hF.out s (by unfold maxLen; omega)
          (tab0 w1 _ _ _ _) (tab1 w1 _ _ _ _) (tab3 w1 _ _ _ _)).mono ?_
        rintro e w3 ⟨rfl, HB3, c33, i0, hi0, HR3⟩
        clear HR1 HB1 h1B
        go_wp2_with fail
        refine (search_any w3 mval mhas _ n cap E s (hE.out.later HB3) HC.out).mono ?_
        rintro e w4 ⟨rfl, m, rfl⟩
        go_wp2_with fail
        refine (found_any (w3.drewN m) w1.heap.size (some ⟨w.heap.size, 0, none⟩) fn fn c33).mono ?_
        rintro e w5 ⟨rfl, rfl⟩
        clear c33
        have hv0 := (HC.out.val s).1
        have HV : Hid (mhas s = true → mval s < (n : Int)) := (HC.out.val s).2
        clear HC
        go_wp2
        go_loop [21, 22] (fun ch i => ∃ (j : Nat) (c : Int), j ≤ fn ∧ i = .int .i64 j ∧ ch = .int .i64 c ∧ Few i0 j c) (fun _ i => fn - (intOf i).toNat)
        case atStart => exact ⟨0, 0, Nat.zero_le _, rfl, rfl, few_zero _⟩
        case round =>
          clear qn
          obtain ⟨j, c, hj, rfl, rfl, HF⟩ := hrel
          have hc0 := HF.1
          have hc1 := HF.2.1
          by_cases hjt : j < fn
          · have a1 : w3.cell? ⟨w.heap.size, j, none⟩ = some (.int .u32 (turned F i0 (mval s) (mhas s) j)) := HR3.1 j hjt
            have a2 : w3.cell? ⟨b, off + j, none⟩ = some (.int .u32 (F j)) := (HB3.cell (p := ⟨b, off + j, none⟩) hb).trans (hcf.out j hjt)
            obtain ⟨A, hA⟩ : ∃ A, A = turned F i0 (mval s) (mhas s) j := ⟨_, rfl⟩
            rw [← hA] at a1
            have HA : Hid (A = turned F i0 (mval s) (mhas s) j) := hA
            clear hA
            by_cases hd : A = F j
            · have e1 : (A != F j) = false := by simpa using hd
              clear hd
              go_wp2
              go_round
              case rel => exact ⟨j + 1, c, by omega, by go_num, rfl, few_same HF⟩
              case measure => simp [intOf]; omega
            · have ht := turned_at (F := F) (i0 := i0) (k := j) (v := mval s) (h := mhas s) (by rw [← HA.out]; exact hd)
              have e1 : (A != F j) = true := by simpa using hd
              have e2 : (A != mval s + 1) = false := by rw [HA.out, ht.2.2]; simp
              have e3 : mhas s = true := ht.1
              have e4 : mval s < (n : Int) := HV.out e3
              have e5 : Hid (j = i0) := ht.2.1
              clear hd ht HA
              go_wp2
              go_round
              case rel => exact ⟨j + 1, c + 1, by omega, by go_num, rfl, few_more HF e5.out⟩
              case measure => simp [intOf]; omega
          · go_wp2
            go_ret
            exact ⟨ret_bool (by simp [hc1]), below_drewN HB3 m⟩

set_option maxRecDepth 20000 in
set_option maxHeartbeats 4000000 in
theorem main_some_B (w : World) (mo : Option Nat) (mval : ByteArray → Int) (mhas : ByteArray → Bool) (N : Nat) (hM : Hid (MapIs w mo mval mhas N)) (eo : Option Addr) (n cap : Nat) (E : Nat → ByteArray) (hE : Hid (EntRow w eo n E)) (hn0 : n ≤ 0)
    (bytes : Int) (b off fn fcap : Nat) (F : Nat → Int) (hF : Hid (∀ j, j < fn → 0 ≤ F j ∧ F j < 4294967296)) (hb : b < w.heap.size) (hcf : Hid (∀ i, i < fn → w.cell? ⟨b, off + i, none⟩ = some (.int .u32 (F i)))) (s : ByteArray) (hs : s.size ≤ 1048576) (hn : n ≤ 65536) (hf : fn ≤ 65536) (h1024 : Hid (1024 ≤ fn)) (hI : (1024 : Int) ≤ (fn : Int)) :
    Calls Try.prog 6 #[.map mo, .slice eo n cap, .int .i64 bytes, .slice (some ⟨b, off, none⟩) fn fcap, .string s] w fun e w' => e = .returned (.bool true) ∧ Below w.heap.size w w' := by
  have qn := ne29
  go_enter Try.func6, Try.ntmps6
  go_wp2
  go_loop [11, 12] (fun t i => ∃ (k : Nat) (x : Int), k ≤ n ∧ i = .int .i64 k ∧ t = .int .i64 x) (fun _ i => n - (intOf i).toNat)
  case atStart => exact ⟨0, _, Nat.zero_le _, rfl, rfl⟩
  case round =>
    obtain ⟨k, x, hk, rfl, rfl⟩ := hrel
    by_cases hlt : k < n
    · exact absurd hlt (by omega)
    · have hkn : n ≤ k := by omega
      go_wp2_with fail
      · go_ret
        exact ⟨rfl, Below.refl _ _⟩
      refine (consistent_any w mo mval mhas N hM.out _ n cap E hE.out).mono ?_
      rintro e w' ⟨c, rfl, rfl, hcc⟩
      cases c with
      | false =>
        clear hcc
        go_wp2
        go_ret
        exact ⟨rfl, Below.refl _ _⟩
      | true =>
        have HC : Hid (Consist E n mval mhas) := consist_of hM.out (hcc rfl).1 (hcc rfl).2
        clear hcc
        go_wp2_with fail
        refine (copy_some w b off fn fcap F hf hb hcf.out).mono ?_
        rintro e w1 ⟨rfl, HR1, HB1⟩
        have h1B := HB1.size
        go_wp2_with (go_at_call 16; refine (table_any _ _ _ _ _ _ _ _ _).mono ?_; rintro e w2 ⟨rfl, rfl⟩)
        refine (zfind_some w _ (HB1.alloc h1B _) w1.heap.size w.heap.size (Nat.le_refl _) (Nat.ne_of_lt HR1.2.2) mo mval mhas N hM.out _ n cap E hE.out HC.out hn fn h1024.out F (HR1.later ((Below.refl _ _).alloc (Nat.le_refl _) _)) hF.out s (by unfold maxLen; omega)
          (tab0 w1 _ _ _ _) (tab1 w1 _ _ _ _) (tab3 w1 _ _ _ _)).mono ?_
        rintro e w3 ⟨rfl, HB3, c33, i0, hi0, HR3⟩
        clear HR1 HB1 h1B
        go_wp2_with fail
        refine (search_any w3 mval mhas _ n cap E s (hE.out.later HB3) HC.out).mono ?_
        rintro e w4 ⟨rfl, m, rfl⟩
        go_wp2_with fail
        refine (found_any (w3.drewN m) w1.heap.size (some ⟨w.heap.size, 0, none⟩) fn fn c33).mono ?_
        rintro e w5 ⟨rfl, rfl⟩
        clear c33
        have hv0 := (HC.out.val s).1
        have HV : Hid (mhas s = true → mval s < (n : Int)) := (HC.out.val s).2
        clear HC
        go_wp2
        go_loop [21, 22] (fun ch i => ∃ (j : Nat) (c : Int), j ≤ fn ∧ i = .int .i64 j ∧ ch = .int .i64 c ∧ Few i0 j c) (fun _ i => fn - (intOf i).toNat)
        case atStart => exact ⟨0, 0, Nat.zero_le _, rfl, rfl, few_zero _⟩
        case round =>
          clear qn
          obtain ⟨j, c, hj, rfl, rfl, HF⟩ := hrel
          have hc0 := HF.1
          have hc1 := HF.2.1
          by_cases hjt : j < fn
          · have a1 : w3.cell? ⟨w.heap.size, j, none⟩ = some (.int .u32 (turned F i0 (mval s) (mhas s) j)) := HR3.1 j hjt
            have a2 : w3.cell? ⟨b, off + j, none⟩ = some (.int .u32 (F j)) := (HB3.cell (p := ⟨b, off + j, none⟩) hb).trans (hcf.out j hjt)
            obtain ⟨A, hA⟩ : ∃ A, A = turned F i0 (mval s) (mhas s) j := ⟨_, rfl⟩
            rw [← hA] at a1
            have HA : Hid (A = turned F i0 (mval s) (mhas s) j) := hA
            clear hA
            by_cases hd : A = F j
            · have e1 : (A != F j) = false := by simpa using hd
              clear hd
              go_wp2
              go_round
              case rel => exact ⟨j + 1, c, by omega, by go_num, rfl, few_same HF⟩
              case measure => simp [intOf]; omega
            · have ht := turned_at (F := F) (i0 := i0) (k := j) (v := mval s) (h := mhas s) (by rw [← HA.out]; exact hd)
              have e1 : (A != F j) = true := by simpa using hd
              have e2 : (A != mval s + 1) = false := by rw [HA.out, ht.2.2]; simp
              have e3 : mhas s = true := ht.1
              have e4 : mval s < (n : Int) := HV.out e3
              exact absurd e4 (by omega)
          · go_wp2
            go_ret
            exact ⟨ret_bool (by simp [hc1]), below_drewN HB3 m⟩

set_option maxRecDepth 20000 in
set_option maxHeartbeats 4000000 in
theorem main_nil_A (w : World) (mo : Option Nat) (mval : ByteArray → Int) (mhas : ByteArray → Bool) (N : Nat) (hM : Hid (MapIs w mo mval mhas N)) (b0 off0 : Nat) (n cap : Nat) (E : Nat → ByteArray) (hE : Hid (EntRow w (some ⟨b0, off0, none⟩) n E)) (hc : ∀ i, i < n → w.cell? ⟨b0, off0 + i, none⟩ = some (.string (E i)))
    (bytes : Int) (fcap : Nat) (s : ByteArray) (hs : s.size ≤ 1048576) (hn : n ≤ 65536) :
    Calls Try.prog 6 #[.map mo, .slice (some ⟨b0, off0, none⟩) n cap, .int .i64 bytes, .slice none 0 fcap, .string s] w fun e w' => e = .returned (.bool true) ∧ Below w.heap.size w w' := by
  have qn := ne29
  go_enter Try.func6, Try.ntmps6
  go_wp2
  go_loop [11, 12] (fun t i => ∃ (k : Nat) (x : Int), k ≤ n ∧ i = .int .i64 k ∧ t = .int .i64 x) (fun _ i => n - (intOf i).toNat)
  case atStart => exact ⟨0, _, Nat.zero_le _, rfl, rfl⟩
  case round =>
    obtain ⟨k, x, hk, rfl, rfl⟩ := hrel
    by_cases hlt : k < n
    · have hck := hc k hlt
      clear hc
      go_wp2
      · go_ret
        exact ⟨rfl, Below.refl _ _⟩
      · go_round
        case rel => exact ⟨k + 1, _, by omega, by go_num, rfl⟩
        case measure => simp [intOf]; omega
    · clear hc
      go_wp2_with fail
      · go_ret
        exact ⟨rfl, Below.refl _ _⟩
      refine (consistent_any w mo mval mhas N hM.out _ n cap E hE.out).mono ?_
      rintro e w' ⟨c, rfl, rfl, hcc⟩
      cases c with
      | false =>
        clear hcc
        go_wp2
        go_ret
        exact ⟨rfl, Below.refl _ _⟩
      | true =>
        have HC : Hid (Consist E n mval mhas) := consist_of hM.out (hcc rfl).1 (hcc rfl).2
        clear hcc
        go_wp2_with fail
        refine (copy_nil w 0 fcap).mono ?_
        rintro e w1 ⟨rfl, rfl⟩
        go_wp2_with (go_at_call 16; refine (table_any _ _ _ _ _ _ _ _ _).mono ?_; rintro e w2 ⟨rfl, rfl⟩)
        have hz := zfind_nil w _ ((Below.refl _ _).alloc (Nat.le_refl _) _) w.heap.size (Nat.le_refl _) (by simp) mo mval mhas N hM.out _ n cap E HC.out hn s (by unfold maxLen; omega)
          (tab0 w (.map mo) (.slice (some ⟨b0, off0, none⟩) n cap) (.int .i64 bytes) (.slice none 0 0)) (tab1 w _ _ _ _) (tab3 w _ _ _ _) (tabF w _ _ _ _ 3)
        refine hz.mono ?_
        clear hz
        rintro e w3 ⟨rfl, HB3, c33, i0, hi0, HR3⟩
        obtain ⟨FB, HFB⟩ : ∃ FB, FB = (w.alloc (.cells #[.map mo, (.slice (some ⟨b0, off0, none⟩) n cap), .int .i64 bytes, .slice none 0 0] 42)).heap.size := ⟨_, rfl⟩
        rw [← HFB] at c33 HR3
        clear HFB
        obtain ⟨fn, hfn⟩ : ∃ fn : Nat, fn = 1024 := ⟨_, rfl⟩
        rw [← hfn] at c33 HR3
        have hI : (fn : Int) = 1024 := by omega
        have Hfn : Hid (fn = 1024) := hfn
        clear hfn hi0
        go_wp2_with fail
        refine (search_any w3 mval mhas _ n cap E s (hE.out.later HB3) HC.out).mono ?_
        rintro e w4 ⟨rfl, m, rfl⟩
        go_wp2_with fail
        refine (found_any (w3.drewN m) w.heap.size (some ⟨FB, 0, none⟩) fn fn c33).mono ?_
        rintro e w5 ⟨rfl, rfl⟩
        clear c33
        have hv0 := (HC.out.val s).1
        have HV : Hid (mhas s = true → mval s < (n : Int)) := (HC.out.val s).2
        clear HC
        go_wp2
        go_loop [21, 22] (fun ch i => ∃ (j : Nat) (c : Int), j ≤ fn ∧ i = .int .i64 j ∧ ch = .int .i64 c ∧ Few i0 j c) (fun _ i => fn - (intOf i).toNat)
        case atStart => exact ⟨0, 0, Nat.zero_le _, rfl, rfl, few_zero _⟩
        case round =>
          clear qn
          obtain ⟨j, c, hj, rfl, rfl, HF⟩ := hrel
          have hc0 := HF.1
          have hc1 := HF.2.1
          by_cases hjt : j < fn
          · have a1 : w3.cell? ⟨FB, j, none⟩ = some (.int .u32 (turned (fun _ => 0) i0 (mval s) (mhas s) j)) := HR3.1 j hjt
            obtain ⟨A, hA⟩ : ∃ A, A = turned (fun _ => 0) i0 (mval s) (mhas s) j := ⟨_, rfl⟩
            rw [← hA] at a1
            have HA : Hid (A = turned (fun _ => 0) i0 (mval s) (mhas s) j) := hA
            clear hA
            by_cases hd : A = 0
            · have e1 : (A != 0) = false := by simpa using hd
              clear hd
              go_wp2
              go_round
              case rel => exact ⟨j + 1, c, by omega, by go_num, rfl, few_same HF⟩
              case measure => simp [intOf]; omega
            · have ht := turned_at (F := (fun _ => 0)) (i0 := i0) (k := j) (v := mval s) (h := mhas s) (by rw [← HA.out]; exact hd)
              have e1 : (A != 0) = true := by simpa using hd
              have e2 : (A != mval s + 1) = false := by rw [HA.out, ht.2.2]; simp
              have e3 : mhas s = true := ht.1
              have e4 : mval s < (n : Int) := HV.out e3
              have e5 : Hid (j = i0) := ht.2.1
              clear hd ht HA
              go_wp2
              go_round
              case rel => exact ⟨j + 1, c + 1, by omega, by go_num, rfl, few_more HF e5.out⟩
              case measure => simp [intOf]; omega
          · go_wp2
            go_ret
            exact ⟨ret_bool (by simp [hc1]), below_drewN HB3 m⟩

set_option maxRecDepth 20000 in
set_option maxHeartbeats 4000000 in
theorem main_nil_B (w : World) (mo : Option Nat) (mval : ByteArray → Int) (mhas : ByteArray → Bool) (N : Nat) (hM : Hid (MapIs w mo mval mhas N)) (eo : Option Addr) (n cap : Nat) (E : Nat → ByteArray) (hE : Hid (EntRow w eo n E)) (hn0 : n ≤ 0)
    (bytes : Int) (fcap : Nat) (s : ByteArray) (hs : s.size ≤ 1048576) (hn : n ≤ 65536) :
    Calls Try.prog 6 #[.map mo, .slice eo n cap, .int .i64 bytes, .slice none 0 fcap, .string s] w fun e w' => e = .returned (.bool true) ∧ Below w.heap.size w w' := by
  have qn := ne29
  go_enter Try.func6, Try.ntmps6
  go_wp2
  go_loop [11, 12] (fun t i => ∃ (k : Nat) (x : Int), k ≤ n ∧ i = .int .i64 k ∧ t = .int .i64 x) (fun _ i => n - (intOf i).toNat)
  case atStart => exact ⟨0, _, Nat.zero_le _, rfl, rfl⟩
  case round =>
    obtain ⟨k, x, hk, rfl, rfl⟩ := hrel
    by_cases hlt : k < n
    · exact absurd hlt (by omega)
    · have hkn : n ≤ k := by omega
      go_wp2_with fail
      · go_ret
        exact ⟨rfl, Below.refl _ _⟩
      refine (consistent_any w mo mval mhas N hM.out _ n cap E hE.out).mono ?_
      rintro e w' ⟨c, rfl, rfl, hcc⟩
      cases c with
      | false =>
        clear hcc
        go_wp2
        go_ret
        exact ⟨rfl, Below.refl _ _⟩
      | true =>
        have HC : Hid (Consist E n mval mhas) := consist_of hM.out (hcc rfl).1 (hcc rfl).2
        clear hcc
        go_wp2_with fail
        refine (copy_nil w 0 fcap).mono ?_
        rintro e w1 ⟨rfl, rfl⟩
        go_wp2_with (go_at_call 16; refine (table_any _ _ _ _ _ _ _ _ _).mono ?_; rintro e w2 ⟨rfl, rfl⟩)
        have hz := zfind_nil w _ ((Below.refl _ _).alloc (Nat.le_refl _) _) w.heap.size (Nat.le_refl _) (by simp) mo mval mhas N hM.out _ n cap E HC.out hn s (by unfold maxLen; omega)
          (tab0 w (.map mo) (.slice eo n cap) (.int .i64 bytes) (.slice none 0 0)) (tab1 w _ _ _ _) (tab3 w _ _ _ _) (tabF w _ _ _ _ 3)
        refine hz.mono ?_
        clear hz
        rintro e w3 ⟨rfl, HB3, c33, i0, hi0, HR3⟩
        obtain ⟨FB, HFB⟩ : ∃ FB, FB = (w.alloc (.cells #[.map mo, (.slice eo n cap), .int .i64 bytes, .slice none 0 0] 42)).heap.size := ⟨_, rfl⟩
        rw [← HFB] at c33 HR3
        clear HFB
        obtain ⟨fn, hfn⟩ : ∃ fn : Nat, fn = 1024 := ⟨_, rfl⟩
        rw [← hfn] at c33 HR3
        have hI : (fn : Int) = 1024 := by omega
        have Hfn : Hid (fn = 1024) := hfn
        clear hfn hi0
        go_wp2_with fail
        refine (search_any w3 mval mhas _ n cap E s (hE.out.later HB3) HC.out).mono ?_
        rintro e w4 ⟨rfl, m, rfl⟩
        go_wp2_with fail
        refine (found_any (w3.drewN m) w.heap.size (some ⟨FB, 0, none⟩) fn fn c33).mono ?_
        rintro e w5 ⟨rfl, rfl⟩
        clear c33
        have hv0 := (HC.out.val s).1
        have HV : Hid (mhas s = true → mval s < (n : Int)) := (HC.out.val s).2
        clear HC
        go_wp2
        go_loop [21, 22] (fun ch i => ∃ (j : Nat) (c : Int), j ≤ fn ∧ i = .int .i64 j ∧ ch = .int .i64 c ∧ Few i0 j c) (fun _ i => fn - (intOf i).toNat)
        case atStart => exact ⟨0, 0, Nat.zero_le _, rfl, rfl, few_zero _⟩
        case round =>
          clear qn
          obtain ⟨j, c, hj, rfl, rfl, HF⟩ := hrel
          have hc0 := HF.1
          have hc1 := HF.2.1
          by_cases hjt : j < fn
          · have a1 : w3.cell? ⟨FB, j, none⟩ = some (.int .u32 (turned (fun _ => 0) i0 (mval s) (mhas s) j)) := HR3.1 j hjt
            obtain ⟨A, hA⟩ : ∃ A, A = turned (fun _ => 0) i0 (mval s) (mhas s) j := ⟨_, rfl⟩
            rw [← hA] at a1
            have HA : Hid (A = turned (fun _ => 0) i0 (mval s) (mhas s) j) := hA
            clear hA
            by_cases hd : A = 0
            · have e1 : (A != 0) = false := by simpa using hd
              clear hd
              go_wp2
              go_round
              case rel => exact ⟨j + 1, c, by omega, by go_num, rfl, few_same HF⟩
              case measure => simp [intOf]; omega
            · have ht := turned_at (F := (fun _ => 0)) (i0 := i0) (k := j) (v := mval s) (h := mhas s) (by rw [← HA.out]; exact hd)
              have e1 : (A != 0) = true := by simpa using hd
              have e2 : (A != mval s + 1) = false := by rw [HA.out, ht.2.2]; simp
              have e3 : mhas s = true := ht.1
              have e4 : mval s < (n : Int) := HV.out e3
              exact absurd e4 (by omega)
          · go_wp2
            go_ret
            exact ⟨ret_bool (by simp [hc1]), below_drewN HB3 m⟩

set_option maxRecDepth 20000 in
set_option maxHeartbeats 4000000 in
theorem main_small_A (w : World) (mo : Option Nat) (mval : ByteArray → Int) (mhas : ByteArray → Bool) (N : Nat) (hM : Hid (MapIs w mo mval mhas N)) (b0 off0 : Nat) (n cap : Nat) (E : Nat → ByteArray) (hE : Hid (EntRow w (some ⟨b0, off0, none⟩) n E)) (hc : ∀ i, i < n → w.cell? ⟨b0, off0 + i, none⟩ = some (.string (E i)))
    (bytes : Int) (x0 : Addr) (fn fcap : Nat) (s : ByteArray) (hs : s.size ≤ 1048576) (hn : n ≤ 65536) (hI : (fn : Int) < 1024) :
    Calls Try.prog 6 #[.map mo, .slice (some ⟨b0, off0, none⟩) n cap, .int .i64 bytes, .slice (some x0) fn fcap, .string s] w fun e w' => e = .returned (.bool true) ∧ Below w.heap.size w w' := by
  have qn := ne29
  go_enter Try.func6, Try.ntmps6
  go_wp2
  go_loop [11, 12] (fun t i => ∃ (k : Nat) (x : Int), k ≤ n ∧ i = .int .i64 k ∧ t = .int .i64 x) (fun _ i => n - (intOf i).toNat)
  case atStart => exact ⟨0, _, Nat.zero_le _, rfl, rfl⟩
  case round =>
    obtain ⟨k, x, hk, rfl, rfl⟩ := hrel
    by_cases hlt : k < n
    · have hck := hc k hlt
      clear hc
      go_wp2
      · go_ret
        exact ⟨rfl, Below.refl _ _⟩
      · go_round
        case rel => exact ⟨k + 1, _, by omega, by go_num, rfl⟩
        case measure => simp [intOf]; omega
    · clear hc
      go_wp2_with fail
      · go_ret
        exact ⟨rfl, Below.refl _ _⟩
      refine (consistent_any w mo mval mhas N hM.out _ n cap E hE.out).mono ?_
      rintro e w' ⟨c, rfl, rfl, hcc⟩
      cases c with
      | false =>
        clear hcc
        go_wp2
        go_ret
        exact ⟨rfl, Below.refl _ _⟩
      | true =>
        clear hcc
        go_wp2
        go_ret
        exact ⟨rfl, Below.refl _ _⟩

set_option maxRecDepth 20000 in
set_option maxHeartbeats 4000000 in
theorem main_small_B (w : World) (mo : Option Nat) (mval : ByteArray → Int) (mhas : ByteArray → Bool) (N : Nat) (hM : Hid (MapIs w mo mval mhas N)) (eo : Option Addr) (n cap : Nat) (E : Nat → ByteArray) (hE : Hid (EntRow w eo n E)) (hn0 : n ≤ 0)
    (bytes : Int) (x0 : Addr) (fn fcap : Nat) (s : ByteArray) (hs : s.size ≤ 1048576) (hn : n ≤ 65536) (hI : (fn : Int) < 1024) :
    Calls Try.prog 6 #[.map mo, .slice eo n cap, .int .i64 bytes, .slice (some x0) fn fcap, .string s] w fun e w' => e = .returned (.bool true) ∧ Below w.heap.size w w' := by
  have qn := ne29
  go_enter Try.func6, Try.ntmps6
  go_wp2
  go_loop [11, 12] (fun t i => ∃ (k : Nat) (x : Int), k ≤ n ∧ i = .int .i64 k ∧ t = .int .i64 x) (fun _ i => n - (intOf i).toNat)
  case atStart => exact ⟨0, _, Nat.zero_le _, rfl, rfl⟩
  case round =>
    obtain ⟨k, x, hk, rfl, rfl⟩ := hrel
    by_cases hlt : k < n
    · exact absurd hlt (by omega)
    · have hkn : n ≤ k := by omega
      go_wp2_with fail
      · go_ret
        exact ⟨rfl, Below.refl _ _⟩
      refine (consistent_any w mo mval mhas N hM.out _ n cap E hE.out).mono ?_
      rintro e w' ⟨c, rfl, rfl, hcc⟩
      cases c with
      | false =>
        clear hcc
        go_wp2
        go_ret
        exact ⟨rfl, Below.refl _ _⟩
      | true =>
        clear hcc
        go_wp2
        go_ret
        exact ⟨rfl, Below.refl _ _⟩

set_option maxRecDepth 20000 in
set_option maxHeartbeats 4000000 in
theorem main_great (w : World) (mv : Value) (eo fo : Option Addr) (n cap fn fcap : Nat) (bytes : Int) (s : ByteArray) (h : 65536 < n ∨ (n ≤ 65536 ∧ 65536 < fn) ∨ (n ≤ 65536 ∧ fn ≤ 65536 ∧ 1048576 < s.size)) :
    Calls Try.prog 6 #[mv, .slice eo n cap, .int .i64 bytes, .slice fo fn fcap, .string s] w fun e w' => e = .returned (.bool true) ∧ Below w.heap.size w w' := by
  rcases h with h | ⟨h, h2⟩ | ⟨h, h2, h3⟩
  all_goals
    go_enter Try.func6, Try.ntmps6
    go_wp2
    go_ret
    exact ⟨rfl, Below.refl _ _⟩

end Go.Proofs.Qxb6603144a
