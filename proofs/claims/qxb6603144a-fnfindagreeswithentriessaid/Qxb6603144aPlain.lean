/-
  THE PLAIN LAWS OF SEAT b6603144a: no Go in sight. 'bt s i': the i-th byte of s as an integer.
-/
namespace Go.Proofs.Qxb6603144a

def bt (s : ByteArray) (i : Nat) : Int := ((s.data.toList.getD i 0).toNat : Int)
theorem bt_get (s : ByteArray) (i : Nat) (h : i < s.size) : ((s[i]'h).toNat : Int) = bt s i := by
  unfold bt
  rw [List.getD_eq_getElem?_getD, List.getElem?_eq_getElem (by simpa using h)]; rfl
theorem bt_lo (s : ByteArray) (i : Nat) : 0 ≤ bt s i := Int.natCast_nonneg _
theorem bt_hi (s : ByteArray) (i : Nat) : bt s i < 256 := by
  have := (s.data.toList.getD i 0).toNat_lt
  unfold bt; omega
theorem bytes_ext {a b : ByteArray} (hs : a.size = b.size) (h : ∀ i, i < a.size → bt a i = bt b i) : a = b := by
  have hl : a.data.toList = b.data.toList := by
    apply List.ext_getElem (by simpa using hs)
    intro i h1 h2
    have e := h i (by simpa using h1)
    unfold bt at e
    rw [List.getD_eq_getElem?_getD, List.getD_eq_getElem?_getD, List.getElem?_eq_getElem h1, List.getElem?_eq_getElem h2] at e
    simp only [Option.getD_some] at e
    exact UInt8.toNat_inj.1 (by omega)
  obtain ⟨⟨la⟩⟩ := a
  obtain ⟨⟨lb⟩⟩ := b
  simp only at hl
  rw [hl]

/-- The first eight bytes, the least first. -/
def wordI (s : ByteArray) : Int := bt s 0 + bt s 1 * 256 + bt s 2 * 65536 + bt s 3 * 16777216 + bt s 4 * 4294967296 + bt s 5 * 1099511627776 + bt s 6 * 281474976710656 + bt s 7 * 72057594037927936
/-- The first four bytes, the least first. -/
def quarterI (s : ByteArray) : Int := bt s 0 + bt s 1 * 256 + bt s 2 * 65536 + bt s 3 * 16777216
theorem digit {x y X Y : Int} (h : x + 256 * X = y + 256 * Y) (x0 : 0 ≤ x) (x1 : x < 256) (y0 : 0 ≤ y) (y1 : y < 256) : x = y ∧ X = Y := by omega
theorem digit_bt {a b : ByteArray} {i : Nat} {X Y : Int} (h : bt a i + 256 * X = bt b i + 256 * Y) : bt a i = bt b i ∧ X = Y :=
  digit h (bt_lo a i) (bt_hi a i) (bt_lo b i) (bt_hi b i)
theorem quarterI_horner (s : ByteArray) : quarterI s = bt s 0 + 256 * (bt s 1 + 256 * (bt s 2 + 256 * (bt s 3 + 256 * 0))) := by unfold quarterI; omega
theorem wordI_horner (s : ByteArray) : wordI s = bt s 0 + 256 * (bt s 1 + 256 * (bt s 2 + 256 * (bt s 3 + 256 * (bt s 4 + 256 * (bt s 5 + 256 * (bt s 6 + 256 * (bt s 7 + 256 * 0))))))) := by unfold wordI; omega
theorem quarterI_inj {a b : ByteArray} (h : quarterI a = quarterI b) (i : Nat) (hi : i < 4) : bt a i = bt b i := by
  rw [quarterI_horner, quarterI_horner] at h
  obtain ⟨h0, h⟩ := digit_bt h
  obtain ⟨h1, h⟩ := digit_bt h
  obtain ⟨h2, h⟩ := digit_bt h
  obtain ⟨h3, _⟩ := digit_bt h
  rcases (show i = 0 ∨ i = 1 ∨ i = 2 ∨ i = 3 by omega) with rfl | rfl | rfl | rfl <;> assumption
theorem wordI_inj {a b : ByteArray} (h : wordI a = wordI b) (i : Nat) (hi : i < 8) : bt a i = bt b i := by
  rw [wordI_horner, wordI_horner] at h
  obtain ⟨h0, h⟩ := digit_bt h
  obtain ⟨h1, h⟩ := digit_bt h
  obtain ⟨h2, h⟩ := digit_bt h
  obtain ⟨h3, h⟩ := digit_bt h
  obtain ⟨h4, h⟩ := digit_bt h
  obtain ⟨h5, h⟩ := digit_bt h
  obtain ⟨h6, h⟩ := digit_bt h
  obtain ⟨h7, _⟩ := digit_bt h
  rcases (show i = 0 ∨ i = 1 ∨ i = 2 ∨ i = 3 ∨ i = 4 ∨ i = 5 ∨ i = 6 ∨ i = 7 by omega) with rfl | rfl | rfl | rfl | rfl | rfl | rfl | rfl <;> assumption
theorem wordI_lo (s : ByteArray) : 0 ≤ wordI s := by
  unfold wordI
  have a0 := bt_lo s 0; have a1 := bt_lo s 1; have a2 := bt_lo s 2; have a3 := bt_lo s 3; have a4 := bt_lo s 4; have a5 := bt_lo s 5; have a6 := bt_lo s 6; have a7 := bt_lo s 7
  omega
theorem wordI_hi (s : ByteArray) : wordI s < 18446744073709551616 := by
  unfold wordI
  have a0 := bt_hi s 0; have a1 := bt_hi s 1; have a2 := bt_hi s 2; have a3 := bt_hi s 3; have a4 := bt_hi s 4; have a5 := bt_hi s 5; have a6 := bt_hi s 6; have a7 := bt_hi s 7
  omega

/-! ### Cuts -/
theorem bt_extract (s : ByteArray) (k i : Nat) (h : k + i < s.size) : bt (s.extract k s.size) i = bt s (k + i) := by
  have h2 : i < (s.extract k s.size).size := by rw [ByteArray.size_extract]; omega
  rw [← bt_get _ _ h2, ← bt_get _ _ h, ByteArray.getElem_extract]

/-! ### sameKey's answers, length by length -/
def sameB (a b : ByteArray) : Bool := decide (a.data.toList = b.data.toList)
theorem sameB_iff (a b : ByteArray) : sameB a b = true ↔ a = b := by
  unfold sameB
  rw [decide_eq_true_eq]
  constructor
  · intro h
    obtain ⟨⟨la⟩⟩ := a
    obtain ⟨⟨lb⟩⟩ := b
    simp only at h
    rw [h]
  · intro h; rw [h]
theorem sameB_false {a b : ByteArray} (h : ¬ a = b) : sameB a b = false := by
  cases e : sameB a b with
  | false => rfl
  | true => exact absurd ((sameB_iff a b).1 e) h

theorem same8 (a b : ByteArray) (hs : a.size = b.size) (h8 : 8 ≤ a.size) (h16 : a.size ≤ 16) (hw : wordI a = wordI b)
    (ht : wordI (a.extract (a.size - 8) a.size) = wordI (b.extract (b.size - 8) b.size)) : a = b := by
  apply bytes_ext hs
  intro i hi
  by_cases h : i < 8
  · exact wordI_inj hw i h
  · have e := wordI_inj ht (i - (a.size - 8)) (by omega)
    rw [bt_extract _ _ _ (by omega), bt_extract _ _ _ (by omega)] at e
    rw [show a.size - 8 + (i - (a.size - 8)) = i by omega, show b.size - 8 + (i - (a.size - 8)) = i by omega] at e
    exact e
theorem same4 (a b : ByteArray) (hs : a.size = b.size) (h4 : 4 ≤ a.size) (h8 : a.size < 8) (hw : quarterI a = quarterI b)
    (ht : quarterI (a.extract (a.size - 4) a.size) = quarterI (b.extract (b.size - 4) b.size)) : a = b := by
  apply bytes_ext hs
  intro i hi
  by_cases h : i < 4
  · exact quarterI_inj hw i h
  · have e := quarterI_inj ht (i - (a.size - 4)) (by omega)
    rw [bt_extract _ _ _ (by omega), bt_extract _ _ _ (by omega)] at e
    rw [show a.size - 4 + (i - (a.size - 4)) = i by omega, show b.size - 4 + (i - (a.size - 4)) = i by omega] at e
    exact e
theorem same1 (a b : ByteArray) (hs : a.size = b.size) (h1 : 1 ≤ a.size) (h4 : a.size < 4) (e0 : bt a 0 = bt b 0) (em : bt a (a.size / 2) = bt b (a.size / 2)) (el : bt a (a.size - 1) = bt b (a.size - 1)) : a = b := by
  apply bytes_ext hs
  intro i hi
  rcases (show i = 0 ∨ i = a.size / 2 ∨ i = a.size - 1 by omega) with rfl | rfl | rfl
  · exact e0
  · exact em
  · exact el

theorem beq_int_of {x y : Int} {p : Prop} (hyes : x = y → p) (hno : p → x = y) {c : Bool} (hc : c = true ↔ p) : (x == y) = c := by
  by_cases h : x = y
  · rw [hc.2 (hyes h)]; simp [h]
  · have : ¬ c = true := fun e => h (hno (hc.1 e))
    simp only [Bool.not_eq_true] at this
    rw [this]; simp [h]
theorem eq8 (a b : ByteArray) (h1 : a.size ≤ b.size) (h2 : b.size ≤ a.size) (h8 : 8 ≤ a.size) (h16 : a.size ≤ 16) (hw : (wordI a == wordI b) = true) :
    (wordI (a.extract (a.size - 8) a.size) == wordI (b.extract (a.size - 8) b.size)) = sameB a b := by
  have hs : a.size = b.size := by omega
  refine beq_int_of (p := a = b) (fun h => ?_) (fun h => by rw [h]) (sameB_iff a b)
  exact same8 a b hs h8 h16 (by simpa using hw) (by rw [show b.size - 8 = a.size - 8 by omega]; exact h)
theorem no8 (a b : ByteArray) (hw : (wordI a == wordI b) = false) : false = sameB a b := by
  refine (sameB_false fun h => ?_).symm
  rw [h] at hw; simp at hw
theorem eq4 (a b : ByteArray) (h1 : a.size ≤ b.size) (h2 : b.size ≤ a.size) (h4 : 4 ≤ a.size) (h8 : a.size < 8) (hw : (quarterI a == quarterI b) = true) :
    (quarterI (a.extract (a.size - 4) a.size) == quarterI (b.extract (a.size - 4) b.size)) = sameB a b := by
  have hs : a.size = b.size := by omega
  refine beq_int_of (p := a = b) (fun h => ?_) (fun h => by rw [h]) (sameB_iff a b)
  exact same4 a b hs h4 h8 (by simpa using hw) (by rw [show b.size - 4 = a.size - 4 by omega]; exact h)
theorem no4 (a b : ByteArray) (hw : (quarterI a == quarterI b) = false) : false = sameB a b := by
  refine (sameB_false fun h => ?_).symm
  rw [h] at hw; simp at hw

theorem eq_last (a b : ByteArray) (n : Nat) (h1 : a.size = n + 1) (h2 : b.size = n + 1) (hp : ∀ i, i < n → bt a i = bt b i) : (bt a n == bt b n) = sameB a b := by
  refine beq_int_of (p := a = b) (fun h => ?_) (fun h => by rw [h]) (sameB_iff a b)
  refine bytes_ext (by omega) fun i hi => ?_
  by_cases e : i = n
  · rw [e]; exact h
  · exact hp i (by omega)
theorem ne_at (a b : ByteArray) (i : Nat) (hw : (bt a i == bt b i) = false) : false = sameB a b := by
  refine (sameB_false fun h => ?_).symm
  rw [h] at hw; simp at hw
theorem below1 {a b : ByteArray} (h0 : (bt a 0 == bt b 0) = true) : ∀ i, i < 1 → bt a i = bt b i := by
  intro i hi
  rw [show i = 0 by omega]; simpa using h0
theorem below2 {a b : ByteArray} (h0 : (bt a 0 == bt b 0) = true) (h1 : (bt a 1 == bt b 1) = true) : ∀ i, i < 2 → bt a i = bt b i := by
  intro i hi
  rcases (show i = 0 ∨ i = 1 by omega) with rfl | rfl
  · simpa using h0
  · simpa using h1

end Go.Proofs.Qxb6603144a
