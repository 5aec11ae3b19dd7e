/-
  THE PLAIN LAWS OF SEAT b6602532a: no Go in sight. Bytes as integers; 'allB p l': every byte of l meets p.
-/
namespace Go.Proofs.Qxb6602532a

/-- validHeaderName's byte. -/
def hdrB (c : Int) : Bool := decide ((97 ≤ c ∧ c ≤ 122) ∨ (65 ≤ c ∧ c ≤ 90) ∨ (48 ≤ c ∧ c ≤ 57) ∨ c = 33 ∨ c = 35 ∨ c = 36 ∨ c = 37 ∨ c = 38 ∨ c = 39 ∨ c = 42 ∨ c = 43 ∨ c = 45 ∨ c = 46 ∨ c = 94 ∨ c = 95 ∨ c = 96 ∨ c = 124 ∨ c = 126)
/-- ValidName's byte. -/
def namB (c : Int) : Bool := decide ((97 ≤ c ∧ c ≤ 122) ∨ (65 ≤ c ∧ c ≤ 90) ∨ (48 ≤ c ∧ c ≤ 57) ∨ c = 45 ∨ c = 95 ∨ c = 46 ∨ c = 58 ∨ c = 64)
/-- validHeaderValue's byte. -/
def valB (c : Int) : Bool := decide (¬ ((c < 32 ∧ ¬ c = 9) ∨ c = 127))
/-- neither ':' nor '@'. -/
def plnB (c : Int) : Bool := decide (¬ c = 58 ∧ ¬ c = 64)

def allB (p : Int → Bool) (l : List UInt8) : Bool := l.all fun c => p (c.toNat : Int)

theorem take_snoc (s : ByteArray) (k : Nat) (h : k < s.size) : s.data.toList.take (k + 1) = s.data.toList.take k ++ [s[k]] := by
  rw [List.take_succ_eq_append_getElem (by simpa using h)]; rfl
theorem take_all (s : ByteArray) (k : Nat) (h : s.size ≤ k) : s.data.toList.take k = s.data.toList :=
  List.take_of_length_le (by simpa using h)
theorem allB_zero (p : Int → Bool) (s : ByteArray) : allB p (s.data.toList.take 0) = true := by simp [allB]
theorem allB_succ (p : Int → Bool) (s : ByteArray) (k : Nat) (h : k < s.size) :
    allB p (s.data.toList.take (k + 1)) = (allB p (s.data.toList.take k) && p (s[k].toNat : Int)) := by
  rw [take_snoc s k h]; simp [allB]
theorem allB_step (p : Int → Bool) (s : ByteArray) (k : Nat) (h : k < s.size) (ha : allB p (s.data.toList.take k) = true) (hp : p (s[k].toNat : Int) = true) :
    allB p (s.data.toList.take (k + 1)) = true := by
  rw [allB_succ p s k h, ha, hp]; rfl
theorem allB_stop (p : Int → Bool) (s : ByteArray) (k : Nat) (h : k < s.size) (hp : p (s[k].toNat : Int) = false) : allB p s.data.toList = false := by
  unfold allB
  rw [List.all_eq_false]
  exact ⟨s[k], Array.getElem_mem_toList _, by simp [hp]⟩
theorem allB_end (p : Int → Bool) (s : ByteArray) (k : Nat) (h : s.size ≤ k) (ha : allB p (s.data.toList.take k) = true) : allB p s.data.toList = true := by
  rw [take_all s k h] at ha; exact ha
theorem allB_nil (p : Int → Bool) (s : ByteArray) (h : s.size = 0) : allB p s.data.toList = true := by
  have : s.data.toList = [] := by
    apply List.eq_nil_of_length_eq_zero; simpa using h
  rw [this]; rfl
/-- One test implies another: so do the two over all bytes. -/
theorem allB_mono {p q : Int → Bool} (h : ∀ c : Int, 0 ≤ c → c ≤ 255 → p c = true → q c = true) (l : List UInt8) (ha : allB p l = true) : allB q l = true := by
  unfold allB at *
  rw [List.all_eq_true] at *
  intro c hc
  have hb := c.toNat_lt
  exact h _ (by omega) (by omega) (ha c hc)
theorem allB_both {p q r : Int → Bool} (h : ∀ c : Int, 0 ≤ c → c ≤ 255 → p c = true → q c = true → r c = true) (l : List UInt8) (ha : allB p l = true) (hb : allB q l = true) : allB r l = true := by
  unfold allB at *
  rw [List.all_eq_true] at *
  intro c hc
  have hl := c.toNat_lt
  exact h _ (by omega) (by omega) (ha c hc) (hb c hc)

theorem hdr_val (c : Int) (h0 : 0 ≤ c) (h1 : c ≤ 255) (h : hdrB c = true) : valB c = true := by
  simp only [hdrB, valB, decide_eq_true_eq] at *; omega
theorem nam_val (c : Int) (h0 : 0 ≤ c) (h1 : c ≤ 255) (h : namB c = true) : valB c = true := by
  simp only [namB, valB, decide_eq_true_eq] at *; omega
theorem nam_hdr (c : Int) (h0 : 0 ≤ c) (h1 : c ≤ 255) (h : namB c = true) (hp : plnB c = true) : hdrB c = true := by
  simp only [namB, plnB, hdrB, decide_eq_true_eq] at *; omega

/-! ### What the laws' own loops gather: 'b and every one of the first k bytes meets p' -/
def wantN (b : Bool) (p : Int → Bool) (s : ByteArray) (k : Nat) : Bool := b && allB p (s.data.toList.take k)
theorem wantN_zero (b : Bool) (p : Int → Bool) (s : ByteArray) : wantN b p s 0 = b := by rw [wantN, allB_zero, Bool.and_true]
theorem wantN_no (b : Bool) (p : Int → Bool) (s : ByteArray) (k : Nat) (h : k < s.size) (hp : p (s[k].toNat : Int) = false) : wantN b p s (k + 1) = false := by
  simp [wantN, allB_succ p s k h, hp]
theorem wantN_yes (b : Bool) (p : Int → Bool) (s : ByteArray) (k : Nat) (h : k < s.size) (hp : p (s[k].toNat : Int) = true) : wantN b p s (k + 1) = wantN b p s k := by
  simp [wantN, allB_succ p s k h, hp]
theorem wantN_end (b : Bool) (p : Int → Bool) (s : ByteArray) (k : Nat) (h : s.size ≤ k) : wantN b p s k = (b && allB p s.data.toList) := by
  rw [wantN, take_all s k h]
theorem byte_le (b : UInt8) : (b.toNat : Int) ≤ 255 := by have := b.toNat_lt; omega

end Go.Proofs.Qxb6602532a
