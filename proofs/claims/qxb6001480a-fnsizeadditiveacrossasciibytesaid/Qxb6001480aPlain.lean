/-
  THE PLAIN LAW OF 'Size': no Go in sight. The decoding of UTF-8 by lists; how it goes over an ASCII byte.
-/
import GoSem.Core.Utf8
namespace Go.Proofs.Qxb6001480a.Plain

/-- The byte at place k of a list, as a number (0 where there is none). -/
def byt (l : List UInt8) (k : Nat) : Nat := (l.getD k 0).toNat
/-- Is there a continuation byte at place k? -/
def cont (l : List UInt8) (k : Nat) : Bool := decide (k < l.length) && (byt l k / 64 == 2)

/-- One step of decoding, at a list's head: the rune and its width. -/
def dec (l : List UInt8) : Nat × Nat :=
  if byt l 0 < 0x80 then (byt l 0, 1)
  else if byt l 0 / 32 == 6 && cont l 1 then
    if (byt l 0 % 32) * 64 + byt l 1 % 64 ≥ 0x80 then ((byt l 0 % 32) * 64 + byt l 1 % 64, 2) else (Utf8.runeError, 1)
  else if byt l 0 / 16 == 14 && cont l 1 && cont l 2 then
    if (byt l 0 % 16) * 4096 + (byt l 1 % 64) * 64 + byt l 2 % 64 ≥ 0x800 && Utf8.valid ((byt l 0 % 16) * 4096 + (byt l 1 % 64) * 64 + byt l 2 % 64 : Nat) then ((byt l 0 % 16) * 4096 + (byt l 1 % 64) * 64 + byt l 2 % 64, 3) else (Utf8.runeError, 1)
  else if byt l 0 / 8 == 30 && cont l 1 && cont l 2 && cont l 3 then
    if (byt l 0 % 8) * 262144 + (byt l 1 % 64) * 4096 + (byt l 2 % 64) * 64 + byt l 3 % 64 ≥ 0x10000 && Utf8.valid ((byt l 0 % 8) * 262144 + (byt l 1 % 64) * 4096 + (byt l 2 % 64) * 64 + byt l 3 % 64 : Nat) then ((byt l 0 % 8) * 262144 + (byt l 1 % 64) * 4096 + (byt l 2 % 64) * 64 + byt l 3 % 64, 4) else (Utf8.runeError, 1)
  else (Utf8.runeError, 1)

theorem get_drop (s : ByteArray) (i k : Nat) : (s.get! (i + k)).toNat = byt (s.data.toList.drop i) k := by
  unfold byt
  rw [List.getD_eq_getElem?_getD, List.getElem?_drop, Array.getElem?_toList]
  show (s.data[i + k]!).toNat = _
  rw [getElem!_def]
  cases s.data[i + k]? <;> rfl

theorem cont_drop (s : ByteArray) (i k : Nat) : (decide (i + k < s.size) && byt (s.data.toList.drop i) k / 64 == 2) = cont (s.data.toList.drop i) k := by
  unfold cont
  have e : (i + k < s.size) ↔ (k < (s.data.toList.drop i).length) := by
    rw [List.length_drop, Array.length_toList]
    show _ ↔ k < s.size - i
    omega
  rw [decide_eq_decide.2 e]

theorem decode_eq (s : ByteArray) (i : Nat) : Utf8.decode s i = dec (s.data.toList.drop i) := by
  unfold Utf8.decode dec
  simp only [get_drop, cont_drop]

/-- Is the rune counted? -/
def counts (r : Nat) : Bool := !(r == 32 || r == 9 || r == 10 || r == 13)

/-- The size of a list of bytes, by fuel. -/
def szF : Nat → List UInt8 → Nat
  | 0, _ => 0
  | _ + 1, [] => 0
  | n + 1, x :: l => (if counts (dec (x :: l)).1 then 1 else 0) + szF n ((x :: l).drop (dec (x :: l)).2)

def sz (l : List UInt8) : Nat := szF l.length l

theorem dec_width (l : List UInt8) : 1 ≤ (dec l).2 := by
  unfold dec
  repeat' split
  all_goals (simp only; omega)

theorem szF_le (n : Nat) (l : List UInt8) (h : l.length ≤ n) : szF n l = sz l := by
  induction n using Nat.strongRecOn generalizing l with
  | _ n ih =>
    cases n with
    | zero =>
      have : l = [] := List.eq_nil_of_length_eq_zero (by omega)
      subst this; rfl
    | succ n =>
      cases l with
      | nil => rfl
      | cons x l =>
        have hw := dec_width (x :: l)
        have hl : ((x :: l).drop (dec (x :: l)).2).length ≤ l.length := by
          rw [List.length_drop]; simp only [List.length_cons]; omega
        simp only [List.length_cons] at h
        unfold sz
        simp only [List.length_cons, szF]
        rw [ih n (by omega) _ (by omega)]
        by_cases hn : l.length < n + 1
        · rw [ih l.length hn _ hl]
        · omega

theorem sz_nil : sz [] = 0 := rfl
theorem sz_cons (x : UInt8) (l : List UInt8) : sz (x :: l) = (if counts (dec (x :: l)).1 then 1 else 0) + sz ((x :: l).drop (dec (x :: l)).2) := by
  have hw := dec_width (x :: l)
  show szF (l.length + 1) (x :: l) = _
  simp only [szF]
  rw [szF_le l.length]
  rw [List.length_drop]; simp only [List.length_cons]; omega

theorem byt_append (l r : List UInt8) (k : Nat) (h : k < l.length) : byt (l ++ r) k = byt l k := by
  unfold byt
  rw [List.getD_eq_getElem?_getD, List.getD_eq_getElem?_getD, List.getElem?_append_left h]

theorem cont_append (l : List UInt8) (c : UInt8) (r : List UInt8) (hc : c.toNat / 64 ≠ 2) (k : Nat) (h : k ≤ l.length) : cont (l ++ c :: r) k = cont l k := by
  unfold cont
  by_cases hk : k < l.length
  · rw [byt_append l _ k hk]
    have : k < (l ++ c :: r).length := by simp; omega
    simp only [hk, this]
  · have e : k = l.length := by omega
    subst e
    have : byt (l ++ c :: r) l.length = c.toNat := by unfold byt; simp
    rw [this]
    have h2 : (c.toNat / 64 == 2) = false := by simpa using hc
    rw [h2]
    simp

theorem cont_lt (l : List UInt8) (k : Nat) (h : cont l k = true) : k < l.length := by
  unfold cont at h
  simp at h
  exact h.1

/-- What stands behind a byte that is no continuation byte does not bear on the rune ahead of it. -/
theorem dec_append (l : List UInt8) (c : UInt8) (r : List UInt8) (hc : c.toNat / 64 ≠ 2) (hl : l ≠ []) : dec (l ++ c :: r) = dec l ∧ (dec l).2 ≤ l.length := by
  have h0 : 0 < l.length := List.length_pos_iff.2 hl
  have b0 := byt_append l (c :: r) 0 h0
  have c1 := cont_append l c r hc 1 (by omega)
  have e2 : ∀ (p : Bool), (p && cont (l ++ c :: r) 1 && cont (l ++ c :: r) 2) = (p && cont l 1 && cont l 2) := by
    intro p
    rw [c1]
    cases h1 : cont l 1 with
    | false => simp
    | true => rw [cont_append l c r hc 2 (by have := cont_lt l 1 h1; omega)]
  have e3 : ∀ (p : Bool), (p && cont (l ++ c :: r) 1 && cont (l ++ c :: r) 2 && cont (l ++ c :: r) 3) = (p && cont l 1 && cont l 2 && cont l 3) := by
    intro p
    rw [e2]
    cases h2 : (p && cont l 1 && cont l 2) with
    | false => simp
    | true =>
      simp only [Bool.and_eq_true] at h2
      rw [cont_append l c r hc 3 (by have := cont_lt l 2 h2.2; omega)]
  unfold dec
  rw [b0, e2, e3, c1]
  refine ⟨?_, ?_⟩
  · split
    · rfl
    · split
      · rename_i h1
        simp only [Bool.and_eq_true] at h1
        have l1 := cont_lt l 1 h1.2
        rw [byt_append l _ 1 l1]
      · split
        · rename_i h1
          simp only [Bool.and_eq_true] at h1
          have l1 := cont_lt l 2 h1.2
          rw [byt_append l _ 1 (by omega), byt_append l _ 2 l1]
        · split
          · rename_i h1
            simp only [Bool.and_eq_true] at h1
            have l1 := cont_lt l 3 h1.2
            rw [byt_append l _ 1 (by omega), byt_append l _ 2 (by omega), byt_append l _ 3 l1]
          · rfl
  · split
    · exact h0
    · split
      · rename_i h1
        simp only [Bool.and_eq_true] at h1
        have l1 := cont_lt l 1 h1.2
        split <;> simp only <;> omega
      · split
        · rename_i h1
          simp only [Bool.and_eq_true] at h1
          have l1 := cont_lt l 2 h1.2
          split <;> simp only <;> omega
        · split
          · rename_i h1
            simp only [Bool.and_eq_true] at h1
            have l1 := cont_lt l 3 h1.2
            split <;> simp only <;> omega
          · exact h0

theorem sz_append (n : Nat) (a : List UInt8) (c : UInt8) (r : List UInt8) (hc : c.toNat / 64 ≠ 2) (ha : a.length ≤ n) : sz (a ++ c :: r) = sz a + sz (c :: r) := by
  induction n generalizing a with
  | zero =>
    have : a = [] := List.eq_nil_of_length_eq_zero (by omega)
    subst this
    simp [sz_nil]
  | succ n ih =>
    cases a with
    | nil => simp [sz_nil]
    | cons x a =>
      obtain ⟨e, hw⟩ := dec_append (x :: a) c r hc (by simp)
      have hw1 := dec_width (x :: a)
      rw [List.cons_append, sz_cons, ← List.cons_append, e, sz_cons x a]
      rw [List.drop_append_of_le_length hw]
      rw [ih]
      · omega
      · rw [List.length_drop]; simp only [List.length_cons] at ha ⊢; omega

theorem dec_ascii (c : UInt8) (r : List UInt8) (h : c.toNat < 128) : dec (c :: r) = (c.toNat, 1) := by
  unfold dec
  have : byt (c :: r) 0 = c.toNat := rfl
  rw [this, if_pos h]

theorem sz_ascii (c : UInt8) (r : List UInt8) (h : c.toNat < 128) : sz (c :: r) = (if counts c.toNat then 1 else 0) + sz r := by
  rw [sz_cons, dec_ascii c r h]
  rfl

theorem dec_nbsp (r : List UInt8) : dec (194 :: 160 :: r) = (160, 2) := by
  unfold dec
  have h0 : byt (194 :: 160 :: r) 0 = 194 := rfl
  have h1 : byt (194 :: 160 :: r) 1 = 160 := rfl
  have hc : cont (194 :: 160 :: r) 1 = true := by
    unfold cont; rw [h1]; simp
  rw [h0, h1, hc]
  rfl

theorem sz_nbsp (r : List UInt8) : sz (194 :: 160 :: r) = 1 + sz r := by
  rw [sz_cons, dec_nbsp]
  rfl

theorem sz_mid (a b : List UInt8) (c : UInt8) (h : c.toNat < 128) : sz (a ++ [c] ++ b) = sz a + (if counts c.toNat then 1 else 0) + sz b := by
  rw [List.append_assoc, List.singleton_append, sz_append a.length a c b (by omega) (Nat.le_refl _), sz_ascii c b h]
  omega

theorem sz_mid2 (a b : List UInt8) : sz (a ++ [194, 160] ++ b) = sz a + 1 + sz b := by
  rw [List.append_assoc]
  show sz (a ++ 194 :: (160 :: b)) = _
  rw [sz_append a.length a 194 (160 :: b) (by decide) (Nat.le_refl _), sz_nbsp]
  omega

theorem sz_le (n : Nat) (l : List UInt8) (h : l.length ≤ n) : sz l ≤ l.length := by
  induction n generalizing l with
  | zero =>
    have : l = [] := List.eq_nil_of_length_eq_zero (by omega)
    subst this; exact Nat.le_refl _
  | succ n ih =>
    cases l with
    | nil => exact Nat.le_refl _
    | cons x l =>
      have hw := dec_width (x :: l)
      rw [sz_cons]
      have := ih ((x :: l).drop (dec (x :: l)).2) (by rw [List.length_drop]; simp only [List.length_cons] at h ⊢; omega)
      rw [List.length_drop] at this
      simp only [List.length_cons] at this ⊢
      split <;> omega

end Go.Proofs.Qxb6001480a.Plain
