/-
  THE PLAIN LAW: the list rule by splitting, and by scanning for a member's start, are one. No Go in sight.
-/
import Derived.Lib.IndexLaws
set_option linter.unusedSimpArgs false
set_option linter.unnecessarySimpa false
namespace Go.Proofs.Qxb6003347a.Plain

/-- A space or a tab. -/
def sp (c : UInt8) : Bool := c == 32 || c == 9
def trimR (l : List UInt8) : List UInt8 := (l.reverse.dropWhile sp).reverse
def trimL (l : List UInt8) : List UInt8 := l.dropWhile sp
def trim (l : List UInt8) : List UInt8 := trimR (trimL l)

/-- The parts between commas. -/
def segs : List UInt8 → List (List UInt8)
  | [] => [[]]
  | c :: l => if c = 44 then [] :: segs l else match segs l with | [] => [[c]] | s :: r => (c :: s) :: r

/-- What one part gives. -/
def one (P seg : List UInt8) : List (List UInt8) := if (trim seg).isEmpty || !P.isPrefixOf (trim seg) then [] else [(trim seg).drop P.length]
def lm (P l : List UInt8) : List (List UInt8) := (segs l).flatMap (one P)
def LM (P : List UInt8) (fs : List (List UInt8)) : List (List UInt8) := fs.flatMap (lm P)

theorem trimR_nil : trimR [] = [] := rfl
theorem trimR_snoc_sp (l : List UInt8) (c : UInt8) (h : sp c = true) : trimR (l ++ [c]) = trimR l := by
  unfold trimR; simp [List.dropWhile_cons, h]
theorem trimR_snoc (l : List UInt8) (c : UInt8) (h : sp c = false) : trimR (l ++ [c]) = l ++ [c] := by
  unfold trimR; simp [List.dropWhile_cons, h]

theorem snoc_cases (l : List UInt8) : l = [] ∨ ∃ l' c, l = l' ++ [c] := by
  cases h : l.reverse with
  | nil => left; simpa using h
  | cons c r => right; exact ⟨r.reverse, c, by have := congrArg List.reverse h; simpa using this⟩

theorem snoc_rec (p : List UInt8 → Prop) (h0 : p []) (h1 : ∀ l c, p l → p (l ++ [c])) (l : List UInt8) : p l := by
  have : ∀ n (l : List UInt8), l.length = n → p l := by
    intro n
    induction n with
    | zero => intro l hl; rw [List.eq_nil_of_length_eq_zero hl]; exact h0
    | succ n ih =>
      intro l hl
      rcases snoc_cases l with rfl | ⟨l', c, rfl⟩
      · simp at hl
      · exact h1 l' c (ih l' (by simpa using hl))
  exact this _ l rfl

theorem trimR_append (p q : List UInt8) (hp : ∀ x ∈ p, sp x = false) : trimR (p ++ q) = p ++ trimR q := by
  refine snoc_rec (fun q => trimR (p ++ q) = p ++ trimR q) ?_ ?_ q
  · rw [List.append_nil, trimR_nil, List.append_nil]
    rcases snoc_cases p with rfl | ⟨p', c, rfl⟩
    · rfl
    · exact trimR_snoc p' c (hp c (by simp))
  · intro q c ih
    rw [← List.append_assoc]
    cases h : sp c with
    | true => rw [trimR_snoc_sp _ _ h, trimR_snoc_sp _ _ h, ih]
    | false => rw [trimR_snoc _ _ h, trimR_snoc _ _ h, List.append_assoc]

theorem trimR_prefix (l : List UInt8) : trimR l <+: l := by
  refine snoc_rec (fun l => trimR l <+: l) ?_ ?_ l
  · exact List.prefix_rfl
  · intro l c ih
    cases h : sp c with
    | true => rw [trimR_snoc_sp _ _ h]; exact ih.trans (List.prefix_append _ _)
    | false => rw [trimR_snoc _ _ h]; exact List.prefix_rfl

theorem trimR_le (l : List UInt8) : (trimR l).length ≤ l.length := (trimR_prefix l).length_le

theorem segs_ne (l : List UInt8) : segs l ≠ [] := by
  cases l with
  | nil => simp [segs]
  | cons c l =>
    unfold segs
    split
    · simp
    · split <;> simp

theorem segs_form (l : List UInt8) : ∃ s r, segs l = s :: r := by
  cases h : segs l with
  | nil => exact absurd h (segs_ne l)
  | cons s r => exact ⟨s, r, rfl⟩

theorem segs_comma (l : List UInt8) : segs (44 :: l) = [] :: segs l := by simp [segs]
theorem segs_cons (c : UInt8) (l s : List UInt8) (r : List (List UInt8)) (hc : c ≠ 44) (h : segs l = s :: r) : segs (c :: l) = (c :: s) :: r := by
  simp [segs, hc, h]

theorem segs_seg (seg : List UInt8) (h : ∀ x ∈ seg, x ≠ 44) : segs seg = [seg] := by
  induction seg with
  | nil => rfl
  | cons c l ih => exact segs_cons c l l [] (h c (by simp)) (ih fun x hx => h x (by simp [hx]))

theorem segs_seg_comma (seg r : List UInt8) (h : ∀ x ∈ seg, x ≠ 44) : segs (seg ++ 44 :: r) = seg :: segs r := by
  induction seg with
  | nil => exact segs_comma r
  | cons c l ih => exact segs_cons c _ l _ (h c (by simp)) (ih fun x hx => h x (by simp [hx]))

theorem one_nil (P : List UInt8) : one P [] = [] := by unfold one trim trimL trimR; simp
theorem lm_nil (P : List UInt8) : lm P [] = [] := by unfold lm segs; simp [one_nil]
theorem lm_comma (P l : List UInt8) : lm P (44 :: l) = lm P l := by unfold lm; rw [segs_comma]; simp [one_nil]
theorem lm_seg (P seg : List UInt8) (h : ∀ x ∈ seg, x ≠ 44) : lm P seg = one P seg := by unfold lm; rw [segs_seg seg h]; simp
theorem lm_seg_comma (P seg r : List UInt8) (h : ∀ x ∈ seg, x ≠ 44) : lm P (seg ++ 44 :: r) = one P seg ++ lm P r := by unfold lm; rw [segs_seg_comma seg r h]; simp

theorem sp_ne (c : UInt8) (h : sp c = true) : c ≠ 44 := by
  intro e; subst e; revert h; decide

theorem lm_sp (P : List UInt8) (c : UInt8) (l : List UInt8) (h : sp c = true) : lm P (c :: l) = lm P l := by
  obtain ⟨s, r, e⟩ := segs_form l
  unfold lm
  rw [segs_cons c l s r (sp_ne c h) e, e]
  have : one P (c :: s) = one P s := by unfold one trim trimL; simp [List.dropWhile_cons, h]
  simp [this]

/-- What stands behind the first comma. -/
def tl (P l : List UInt8) : List (List UInt8) := (segs l).tail.flatMap (one P)
theorem tl_nil (P : List UInt8) : tl P [] = [] := by simp [tl, segs]
theorem tl_comma (P l : List UInt8) : tl P (44 :: l) = lm P l := by unfold tl lm; rw [segs_comma]; rfl
theorem tl_cons (P : List UInt8) (c : UInt8) (l : List UInt8) (h : c ≠ 44) : tl P (c :: l) = tl P l := by
  obtain ⟨s, r, e⟩ := segs_form l
  unfold tl
  rw [segs_cons c l s r h e, e]; rfl

theorem isPrefixOf_iff (P l : List UInt8) : P.isPrefixOf l = true ↔ P <+: l := List.isPrefixOf_iff_prefix

theorem takeWhile_ne (l : List UInt8) : ∀ x ∈ l.takeWhile (· != 44), x ≠ 44 := by
  induction l with
  | nil => intro x hx; simp at hx
  | cons c l ih =>
    intro x hx
    rw [List.takeWhile_cons] at hx
    split at hx
    · rename_i hc
      rcases List.mem_cons.1 hx with rfl | h
      · simpa using hc
      · exact ih x h
    · simp at hx

theorem dropWhile_form (l : List UInt8) : l.dropWhile (· != 44) = [] ∨ ∃ r, l.dropWhile (· != 44) = 44 :: r := by
  induction l with
  | nil => left; rfl
  | cons c l ih =>
    rw [List.dropWhile_cons]
    by_cases hc : c = 44
    · subst hc; right; exact ⟨l, by simp⟩
    · rw [if_pos (by simpa using hc)]; exact ih

/-- The prefix may hold no comma, space or tab. -/
def Clean (P : List UInt8) : Prop := ∀ x ∈ P, x ≠ 44 ∧ sp x = false

theorem prefix_seg (P s r : List UInt8) (hP : Clean P) (hr : r = [] ∨ ∃ r', r = 44 :: r') (h : P <+: s ++ r) : P <+: s := by
  induction P generalizing s with
  | nil => exact List.nil_prefix
  | cons c P ih =>
    cases s with
    | nil =>
      rcases hr with rfl | ⟨r', rfl⟩
      · simpa using h
      · rw [List.nil_append, List.cons_prefix_cons] at h
        exact absurd h.1 (hP c (by simp)).1
    | cons d s =>
      rw [List.cons_append, List.cons_prefix_cons] at h
      rw [List.cons_prefix_cons]
      exact ⟨h.1, ih s (fun x hx => hP x (by simp [hx])) h.2⟩

/-- A member that begins with the prefix. -/
theorem lm_hit (P : List UInt8) (c : UInt8) (l : List UInt8) (hP : Clean P) (hc : c ≠ 44) (hs : sp c = false) (h : P <+: c :: l) :
    lm P (c :: l) = trimR (((c :: l).takeWhile (· != 44)).drop P.length) :: lm P ((c :: l).dropWhile (· != 44)) := by
  have hsplit : (c :: l).takeWhile (· != 44) ++ (c :: l).dropWhile (· != 44) = c :: l := List.takeWhile_append_dropWhile
  have hne := takeWhile_ne (c :: l)
  have hf := dropWhile_form (c :: l)
  obtain ⟨s, es⟩ : ∃ s, (c :: l).takeWhile (· != 44) = c :: s := ⟨l.takeWhile (· != 44), by rw [List.takeWhile_cons, if_pos (by simpa using hc)]⟩
  have hpre : P <+: (c :: l).takeWhile (· != 44) := prefix_seg P _ _ hP hf (by rw [hsplit]; exact h)
  obtain ⟨q, hq⟩ := hpre
  have htrim : trim ((c :: l).takeWhile (· != 44)) = P ++ trimR q := by
    have e1 : trimL ((c :: l).takeWhile (· != 44)) = (c :: l).takeWhile (· != 44) := by rw [es]; unfold trimL; simp [List.dropWhile_cons, hs]
    unfold trim
    rw [e1, ← hq, trimR_append P q fun x hx => (hP x hx).2]
  have hnil : (trim ((c :: l).takeWhile (· != 44))) ≠ [] := by
    have e1 : trimL ((c :: l).takeWhile (· != 44)) = c :: s := by rw [es]; unfold trimL; simp [List.dropWhile_cons, hs]
    unfold trim
    rw [e1, show c :: s = [c] ++ s from rfl, trimR_append [c] s (by simpa using hs)]
    simp
  have hone : one P ((c :: l).takeWhile (· != 44)) = [trimR (((c :: l).takeWhile (· != 44)).drop P.length)] := by
    unfold one
    have e2 : P.isPrefixOf (trim ((c :: l).takeWhile (· != 44))) = true := by rw [isPrefixOf_iff, htrim]; exact List.prefix_append _ _
    rw [e2]
    rw [if_neg (by simpa using hnil), htrim, ← hq]
    simp
  generalize (c :: l).takeWhile (· != 44) = seg at *
  generalize (c :: l).dropWhile (· != 44) = rest at *
  rcases hf with hf | ⟨r, hf⟩
  · subst hf
    rw [List.append_nil] at hsplit
    rw [lm_nil, ← hone, ← hsplit]
    exact lm_seg P _ hne
  · subst hf
    rw [lm_comma, ← hsplit, lm_seg_comma P _ r hne, hone]
    rfl

theorem lm_miss (P : List UInt8) (c : UInt8) (l : List UInt8) (hc : c ≠ 44) (hs : sp c = false) (h : ¬ P <+: c :: l) : lm P (c :: l) = tl P l := by
  have hsplit : (c :: l).takeWhile (· != 44) ++ (c :: l).dropWhile (· != 44) = c :: l := List.takeWhile_append_dropWhile
  have hne := takeWhile_ne (c :: l)
  have hf := dropWhile_form (c :: l)
  obtain ⟨s, es⟩ : ∃ s, (c :: l).takeWhile (· != 44) = c :: s := ⟨l.takeWhile (· != 44), by rw [List.takeWhile_cons, if_pos (by simpa using hc)]⟩
  have hone : one P ((c :: l).takeWhile (· != 44)) = [] := by
    unfold one
    have e1 : trimL ((c :: l).takeWhile (· != 44)) = (c :: l).takeWhile (· != 44) := by rw [es]; unfold trimL; simp [List.dropWhile_cons, hs]
    have e2 : P.isPrefixOf (trim ((c :: l).takeWhile (· != 44))) = false := by
      rw [Bool.eq_false_iff]
      intro hh
      rw [ne_eq, isPrefixOf_iff] at *
      refine h (hh.trans ?_)
      unfold trim
      rw [e1]
      exact (trimR_prefix _).trans ⟨_, hsplit⟩
    rw [e2]
    simp
  rw [← tl_cons P c l hc]
  rcases hf with hf | ⟨r, hf⟩
  · rw [hf, List.append_nil] at hsplit
    have h1 : lm P (c :: l) = [] := by
      rw [← hone, hsplit]
      refine lm_seg P _ ?_
      rw [hsplit] at hne
      exact hne
    rw [h1]
    unfold tl
    rw [segs_seg (c :: l) (by rw [hsplit] at hne; exact hne)]
    rfl
  · rw [hf] at hsplit
    have h1 : lm P (c :: l) = lm P r := by
      rw [← hsplit, lm_seg_comma P _ r hne, hone]; rfl
    rw [h1]
    unfold tl
    rw [← hsplit, segs_seg_comma _ r hne]
    rfl

/-! ### The scan for a member's start -/
def stp (b : Bool) (c : UInt8) : Bool := if c == 44 then true else if sp c then b else false
def lmS (P : List UInt8) (b : Bool) (l : List UInt8) : List (List UInt8) := if b then lm P l else tl P l
def scan (P : List UInt8) : Bool → List UInt8 → Option Nat
  | _, [] => none
  | b, c :: l => if b && c != 44 && !sp c && P.isPrefixOf (c :: l) then some 0 else (scan P (stp b c) l).map (· + 1)

theorem lmS_step (P : List UInt8) (b : Bool) (c : UInt8) (l : List UInt8) (h : (b && c != 44 && !sp c && P.isPrefixOf (c :: l)) = false) : lmS P b (c :: l) = lmS P (stp b c) l := by
  unfold lmS stp
  by_cases hc : c = 44
  · subst hc
    cases b
    · simp [tl_comma]
    · simp [lm_comma]
  · have hc' : (c == 44) = false := by simpa using hc
    rw [hc']
    cases hs : sp c with
    | true =>
      cases b
      · simp [tl_cons P c l hc]
      · simp [lm_sp P c l hs]
    | false =>
      cases b
      · simp [tl_cons P c l hc]
      · have hp : ¬ P <+: c :: l := by
          rw [← isPrefixOf_iff]
          intro hh
          rw [hh, hs] at h
          simp [hc] at h
        simp [lm_miss P c l hc hs hp]

theorem scan_none (P : List UInt8) (l : List UInt8) : ∀ b, scan P b l = none → lmS P b l = [] := by
  induction l with
  | nil => intro b _; unfold lmS; split <;> simp [lm_nil, tl_nil]
  | cons c l ih =>
    intro b h
    unfold scan at h
    split at h
    · cases h
    · rename_i hb
      rw [lmS_step P b c l (Bool.eq_false_iff.2 hb)]
      exact ih _ (by simpa using h)

theorem scan_some (P : List UInt8) (hP : Clean P) (l : List UInt8) : ∀ b i, scan P b l = some i →
    lmS P b l = trimR (((l.drop i).takeWhile (· != 44)).drop P.length) :: lm P ((l.drop i).dropWhile (· != 44)) := by
  induction l with
  | nil => intro b i h; cases h
  | cons c l ih =>
    intro b i h
    unfold scan at h
    split at h
    · rename_i hb
      cases h
      simp only [Bool.and_eq_true] at hb
      obtain ⟨⟨⟨hb, hc⟩, hs⟩, hp⟩ := hb
      subst hb
      rw [List.drop_zero]
      unfold lmS
      rw [if_pos rfl]
      exact lm_hit P c l hP (by simpa using hc) (by simpa using hs) ((isPrefixOf_iff _ _).1 hp)
    · rename_i hb
      rw [lmS_step P b c l (Bool.eq_false_iff.2 hb)]
      cases hh : scan P (stp b c) l with
      | none => rw [hh] at h; cases h
      | some j =>
        rw [hh] at h
        cases h
        rw [ih _ j hh]
        rfl

theorem scan_lt (P : List UInt8) (l : List UInt8) : ∀ b i, scan P b l = some i → i < l.length ∧ P <+: l.drop i := by
  induction l with
  | nil => intro b i h; cases h
  | cons c l ih =>
    intro b i h
    unfold scan at h
    split at h
    · rename_i hb
      cases h
      simp only [Bool.and_eq_true] at hb
      exact ⟨by simp, (isPrefixOf_iff _ _).1 hb.2⟩
    · cases hh : scan P (stp b c) l with
      | none => rw [hh] at h; cases h
      | some j =>
        rw [hh] at h
        cases h
        have := ih _ j hh
        exact ⟨by simp; omega, by simpa using this.2⟩

/-- Does a member with the prefix begin at j? -/
def good (P : List UInt8) (b : Bool) (l : List UInt8) (j : Nat) : Prop := P <+: l.drop j ∧ (l.take j).foldl stp b = true

theorem scan_least (P : List UInt8) (hP : Clean P) (hne : P ≠ []) (l : List UInt8) : ∀ b i, (∀ j, j < i → ¬ good P b l j) → good P b l i → scan P b l = some i := by
  induction l with
  | nil =>
    intro b i _ h
    have := h.1
    simp at this
    exact absurd this hne
  | cons c l ih =>
    intro b i hl hg
    unfold scan
    cases i with
    | zero =>
      obtain ⟨h1, h2⟩ := hg
      simp only [List.drop_zero, List.take_zero, List.foldl_nil] at h1 h2
      subst h2
      obtain ⟨x, P', rfl⟩ : ∃ x P', P = x :: P' := by cases P with | nil => exact absurd rfl hne | cons x P' => exact ⟨x, P', rfl⟩
      have hx : x = c := (List.cons_prefix_cons.1 h1).1
      subst hx
      have hcl := hP x (by simp)
      rw [if_pos]
      simp [hcl.1, hcl.2, isPrefixOf_iff, List.cons_prefix_cons.1 h1]
    | succ i =>
      have h0 := hl 0 (by omega)
      rw [if_neg]
      · rw [ih (stp b c) i ?_ ?_]
        · rfl
        · intro j hj hgj
          exact hl (j + 1) (by omega) ⟨by simpa using hgj.1, by simpa using hgj.2⟩
        · exact ⟨by simpa using hg.1, by simpa using hg.2⟩
      · intro hh
        simp only [Bool.and_eq_true] at hh
        exact h0 ⟨(isPrefixOf_iff _ _).1 hh.2, by simpa using hh.1.1.1⟩

theorem scan_no (P : List UInt8) (l : List UInt8) : ∀ b, (∀ j, j < l.length → ¬ good P b l j) → scan P b l = none := by
  induction l with
  | nil => intro b _; rfl
  | cons c l ih =>
    intro b hl
    unfold scan
    rw [if_neg]
    · rw [ih (stp b c) ?_]
      · rfl
      · intro j hj hgj
        exact hl (j + 1) (by simp; omega) ⟨by simpa using hgj.1, by simpa using hgj.2⟩
    · intro hh
      simp only [Bool.and_eq_true] at hh
      exact hl 0 (by simp) ⟨(isPrefixOf_iff _ _).1 hh.2, by simpa using hh.1.1.1⟩

theorem st_iff (l : List UInt8) : l.foldl stp true = true ↔ (trimR l = [] ∨ (trimR l).getLast? = some 44) := by
  refine snoc_rec (fun l => l.foldl stp true = true ↔ (trimR l = [] ∨ (trimR l).getLast? = some 44)) ?_ ?_ l
  · simp [trimR_nil]
  · intro l c ih
    rw [List.foldl_append]
    simp only [List.foldl_cons, List.foldl_nil]
    by_cases hc : c = 44
    · subst hc
      have hs : sp 44 = false := by decide
      rw [trimR_snoc l 44 hs]
      simp [stp]
    · cases hs : sp c with
      | true => rw [trimR_snoc_sp l c hs]; simp [stp, hc, hs, ih]
      | false => rw [trimR_snoc l c hs]; simp [stp, hc, hs]

/-- At the empty prefix: a comma or a space is passed by. -/
theorem scan_pass (c : UInt8) (l : List UInt8) (h : c = 44 ∨ sp c = true) : scan [] true (c :: l) = (scan [] true l).map (· + 1) := by
  rw [scan.eq_2, if_neg]
  · rcases h with rfl | h
    · rfl
    · have : stp true c = true := by unfold stp; simp [h]
      rw [this]
  · rcases h with rfl | h
    · simp
    · simp [h]

theorem scan_stop (c : UInt8) (l : List UInt8) (h1 : c ≠ 44) (h2 : sp c = false) : scan [] true (c :: l) = some 0 := by
  unfold scan
  rw [if_pos]
  simp [h1, h2]

def msInt : Option Nat → Int
  | none => -1
  | some i => i

/-- The end of a member: the first comma, or the end. -/
def endOf (l : List UInt8) : Nat := (l.takeWhile (· != 44)).length

theorem takeWhile_take (l : List UInt8) : l.takeWhile (· != 44) = l.take (endOf l) := by
  have h : l.takeWhile (· != 44) ++ l.dropWhile (· != 44) = l := List.takeWhile_append_dropWhile
  unfold endOf
  generalize l.takeWhile (· != 44) = a at *
  generalize l.dropWhile (· != 44) = b at *
  subst h
  simp
theorem dropWhile_drop (l : List UInt8) : l.dropWhile (· != 44) = l.drop (endOf l) := by
  have h : l.takeWhile (· != 44) ++ l.dropWhile (· != 44) = l := List.takeWhile_append_dropWhile
  unfold endOf
  generalize l.takeWhile (· != 44) = a at *
  generalize l.dropWhile (· != 44) = b at *
  subst h
  simp
theorem endOf_le (l : List UInt8) : endOf l ≤ l.length := by
  have h : l.takeWhile (· != 44) ++ l.dropWhile (· != 44) = l := List.takeWhile_append_dropWhile
  have := congrArg List.length h
  rw [List.length_append] at this
  unfold endOf
  omega

theorem endOf_nil : endOf [] = 0 := rfl
theorem endOf_comma (l : List UInt8) : endOf (44 :: l) = 0 := rfl
theorem endOf_cons (c : UInt8) (l : List UInt8) (h : c ≠ 44) : endOf (c :: l) = endOf l + 1 := by
  unfold endOf
  rw [List.takeWhile_cons, if_pos (by simpa using h)]
  rfl

theorem endOf_index (l : List UInt8) : (Lib.indexByte l 44 = -1 → endOf l = l.length) ∧ (∀ o : Nat, Lib.indexByte l 44 = o → endOf l = o) := by
  induction l with
  | nil => exact ⟨fun _ => rfl, fun o h => by simp only [Lib.indexByte] at h; omega⟩
  | cons c l ih =>
    rw [Lib.indexByte]
    by_cases hc : c = 44
    · subst hc
      rw [if_pos (by rfl), endOf_comma]
      exact ⟨fun h => by omega, fun o h => by omega⟩
    · rw [if_neg (by simpa using hc), endOf_cons c l hc]
      have hge := Lib.indexByte_ge l 44
      by_cases hn : Lib.indexByte l 44 = -1
      · rw [if_pos (by simpa using hn), ih.1 hn]
        exact ⟨fun _ => rfl, fun o h => by omega⟩
      · rw [if_neg (by simpa using hn)]
        refine ⟨fun h => by omega, fun o h => ?_⟩
        rw [ih.2 (o - 1) (by omega)]
        omega

theorem endOf_prefix (P l : List UInt8) (hP : Clean P) (h : P <+: l) : P.length ≤ endOf l := by
  have hsplit : l.takeWhile (· != 44) ++ l.dropWhile (· != 44) = l := List.takeWhile_append_dropWhile
  exact (prefix_seg P _ _ hP (dropWhile_form l) (by rw [hsplit]; exact h)).length_le

/-- One step of the iterator: the scan's answer says what the rule gives. -/
theorem lm_scan_none (P l : List UInt8) (h : scan P true l = none) : lm P l = [] := scan_none P l true h
theorem lm_scan_some (P l : List UInt8) (hP : Clean P) (i : Nat) (h : scan P true l = some i) :
    lm P l = trimR (((l.drop i).take (endOf (l.drop i))).drop P.length) :: lm P ((l.drop i).drop (endOf (l.drop i))) := by
  have := scan_some P hP l true i h
  rw [takeWhile_take, dropWhile_drop] at this
  exact this

theorem scan_pos (P : List UInt8) (l : List UInt8) : ∀ b i, scan P b l = some i → 1 ≤ endOf (l.drop i) := by
  induction l with
  | nil => intro b i h; cases h
  | cons c l ih =>
    intro b i h
    unfold scan at h
    split at h
    · rename_i hb
      cases h
      simp only [Bool.and_eq_true] at hb
      rw [List.drop_zero, endOf_cons c l (by simpa using hb.1.1.2)]
      omega
    · cases hh : scan P (stp b c) l with
      | none => rw [hh] at h; cases h
      | some j =>
        rw [hh] at h
        cases h
        exact ih _ j hh

end Go.Proofs.Qxb6003347a.Plain
