/-
  THE PLAIN LAWS: where a JSON string, a bracket, an atom ends, said of the bytes d 0, d 1, .. d (n - 1); each end hangs on the value's own bytes alone. No Go in sight.
-/
namespace Go.Proofs.Qxb6003628a.Plain

/-! ### A machine that reads byte by byte and stops behind a byte, or at the end -/
def runF {S : Type} (step : S → Nat → Option S) (d : Nat → Nat) : Nat → Nat → S → Nat
  | 0, i, _ => i
  | f + 1, i, s => match step s (d i) with | none => i + 1 | some s' => runF step d f (i + 1) s'
/-- Where the machine stops that begins at i in the state s, of n bytes. -/
def run {S : Type} (step : S → Nat → Option S) (n : Nat) (d : Nat → Nat) (i : Nat) (s : S) : Nat := runF step d (n - i) i s

theorem run_at {S : Type} (step : S → Nat → Option S) (n : Nat) (d : Nat → Nat) (i : Nat) (s : S) (h : i < n) :
    run step n d i s = match step s (d i) with | none => i + 1 | some s' => run step n d (i + 1) s' := by
  unfold run
  rw [show n - i = (n - (i + 1)) + 1 by omega]
  rfl
theorem run_end {S : Type} (step : S → Nat → Option S) (n : Nat) (d : Nat → Nat) (i : Nat) (s : S) (h : n ≤ i) : run step n d i s = i := by
  unfold run
  rw [show n - i = 0 by omega]
  rfl
theorem run_none {S : Type} {step : S → Nat → Option S} {n : Nat} {d : Nat → Nat} {i : Nat} {s : S} (h : i < n) (hs : step s (d i) = none) : run step n d i s = i + 1 := by
  rw [run_at _ _ _ _ _ h, hs]
theorem run_some {S : Type} {step : S → Nat → Option S} {n : Nat} {d : Nat → Nat} {i : Nat} {s s' : S} (h : i < n) (hs : step s (d i) = some s') : run step n d i s = run step n d (i + 1) s' := by
  rw [run_at _ _ _ _ _ h, hs]

theorem run_bounds {S : Type} (step : S → Nat → Option S) (n : Nat) (d : Nat → Nat) : ∀ (k i : Nat) (s : S), n - i = k → i ≤ n → i ≤ run step n d i s ∧ run step n d i s ≤ n := by
  intro k
  induction k with
  | zero => intro i s hk hi; rw [run_end _ _ _ _ _ (by omega)]; omega
  | succ k ih =>
    intro i s hk hi
    cases h : step s (d i) with
    | none => rw [run_none (by omega) h]; omega
    | some s' => rw [run_some (by omega) h]; have := ih (i + 1) s' (by omega) (by omega); omega

/-- The end hangs on the bytes up to it alone. -/
theorem run_local {S : Type} (step : S → Nat → Option S) (n : Nat) (d : Nat → Nat) (n' : Nat) (d' : Nat → Nat) : ∀ (k i i' : Nat) (s : S), n - i = k → i ≤ n →
    (∀ t, t < run step n d i s - i → d' (i' + t) = d (i + t)) → i' + (run step n d i s - i) ≤ n' → (run step n d i s < n ∨ n' = i' + (run step n d i s - i)) →
    run step n' d' i' s = i' + (run step n d i s - i) := by
  intro k
  induction k with
  | zero =>
    intro i i' s hk hi hd hle hor
    have e : run step n d i s = i := run_end _ _ _ _ _ (by omega)
    rw [e] at hor hle ⊢
    rw [run_end _ _ _ _ _ (by omega)]
    omega
  | succ k ih =>
    intro i i' s hk hi hd hle hor
    cases h : step s (d i) with
    | none =>
      have e : run step n d i s = i + 1 := run_none (by omega) h
      rw [e] at hd hle hor ⊢
      have h0 := hd 0 (by omega)
      simp only [Nat.add_zero] at h0
      rw [run_none (by omega) (by rw [h0]; exact h)]
      omega
    | some s' =>
      have e : run step n d i s = run step n d (i + 1) s' := run_some (by omega) h
      have hb := run_bounds step n d k (i + 1) s' (by omega) (by omega)
      rw [e] at hd hle hor ⊢
      have h0 := hd 0 (by omega)
      simp only [Nat.add_zero] at h0
      have h1 := ih (i + 1) (i' + 1) s' (by omega) (by omega) (fun t ht => by have := hd (t + 1) (by omega); rw [show i' + 1 + t = i' + (t + 1) by omega, show i + 1 + t = i + (t + 1) by omega]; exact this) (by omega) (by omega)
      rw [run_some (by omega) (by rw [h0]; exact h), h1]
      omega

/-! ### The first place at which p holds -/
def findF (p : Nat → Bool) (d : Nat → Nat) : Nat → Nat → Nat
  | 0, i => i
  | f + 1, i => if p (d i) then i else findF p d f (i + 1)
def find (p : Nat → Bool) (n : Nat) (d : Nat → Nat) (i : Nat) : Nat := findF p d (n - i) i
theorem find_end (p : Nat → Bool) (n : Nat) (d : Nat → Nat) (i : Nat) (h : n ≤ i) : find p n d i = i := by
  unfold find; rw [show n - i = 0 by omega]; rfl
theorem find_hit (p : Nat → Bool) (n : Nat) (d : Nat → Nat) (i : Nat) (h : p (d i) = true) : find p n d i = i := by
  unfold find
  cases n - i with
  | zero => rfl
  | succ k => simp [findF, h]
theorem find_miss (p : Nat → Bool) (n : Nat) (d : Nat → Nat) (i : Nat) (hi : i < n) (h : p (d i) = false) : find p n d i = find p n d (i + 1) := by
  unfold find
  rw [show n - i = (n - (i + 1)) + 1 by omega]
  simp [findF, h]

theorem find_spec (p : Nat → Bool) (n : Nat) (d : Nat → Nat) : ∀ (k i : Nat), n - i = k → i ≤ n → i ≤ find p n d i ∧ find p n d i ≤ n ∧ (∀ j, i ≤ j → j < find p n d i → p (d j) = false) ∧ (find p n d i < n → p (d (find p n d i)) = true) := by
  intro k
  induction k with
  | zero => intro i hk hi; rw [find_end _ _ _ _ (by omega)]; exact ⟨by omega, by omega, fun j _ _ => by omega, fun h => by omega⟩
  | succ k ih =>
    intro i hk hi
    cases h : p (d i) with
    | true => rw [find_hit _ _ _ _ h]; exact ⟨by omega, by omega, fun j _ _ => by omega, fun _ => h⟩
    | false =>
      rw [find_miss _ _ _ _ (by omega) h]
      obtain ⟨a, b, c, e⟩ := ih (i + 1) (by omega) (by omega)
      refine ⟨by omega, b, fun j h1 h2 => ?_, e⟩
      by_cases hj : j = i
      · subst hj; exact h
      · exact c j (by omega) h2

/-- It is the only such place. -/
theorem find_unique (p : Nat → Bool) (n : Nat) (d : Nat → Nat) : ∀ (k i e : Nat), n - i = k → i ≤ e → e ≤ n → (∀ j, i ≤ j → j < e → p (d j) = false) → (e < n → p (d e) = true) → find p n d i = e := by
  intro k
  induction k with
  | zero => intro i e hk h1 h2 _ _; rw [find_end _ _ _ _ (by omega)]; omega
  | succ k ih =>
    intro i e hk h1 h2 h3 h4
    by_cases he : i = e
    · subst he; exact find_hit _ _ _ _ (h4 (by omega))
    · rw [find_miss _ _ _ _ (by omega) (h3 i (by omega) (by omega))]
      exact ih (i + 1) e (by omega) (by omega) h2 (fun j a b => h3 j (by omega) b) h4

/-! ### Strings -/
def escStep (sw : Bool) (c : Nat) : Option Bool := if sw then some false else if c = 92 then some true else if c = 34 then none else some false
/-- Just past the string whose opening quote stands at q. -/
def strEnd (n : Nat) (d : Nat → Nat) (q : Nat) : Nat := run escStep n d (q + 1) false
def esc (n : Nat) (d : Nat → Nat) (i : Nat) : Nat := run escStep n d i false

theorem esc_bs (n : Nat) (d : Nat → Nat) (i : Nat) (h : i + 1 < n) (hd : d i = 92) : esc n d i = esc n d (i + 2) := by
  unfold esc
  rw [run_some (s' := true) (by omega) (by simp [escStep, hd]), run_some (s' := false) (by omega) (by simp [escStep])]
theorem esc_bs_end (n : Nat) (d : Nat → Nat) (i : Nat) (h : i + 1 = n) (hd : d i = 92) : esc n d i = n := by
  unfold esc
  rw [run_some (s' := true) (by omega) (by simp [escStep, hd]), run_end _ _ _ _ _ (by omega)]
  exact h
theorem esc_quote (n : Nat) (d : Nat → Nat) (i : Nat) (h : i < n) (hd : d i = 34) : esc n d i = i + 1 := by
  unfold esc
  exact run_none h (by simp [escStep, hd])
theorem esc_other (n : Nat) (d : Nat → Nat) (i : Nat) (h : i < n) (h1 : d i ≠ 92) (h2 : d i ≠ 34) : esc n d i = esc n d (i + 1) := by
  unfold esc
  exact run_some h (by simp [escStep, h1, h2])
theorem esc_end (n : Nat) (d : Nat → Nat) (i : Nat) (h : i = n) : esc n d i = n := by
  unfold esc; rw [run_end _ _ _ _ _ (by omega)]; exact h

/-- No quote: to the end. -/
theorem esc_none (n : Nat) (d : Nat → Nat) : ∀ (k i : Nat), n - i ≤ k → i ≤ n → (∀ j, i ≤ j → j < n → d j ≠ 34) → esc n d i = n := by
  intro k
  induction k with
  | zero => intro i hk hi _; exact esc_end _ _ _ (by omega)
  | succ k ih =>
    intro i hk hi h
    by_cases he : i = n
    · exact esc_end _ _ _ he
    · by_cases hb : d i = 92
      · by_cases hl : i + 1 = n
        · exact esc_bs_end _ _ _ hl hb
        · rw [esc_bs _ _ _ (by omega) hb]
          exact ih (i + 2) (by omega) (by omega) (fun j a b => h j (by omega) b)
      · rw [esc_other _ _ _ (by omega) hb (h i (by omega) (by omega))]
        exact ih (i + 1) (by omega) (by omega) (fun j a b => h j (by omega) b)

/-- The first quote from i on stands at e; t backslashes stand right ahead of it: it closes the string if t is even; else it is swallowed. -/
theorem esc_run (n : Nat) (d : Nat → Nat) (e : Nat) (he : e < n) (hq : d e = 34) : ∀ (k i t : Nat), e - i ≤ k → i + t ≤ e → (∀ j, i ≤ j → j < e → d j ≠ 34) → (∀ j, e - t ≤ j → j < e → d j = 92) → (i + t < e → d (e - t - 1) ≠ 92) →
    esc n d i = if t % 2 = 0 then e + 1 else esc n d (e + 1) := by
  intro k
  induction k with
  | zero =>
    intro i t hk hi _ _ _
    obtain rfl : i = e := by omega
    obtain rfl : t = 0 := by omega
    rw [if_pos rfl]
    exact esc_quote _ _ _ he hq
  | succ k ih =>
    intro i t hk hi h1 h2 h3
    by_cases hie : i = e
    · subst hie
      obtain rfl : t = 0 := by omega
      rw [if_pos rfl]
      exact esc_quote _ _ _ he hq
    · by_cases hb : d i = 92
      · rw [esc_bs _ _ _ (by omega) hb]
        by_cases ht : i + t = e
        · by_cases h1t : t = 1
          · subst h1t
            rw [if_neg (by decide), show i + 2 = e + 1 by omega]
          · rw [ih (i + 2) (t - 2) (by omega) (by omega) (fun j a b => h1 j (by omega) b) (fun j a b => h2 j (by omega) b) (fun h => by omega)]
            have : (t - 2) % 2 = t % 2 := by omega
            rw [this]
        · have hne : i ≠ e - t - 1 := fun hh => h3 (by omega) (by rw [← hh]; exact hb)
          exact ih (i + 2) t (by omega) (by omega) (fun j a b => h1 j (by omega) b) h2 (fun h => h3 (by omega))
      · rw [esc_other _ _ _ (by omega) hb (h1 i (by omega) (by omega))]
        have ht : i + t < e := by
          by_cases ht : i + t = e
          · exact absurd (h2 i (by omega) (by omega)) hb
          · omega
        exact ih (i + 1) t (by omega) (by omega) (fun j a b => h1 j (by omega) b) h2 (fun h => h3 (by omega))

/-! ### Brackets -/
def isOpen (c : Nat) : Bool := c == 123 || c == 91
def isClose (c : Nat) : Bool := c == 125 || c == 93
/-- The state: the depth; 0: outside a string, 1: inside one, 2: behind a backslash in one. -/
def brkStep (s : Nat × Nat) (c : Nat) : Option (Nat × Nat) :=
  if s.2 = 0 then
    if c = 34 then some (s.1, 1) else if isOpen c then some (s.1 + 1, 0) else if isClose c then (if s.1 = 1 then none else some (s.1 - 1, 0)) else some (s.1, 0)
  else if s.2 = 1 then (if c = 92 then some (s.1, 2) else if c = 34 then some (s.1, 0) else some (s.1, 1))
  else some (s.1, 1)
def brkEnd (n : Nat) (d : Nat → Nat) (q : Nat) : Nat := run brkStep n d (q + 1) (1, 0)
def brk (n : Nat) (d : Nat → Nat) (i dp : Nat) : Nat := run brkStep n d i (dp, 0)

/-- A string inside the brackets is passed over. -/
theorem brk_string (n : Nat) (d : Nat → Nat) (dp : Nat) : ∀ (k i : Nat), n - i ≤ k → i ≤ n →
    run brkStep n d i (dp, 1) = brk n d (run escStep n d i false) dp ∧ run brkStep n d i (dp, 2) = brk n d (run escStep n d i true) dp := by
  intro k
  induction k with
  | zero =>
    intro i hk hi
    unfold brk
    have e1 : run escStep n d i false = i := run_end _ _ _ _ _ (by omega)
    have e2 : run escStep n d i true = i := run_end _ _ _ _ _ (by omega)
    rw [e1, e2, run_end _ _ _ _ _ (by omega), run_end _ _ _ _ _ (by omega), run_end _ _ _ _ _ (by omega)]
    exact ⟨rfl, rfl⟩
  | succ k ih =>
    intro i hk hi
    by_cases he : i = n
    · unfold brk
      have e1 : run escStep n d i false = i := run_end _ _ _ _ _ (by omega)
      have e2 : run escStep n d i true = i := run_end _ _ _ _ _ (by omega)
      rw [e1, e2, run_end _ _ _ _ _ (by omega), run_end _ _ _ _ _ (by omega), run_end _ _ _ _ _ (by omega)]
      exact ⟨rfl, rfl⟩
    · obtain ⟨h1, h2⟩ := ih (i + 1) (by omega) (by omega)
      refine ⟨?_, ?_⟩
      · by_cases hb : d i = 92
        · rw [run_some (s' := (dp, 2)) (by omega) (by simp [brkStep, hb]), run_some (step := escStep) (s' := true) (by omega) (by simp [escStep, hb])]
          exact h2
        · by_cases hq : d i = 34
          · rw [run_some (s' := (dp, 0)) (by omega) (by simp [brkStep, hq]), run_none (step := escStep) (by omega) (by simp [escStep, hq])]
            rfl
          · rw [run_some (s' := (dp, 1)) (by omega) (by simp [brkStep, hb, hq]), run_some (step := escStep) (s' := false) (by omega) (by simp [escStep, hb, hq])]
            exact h1
      · rw [run_some (s' := (dp, 1)) (by omega) (by simp [brkStep]), run_some (step := escStep) (s' := false) (by omega) (by simp [escStep])]
        exact h1

theorem brk_quote (n : Nat) (d : Nat → Nat) (i dp : Nat) (h : i < n) (hd : d i = 34) : brk n d i dp = brk n d (strEnd n d i) dp := by
  unfold brk
  rw [run_some (s' := (dp, 1)) h (by simp [brkStep, hd])]
  exact (brk_string n d dp (n - (i + 1)) (i + 1) (Nat.le_refl _) (by omega)).1
theorem brk_open (n : Nat) (d : Nat → Nat) (i dp : Nat) (h : i < n) (hd : isOpen (d i) = true) : brk n d i dp = brk n d (i + 1) (dp + 1) := by
  unfold brk
  have hq : d i ≠ 34 := by intro e; rw [e] at hd; revert hd; decide
  exact run_some h (by simp [brkStep, hd, hq])
theorem close_facts {c : Nat} (h : isClose c = true) : c ≠ 34 ∧ isOpen c = false := by
  have : c = 125 ∨ c = 93 := by simpa [isClose] using h
  rcases this with rfl | rfl <;> exact ⟨by decide, by decide⟩
theorem brk_close (n : Nat) (d : Nat → Nat) (i dp : Nat) (h : i < n) (hd : isClose (d i) = true) : brk n d i dp = if dp = 1 then i + 1 else brk n d (i + 1) (dp - 1) := by
  obtain ⟨hq, ho⟩ := close_facts hd
  unfold brk
  by_cases h1 : dp = 1
  · rw [if_pos h1]
    exact run_none h (by simp [brkStep, hd, hq, ho, h1])
  · rw [if_neg h1]
    exact run_some h (by simp [brkStep, hd, hq, ho, h1])
theorem brk_other (n : Nat) (d : Nat → Nat) (i dp : Nat) (h : i < n) (hq : d i ≠ 34) (ho : isOpen (d i) = false) (hc : isClose (d i) = false) : brk n d i dp = brk n d (i + 1) dp := by
  unfold brk
  exact run_some h (by simp [brkStep, hq, ho, hc])

/-- Where the brackets are closed before the end, a closing one stands last. -/
theorem brk_last (n : Nat) (d : Nat → Nat) : ∀ (k i : Nat) (s : Nat × Nat), n - i = k → i ≤ n → run brkStep n d i s < n → i < run brkStep n d i s ∧ isClose (d (run brkStep n d i s - 1)) = true := by
  intro k
  induction k with
  | zero => intro i s hk hi h; rw [run_end _ _ _ _ _ (by omega)] at h; omega
  | succ k ih =>
    intro i s hk hi h
    cases hs : brkStep s (d i) with
    | none =>
      rw [run_none (by omega) hs] at h ⊢
      refine ⟨by omega, ?_⟩
      rw [Nat.add_sub_cancel]
      unfold brkStep at hs
      split at hs
      · split at hs
        · cases hs
        · split at hs
          · cases hs
          · split at hs
            · assumption
            · cases hs
      · split at hs
        · split at hs
          · cases hs
          · split at hs <;> cases hs
        · cases hs
    | some s' =>
      rw [run_some (by omega) hs] at h ⊢
      have := ih (i + 1) s' (by omega) (by omega) h
      exact ⟨by omega, this.2⟩

/-! ### A value -/
def isSp (c : Nat) : Bool := c == 32 || c == 9 || c == 10 || c == 13
def isDelim (c : Nat) : Bool := isSp c || c == 44 || c == 125 || c == 93
def skip (n : Nat) (d : Nat → Nat) (i : Nat) : Nat := find (fun c => !isSp c) n d i
def atomEnd (n : Nat) (d : Nat → Nat) (i : Nat) : Nat := find isDelim n d i
def valEnd (n : Nat) (d : Nat → Nat) (q : Nat) : Nat :=
  if q < n then (if d q = 34 then strEnd n d q else if isOpen (d q) then brkEnd n d q else atomEnd n d q) else q

theorem skip_spec (n : Nat) (d : Nat → Nat) (i : Nat) (h : i ≤ n) : i ≤ skip n d i ∧ skip n d i ≤ n ∧ (∀ j, i ≤ j → j < skip n d i → isSp (d j) = true) ∧ (skip n d i < n → isSp (d (skip n d i)) = false) := by
  obtain ⟨a, b, c, e⟩ := find_spec (fun c => !isSp c) n d (n - i) i rfl h
  exact ⟨a, b, fun j h1 h2 => by simpa using c j h1 h2, fun h1 => by have := e h1; simpa [skip] using this⟩
theorem skip_unique (n : Nat) (d : Nat → Nat) (i e : Nat) (h1 : i ≤ e) (h2 : e ≤ n) (h3 : ∀ j, i ≤ j → j < e → isSp (d j) = true) (h4 : e < n → isSp (d e) = false) : skip n d i = e :=
  find_unique (fun c => !isSp c) n d (n - i) i e rfl h1 h2 (fun j a b => by simpa using h3 j a b) (fun h => by simpa using h4 h)

theorem valEnd_bounds (n : Nat) (d : Nat → Nat) (q : Nat) (h : q ≤ n) : q ≤ valEnd n d q ∧ valEnd n d q ≤ n := by
  unfold valEnd
  split
  · split
    · have := run_bounds escStep n d (n - (q + 1)) (q + 1) false rfl (by omega)
      unfold strEnd; omega
    · split
      · have := run_bounds brkStep n d (n - (q + 1)) (q + 1) (1, 0) rfl (by omega)
        unfold brkEnd; omega
      · have := find_spec isDelim n d (n - q) q rfl h
        unfold atomEnd; omega
  · omega

theorem valEnd_str (n : Nat) (d : Nat → Nat) (q : Nat) (h : q < n) (hd : d q = 34) : valEnd n d q = strEnd n d q ∧ q + 1 ≤ strEnd n d q := by
  have := run_bounds escStep n d (n - (q + 1)) (q + 1) false rfl (by omega)
  unfold valEnd; rw [if_pos h, if_pos hd]; exact ⟨rfl, this.1⟩
theorem valEnd_brk (n : Nat) (d : Nat → Nat) (q : Nat) (h : q < n) (hd : isOpen (d q) = true) : valEnd n d q = brkEnd n d q ∧ q + 1 ≤ brkEnd n d q := by
  have hq : d q ≠ 34 := by intro e; rw [e] at hd; revert hd; decide
  have := run_bounds brkStep n d (n - (q + 1)) (q + 1) (1, 0) rfl (by omega)
  unfold valEnd; rw [if_pos h, if_neg hq, if_pos hd]; exact ⟨rfl, this.1⟩
theorem valEnd_atom (n : Nat) (d : Nat → Nat) (q : Nat) (h : q < n) (hq : d q ≠ 34) (hd : isOpen (d q) = false) : valEnd n d q = atomEnd n d q := by
  unfold valEnd; rw [if_pos h, if_neg hq, if_neg (by rw [hd]; simp)]

/-- A value is empty where none begins. -/
theorem valEnd_empty (n : Nat) (d : Nat → Nat) (q : Nat) (h : q < n) : valEnd n d q = q ↔ isDelim (d q) = true := by
  by_cases hq : d q = 34
  · have := valEnd_str n d q h hq
    rw [this.1, hq]
    exact ⟨fun e => by omega, fun e => absurd e (by decide)⟩
  · cases ho : isOpen (d q) with
    | true =>
      have := valEnd_brk n d q h ho
      rw [this.1]
      have hc : d q = 123 ∨ d q = 91 := by simpa [isOpen] using ho
      refine ⟨fun e => by omega, fun e => ?_⟩
      rcases hc with hc | hc <;> (rw [hc] at e; exact absurd e (by decide))
    | false =>
      rw [valEnd_atom n d q h hq ho]
      refine ⟨fun e => ?_, fun e => find_hit _ _ _ _ e⟩
      have := (find_spec isDelim n d (n - q) q rfl (by omega)).2.2.2
      unfold atomEnd at e
      rw [e] at this
      exact this h

/-- THE LAW: a value that is not empty is read again wherever its own bytes stand: before the end of the data (then it ended by itself: an atom wants a delimiter behind it), or at its very end. -/
theorem valEnd_local (n : Nat) (d : Nat → Nat) (q n' : Nat) (d' : Nat → Nat) (q' : Nat) (h : q < n) (hne : q < valEnd n d q) (hd : ∀ t, t < valEnd n d q - q → d' (q' + t) = d (q + t)) (hle : q' + (valEnd n d q - q) ≤ n')
    (hor : n' = q' + (valEnd n d q - q) ∨ (valEnd n d q < n ∧ isDelim (d' (q' + (valEnd n d q - q))) = true)) : valEnd n' d' q' = q' + (valEnd n d q - q) := by
  have h0 := hd 0 (by omega)
  simp only [Nat.add_zero] at h0
  obtain ⟨E, hE⟩ : ∃ E, valEnd n d q = E := ⟨_, rfl⟩
  rw [hE] at hd hle hor hne ⊢
  by_cases hq : d q = 34
  · obtain ⟨e, h1⟩ := valEnd_str n d q h hq
    rw [hE] at e
    subst e
    rw [(valEnd_str n' d' q' (by omega) (by rw [h0]; exact hq)).1]
    unfold strEnd at *
    have := run_local escStep n d n' d' (n - (q + 1)) (q + 1) (q' + 1) false rfl (by omega) (fun t ht => by have := hd (t + 1) (by omega); rw [show q' + 1 + t = q' + (t + 1) by omega, show q + 1 + t = q + (t + 1) by omega]; exact this) (by omega) (by omega)
    rw [this]; omega
  · cases ho : isOpen (d q) with
    | true =>
      obtain ⟨e, h1⟩ := valEnd_brk n d q h ho
      rw [hE] at e
      subst e
      rw [(valEnd_brk n' d' q' (by omega) (by rw [h0]; exact ho)).1]
      unfold brkEnd at *
      have := run_local brkStep n d n' d' (n - (q + 1)) (q + 1) (q' + 1) (1, 0) rfl (by omega) (fun t ht => by have := hd (t + 1) (by omega); rw [show q' + 1 + t = q' + (t + 1) by omega, show q + 1 + t = q + (t + 1) by omega]; exact this) (by omega) (by omega)
      rw [this]; omega
    | false =>
      have e := valEnd_atom n d q h hq ho
      rw [hE] at e
      subst e
      rw [valEnd_atom n' d' q' (by omega) (by rw [h0]; exact hq) (by rw [h0]; exact ho)]
      obtain ⟨s1, s2, s3, s4⟩ := find_spec isDelim n d (n - q) q rfl (by omega)
      unfold atomEnd at *
      refine find_unique isDelim n' d' (n' - q') q' _ rfl (by omega) hle (fun j a b => ?_) (fun hlt => ?_)
      · have := hd (j - q') (by omega)
        rw [show q' + (j - q') = j by omega] at this
        rw [this]
        exact s3 _ (by omega) (by omega)
      · rcases hor with hor | hor
        · omega
        · exact hor.2

end Go.Proofs.Qxb6003628a.Plain
