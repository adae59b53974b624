import Derived.Test.Qxb6003628aCut
namespace Go.Proofs.Qxb6003628a.Plain

/-- White space, the value's own bytes, a comma, a tail. -/
def jf (ns L : Nat) (ds d : Nat → Nat) (q : Nat) (dt : Nat → Nat) (i : Nat) : Nat :=
  if i < ns then ds i else if i < ns + L then d (q + (i - ns)) else if i = ns + L then 44 else dt (i - (ns + L + 1))

theorem jf_ws (ns L : Nat) (ds d : Nat → Nat) (q : Nat) (dt : Nat → Nat) (k : Nat) (h : k < ns) : ds k = jf ns L ds d q dt k := by unfold jf; rw [if_pos h]
theorem jf_val (ns L : Nat) (ds d : Nat → Nat) (q : Nat) (dt : Nat → Nat) (k : Nat) (h : k < L) : d (q + k) = jf ns L ds d q dt (ns + k) := by
  unfold jf; rw [if_neg (by omega), if_pos (by omega), show ns + k - ns = k by omega]
theorem jf_comma (ns L : Nat) (ds d : Nat → Nat) (q : Nat) (dt : Nat → Nat) : jf ns L ds d q dt (ns + L) = 44 := by
  unfold jf; rw [if_neg (by omega), if_neg (by omega), if_pos rfl]
theorem jf_tail (ns L : Nat) (ds d : Nat → Nat) (q : Nat) (dt : Nat → Nat) (k : Nat) : dt k = jf ns L ds d q dt (ns + L + (1 + k)) := by
  unfold jf; rw [if_neg (by omega), if_neg (by omega), if_neg (by omega), show ns + L + (1 + k) - (ns + L + 1) = k by omega]

/-- A comma, a tail. -/
def ct (dt : Nat → Nat) (i : Nat) : Nat := if i = 0 then 44 else dt (i - 1)
theorem ct_comma (dt : Nat → Nat) : 44 = ct dt 0 := by unfold ct; rw [if_pos rfl]
theorem ct_tail (dt : Nat → Nat) (k : Nat) : dt k = ct dt (1 + k) := by unfold ct; rw [if_neg (by omega), show 1 + k - 1 = k by omega]
theorem ct_jf (ns L : Nat) (ds d : Nat → Nat) (q : Nat) (dt : Nat → Nat) (k : Nat) : ct dt k = jf ns L ds d q dt (ns + L + k) := by
  cases k with
  | zero => rw [Nat.add_zero, jf_comma]; exact (ct_comma dt).symm
  | succ k => rw [Nat.add_comm k 1, ← ct_tail, ← jf_tail]

theorem ct_byt (dt : Nat → Nat) (nt i : Nat) (h : ∀ i, i < nt → dt i < 256) (hi : i < 1 + nt + 0) : ct dt i < 256 := by
  unfold ct
  split
  · omega
  · exact h _ (by omega)
theorem jf_byt (ns L : Nat) (ds d : Nat → Nat) (q : Nat) (dt : Nat → Nat) (nt i : Nat) (h1 : ∀ i, i < ns → ds i < 256) (h2 : ∀ i, i < L → d (q + i) < 256) (h3 : ∀ i, i < nt → dt i < 256) (hi : i < ns + L + (1 + nt + 0)) : jf ns L ds d q dt i < 256 := by
  unfold jf
  split
  · exact h1 _ (by omega)
  · split
    · exact h2 _ (by omega)
    · split
      · omega
      · exact h3 _ (by omega)

theorem ctx_skip (n : Nat) (d : Nat → Nat) (p q L ns nt : Nat) (ds dt : Nat → Nat) (hp : p ≤ n) (hq : skip n d p = q) (hL : valEnd n d q = q + L) (hs : ∀ i, i < ns → isSp (ds i) = true) :
    skip (ns + L + (1 + nt + 0)) (jf ns L ds d q dt) 0 = ns := by
  obtain ⟨h1, h2, h3, h4⟩ := skip_spec n d p hp
  rw [hq] at h1 h2 h4
  obtain ⟨h5, h6⟩ := valEnd_bounds n d q h2
  refine skip_unique _ _ _ _ (Nat.zero_le _) (by omega) (fun j _ h => by rw [← jf_ws ns L ds d q dt j h]; exact hs j h) (fun _ => ?_)
  by_cases h : 0 < L
  · have := jf_val ns L ds d q dt 0 h
    rw [Nat.add_zero, Nat.add_zero] at this
    rw [← this]
    exact h4 (by omega)
  · have h0 : L = 0 := by omega
    subst h0
    have := jf_comma ns 0 ds d q dt
    rw [Nat.add_zero] at this
    rw [this]
    decide

theorem ctx_end (n : Nat) (d : Nat → Nat) (q L ns nt : Nat) (ds dt : Nat → Nat) (hL : valEnd n d q = q + L) (hlt : q + L < n) :
    valEnd (ns + L + (1 + nt + 0)) (jf ns L ds d q dt) ns = ns + L := by
  by_cases h : 0 < L
  · have e : valEnd n d q - q = L := by omega
    have := valEnd_local n d q (ns + L + (1 + nt + 0)) (jf ns L ds d q dt) ns (by omega) (by omega) (fun t ht => (jf_val ns L ds d q dt t (by omega)).symm) (by omega) (.inr ⟨by omega, by rw [e, jf_comma]; decide⟩)
    rw [this, e]
  · have h0 : L = 0 := by omega
    subst h0
    have hc := jf_comma ns 0 ds d q dt
    rw [Nat.add_zero] at hc
    exact (valEnd_empty _ _ ns (by omega)).2 (by rw [hc]; decide)

theorem atom_in (n : Nat) (d : Nat → Nat) (q L : Nat) (hqn : q < n) (h34 : d q ≠ 34) (hop : isOpen (d q) = false) (hL : valEnd n d q = q + L) :
    (∀ i, i < L → isDelim (d (q + i)) = false) ∧ (q + L < n → isDelim (d (q + L)) = true) := by
  have h := find_spec isDelim n d (n - q) q rfl (by omega)
  have e : find isDelim n d q = q + L := (valEnd_atom n d q hqn h34 hop).symm.trans hL
  rw [e] at h
  exact ⟨fun i hi => h.2.2.1 (q + i) (by omega) (by omega), h.2.2.2⟩

theorem brk_close_last (n : Nat) (d : Nat → Nat) (q L : Nat) (hqn : q < n) (hop : isOpen (d q) = true) (hL : valEnd n d q = q + L) (hlt : q + L < n) : 0 < L ∧ isClose (d (q + (L - 1))) = true := by
  obtain ⟨h1, h2⟩ := valEnd_brk n d q hqn hop
  rw [hL] at h1
  have h := brk_last n d (n - (q + 1)) (q + 1) (1, 0) rfl (by omega) (by have : run brkStep n d (q + 1) (1, 0) = q + L := h1.symm; omega)
  have e : run brkStep n d (q + 1) (1, 0) = q + L := h1.symm
  rw [e] at h
  refine ⟨by omega, ?_⟩
  rw [show q + (L - 1) = q + L - 1 by omega]
  exact h.2
end Go.Proofs.Qxb6003628a.Plain
