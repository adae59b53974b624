import Derived.Test.Qxb6003628aPlain
namespace Go.Proofs.Qxb6003628a.Plain

theorem cut_skip (n : Nat) (d : Nat → Nat) (p : Nat) (hp : p ≤ n) : skip (valEnd n d (skip n d p)) d p = skip n d p := by
  obtain ⟨h1, h2, h3, h4⟩ := skip_spec n d p hp
  obtain ⟨h5, h6⟩ := valEnd_bounds n d (skip n d p) h2
  exact skip_unique _ _ _ _ h1 h5 h3 (fun h => h4 (by omega))

theorem cut_end (n : Nat) (d : Nat → Nat) (q : Nat) (hq : q ≤ n) : valEnd (valEnd n d q) d q = valEnd n d q := by
  obtain ⟨h5, h6⟩ := valEnd_bounds n d q hq
  by_cases h : q < valEnd n d q
  · rw [valEnd_local n d q (valEnd n d q) d q (by omega) h (fun t _ => rfl) (by omega) (.inl (by omega))]; omega
  · have := valEnd_bounds (valEnd n d q) d q h5; omega

theorem own_skip (n : Nat) (d : Nat → Nat) (p L : Nat) (hp : p ≤ n) (hL : valEnd n d (skip n d p) = skip n d p + L) : skip L (fun t => d (skip n d p + t)) 0 = 0 := by
  obtain ⟨h1, h2, h3, h4⟩ := skip_spec n d p hp
  obtain ⟨h5, h6⟩ := valEnd_bounds n d (skip n d p) h2
  exact skip_unique _ _ _ _ (Nat.le_refl _) (Nat.zero_le _) (fun j _ h => by omega) (fun h => h4 (by omega))

theorem own_end (n : Nat) (d : Nat → Nat) (q L : Nat) (hq : q ≤ n) (hL : valEnd n d q = q + L) : valEnd L (fun t => d (q + t)) 0 = L := by
  obtain ⟨h5, h6⟩ := valEnd_bounds n d q hq
  by_cases h : 0 < L
  · rw [valEnd_local n d q L (fun t => d (q + t)) 0 (by omega) (by omega) (fun t _ => by simp) (by omega) (.inl (by omega))]; omega
  · have := valEnd_bounds L (fun t => d (q + t)) 0 (Nat.zero_le _); omega

theorem want (n : Nat) (d : Nat → Nat) (p q L : Nat) (hp : p ≤ n) (hq : skip n d p = q) (hL : valEnd n d q = q + L) (hqn : q < n) : L = 0 ↔ (d q = 44 ∨ d q = 125 ∨ d q = 93) := by
  obtain ⟨h1, h2, h3, h4⟩ := skip_spec n d p hp
  rw [hq] at h4
  have h := valEnd_empty n d q hqn
  rw [hL] at h
  have hs := h4 hqn
  constructor
  · intro h0
    have hd := h.1 (by omega)
    unfold isDelim at hd
    rw [hs] at hd
    simp at hd
    omega
  · intro h0
    have hd : isDelim (d q) = true := by
      unfold isDelim
      rcases h0 with h0 | h0 | h0 <;> rw [h0] <;> decide
    have := h.2 hd
    omega
end Go.Proofs.Qxb6003628a.Plain
