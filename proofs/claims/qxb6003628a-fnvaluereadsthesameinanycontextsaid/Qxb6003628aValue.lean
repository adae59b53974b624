import Derived.Test.Qxb6003628aNext
namespace Go.Proofs.Qxb6003628a
open Go.RowKit Go.WideShapes

theorem Wk.moved {bw : Nat} {W W' : World} {b off n c p q : Nat} {d : Nat → Nat} (h : Wk bw W b off n c p d) (k : Mv bw W W' q) (hq : q ≤ n) : Wk bw W' b off n c q d :=
  ⟨k.c0.trans h.w0, k.c1, k.f1, h.ne, hq, h.nc, h.cb, k.row h.ne h.row⟩

/-- What Value hands back: the bytes from q on up to e; the walker stands at e. -/
def Val (bw : Nat) (W : World) (b off q e : Nat) (r : Ending) (W' : World) : Prop :=
  ∃ av cv, r = .returned (.slice av (e - q) cv) ∧ (q < e → av = some ⟨b, off + q, none⟩) ∧ e - q ≤ cv ∧ cv ≤ 1048576 ∧ Mv bw W W' e

set_option maxHeartbeats 4000000 in
theorem val16_str (bw b off n c p q : Nat) (d : Nat → Nat) (W : World) (h : Wk bw W b off n c p d) (hd : ∀ i, i < n → d i < 256) (hq : Hid (Plain.skip n d p = q)) (hqn : q < n) (h34 : d q = 34) (E : Nat) (hE : Hid (Plain.strEnd n d q = E)) :
    Calls Try.prog 16 #[.pointer (some ⟨bw, 0, none⟩)] W (Val bw W b off q E) := by
  have hnx := next12 bw b off n c p d W h
  rw [hq.out, show headOf n d q = 34 by unfold headOf; rw [if_pos hqn, h34]] at hnx
  have hcb := h.cb
  have hnc := h.nc
  go_enter Try.func16, Try.ntmps16
  go_wp2_with (fail)
  refine hnx.mono ?_
  rintro e W1 ⟨rfl, hmv⟩
  have hk := h.moved hmv (by omega)
  have hc0 := hk.w0
  have hc1 := hk.w1
  have hf1 := hk.wf
  have hst := fun m => str25 b off n c q d (W1.drewN m) hnc (by omega) hqn h34 hd (hk.row)
  have hb := Plain.run_bounds Plain.escStep n d (n - (q + 1)) (q + 1) false rfl (by omega)
  have hb' : q + 1 ≤ E ∧ E ≤ n := by rw [← hE.out]; exact hb
  rw [hE.out] at hst
  obtain ⟨hb1, hb2⟩ := hb'
  have hcq : ¬ c = q := by omega
  clear hnx hb h34
  go_wp2
  go_region_with (go_at_call 25; refine (hst _).mono ?_; rintro e w' ⟨rfl, rfl⟩)
  all_goals
    go_wp2
    go_quiet (fail)
    go_wp2
    go_ret
    refine ⟨_, c - q, rfl, fun _ => rfl, by omega, by omega, ?_⟩
    exact ((hmv.drewN _).set E).drewN _

set_option maxHeartbeats 4000000 in
theorem val16_end (bw b off n c p : Nat) (d : Nat → Nat) (W : World) (h : Wk bw W b off n c p d) (hq : Hid (Plain.skip n d p = n)) :
    Calls Try.prog 16 #[.pointer (some ⟨bw, 0, none⟩)] W (Val bw W b off n n) := by
  have hnx := next12 bw b off n c p d W h
  rw [hq.out, show headOf n d n = 0 by unfold headOf; rw [if_neg (by omega)]] at hnx
  have hcb := h.cb
  have hnc := h.nc
  go_enter Try.func16, Try.ntmps16
  go_wp2_with (fail)
  refine hnx.mono ?_
  rintro e W1 ⟨rfl, hmv⟩
  have hk := h.moved hmv (by omega)
  have hc0 := hk.w0
  have hc1 := hk.w1
  have hf1 := hk.wf
  have hdf : decide ((n : Int) < (n : Int)) = false := decide_eq_false (by omega)
  clear hnx
  by_cases hcn : c = n
  · subst hcn
    go_wp2
    refine wp_loop_rounds 1 ?_
    rw [rounds_succ]
    go_wp2
    go_quiet (fail)
    go_wp2
    go_quiet (fail)
    go_wp2
    go_ret
    refine ⟨_, _, by rw [Nat.sub_self]; rfl, fun hh => by omega, by omega, by omega, ?_⟩
    exact (hmv.drewN _).drewN _
  · go_wp2
    refine wp_loop_rounds 1 ?_
    rw [rounds_succ]
    go_wp2
    go_quiet (fail)
    go_wp2
    go_quiet (fail)
    go_wp2
    go_ret
    refine ⟨_, _, by rw [Nat.sub_self]; rfl, fun hh => by omega, by omega, by omega, ?_⟩
    exact (hmv.drewN _).drewN _

set_option maxHeartbeats 4000000 in
theorem val16_atom (bw b off n c p q : Nat) (d : Nat → Nat) (W : World) (h : Wk bw W b off n c p d) (hq : Hid (Plain.skip n d p = q)) (hqn : q < n) (h34 : d q ≠ 34) (hop : Plain.isOpen (d q) = false) (E : Nat) (hE : Hid (Plain.atomEnd n d q = E)) :
    Calls Try.prog 16 #[.pointer (some ⟨bw, 0, none⟩)] W (Val bw W b off q E) := by
  have hnx := next12 bw b off n c p d W h
  obtain ⟨x, hx⟩ : ∃ x, d q = x := ⟨_, rfl⟩
  rw [hq.out, show headOf n d q = x by unfold headOf; rw [if_pos hqn, hx]] at hnx
  rw [hx] at h34 hop
  have hxo : x ≠ 123 ∧ x ≠ 91 := by simpa [Plain.isOpen] using hop
  have e1 : ((x : Int) == 34) = false := by simp; omega
  have e2 : ((x : Int) == 123) = false := by simp; omega
  have e3 : ((x : Int) == 91) = false := by simp; omega
  have hcb := h.cb
  have hnc := h.nc
  have hbE := Plain.find_spec Plain.isDelim n d (n - q) q rfl (by omega)
  have hE1 : q ≤ E ∧ E ≤ n := by rw [← hE.out]; exact ⟨hbE.1, hbE.2.1⟩
  obtain ⟨hE1, hE2⟩ := hE1
  clear h34 hop hxo hx hbE
  go_enter Try.func16, Try.ntmps16
  go_wp2_with (fail)
  refine hnx.mono ?_
  rintro e W1 ⟨rfl, hmv1⟩
  have hk := h.moved hmv1 (by omega)
  have hc01 := hk.w0
  have hc11 := hk.w1
  clear hnx
  go_wp2
  go_loopw [13] (fun _ wr => ∃ i : Nat, q ≤ i ∧ i ≤ n ∧ Plain.atomEnd n d i = E ∧ Mv bw W wr i) (fun _ wr => n - posOf bw wr)
  case atStart => exact ⟨q, Nat.le_refl _, by omega, hE.out, hmv1⟩
  case round =>
    clear hc01 hc11 hk hmv1
    obtain ⟨i, hqi, hin, hat, hmv⟩ := hrel
    have HA : Hid (Plain.atomEnd n d i = E) := hat
    have hk := h.moved hmv hin
    have hc0 := hk.w0
    have hc1 := hk.w1
    have hf1 := hk.wf
    clear hat
    by_cases hlt : i < n
    · have hci := hk.row i hlt
      have hlt' : (i : Int) < (n : Int) := by omega
      have hdt : decide ((i : Int) < (n : Int)) = true := decide_eq_true hlt'
      cases hde : Plain.isDelim (d i) with
      | false =>
        have HN : Hid (Plain.atomEnd n d (i + 1) = E) := by show _ = _; rw [← HA.out]; exact (Plain.find_miss _ n d i hlt hde).symm
        clear hk HA
        go_wp2
        go_quiet ((go_at_call 26; exact (delim26 _ _).mono fun _ _ h => ⟨h.1, _, h.2⟩))
        go_wp2
        go_roundw
        case rel => exact ⟨i + 1, by omega, by omega, HN.out, (hmv.drewN _).setI (by omega)⟩
        case measure => rw [hmv.pos, ((hmv.drewN _).setI (p' := i + 1) (by omega)).pos]; omega
      | true =>
        have HN : Hid (E = i) := by show _ = _; rw [← HA.out]; exact Plain.find_hit _ n d i hde
        have hcq : ¬ c = q := by omega
        clear hk HA
        go_wp2
        go_quiet ((go_at_call 26; exact (delim26 _ _).mono fun _ _ h => ⟨h.1, _, h.2⟩))
        go_wp2
        go_quiet (fail)
        go_wp2
        go_ret
        refine ⟨_, c - q, by rw [HN.out]; rfl, fun _ => rfl, by omega, by omega, ?_⟩
        rw [HN.out]
        exact (hmv.drewN _).drewN _
    · have hdf : decide ((i : Int) < (n : Int)) = false := decide_eq_false (by omega)
      have HN : Hid (E = i) := by show _ = _; rw [← HA.out]; exact Plain.find_end _ n d i (by omega)
      have hcq : ¬ c = q := by omega
      clear hk HA
      go_wp2
      go_quiet (fail)
      go_wp2
      go_quiet (fail)
      go_wp2
      go_ret
      refine ⟨_, c - q, by rw [HN.out]; rfl, fun _ => rfl, by omega, by omega, ?_⟩
      rw [HN.out]
      exact (hmv.drewN _).drewN _
end Go.Proofs.Qxb6003628a
