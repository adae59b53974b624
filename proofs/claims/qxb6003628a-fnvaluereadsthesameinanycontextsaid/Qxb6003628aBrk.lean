import Derived.Test.Qxb6003628aValue
namespace Go.Proofs.Qxb6003628a
open Go.RowKit Go.WideShapes

/-- Between two bytes: at the opening bracket, or inside. -/
def InBrk (n : Nat) (d : Nat → Nat) (q E i dp : Nat) : Prop := (i = q ∧ dp = 0) ∨ (q < i ∧ 1 ≤ dp ∧ Plain.brk n d i dp = E)

theorem InBrk.open_ {n : Nat} {d : Nat → Nat} {q E i dp : Nat} (h : InBrk n d q E i dp) (hE : Plain.brkEnd n d q = E) (hi : i < n) (ho : Plain.isOpen (d i) = true) : InBrk n d q E (i + 1) (dp + 1) := by
  rcases h with ⟨rfl, rfl⟩ | ⟨h1, h2, h3⟩
  · exact .inr ⟨by omega, by omega, hE⟩
  · exact .inr ⟨by omega, by omega, by rw [← h3, Plain.brk_open n d i dp hi ho]⟩
theorem InBrk.inside {n : Nat} {d : Nat → Nat} {q E i dp : Nat} (h : InBrk n d q E i dp) (hq : Plain.isOpen (d q) = true) (ho : Plain.isOpen (d i) = false) : q < i ∧ 1 ≤ dp ∧ Plain.brk n d i dp = E := by
  rcases h with ⟨rfl, rfl⟩ | h
  · rw [hq] at ho; cases ho
  · exact h

set_option maxRecDepth 1000000 in
set_option maxHeartbeats 8000000 in
theorem val16_brk (bw b off n c p q : Nat) (d : Nat → Nat) (W : World) (h : Wk bw W b off n c p d) (hd : ∀ i, i < n → d i < 256) (hq : Hid (Plain.skip n d p = q)) (hqn : q < n) (hop : Hid (Plain.isOpen (d q) = true)) (E : Nat) (hE : Hid (Plain.brkEnd n d q = E)) :
    Calls Try.prog 16 #[.pointer (some ⟨bw, 0, none⟩)] W (Val bw W b off q E) := by
  have hnx := next12 bw b off n c p d W h
  obtain ⟨x, hx⟩ : ∃ x, d q = x := ⟨_, rfl⟩
  rw [hq.out, show headOf n d q = x by unfold headOf; rw [if_pos hqn, hx]] at hnx
  have hxo : x = 123 ∨ x = 91 := by have := hop.out; rw [hx] at this; simpa [Plain.isOpen] using this
  have hcb := h.cb
  have hnc := h.nc
  have hbE := Plain.run_bounds Plain.brkStep n d (n - (q + 1)) (q + 1) (1, 0) rfl (by omega)
  have hE1 : q + 1 ≤ E ∧ E ≤ n := by rw [← hE.out]; exact hbE
  obtain ⟨hE1, hE2⟩ := hE1
  have hcq : ¬ c = q := by omega
  clear hbE hx
  rcases hxo with rfl | rfl
  all_goals
    go_enter Try.func16, Try.ntmps16
    go_wp2_with (fail)
    refine hnx.mono ?_
    rintro e W1 ⟨rfl, hmv1⟩
    have hk := h.moved hmv1 (by omega)
    have hc01 := hk.w0
    have hc11 := hk.w1
    clear hnx
    go_wp2
    go_loopw [5] (fun v wr => ∃ i dp : Nat, v = .int .i64 dp ∧ q ≤ i ∧ i ≤ n ∧ dp ≤ i ∧ InBrk n d q E i dp ∧ Mv bw W wr i) (fun _ wr => n - posOf bw wr)
    case atStart => exact ⟨q, 0, rfl, Nat.le_refl _, by omega, by omega, .inl ⟨rfl, rfl⟩, hmv1⟩
    case round =>
      clear hc01 hc11 hk hmv1
      obtain ⟨i, dp, rfl, hqi, hin, hdi, hib, hmv⟩ := hrel
      have HI : Hid (InBrk n d q E i dp) := hib
      have hk := h.moved hmv hin
      have hc0 := hk.w0
      have hc1 := hk.w1
      have hf1 := hk.wf
      clear hib
      by_cases hlt : i < n
      · have hci := hk.row i hlt
        have hlt' : (i : Int) < (n : Int) := by omega
        by_cases h34 : d i = 34
        · have e1 : ((d i : Int) == 34) = true := by simp; omega
          have hst := fun m => str25 b off n c i d (wr.drewN m) hnc (by omega) hlt h34 hd (hk.row)
          obtain ⟨S, hS⟩ : ∃ S, Hid (Plain.strEnd n d i = S) := ⟨_, rfl⟩
          have hSb : i + 1 ≤ S ∧ S ≤ n := by rw [← hS.out]; exact Plain.run_bounds Plain.escStep n d (n - (i + 1)) (i + 1) false rfl (by omega)
          obtain ⟨hS1, hS2⟩ := hSb
          have hin' := HI.out.inside hop.out (by rw [h34]; decide)
          have HN : Hid (InBrk n d q E S dp) := .inr ⟨by omega, hin'.2.1, by rw [← hin'.2.2, Plain.brk_quote n d i dp hlt h34, hS.out]⟩
          have hdp1 : 1 ≤ dp := hin'.2.1
          have hdz : ((dp : Int) == 0) = false := by simp; omega
          rw [hS.out] at hst
          clear h34 hin' HI hk
          go_wp2
          go_quiet (fail)
          go_wp2
          go_quiet (fail)
          go_wp2
          go_region_with (go_at_call 25; refine (hst _).mono ?_; rintro e w' ⟨rfl, rfl⟩)
          all_goals
            go_wp2
            go_roundw
            case rel => exact ⟨S, dp, rfl, by omega, by omega, by omega, HN.out, ((hmv.drewN _).setI (p' := S - 1) (by omega)).setI (by omega)⟩
            case measure => rw [hmv.pos, (((hmv.drewN _).setI (p' := S - 1) (by omega)).setI (p' := S) (by omega)).pos]; omega
        · have e1 : ((d i : Int) == 34) = false := by simp; omega
          cases ho : Plain.isOpen (d i) with
          | true =>
            have HN : Hid (InBrk n d q E (i + 1) (dp + 1)) := HI.out.open_ hE.out hlt ho
            have hor : d i = 123 ∨ d i = 91 := by simpa [Plain.isOpen] using ho
            have hdz : ((dp : Int) + 1 == 0) = false := by simp; omega
            clear HI hk ho h34
            rcases hor with h1 | h1
            · have e2 : ((d i : Int) == 123) = true := by simp; omega
              clear h1
              go_wp2
              go_quiet (fail)
              go_wp2
              go_quiet (fail)
              go_wp2
              go_roundw
              case rel => exact ⟨i + 1, dp + 1, by go_num, by omega, by omega, by omega, HN.out, (hmv.drewN _).setI (by omega)⟩
              case measure => rw [hmv.pos, ((hmv.drewN _).setI (p' := i + 1) (by omega)).pos]; omega
            · have e2 : ((d i : Int) == 123) = false := by simp; omega
              have e3 : ((d i : Int) == 91) = true := by simp; omega
              clear h1
              go_wp2
              go_quiet (fail)
              go_wp2
              go_quiet (fail)
              go_wp2
              go_roundw
              case rel => exact ⟨i + 1, dp + 1, by go_num, by omega, by omega, by omega, HN.out, (hmv.drewN _).setI (by omega)⟩
              case measure => rw [hmv.pos, ((hmv.drewN _).setI (p' := i + 1) (by omega)).pos]; omega
          | false =>
            have hno : d i ≠ 123 ∧ d i ≠ 91 := by simpa [Plain.isOpen] using ho
            have e2 : ((d i : Int) == 123) = false := by simp; omega
            have e3 : ((d i : Int) == 91) = false := by simp; omega
            have hin' := HI.out.inside hop.out ho
            have hdp1 : 1 ≤ dp := hin'.2.1
            cases hcl : Plain.isClose (d i) with
            | true =>
              have hor : d i = 125 ∨ d i = 93 := by simpa [Plain.isClose] using hcl
              have HB := Plain.brk_close n d i dp hlt hcl
              rw [hin'.2.2] at HB
              have HB' : Hid (E = if dp = 1 then i + 1 else Plain.brk n d (i + 1) (dp - 1)) := HB
              have hq1 := hin'.1
              clear HB HI hk ho h34 hno hin' hcl
              by_cases hd1 : dp = 1
              · subst hd1
                have HN : Hid (E = i + 1) := by show _ = _; rw [HB'.out, if_pos rfl]
                clear HB'
                rcases hor with h1 | h1
                · have e4 : ((d i : Int) == 125) = true := by simp; omega
                  clear h1
                  go_wp2
                  go_quiet (fail)
                  go_wp2
                  go_quiet (fail)
                  go_wp2
                  go_quiet (fail)
                  go_wp2
                  go_ret
                  refine ⟨_, c - q, by rw [HN.out]; rfl, fun _ => rfl, by omega, by omega, ?_⟩
                  rw [HN.out]
                  exact ((hmv.drewN _).setI (by omega)).drewN _
                · have e4 : ((d i : Int) == 125) = false := by simp; omega
                  have e5 : ((d i : Int) == 93) = true := by simp; omega
                  clear h1
                  go_wp2
                  go_quiet (fail)
                  go_wp2
                  go_quiet (fail)
                  go_wp2
                  go_quiet (fail)
                  go_wp2
                  go_ret
                  refine ⟨_, c - q, by rw [HN.out]; rfl, fun _ => rfl, by omega, by omega, ?_⟩
                  rw [HN.out]
                  exact ((hmv.drewN _).setI (by omega)).drewN _
              · have HN : Hid (InBrk n d q E (i + 1) (dp - 1)) := .inr ⟨by omega, by omega, by rw [HB'.out, if_neg hd1]⟩
                have hdz : ((dp : Int) - 1 == 0) = false := by simp; omega
                clear HB'
                rcases hor with h1 | h1
                · have e4 : ((d i : Int) == 125) = true := by simp; omega
                  clear h1
                  go_wp2
                  go_quiet (fail)
                  go_wp2
                  go_quiet (fail)
                  go_wp2
                  go_roundw
                  case rel => exact ⟨i + 1, dp - 1, vint (by omega), by omega, by omega, by omega, HN.out, (hmv.drewN _).setI (by omega)⟩
                  case measure => rw [hmv.pos, ((hmv.drewN _).setI (p' := i + 1) (by omega)).pos]; omega
                · have e4 : ((d i : Int) == 125) = false := by simp; omega
                  have e5 : ((d i : Int) == 93) = true := by simp; omega
                  clear h1
                  go_wp2
                  go_quiet (fail)
                  go_wp2
                  go_quiet (fail)
                  go_wp2
                  go_roundw
                  case rel => exact ⟨i + 1, dp - 1, vint (by omega), by omega, by omega, by omega, HN.out, (hmv.drewN _).setI (by omega)⟩
                  case measure => rw [hmv.pos, ((hmv.drewN _).setI (p' := i + 1) (by omega)).pos]; omega
            | false =>
              have hnc2 : d i ≠ 125 ∧ d i ≠ 93 := by simpa [Plain.isClose] using hcl
              have e4 : ((d i : Int) == 125) = false := by simp; omega
              have e5 : ((d i : Int) == 93) = false := by simp; omega
              have HN : Hid (InBrk n d q E (i + 1) dp) := .inr ⟨by omega, hdp1, by rw [← hin'.2.2, Plain.brk_other n d i dp hlt h34 ho hcl]⟩
              have hdz : ((dp : Int) == 0) = false := by simp; omega
              clear HI hk ho h34 hno hin' hcl hnc2
              go_wp2
              go_quiet (fail)
              go_wp2
              go_quiet (fail)
              go_wp2
              go_roundw
              case rel => exact ⟨i + 1, dp, rfl, by omega, by omega, by omega, HN.out, (hmv.drewN _).setI (by omega)⟩
              case measure => rw [hmv.pos, ((hmv.drewN _).setI (p' := i + 1) (by omega)).pos]; omega
      · have hlt' : ¬ (i : Int) < (n : Int) := by omega
        have HN : Hid (E = i) := by
          rcases HI.out with ⟨h1, _⟩ | ⟨_, _, h3⟩
          · omega
          · show _ = _; rw [← h3]; exact Plain.run_end _ _ _ _ _ (by omega)
        clear HI hk
        go_wp2
        go_quiet (fail)
        go_wp2
        go_quiet (fail)
        go_wp2
        go_ret
        refine ⟨_, c - q, by rw [HN.out]; rfl, fun _ => rfl, by omega, by omega, ?_⟩
        rw [HN.out]
        exact (hmv.drewN _).drewN _
end Go.Proofs.Qxb6003628a
