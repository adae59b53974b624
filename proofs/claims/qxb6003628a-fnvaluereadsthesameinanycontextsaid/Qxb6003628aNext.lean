import Derived.Test.Qxb6003628aOpen
import Derived.Deep.RegionWith
namespace Go.Proofs.Qxb6003628a
open Go.RowKit Go.WideShapes

/-- The walker in block bw has been moved: its place is p; all else is as it was. -/
structure Mv (bw : Nat) (W W' : World) (p : Nat) : Prop where
  os : W'.os = W.os
  tape : W'.tape = W.tape
  output : W'.output = W.output
  size : W'.heap.size = W.heap.size
  other : ∀ k, k ≠ bw → W'.heap[k]? = W.heap[k]?
  c0 : W'.cell? ⟨bw, 0, none⟩ = W.cell? ⟨bw, 0, none⟩
  c1 : W'.cell? ⟨bw, 1, none⟩ = some (.int .i64 p)
  f1 : W'.frozen? ⟨bw, 1, none⟩ = false

theorem Mv.refl {bw : Nat} {W : World} {p : Nat} (h1 : W.cell? ⟨bw, 1, none⟩ = some (.int .i64 p)) (hf : W.frozen? ⟨bw, 1, none⟩ = false) : Mv bw W W p := ⟨rfl, rfl, rfl, rfl, fun _ _ => rfl, rfl, h1, hf⟩
theorem Mv.set {bw : Nat} {W W' : World} {p : Nat} (h : Mv bw W W' p) (p' : Nat) : Mv bw W (W'.setCell ⟨bw, 1, none⟩ (.int .i64 p')) p' where
  os := h.os
  tape := h.tape
  output := h.output
  size := by simpa [World.setCell] using h.size
  other := fun k hk => (Below.heap_setCell W' ⟨bw, 1, none⟩ _ k hk).trans (h.other k hk)
  c0 := by rw [World.cell?_setCell_other _ _ _ _ (by simp)]; exact h.c0
  c1 := World.cell?_setCell_same' _ _ _ (by rw [h.c1]; rfl)
  f1 := by rw [World.frozen?_setCell]; exact h.f1
theorem Mv.setI {bw : Nat} {W W' : World} {p : Nat} (h : Mv bw W W' p) {p' : Nat} {q : Int} (hq : q = p') : Mv bw W (W'.setCell ⟨bw, 1, none⟩ (.int .i64 q)) p' := by rw [hq]; exact h.set p'
theorem Mv.drewN {bw : Nat} {W W' : World} {p : Nat} (h : Mv bw W W' p) (n : Nat) : Mv bw W (W'.drewN n) p := ⟨h.os, h.tape, h.output, h.size, h.other, h.c0, h.c1, h.f1⟩
theorem Mv.trans {bw : Nat} {W W' W'' : World} {p p' : Nat} (h : Mv bw W W' p) (k : Mv bw W' W'' p') : Mv bw W W'' p' :=
  ⟨k.os.trans h.os, k.tape.trans h.tape, k.output.trans h.output, k.size.trans h.size, fun i hi => (k.other i hi).trans (h.other i hi), k.c0.trans h.c0, k.c1, k.f1⟩
theorem Mv.row {bw : Nat} {W W' : World} {p b off n : Nat} {d : Nat → Nat} (h : Mv bw W W' p) (hb : b ≠ bw) (hr : Row W b off n d) : Row W' b off n d := fun i hi =>
  (World.cell?_of_block (w := W) (h.other b hb)).trans (hr i hi)
theorem Mv.below {bw B : Nat} {W W' : World} {p : Nat} (h : Mv bw W W' p) (hB : B ≤ bw) : Below B W W' :=
  ⟨h.os, h.tape, h.output, by rw [h.size]; exact Nat.le_refl _, fun k hk => h.other k (by omega)⟩

/-- Where the walker stands. -/
def posOf (bw : Nat) (W : World) : Nat := match W.cell? ⟨bw, 1, none⟩ with | some (.int _ q) => q.toNat | _ => 0
theorem Mv.pos {bw : Nat} {W W' : World} {p : Nat} (h : Mv bw W W' p) : posOf bw W' = p := by unfold posOf; rw [h.c1]; simp

/-- What is known of a walker over data that are not empty. -/
structure Wk (bw : Nat) (W : World) (b off n c p : Nat) (d : Nat → Nat) : Prop where
  w0 : W.cell? ⟨bw, 0, none⟩ = some (.slice (some ⟨b, off, none⟩) n c)
  w1 : W.cell? ⟨bw, 1, none⟩ = some (.int .i64 p)
  wf : W.frozen? ⟨bw, 1, none⟩ = false
  ne : b ≠ bw
  le : p ≤ n
  nc : n ≤ c
  cb : c ≤ 1048576
  row : Row W b off n d

def headOf (n : Nat) (d : Nat → Nat) (q : Nat) : Nat := if q < n then d q else 0

set_option maxHeartbeats 2000000 in
theorem next12 (bw b off n c p : Nat) (d : Nat → Nat) (W : World) (h : Wk bw W b off n c p d) :
    Calls Try.prog 12 #[.pointer (some ⟨bw, 0, none⟩)] W fun e W' => e = .returned (.int .u8 (headOf n d (Plain.skip n d p) : Int)) ∧ Mv bw W W' (Plain.skip n d p) := by
  have hcb := h.cb
  have hnc := h.nc
  have hlep := h.le
  go_enter Try.func12, Try.ntmps12
  go_wp2
  go_loopw [2] (fun v wr => v = .int .u8 0 ∧ ∃ i : Nat, p ≤ i ∧ i ≤ n ∧ Plain.skip n d i = Plain.skip n d p ∧ Mv bw W wr i) (fun _ wr => n - posOf bw wr)
  case atStart => exact ⟨rfl, p, Nat.le_refl _, h.le, rfl, Mv.refl h.w1 h.wf⟩
  case round =>
    obtain ⟨rfl, i, hpi, hin, hsk, hmv⟩ := hrel
    have HK : Hid (Plain.skip n d i = Plain.skip n d p) := hsk
    have hc0 := hmv.c0.trans h.w0
    have hc1 := hmv.c1
    have hf1 := hmv.f1
    clear hsk
    by_cases hlt : i < n
    · have hci := hmv.row h.ne h.row i hlt
      have hlt' : (i : Int) < (n : Int) := by omega
      cases hsp : Plain.isSp (d i) with
      | true =>
        have HN : Hid (Plain.skip n d (i + 1) = Plain.skip n d p) := by
          show _ = _
          rw [← HK.out]
          exact (Plain.find_miss _ n d i hlt (by rw [hsp]; rfl)).symm
        have hor : d i = 32 ∨ (d i ≠ 32 ∧ d i = 9) ∨ (d i ≠ 32 ∧ d i ≠ 9 ∧ d i = 10) ∨ (d i ≠ 32 ∧ d i ≠ 9 ∧ d i ≠ 10 ∧ d i = 13) := by
          simp [Plain.isSp] at hsp; omega
        clear hsp HK
        rcases hor with h1 | ⟨h1, h2⟩ | ⟨h1, h2, h3⟩ | ⟨h1, h2, h3, h4⟩
        · have e1 : ((d i : Int) == 32) = true := by simp; omega
          clear h1
          go_wp2
          go_quiet (fail)
          go_wp2
          go_quiet (fail)
          go_wp2
          go_roundw
          case rel => exact ⟨rfl, i + 1, by omega, by omega, HN.out, (hmv.drewN _).setI (by omega)⟩
          case measure => rw [hmv.pos, ((hmv.drewN _).setI (p' := i + 1) (by omega)).pos]; omega
        · have e1 : ((d i : Int) == 32) = false := by simp; omega
          have e2 : ((d i : Int) == 9) = true := by simp; omega
          clear h1 h2
          go_wp2
          go_quiet (fail)
          go_wp2
          go_quiet (fail)
          go_wp2
          go_roundw
          case rel => exact ⟨rfl, i + 1, by omega, by omega, HN.out, (hmv.drewN _).setI (by omega)⟩
          case measure => rw [hmv.pos, ((hmv.drewN _).setI (p' := i + 1) (by omega)).pos]; omega
        · have e1 : ((d i : Int) == 32) = false := by simp; omega
          have e2 : ((d i : Int) == 9) = false := by simp; omega
          have e3 : ((d i : Int) == 10) = true := by simp; omega
          clear h1 h2 h3
          go_wp2
          go_quiet (fail)
          go_wp2
          go_quiet (fail)
          go_wp2
          go_roundw
          case rel => exact ⟨rfl, i + 1, by omega, by omega, HN.out, (hmv.drewN _).setI (by omega)⟩
          case measure => rw [hmv.pos, ((hmv.drewN _).setI (p' := i + 1) (by omega)).pos]; omega
        · have e1 : ((d i : Int) == 32) = false := by simp; omega
          have e2 : ((d i : Int) == 9) = false := by simp; omega
          have e3 : ((d i : Int) == 10) = false := by simp; omega
          have e4 : ((d i : Int) == 13) = true := by simp; omega
          clear h1 h2 h3 h4
          go_wp2
          go_quiet (fail)
          go_wp2
          go_quiet (fail)
          go_wp2
          go_roundw
          case rel => exact ⟨rfl, i + 1, by omega, by omega, HN.out, (hmv.drewN _).setI (by omega)⟩
          case measure => rw [hmv.pos, ((hmv.drewN _).setI (p' := i + 1) (by omega)).pos]; omega
      | false =>
        have HN : Hid (Plain.skip n d p = i) := by
          show _ = _
          rw [← HK.out]
          exact Plain.find_hit _ n d i (by rw [hsp]; rfl)
        have hno : d i ≠ 32 ∧ d i ≠ 9 ∧ d i ≠ 10 ∧ d i ≠ 13 := by
          simp [Plain.isSp] at hsp; omega
        have e1 : ((d i : Int) == 32) = false := by simp; omega
        have e2 : ((d i : Int) == 9) = false := by simp; omega
        have e3 : ((d i : Int) == 10) = false := by simp; omega
        have e4 : ((d i : Int) == 13) = false := by simp; omega
        clear hsp HK hno
        go_wp2
        go_quiet (fail)
        go_wp2
        go_quiet (fail)
        go_wp2
        go_ret
        refine ⟨ret_int (by rw [HN.out]; unfold headOf; rw [if_pos hlt]), ?_⟩
        rw [HN.out]
        exact hmv.drewN _
    · have hlt' : ¬ (i : Int) < (n : Int) := by omega
      have HN : Hid (Plain.skip n d p = i) := by
        show _ = _
        rw [← HK.out]
        exact Plain.find_end _ n d i (by omega)
      clear HK
      go_wp2
      go_quiet (fail)
      go_wp2
      go_ret
      refine ⟨ret_int (by rw [HN.out]; unfold headOf; rw [if_neg hlt]; rfl), ?_⟩
      rw [HN.out]
      exact hmv.drewN _
end Go.Proofs.Qxb6003628a
