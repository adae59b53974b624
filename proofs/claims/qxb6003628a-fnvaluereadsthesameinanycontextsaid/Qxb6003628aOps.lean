import Derived.Test.Qxb6003628aBrk
namespace Go.Proofs.Qxb6003628a
open Go.RowKit Go.WideShapes

/-- A slice of n bytes, told by d; its bytes lie below block B. -/
structure Sl (B : Nat) (W : World) (a : Option Addr) (n c : Nat) (d : Nat → Nat) : Prop where
  nc : n ≤ c
  cb : c ≤ 1048576
  row : 0 < n → ∃ b off, a = some ⟨b, off, none⟩ ∧ b < B ∧ Row W b off n d
  byt : ∀ i, i < n → d i < 256

theorem Sl.below {B B' : Nat} {W W' : World} {a : Option Addr} {n c : Nat} {d : Nat → Nat} (h : Sl B W a n c d) (hb : Below B' W W') (hB : B ≤ B') : Sl B W' a n c d :=
  ⟨h.nc, h.cb, fun h0 => by obtain ⟨b, off, e, hlt, hr⟩ := h.row h0; exact ⟨b, off, e, hlt, fun i hi => (hb.cell (p := ⟨b, off + i, none⟩) (show b < B' by omega)).trans (hr i hi)⟩, h.byt⟩
theorem Sl.mono {B B' : Nat} {W : World} {a : Option Addr} {n c : Nat} {d : Nat → Nat} (h : Sl B W a n c d) (hB : B ≤ B') : Sl B' W a n c d :=
  ⟨h.nc, h.cb, fun h0 => by obtain ⟨b, off, e, hlt, hr⟩ := h.row h0; exact ⟨b, off, e, by omega, hr⟩, h.byt⟩
theorem Sl.empty (B : Nat) (W : World) (a : Option Addr) (c : Nat) (d : Nat → Nat) (hc : c ≤ 1048576) : Sl B W a 0 c d := ⟨Nat.zero_le _, hc, fun h => by omega, fun i hi => by omega⟩

/-- A walker in block bw over a slice. -/
structure Wa (bw : Nat) (W : World) (a : Option Addr) (n c p : Nat) : Prop where
  w0 : W.cell? ⟨bw, 0, none⟩ = some (.slice a n c)
  w1 : W.cell? ⟨bw, 1, none⟩ = some (.int .i64 p)
  wf : W.frozen? ⟨bw, 1, none⟩ = false

theorem new11 (a : Option Addr) (n c : Nat) (p : Int) (st : Bool) (w : World) :
    Calls Try.prog 11 #[.slice a n c, .int .i64 p, .bool st] w fun e w' => e = .returned (.pointer (some ⟨w.heap.size, 0, none⟩)) ∧ w' = w.alloc (.cells #[.slice a n c, .int .i64 p, .bool st] 39) := by
  go_enter Try.func11, Try.ntmps11
  go_wp2
  go_ret
  exact ⟨rfl, rfl⟩

theorem Wa.new (a : Option Addr) (n c p : Nat) (st : Bool) (w : World) : Wa w.heap.size (w.alloc (.cells #[.slice a n c, .int .i64 p, .bool st] 39)) a n c p :=
  ⟨by simp, by simp, by simp⟩

theorem pos13 (bw p : Nat) (W : World) (h : W.cell? ⟨bw, 1, none⟩ = some (.int .i64 p)) : Calls Try.prog 13 #[.pointer (some ⟨bw, 0, none⟩)] W fun e w' => e = .returned (.int .i64 p) ∧ w' = W := by
  go_enter Try.func13, Try.ntmps13
  go_wp2
  go_ret
  exact ⟨rfl, rfl⟩

theorem drawn3 (W : World) (a b c : Nat) : ∃ m, ((W.drewN a).drewN b).drewN c = W.drewN m := ⟨a + (b + c), by rw [World.drewN_drewN, World.drewN_drewN]⟩

set_option maxHeartbeats 1000000 in
theorem next12_none (bw c : Nat) (a : Option Addr) (W : World) (h0 : W.cell? ⟨bw, 0, none⟩ = some (.slice a 0 c)) (h1 : W.cell? ⟨bw, 1, none⟩ = some (.int .i64 0)) :
    Calls Try.prog 12 #[.pointer (some ⟨bw, 0, none⟩)] W fun e W' => e = .returned (.int .u8 0) ∧ ∃ m, W' = W.drewN m := by
  go_enter Try.func12, Try.ntmps12
  go_wp2
  refine wp_loop_rounds 1 ?_
  rw [rounds_succ]
  go_wp2
  go_quiet (fail)
  go_wp2
  go_ret
  exact ⟨rfl, _, rfl⟩

set_option maxHeartbeats 1000000 in
theorem val16_none (bw c : Nat) (a : Option Addr) (W : World) (h0 : W.cell? ⟨bw, 0, none⟩ = some (.slice a 0 c)) (h1 : W.cell? ⟨bw, 1, none⟩ = some (.int .i64 0)) :
    Calls Try.prog 16 #[.pointer (some ⟨bw, 0, none⟩)] W fun e W' => (∃ av, e = .returned (.slice av 0 c)) ∧ ∃ m, W' = W.drewN m := by
  have hnx := next12_none bw c a W h0 h1
  have hdf : decide ((0 : Int) < 0) = false := by decide
  go_enter Try.func16, Try.ntmps16
  go_wp2_with (fail)
  refine hnx.mono ?_
  rintro e W1 ⟨rfl, m, rfl⟩
  clear hnx
  by_cases hc : c = 0
  · subst hc
    go_wp2
    refine wp_loop_rounds 1 ?_
    rw [rounds_succ]
    go_wp2
    go_quiet (fail)
    go_wp2
    go_quiet (fail)
    go_wp2
    go_ret
    exact ⟨⟨_, rfl⟩, drawn3 _ _ _ _⟩
  · go_wp2
    refine wp_loop_rounds 1 ?_
    rw [rounds_succ]
    go_wp2
    go_quiet (fail)
    go_wp2
    go_quiet (fail)
    go_wp2
    go_ret
    exact ⟨⟨_, rfl⟩, drawn3 _ _ _ _⟩

set_option maxHeartbeats 1000000 in
theorem skip17_some (b off n c p : Nat) (d : Nat → Nat) (w : World) (hn : n ≤ 1048576) (hp : p ≤ n) (hr : Row w b off n d) :
    Calls Try.prog 17 #[.slice (some ⟨b, off, none⟩) n c, .int .i64 p] w fun e w' => e = .returned (.int .i64 (Plain.skip n d p)) ∧ w' = w := by
  go_enter Try.func17, Try.ntmps17
  go_wp2
  go_loop [5] (fun v => ∃ i : Nat, v = .int .i64 i ∧ p ≤ i ∧ i ≤ n ∧ Plain.skip n d i = Plain.skip n d p) (fun v => n - (intOf v).toNat)
  case atStart => exact ⟨p, rfl, Nat.le_refl _, hp, rfl⟩
  case round =>
    obtain ⟨i, rfl, hpi, hin, hsk⟩ := hrel
    have HK : Hid (Plain.skip n d i = Plain.skip n d p) := hsk
    clear hsk
    by_cases hlt : i < n
    · have hci := hr i hlt
      cases hsp : Plain.isSp (d i) with
      | true =>
        have HN : Hid (Plain.skip n d (i + 1) = Plain.skip n d p) := by
          show _ = _
          rw [← HK.out]
          exact (Plain.find_miss _ n d i hlt (by rw [hsp]; rfl)).symm
        go_wp2_with (go_at_call 9; refine (sp9 _ _).mono ?_; rintro e w' ⟨rfl, rfl⟩)
        go_round
        case rel => exact ⟨i + 1, by go_num, by omega, by omega, HN.out⟩
        case measure => simp [intOf]; omega
      | false =>
        have HN : Hid (Plain.skip n d p = i) := by
          show _ = _
          rw [← HK.out]
          exact Plain.find_hit _ n d i (by rw [hsp]; rfl)
        go_wp2_with (go_at_call 9; refine (sp9 _ _).mono ?_; rintro e w' ⟨rfl, rfl⟩)
        go_ret
        exact ⟨ret_int (by rw [HN.out]), rfl⟩
    · have HN : Hid (Plain.skip n d p = i) := by
        show _ = _
        rw [← HK.out]
        exact Plain.find_end _ n d i (by omega)
      go_wp2
      go_ret
      exact ⟨ret_int (by rw [HN.out]), rfl⟩

set_option maxHeartbeats 1000000 in
theorem skip17_none (a : Option Addr) (c : Nat) (w : World) : Calls Try.prog 17 #[.slice a 0 c, .int .i64 0] w fun e w' => e = .returned (.int .i64 0) ∧ w' = w := by
  go_enter Try.func17, Try.ntmps17
  go_wp2
  refine wp_loop_rounds 1 ?_
  rw [rounds_succ]
  go_wp2
  go_ret
  exact ⟨rfl, rfl⟩

set_option maxHeartbeats 1000000 in
theorem same20_some (b off b' off' n c c' : Nat) (d : Nat → Nat) (w : World) (hn : n ≤ 1048576) (hr : Row w b off n d) (hr' : Row w b' off' n d) :
    Calls Try.prog 20 #[.slice (some ⟨b, off, none⟩) n c, .slice (some ⟨b', off', none⟩) n c'] w fun e w' => e = .returned (.bool true) ∧ ∃ m, w' = w.drewN m := by
  go_enter Try.func20, Try.ntmps20
  go_wp2
  go_loopw [5] (fun v wr => ∃ i m : Nat, v = .int .i64 i ∧ i ≤ n ∧ wr = w.drewN m) (fun v _ => n - (intOf v).toNat)
  case atStart => exact ⟨0, 0, rfl, by omega, rfl⟩
  case round =>
    obtain ⟨i, m, rfl, hin, rfl⟩ := hrel
    by_cases hlt : i < n
    · have h1 := hr i hlt
      have h2 := hr' i hlt
      have h3 : (i : Int) < (n : Int) := by omega
      go_wp2
      go_quiet (fail)
      go_wp2
      go_roundw
      case rel => exact ⟨i + 1, _, by go_num, by omega, rfl⟩
      case measure => simp [intOf]; omega
    · go_wp2
      go_ret
      exact ⟨rfl, _, rfl⟩

set_option maxHeartbeats 1000000 in
theorem same20_none (a a' : Option Addr) (c c' : Nat) (w : World) : Calls Try.prog 20 #[.slice a 0 c, .slice a' 0 c'] w fun e w' => e = .returned (.bool true) ∧ ∃ m, w' = w.drewN m := by
  go_enter Try.func20, Try.ntmps20
  go_wp2
  refine wp_loop_rounds 1 ?_
  rw [rounds_succ]
  go_wp2
  go_ret
  exact ⟨rfl, 0, rfl⟩
end Go.Proofs.Qxb6003628a
