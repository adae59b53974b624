import Derived.Test.Qxb6003628aSlice
import Derived.Test.Qxb6003628aCut
namespace Go.Proofs.Qxb6003628a
open Go.RowKit Go.WideShapes

theorem zz21 (a : Option Addr) (n c : Nat) (st : Int) (b : Bool) (w : World) (hn : n ≤ maxLen) :
    Calls Try.prog 21 #[.slice a n c, .int .i64 st, .bool b] w fun e w' => e = .returned (.bool (decide (n ≤ 1048576))) ∧ w' = w := by
  unfold maxLen at hn
  by_cases h : 1048576 < n
  · go_enter Try.func21, Try.ntmps21
    go_wp2
    go_ret
    exact ⟨ret_bool (decide_eq_false (by omega)).symm, rfl⟩
  · go_enter Try.func21, Try.ntmps21
    go_wp2
    go_ret
    exact ⟨ret_bool (decide_eq_true (by omega)).symm, rfl⟩

theorem Below.undrew {B m : Nat} {w w' : World} (h : Below B (w.drewN m) w') : Below B w w' := ⟨h.os, h.tape, h.output, h.size, h.block⟩
theorem Below.drewN' {B : Nat} {w w' : World} (h : Below B w w') (m : Nat) : Below B w (w'.drewN m) := ⟨h.os, h.tape, h.output, h.size, h.block⟩
theorem Sl.drewN {B : Nat} {W : World} {a : Option Addr} {n c : Nat} {d : Nat → Nat} (h : Sl B W a n c d) (m : Nat) : Sl B (W.drewN m) a n c d := ⟨h.nc, h.cb, h.row, h.byt⟩

/-- Where the bounds do not hold. -/
theorem early5 (a : Option Addr) (n c : Nat) (st : Int) (b : Bool) (w : World) (hn : n ≤ maxLen) (h : 65536 < n ∨ st < 0 ∨ (n : Int) < st) :
    Calls Try.prog 5 #[.slice a n c, .int .i64 st, .bool b] w fun e w' => e = .returned (.bool true) ∧ Below w.heap.size w w' := by
  have hz := zz21 a n c st b w hn
  unfold maxLen at hn
  by_cases h0 : n ≤ 1048576
  · rw [decide_eq_true h0] at hz
    by_cases h1 : 65536 < n
    · clear h
      go_enter Try.func5, Try.ntmps5
      go_wp2_with (go_at_call 21; refine hz.mono ?_; rintro e w ⟨rfl, rfl⟩)
      go_ret
      exact ⟨rfl, Below.refl _ _⟩
    · by_cases h2 : st < 0
      · clear h
        go_enter Try.func5, Try.ntmps5
        go_wp2_with (go_at_call 21; refine hz.mono ?_; rintro e w ⟨rfl, rfl⟩)
        go_ret
        exact ⟨rfl, Below.refl _ _⟩
      · have h3 : (n : Int) < st := by omega
        clear h
        go_enter Try.func5, Try.ntmps5
        go_wp2_with (go_at_call 21; refine hz.mono ?_; rintro e w ⟨rfl, rfl⟩)
        go_ret
        exact ⟨rfl, Below.refl _ _⟩
  · rw [decide_eq_false h0] at hz
    clear h
    go_enter Try.func5, Try.ntmps5
    go_wp2_with (go_at_call 21; refine hz.mono ?_; rintro e w ⟨rfl, rfl⟩)
    go_ret
    exact ⟨rfl, Below.refl _ _⟩

set_option maxRecDepth 1000000 in
set_option maxHeartbeats 4000000 in
theorem main5_full (a : Option Addr) (n c p q E L : Nat) (d : Nat → Nat) (st : Bool) (w : World) (hcl : Calls Try.prog 10 #[.slice a n c] w (Cp n d w)) (hn : n ≤ 65536) (hp : p ≤ n)
    (hq : Hid (Plain.skip n d p = q)) (hE : Hid (Plain.valEnd n d q = E)) (hL : E = q + L) (hL0 : 0 < L) :
    Calls Try.prog 5 #[.slice a n c, .int .i64 p, .bool st] w fun e w' => e = .returned (.bool true) ∧ Below w.heap.size w w' := by
  have hz := zz21 a n c p st w (by unfold maxLen; omega)
  rw [decide_eq_true (show n ≤ 1048576 by omega)] at hz
  have hqE : q ≤ n ∧ E ≤ n := by
    have h1 := Plain.skip_spec n d p hp
    rw [hq.out] at h1
    have h2 := Plain.valEnd_bounds n d q h1.2.1
    rw [hE.out] at h2
    exact ⟨h1.2.1, h2.2⟩
  obtain ⟨hqn, hEn⟩ := hqE
  have hpq : p ≤ q := by have h1 := Plain.skip_spec n d p hp; rw [hq.out] at h1; exact h1.1
  have hcs : Hid (Plain.skip E d p = q) := by have := Plain.cut_skip n d p hp; rw [hq.out, hE.out] at this; exact this
  have hce : Hid (Plain.valEnd E d q = E) := by have := Plain.cut_end n d q hqn; rw [hE.out] at this; exact this
  have hos : Hid (Plain.skip L (fun t => d (q + t)) 0 = 0) := by have := Plain.own_skip n d p L hp (by rw [hq.out, hE.out]; exact hL); rw [hq.out] at this; exact this
  have hoe : Hid (Plain.valEnd L (fun t => d (q + t)) 0 = L) := Plain.own_end n d q L hqn (by rw [hE.out]; exact hL)
  have hwant := Plain.want n d p q L hp hq.out (by rw [hE.out]; exact hL) (by omega)
  have g1 : ((d q : Int) == 44) = false := by simp; omega
  have g2 : ((d q : Int) == 125) = false := by simp; omega
  have g3 : ((d q : Int) == 93) = false := by simp; omega
  have g4 : ((q : Int) == (n : Int)) = false := by simp; omega
  have g5 : ((L : Int) == 0) = false := by simp; omega
  have hqE : q < E := by omega
  have HL : Hid (E = q + L) := hL
  clear hwant hL
  go_enter Try.func5, Try.ntmps5
  go_wp2_with (fail)
  refine hz.mono ?_
  rintro e w ⟨rfl, rfl⟩
  go_wp2_with (fail)
  refine hcl.mono ?_
  rintro e w1 ⟨a1, rfl, hs1, hb1⟩
  obtain ⟨b, off, rfl, hbb, hr1⟩ := hs1.row (by omega)
  clear hcl hz
  go_wp2_with (fail)
  refine (new11 _ _ _ _ _ _).mono ?_
  rintro e w2 ⟨rfl, hw2⟩
  obtain ⟨hs2, hb2, hz2⟩ := hs1.walker (.cells #[.slice (some ⟨b, off, none⟩) n n, .int .i64 p, .bool st] 39)
  have ha2 := Wa.new (some ⟨b, off, none⟩) n n p st w1
  rw [← hw2] at hs2 hb2 hz2 ha2
  clear hw2
  go_wp2_with (fail)
  refine (valueS _ _ _ _ _ d _ ha2 hs2 hp q E L hq hE HL.out).mono ?_
  rintro e w3 ⟨av, cv, rfl, hv3, hm3⟩
  have hb3 := hm3.below (Nat.le_refl _)
  have hs3 := hs2.below hb3 (Nat.le_refl _)
  obtain ⟨b', off', rfl, hbb', hrv⟩ := hv3.row hL0
  obtain ⟨b'', off'', hx, _, hr3⟩ := hs3.row (by omega)
  cases hx
  go_wp2_with (fail)
  refine (pos13 _ _ _ hm3.c1).mono ?_
  rintro e w3 ⟨rfl, rfl⟩
  go_wp2_with (fail)
  refine (skipS _ _ _ _ _ d _ hs3 hp q hq).mono ?_
  rintro e w3 ⟨rfl, rfl⟩
  have hc3 := hr3 q (by omega)
  have hcv : w3.cell? ⟨b', off', none⟩ = some (.int .u8 (d q : Int)) := hrv 0 hL0
  have g6 : decide ((0 : Int) < (L : Int)) = true := by simp; omega
  have g7 : (0 : Int) < (L : Int) := by omega
  have g8 : (q : Int) < (n : Int) := by omega
  go_wp2_with (fail)
  go_quiet (fail)
  go_wp2_with (fail)
  refine (cloneS _ _ _ _ d _ (Sl.drewN (hs3.pre hEn) _) (by nofun)).mono ?_
  rintro e w4 ⟨a4, rfl, hs4, hb4⟩
  have hb4' := Below.undrew hb4
  have hz3 := hm3.size
  have hv4 := hv3.below hb4' (show w1.heap.size ≤ w3.heap.size by omega)
  clear hb4 hc3 hcv hr3 hrv
  go_wp2_with (fail)
  refine (new11 _ _ _ _ _ _).mono ?_
  rintro e w5 ⟨rfl, hw5⟩
  obtain ⟨hs5, hb5, hz5⟩ := hs4.walker (.cells #[.slice a4 E E, .int .i64 p, .bool st] 39)
  have ha5 := Wa.new a4 E E p st w4
  rw [← hw5] at hs5 hb5 hz5 ha5
  clear hw5
  have hz4 := hb4'.size
  have hv5 := hv4.below hb5 (by omega)
  go_wp2_with (fail)
  refine (valueS _ _ _ _ _ d _ ha5 hs5 (by omega) q E L hcs hce HL.out).mono ?_
  rintro e w6 ⟨av6, cv6, rfl, hvc6, hm6⟩
  have hb6 := hm6.below (Nat.le_refl _)
  have hv6 := hv5.below hb6 (by omega)
  go_wp2_with (fail)
  refine (sameS _ _ _ _ _ _ _ _ _ _ hvc6 hv6 (fun _ _ => rfl)).mono ?_
  rintro e w6' ⟨rfl, m6, rfl⟩
  go_wp2_with (fail)
  refine (pos13 _ E (w6.drewN m6) hm6.c1).mono ?_
  rintro e w6' ⟨rfl, rfl⟩
  go_wp2_with (fail)
  refine (cloneS _ _ _ _ _ _ (Sl.drewN hv6 _) (by nofun)).mono ?_
  rintro e w7 ⟨a7, rfl, hs7, hb7⟩
  have hb7' := Below.undrew hb7
  have hz6 := hm6.size
  have hv7 := hv6.below hb7' (show w1.heap.size ≤ w6.heap.size by omega)
  clear hb7
  go_wp2_with (fail)
  refine (new11 _ _ _ _ _ _).mono ?_
  rintro e w8 ⟨rfl, hw8⟩
  obtain ⟨hs8, hb8, hz8⟩ := hs7.walker (.cells #[.slice a7 L L, .int .i64 (0 : Nat), .bool st] 39)
  have ha8 := Wa.new a7 L L 0 st w7
  have hw8' : w8 = w7.alloc (.cells #[.slice a7 L L, .int .i64 (0 : Nat), .bool st] 39) := hw8
  rw [← hw8'] at hs8 hb8 hz8 ha8
  clear hw8 hw8'
  have hz7 := hb7'.size
  have hv8 := hv7.below hb8 (by omega)
  go_wp2_with (fail)
  refine (valueS _ _ _ _ _ _ _ ha8 hs8 (by omega) 0 L L hos hoe (by omega)).mono ?_
  rintro e w9 ⟨av9, cv9, rfl, hvc9, hm9⟩
  have hb9 := hm9.below (Nat.le_refl _)
  have hv9 := hv8.below hb9 (by omega)
  go_wp2_with (fail)
  refine (sameS _ _ _ _ _ _ _ _ _ _ hvc9 hv9 (fun _ _ => by simp)).mono ?_
  rintro e w9' ⟨rfl, m9, rfl⟩
  go_wp2_with (fail)
  refine (pos13 _ L (w9.drewN m9) hm9.c1).mono ?_
  rintro e w9' ⟨rfl, rfl⟩
  go_wp2_with (fail)
  go_ret
  have hz1 := hb1.size
  have e1 := hb1.trans ((hb2.trans hb3).mono hz1)
  have e2 := e1.trans ((hb4'.mono (show w.heap.size ≤ w3.heap.size by omega)).trans ((hb5.trans hb6).mono (show w.heap.size ≤ w4.heap.size by omega)))
  have e3 := e2.trans ((hb7'.mono (show w.heap.size ≤ w6.heap.size by omega)).trans ((hb8.trans hb9).mono (show w.heap.size ≤ w7.heap.size by omega)))
  exact ⟨rfl, Below.drewN' e3 m9⟩
end Go.Proofs.Qxb6003628a
