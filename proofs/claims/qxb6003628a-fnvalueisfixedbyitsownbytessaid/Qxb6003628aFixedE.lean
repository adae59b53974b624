import Derived.Test.Qxb6003628aFixed
namespace Go.Proofs.Qxb6003628a
open Go.RowKit Go.WideShapes

set_option maxRecDepth 1000000 in
set_option maxHeartbeats 4000000 in
theorem main5_nil (a : Option Addr) (n c p q E L : Nat) (d : Nat → Nat) (st : Bool) (w : World) (hcl : Calls Try.prog 10 #[.slice a n c] w (Cp n d w)) (hn : n ≤ 65536) (hp : p ≤ n)
    (hq : Hid (Plain.skip n d p = q)) (hE : Hid (Plain.valEnd n d q = E)) (hL : E = q + L) (hL0 : L = 0) (hn0 : n = 0) :
    Calls Try.prog 5 #[.slice a n c, .int .i64 p, .bool st] w fun e w' => e = .returned (.bool true) ∧ Below w.heap.size w w' := by
  have hz := zz21 a n c p st w (by unfold maxLen; omega)
  rw [decide_eq_true (show n ≤ 1048576 by omega)] at hz
  have hqE : q ≤ n ∧ E ≤ n := by
    have h1 := Plain.skip_spec n d p hp
    rw [hq.out] at h1
    have h2 := Plain.valEnd_bounds n d q h1.2.1
    rw [hE.out] at h2
    exact ⟨h1.2.1, h2.2⟩
  obtain ⟨hqn, hEn⟩ := hqE
  have hpq : p ≤ q := by have h1 := Plain.skip_spec n d p hp; rw [hq.out] at h1; exact h1.1
  have hcs : Hid (Plain.skip E d p = q) := by have := Plain.cut_skip n d p hp; rw [hq.out, hE.out] at this; exact this
  have hce : Hid (Plain.valEnd E d q = E) := by have := Plain.cut_end n d q hqn; rw [hE.out] at this; exact this
  have hos : Hid (Plain.skip L (fun t => d (q + t)) 0 = 0) := by have := Plain.own_skip n d p L hp (by rw [hq.out, hE.out]; exact hL); rw [hq.out] at this; exact this
  have hoe : Hid (Plain.valEnd L (fun t => d (q + t)) 0 = L) := Plain.own_end n d q L hqn (by rw [hE.out]; exact hL)
  have g4 : ((q : Int) == (n : Int)) = true := by simp; omega
  have hqE : E = q := by omega
  clear hL
  subst hL0
  subst hqE
  subst hn0
  have hp0 : p = 0 := by omega
  subst hp0
  have hE0 : E = 0 := by omega
  subst hE0
  go_enter Try.func5, Try.ntmps5
  go_wp2_with (fail)
  refine hz.mono ?_
  rintro e w ⟨rfl, rfl⟩
  go_wp2_with (fail)
  refine hcl.mono ?_
  rintro e w1 ⟨a1, rfl, hs1, hb1⟩
  clear hcl hz
  go_wp2_with (fail)
  refine (new11 _ _ _ _ _ _).mono ?_
  rintro e w2 ⟨rfl, hw2⟩
  obtain ⟨hs2, hb2, hz2⟩ := hs1.walker (.cells #[.slice a1 0 0, .int .i64 (0 : Nat), .bool st] 39)
  have ha2 := Wa.new a1 0 0 0 st w1
  have hw2' : w2 = w1.alloc (.cells #[.slice a1 0 0, .int .i64 (0 : Nat), .bool st] 39) := hw2
  rw [← hw2'] at hs2 hb2 hz2 ha2
  clear hw2 hw2'
  go_wp2_with (fail)
  refine (valueS _ _ _ _ _ d _ ha2 hs2 hp 0 0 0 hq hE rfl).mono ?_
  rintro e w3 ⟨av, cv, rfl, hv3, hm3⟩
  have hb3 := hm3.below (Nat.le_refl _)
  have hs3 := hs2.below hb3 (Nat.le_refl _)
  go_wp2_with (fail)
  refine (pos13 _ _ _ hm3.c1).mono ?_
  rintro e w3 ⟨rfl, rfl⟩
  go_wp2_with (fail)
  refine (skipS _ _ _ _ _ d _ hs3 hp 0 hq).mono ?_
  rintro e w3 ⟨rfl, rfl⟩
  go_wp2_with (fail)
  go_quiet (fail)
  go_wp2_with (fail)
  refine (cloneS _ _ _ _ d _ (Sl.drewN (hs3.pre hEn) _) (fun _ => rfl)).mono ?_
  rintro e w4 ⟨a4, rfl, hs4, hb4⟩
  have hb4' := Below.undrew hb4
  have hz3 := hm3.size
  have hv4 := hv3.below hb4' (show w1.heap.size ≤ w3.heap.size by omega)
  clear hb4
  go_wp2_with (fail)
  refine (new11 _ _ _ _ _ _).mono ?_
  rintro e w5 ⟨rfl, hw5⟩
  obtain ⟨hs5, hb5, hz5⟩ := hs4.walker (.cells #[.slice a4 0 0, .int .i64 (0 : Nat), .bool st] 39)
  have ha5 := Wa.new a4 0 0 0 st w4
  have hw5' : w5 = w4.alloc (.cells #[.slice a4 0 0, .int .i64 (0 : Nat), .bool st] 39) := hw5
  rw [← hw5'] at hs5 hb5 hz5 ha5
  clear hw5 hw5'
  have hz4 := hb4'.size
  have hv5 := hv4.below hb5 (by omega)
  go_wp2_with (fail)
  refine (valueS _ _ _ _ _ d _ ha5 hs5 (by omega) 0 0 0 hcs hce rfl).mono ?_
  rintro e w6 ⟨av6, cv6, rfl, hvc6, hm6⟩
  have hb6 := hm6.below (Nat.le_refl _)
  have hv6 := hv5.below hb6 (by omega)
  go_wp2_with (fail)
  refine (sameS _ _ _ _ _ _ _ _ _ _ hvc6 hv6 (fun _ _ => rfl)).mono ?_
  rintro e w6' ⟨rfl, m6, rfl⟩
  go_wp2_with (fail)
  refine (pos13 _ 0 (w6.drewN m6) hm6.c1).mono ?_
  rintro e w6' ⟨rfl, rfl⟩
  go_wp2_with (fail)
  refine (cloneS _ _ _ _ _ _ (Sl.drewN hv6 _) (fun _ => rfl)).mono ?_
  rintro e w7 ⟨a7, rfl, hs7, hb7⟩
  have hb7' := Below.undrew hb7
  have hz6 := hm6.size
  have hv7 := hv6.below hb7' (show w1.heap.size ≤ w6.heap.size by omega)
  clear hb7
  go_wp2_with (fail)
  refine (new11 _ _ _ _ _ _).mono ?_
  rintro e w8 ⟨rfl, hw8⟩
  obtain ⟨hs8, hb8, hz8⟩ := hs7.walker (.cells #[.slice a7 0 0, .int .i64 (0 : Nat), .bool st] 39)
  have ha8 := Wa.new a7 0 0 0 st w7
  have hw8' : w8 = w7.alloc (.cells #[.slice a7 0 0, .int .i64 (0 : Nat), .bool st] 39) := hw8
  rw [← hw8'] at hs8 hb8 hz8 ha8
  clear hw8 hw8'
  have hz7 := hb7'.size
  have hv8 := hv7.below hb8 (by omega)
  go_wp2_with (fail)
  refine (valueS _ _ _ _ _ _ _ ha8 hs8 (by omega) 0 0 0 hos hoe (by omega)).mono ?_
  rintro e w9 ⟨av9, cv9, rfl, hvc9, hm9⟩
  have hb9 := hm9.below (Nat.le_refl _)
  have hv9 := hv8.below hb9 (by omega)
  go_wp2_with (fail)
  refine (sameS _ _ _ _ _ _ _ _ _ _ hvc9 hv9 (fun _ _ => by simp)).mono ?_
  rintro e w9' ⟨rfl, m9, rfl⟩
  go_wp2_with (fail)
  refine (pos13 _ 0 (w9.drewN m9) hm9.c1).mono ?_
  rintro e w9' ⟨rfl, rfl⟩
  go_wp2_with (fail)
  go_ret
  have hz1 := hb1.size
  have e1 := hb1.trans ((hb2.trans hb3).mono hz1)
  have e2 := e1.trans ((hb4'.mono (show w.heap.size ≤ w3.heap.size by omega)).trans ((hb5.trans hb6).mono (show w.heap.size ≤ w4.heap.size by omega)))
  have e3 := e2.trans ((hb7'.mono (show w.heap.size ≤ w6.heap.size by omega)).trans ((hb8.trans hb9).mono (show w.heap.size ≤ w7.heap.size by omega)))
  exact ⟨rfl, Below.drewN' e3 m9⟩

set_option maxRecDepth 1000000 in
set_option maxHeartbeats 4000000 in
theorem main5_end (a : Option Addr) (n c p q E L : Nat) (d : Nat → Nat) (st : Bool) (w : World) (hcl : Calls Try.prog 10 #[.slice a n c] w (Cp n d w)) (hn : n ≤ 65536) (hp : p ≤ n)
    (hq : Hid (Plain.skip n d p = q)) (hE : Hid (Plain.valEnd n d q = E)) (hL : E = q + L) (hL0 : L = 0) (hn0 : 0 < n) (hqe : q = n) :
    Calls Try.prog 5 #[.slice a n c, .int .i64 p, .bool st] w fun e w' => e = .returned (.bool true) ∧ Below w.heap.size w w' := by
  have hz := zz21 a n c p st w (by unfold maxLen; omega)
  rw [decide_eq_true (show n ≤ 1048576 by omega)] at hz
  have hqE : q ≤ n ∧ E ≤ n := by
    have h1 := Plain.skip_spec n d p hp
    rw [hq.out] at h1
    have h2 := Plain.valEnd_bounds n d q h1.2.1
    rw [hE.out] at h2
    exact ⟨h1.2.1, h2.2⟩
  obtain ⟨hqn, hEn⟩ := hqE
  have hpq : p ≤ q := by have h1 := Plain.skip_spec n d p hp; rw [hq.out] at h1; exact h1.1
  have hcs : Hid (Plain.skip E d p = q) := by have := Plain.cut_skip n d p hp; rw [hq.out, hE.out] at this; exact this
  have hce : Hid (Plain.valEnd E d q = E) := by have := Plain.cut_end n d q hqn; rw [hE.out] at this; exact this
  have hos : Hid (Plain.skip L (fun t => d (q + t)) 0 = 0) := by have := Plain.own_skip n d p L hp (by rw [hq.out, hE.out]; exact hL); rw [hq.out] at this; exact this
  have hoe : Hid (Plain.valEnd L (fun t => d (q + t)) 0 = L) := Plain.own_end n d q L hqn (by rw [hE.out]; exact hL)
  have g4 : ((q : Int) == (n : Int)) = true := by simp; omega
  have hqE : E = q := by omega
  have HL : Hid (E = q + L) := hL
  clear hL
  subst hL0
  subst hqE
  subst hqe
  go_enter Try.func5, Try.ntmps5
  go_wp2_with (fail)
  refine hz.mono ?_
  rintro e w ⟨rfl, rfl⟩
  go_wp2_with (fail)
  refine hcl.mono ?_
  rintro e w1 ⟨a1, rfl, hs1, hb1⟩
  obtain ⟨b, off, rfl, hbb, hr1⟩ := hs1.row (by omega)
  clear hcl hz
  go_wp2_with (fail)
  refine (new11 _ _ _ _ _ _).mono ?_
  rintro e w2 ⟨rfl, hw2⟩
  obtain ⟨hs2, hb2, hz2⟩ := hs1.walker (.cells #[.slice (some ⟨b, off, none⟩) E E, .int .i64 p, .bool st] 39)
  have ha2 := Wa.new (some ⟨b, off, none⟩) E E p st w1
  rw [← hw2] at hs2 hb2 hz2 ha2
  clear hw2
  go_wp2_with (fail)
  refine (valueS _ _ _ _ _ d _ ha2 hs2 hp E E 0 hq hE HL.out).mono ?_
  rintro e w3 ⟨av, cv, rfl, hv3, hm3⟩
  have hb3 := hm3.below (Nat.le_refl _)
  have hs3 := hs2.below hb3 (Nat.le_refl _)
  obtain ⟨b'', off'', hx, _, hr3⟩ := hs3.row (by omega)
  cases hx
  go_wp2_with (fail)
  refine (pos13 _ _ _ hm3.c1).mono ?_
  rintro e w3 ⟨rfl, rfl⟩
  go_wp2_with (fail)
  refine (skipS _ _ _ _ _ d _ hs3 hp E hq).mono ?_
  rintro e w3 ⟨rfl, rfl⟩
  go_wp2_with (fail)
  go_quiet (fail)
  go_wp2_with (fail)
  refine (cloneS _ _ _ _ d _ (Sl.drewN (hs3.pre hEn) _) (by nofun)).mono ?_
  rintro e w4 ⟨a4, rfl, hs4, hb4⟩
  have hb4' := Below.undrew hb4
  have hz3 := hm3.size
  have hv4 := hv3.below hb4' (show w1.heap.size ≤ w3.heap.size by omega)
  clear hb4
  go_wp2_with (fail)
  refine (new11 _ _ _ _ _ _).mono ?_
  rintro e w5 ⟨rfl, hw5⟩
  obtain ⟨hs5, hb5, hz5⟩ := hs4.walker (.cells #[.slice a4 E E, .int .i64 p, .bool st] 39)
  have ha5 := Wa.new a4 E E p st w4
  rw [← hw5] at hs5 hb5 hz5 ha5
  clear hw5
  have hz4 := hb4'.size
  have hv5 := hv4.below hb5 (by omega)
  go_wp2_with (fail)
  refine (valueS _ _ _ _ _ d _ ha5 hs5 (by omega) E E 0 hcs hce HL.out).mono ?_
  rintro e w6 ⟨av6, cv6, rfl, hvc6, hm6⟩
  have hb6 := hm6.below (Nat.le_refl _)
  have hv6 := hv5.below hb6 (by omega)
  go_wp2_with (fail)
  refine (sameS _ _ _ _ _ _ _ _ _ _ hvc6 hv6 (fun _ _ => rfl)).mono ?_
  rintro e w6' ⟨rfl, m6, rfl⟩
  go_wp2_with (fail)
  refine (pos13 _ E (w6.drewN m6) hm6.c1).mono ?_
  rintro e w6' ⟨rfl, rfl⟩
  go_wp2_with (fail)
  refine (cloneS _ _ _ _ _ _ (Sl.drewN hv6 _) (fun _ => rfl)).mono ?_
  rintro e w7 ⟨a7, rfl, hs7, hb7⟩
  have hb7' := Below.undrew hb7
  have hz6 := hm6.size
  have hv7 := hv6.below hb7' (show w1.heap.size ≤ w6.heap.size by omega)
  clear hb7
  go_wp2_with (fail)
  refine (new11 _ _ _ _ _ _).mono ?_
  rintro e w8 ⟨rfl, hw8⟩
  obtain ⟨hs8, hb8, hz8⟩ := hs7.walker (.cells #[.slice a7 0 0, .int .i64 (0 : Nat), .bool st] 39)
  have ha8 := Wa.new a7 0 0 0 st w7
  have hw8' : w8 = w7.alloc (.cells #[.slice a7 0 0, .int .i64 (0 : Nat), .bool st] 39) := hw8
  rw [← hw8'] at hs8 hb8 hz8 ha8
  clear hw8 hw8'
  have hz7 := hb7'.size
  have hv8 := hv7.below hb8 (by omega)
  go_wp2_with (fail)
  refine (valueS _ _ _ _ _ _ _ ha8 hs8 (by omega) 0 0 0 hos hoe (by omega)).mono ?_
  rintro e w9 ⟨av9, cv9, rfl, hvc9, hm9⟩
  have hb9 := hm9.below (Nat.le_refl _)
  have hv9 := hv8.below hb9 (by omega)
  go_wp2_with (fail)
  refine (sameS _ _ _ _ _ _ _ _ _ _ hvc9 hv9 (fun _ _ => by simp)).mono ?_
  rintro e w9' ⟨rfl, m9, rfl⟩
  go_wp2_with (fail)
  refine (pos13 _ 0 (w9.drewN m9) hm9.c1).mono ?_
  rintro e w9' ⟨rfl, rfl⟩
  go_wp2_with (fail)
  go_ret
  have hz1 := hb1.size
  have e1 := hb1.trans ((hb2.trans hb3).mono hz1)
  have e2 := e1.trans ((hb4'.mono (show w.heap.size ≤ w3.heap.size by omega)).trans ((hb5.trans hb6).mono (show w.heap.size ≤ w4.heap.size by omega)))
  have e3 := e2.trans ((hb7'.mono (show w.heap.size ≤ w6.heap.size by omega)).trans ((hb8.trans hb9).mono (show w.heap.size ≤ w7.heap.size by omega)))
  exact ⟨rfl, Below.drewN' e3 m9⟩

set_option maxRecDepth 1000000 in
set_option maxHeartbeats 4000000 in
theorem main5_del (a : Option Addr) (n c p q E L : Nat) (d : Nat → Nat) (st : Bool) (w : World) (hcl : Calls Try.prog 10 #[.slice a n c] w (Cp n d w)) (hn : n ≤ 65536) (hp : p ≤ n)
    (hq : Hid (Plain.skip n d p = q)) (hE : Hid (Plain.valEnd n d q = E)) (hL : E = q + L) (hL0 : L = 0) (hqe : q < n) :
    Calls Try.prog 5 #[.slice a n c, .int .i64 p, .bool st] w fun e w' => e = .returned (.bool true) ∧ Below w.heap.size w w' := by
  have hz := zz21 a n c p st w (by unfold maxLen; omega)
  rw [decide_eq_true (show n ≤ 1048576 by omega)] at hz
  have hqE : q ≤ n ∧ E ≤ n := by
    have h1 := Plain.skip_spec n d p hp
    rw [hq.out] at h1
    have h2 := Plain.valEnd_bounds n d q h1.2.1
    rw [hE.out] at h2
    exact ⟨h1.2.1, h2.2⟩
  obtain ⟨hqn, hEn⟩ := hqE
  have hpq : p ≤ q := by have h1 := Plain.skip_spec n d p hp; rw [hq.out] at h1; exact h1.1
  have hcs : Hid (Plain.skip E d p = q) := by have := Plain.cut_skip n d p hp; rw [hq.out, hE.out] at this; exact this
  have hce : Hid (Plain.valEnd E d q = E) := by have := Plain.cut_end n d q hqn; rw [hE.out] at this; exact this
  have hos : Hid (Plain.skip L (fun t => d (q + t)) 0 = 0) := by have := Plain.own_skip n d p L hp (by rw [hq.out, hE.out]; exact hL); rw [hq.out] at this; exact this
  have hoe : Hid (Plain.valEnd L (fun t => d (q + t)) 0 = L) := Plain.own_end n d q L hqn (by rw [hE.out]; exact hL)
  have hwant := (Plain.want n d p q L hp hq.out (by rw [hE.out]; exact hL) (by omega)).1 hL0
  have g4 : ((q : Int) == (n : Int)) = false := by simp; omega
  have hqE : E = q := by omega
  have HL : Hid (E = q + L) := hL
  clear hL
  subst hL0
  subst hqE
  go_enter Try.func5, Try.ntmps5
  go_wp2_with (fail)
  refine hz.mono ?_
  rintro e w ⟨rfl, rfl⟩
  go_wp2_with (fail)
  refine hcl.mono ?_
  rintro e w1 ⟨a1, rfl, hs1, hb1⟩
  obtain ⟨b, off, rfl, hbb, hr1⟩ := hs1.row (by omega)
  clear hcl hz
  go_wp2_with (fail)
  refine (new11 _ _ _ _ _ _).mono ?_
  rintro e w2 ⟨rfl, hw2⟩
  obtain ⟨hs2, hb2, hz2⟩ := hs1.walker (.cells #[.slice (some ⟨b, off, none⟩) n n, .int .i64 p, .bool st] 39)
  have ha2 := Wa.new (some ⟨b, off, none⟩) n n p st w1
  rw [← hw2] at hs2 hb2 hz2 ha2
  clear hw2
  go_wp2_with (fail)
  refine (valueS _ _ _ _ _ d _ ha2 hs2 hp E E 0 hq hE HL.out).mono ?_
  rintro e w3 ⟨av, cv, rfl, hv3, hm3⟩
  have hb3 := hm3.below (Nat.le_refl _)
  have hs3 := hs2.below hb3 (Nat.le_refl _)
  obtain ⟨b'', off'', hx, _, hr3⟩ := hs3.row (by omega)
  cases hx
  go_wp2_with (fail)
  refine (pos13 _ _ _ hm3.c1).mono ?_
  rintro e w3 ⟨rfl, rfl⟩
  go_wp2_with (fail)
  refine (skipS _ _ _ _ _ d _ hs3 hp E hq).mono ?_
  rintro e w3 ⟨rfl, rfl⟩
  obtain ⟨k, hck, hkk⟩ : ∃ k : Int, w3.cell? ⟨b, off + E, none⟩ = some (.int .u8 k) ∧ (k = 44 ∨ k = 125 ∨ k = 93) := ⟨_, hr3 E (by omega), by omega⟩
  have g8 : (E : Int) < (n : Int) := by omega
  clear hwant
  rcases hkk with rfl | rfl | rfl
  · go_wp2_with (fail)
    go_quiet (fail)
    go_wp2_with (fail)
    refine (cloneS _ _ _ _ d _ (Sl.drewN (hs3.pre hEn) _) (by nofun)).mono ?_
    rintro e w4 ⟨a4, rfl, hs4, hb4⟩
    have hb4' := Below.undrew hb4
    have hz3 := hm3.size
    have hv4 := hv3.below hb4' (show w1.heap.size ≤ w3.heap.size by omega)
    clear hb4
    go_wp2_with (fail)
    refine (new11 _ _ _ _ _ _).mono ?_
    rintro e w5 ⟨rfl, hw5⟩
    obtain ⟨hs5, hb5, hz5⟩ := hs4.walker (.cells #[.slice a4 E E, .int .i64 p, .bool st] 39)
    have ha5 := Wa.new a4 E E p st w4
    rw [← hw5] at hs5 hb5 hz5 ha5
    clear hw5
    have hz4 := hb4'.size
    have hv5 := hv4.below hb5 (by omega)
    go_wp2_with (fail)
    refine (valueS _ _ _ _ _ d _ ha5 hs5 (by omega) E E 0 hcs hce HL.out).mono ?_
    rintro e w6 ⟨av6, cv6, rfl, hvc6, hm6⟩
    have hb6 := hm6.below (Nat.le_refl _)
    have hv6 := hv5.below hb6 (by omega)
    go_wp2_with (fail)
    refine (sameS _ _ _ _ _ _ _ _ _ _ hvc6 hv6 (fun _ _ => rfl)).mono ?_
    rintro e w6' ⟨rfl, m6, rfl⟩
    go_wp2_with (fail)
    refine (pos13 _ E (w6.drewN m6) hm6.c1).mono ?_
    rintro e w6' ⟨rfl, rfl⟩
    go_wp2_with (fail)
    refine (cloneS _ _ _ _ _ _ (Sl.drewN hv6 _) (fun _ => rfl)).mono ?_
    rintro e w7 ⟨a7, rfl, hs7, hb7⟩
    have hb7' := Below.undrew hb7
    have hz6 := hm6.size
    have hv7 := hv6.below hb7' (show w1.heap.size ≤ w6.heap.size by omega)
    clear hb7
    go_wp2_with (fail)
    refine (new11 _ _ _ _ _ _).mono ?_
    rintro e w8 ⟨rfl, hw8⟩
    obtain ⟨hs8, hb8, hz8⟩ := hs7.walker (.cells #[.slice a7 0 0, .int .i64 (0 : Nat), .bool st] 39)
    have ha8 := Wa.new a7 0 0 0 st w7
    have hw8' : w8 = w7.alloc (.cells #[.slice a7 0 0, .int .i64 (0 : Nat), .bool st] 39) := hw8
    rw [← hw8'] at hs8 hb8 hz8 ha8
    clear hw8 hw8'
    have hz7 := hb7'.size
    have hv8 := hv7.below hb8 (by omega)
    go_wp2_with (fail)
    refine (valueS _ _ _ _ _ _ _ ha8 hs8 (by omega) 0 0 0 hos hoe (by omega)).mono ?_
    rintro e w9 ⟨av9, cv9, rfl, hvc9, hm9⟩
    have hb9 := hm9.below (Nat.le_refl _)
    have hv9 := hv8.below hb9 (by omega)
    go_wp2_with (fail)
    refine (sameS _ _ _ _ _ _ _ _ _ _ hvc9 hv9 (fun _ _ => by simp)).mono ?_
    rintro e w9' ⟨rfl, m9, rfl⟩
    go_wp2_with (fail)
    refine (pos13 _ 0 (w9.drewN m9) hm9.c1).mono ?_
    rintro e w9' ⟨rfl, rfl⟩
    go_wp2_with (fail)
    go_ret
    have hz1 := hb1.size
    have e1 := hb1.trans ((hb2.trans hb3).mono hz1)
    have e2 := e1.trans ((hb4'.mono (show w.heap.size ≤ w3.heap.size by omega)).trans ((hb5.trans hb6).mono (show w.heap.size ≤ w4.heap.size by omega)))
    have e3 := e2.trans ((hb7'.mono (show w.heap.size ≤ w6.heap.size by omega)).trans ((hb8.trans hb9).mono (show w.heap.size ≤ w7.heap.size by omega)))
    exact ⟨rfl, Below.drewN' e3 m9⟩
  · go_wp2_with (fail)
    go_quiet (fail)
    go_wp2_with (fail)
    refine (cloneS _ _ _ _ d _ (Sl.drewN (hs3.pre hEn) _) (by nofun)).mono ?_
    rintro e w4 ⟨a4, rfl, hs4, hb4⟩
    have hb4' := Below.undrew hb4
    have hz3 := hm3.size
    have hv4 := hv3.below hb4' (show w1.heap.size ≤ w3.heap.size by omega)
    clear hb4
    go_wp2_with (fail)
    refine (new11 _ _ _ _ _ _).mono ?_
    rintro e w5 ⟨rfl, hw5⟩
    obtain ⟨hs5, hb5, hz5⟩ := hs4.walker (.cells #[.slice a4 E E, .int .i64 p, .bool st] 39)
    have ha5 := Wa.new a4 E E p st w4
    rw [← hw5] at hs5 hb5 hz5 ha5
    clear hw5
    have hz4 := hb4'.size
    have hv5 := hv4.below hb5 (by omega)
    go_wp2_with (fail)
    refine (valueS _ _ _ _ _ d _ ha5 hs5 (by omega) E E 0 hcs hce HL.out).mono ?_
    rintro e w6 ⟨av6, cv6, rfl, hvc6, hm6⟩
    have hb6 := hm6.below (Nat.le_refl _)
    have hv6 := hv5.below hb6 (by omega)
    go_wp2_with (fail)
    refine (sameS _ _ _ _ _ _ _ _ _ _ hvc6 hv6 (fun _ _ => rfl)).mono ?_
    rintro e w6' ⟨rfl, m6, rfl⟩
    go_wp2_with (fail)
    refine (pos13 _ E (w6.drewN m6) hm6.c1).mono ?_
    rintro e w6' ⟨rfl, rfl⟩
    go_wp2_with (fail)
    refine (cloneS _ _ _ _ _ _ (Sl.drewN hv6 _) (fun _ => rfl)).mono ?_
    rintro e w7 ⟨a7, rfl, hs7, hb7⟩
    have hb7' := Below.undrew hb7
    have hz6 := hm6.size
    have hv7 := hv6.below hb7' (show w1.heap.size ≤ w6.heap.size by omega)
    clear hb7
    go_wp2_with (fail)
    refine (new11 _ _ _ _ _ _).mono ?_
    rintro e w8 ⟨rfl, hw8⟩
    obtain ⟨hs8, hb8, hz8⟩ := hs7.walker (.cells #[.slice a7 0 0, .int .i64 (0 : Nat), .bool st] 39)
    have ha8 := Wa.new a7 0 0 0 st w7
    have hw8' : w8 = w7.alloc (.cells #[.slice a7 0 0, .int .i64 (0 : Nat), .bool st] 39) := hw8
    rw [← hw8'] at hs8 hb8 hz8 ha8
    clear hw8 hw8'
    have hz7 := hb7'.size
    have hv8 := hv7.below hb8 (by omega)
    go_wp2_with (fail)
    refine (valueS _ _ _ _ _ _ _ ha8 hs8 (by omega) 0 0 0 hos hoe (by omega)).mono ?_
    rintro e w9 ⟨av9, cv9, rfl, hvc9, hm9⟩
    have hb9 := hm9.below (Nat.le_refl _)
    have hv9 := hv8.below hb9 (by omega)
    go_wp2_with (fail)
    refine (sameS _ _ _ _ _ _ _ _ _ _ hvc9 hv9 (fun _ _ => by simp)).mono ?_
    rintro e w9' ⟨rfl, m9, rfl⟩
    go_wp2_with (fail)
    refine (pos13 _ 0 (w9.drewN m9) hm9.c1).mono ?_
    rintro e w9' ⟨rfl, rfl⟩
    go_wp2_with (fail)
    go_ret
    have hz1 := hb1.size
    have e1 := hb1.trans ((hb2.trans hb3).mono hz1)
    have e2 := e1.trans ((hb4'.mono (show w.heap.size ≤ w3.heap.size by omega)).trans ((hb5.trans hb6).mono (show w.heap.size ≤ w4.heap.size by omega)))
    have e3 := e2.trans ((hb7'.mono (show w.heap.size ≤ w6.heap.size by omega)).trans ((hb8.trans hb9).mono (show w.heap.size ≤ w7.heap.size by omega)))
    exact ⟨rfl, Below.drewN' e3 m9⟩
  · go_wp2_with (fail)
    go_quiet (fail)
    go_wp2_with (fail)
    refine (cloneS _ _ _ _ d _ (Sl.drewN (hs3.pre hEn) _) (by nofun)).mono ?_
    rintro e w4 ⟨a4, rfl, hs4, hb4⟩
    have hb4' := Below.undrew hb4
    have hz3 := hm3.size
    have hv4 := hv3.below hb4' (show w1.heap.size ≤ w3.heap.size by omega)
    clear hb4
    go_wp2_with (fail)
    refine (new11 _ _ _ _ _ _).mono ?_
    rintro e w5 ⟨rfl, hw5⟩
    obtain ⟨hs5, hb5, hz5⟩ := hs4.walker (.cells #[.slice a4 E E, .int .i64 p, .bool st] 39)
    have ha5 := Wa.new a4 E E p st w4
    rw [← hw5] at hs5 hb5 hz5 ha5
    clear hw5
    have hz4 := hb4'.size
    have hv5 := hv4.below hb5 (by omega)
    go_wp2_with (fail)
    refine (valueS _ _ _ _ _ d _ ha5 hs5 (by omega) E E 0 hcs hce HL.out).mono ?_
    rintro e w6 ⟨av6, cv6, rfl, hvc6, hm6⟩
    have hb6 := hm6.below (Nat.le_refl _)
    have hv6 := hv5.below hb6 (by omega)
    go_wp2_with (fail)
    refine (sameS _ _ _ _ _ _ _ _ _ _ hvc6 hv6 (fun _ _ => rfl)).mono ?_
    rintro e w6' ⟨rfl, m6, rfl⟩
    go_wp2_with (fail)
    refine (pos13 _ E (w6.drewN m6) hm6.c1).mono ?_
    rintro e w6' ⟨rfl, rfl⟩
    go_wp2_with (fail)
    refine (cloneS _ _ _ _ _ _ (Sl.drewN hv6 _) (fun _ => rfl)).mono ?_
    rintro e w7 ⟨a7, rfl, hs7, hb7⟩
    have hb7' := Below.undrew hb7
    have hz6 := hm6.size
    have hv7 := hv6.below hb7' (show w1.heap.size ≤ w6.heap.size by omega)
    clear hb7
    go_wp2_with (fail)
    refine (new11 _ _ _ _ _ _).mono ?_
    rintro e w8 ⟨rfl, hw8⟩
    obtain ⟨hs8, hb8, hz8⟩ := hs7.walker (.cells #[.slice a7 0 0, .int .i64 (0 : Nat), .bool st] 39)
    have ha8 := Wa.new a7 0 0 0 st w7
    have hw8' : w8 = w7.alloc (.cells #[.slice a7 0 0, .int .i64 (0 : Nat), .bool st] 39) := hw8
    rw [← hw8'] at hs8 hb8 hz8 ha8
    clear hw8 hw8'
    have hz7 := hb7'.size
    have hv8 := hv7.below hb8 (by omega)
    go_wp2_with (fail)
    refine (valueS _ _ _ _ _ _ _ ha8 hs8 (by omega) 0 0 0 hos hoe (by omega)).mono ?_
    rintro e w9 ⟨av9, cv9, rfl, hvc9, hm9⟩
    have hb9 := hm9.below (Nat.le_refl _)
    have hv9 := hv8.below hb9 (by omega)
    go_wp2_with (fail)
    refine (sameS _ _ _ _ _ _ _ _ _ _ hvc9 hv9 (fun _ _ => by simp)).mono ?_
    rintro e w9' ⟨rfl, m9, rfl⟩
    go_wp2_with (fail)
    refine (pos13 _ 0 (w9.drewN m9) hm9.c1).mono ?_
    rintro e w9' ⟨rfl, rfl⟩
    go_wp2_with (fail)
    go_ret
    have hz1 := hb1.size
    have e1 := hb1.trans ((hb2.trans hb3).mono hz1)
    have e2 := e1.trans ((hb4'.mono (show w.heap.size ≤ w3.heap.size by omega)).trans ((hb5.trans hb6).mono (show w.heap.size ≤ w4.heap.size by omega)))
    have e3 := e2.trans ((hb7'.mono (show w.heap.size ≤ w6.heap.size by omega)).trans ((hb8.trans hb9).mono (show w.heap.size ≤ w7.heap.size by omega)))
    exact ⟨rfl, Below.drewN' e3 m9⟩

end Go.Proofs.Qxb6003628a
