import Derived.Test.Qxb6003628aAny
namespace Go.Proofs.Qxb6003628a
open Go.RowKit Go.WideShapes

set_option maxRecDepth 1000000 in
set_option maxHeartbeats 8000000 in
theorem main4_brklbd (a as' at' : Option Addr) (n c ns cs nt ct p q E L : Nat) (d ds dt : Nat → Nat) (st : Bool) (w : World) (ia : In w a n c d) (is : In w as' ns cs ds) (it : In w at' nt ct dt)
    (hsps : ∀ i, i < ns → Plain.isSp (ds i) = true) (hn : n ≤ 65536) (hns : ns ≤ 65536) (hnt : nt ≤ 65536) (hp : p ≤ n)
    (hq : Hid (Plain.skip n d p = q)) (hE : Hid (Plain.valEnd n d q = E)) (hL : E = q + L) (hqn0 : q < n) (hop : d q = 91) (hEe : E < n) (hK : d (q + (L - 1)) = 93) :
    Calls Try.prog 4 #[.slice a n c, .int .i64 p, .bool st, .slice as' ns cs, .slice at' nt ct] w fun e w' => e = .returned (.bool true) ∧ Below w.heap.size w w' := by
  have hz := zz15_true a as' at' n c ns cs nt ct p st w hn hns hnt
  have hqE : q ≤ n ∧ E ≤ n := by
    have h1 := Plain.skip_spec n d p hp
    rw [hq.out] at h1
    have h2 := Plain.valEnd_bounds n d q h1.2.1
    rw [hE.out] at h2
    exact ⟨h1.2.1, h2.2⟩
  obtain ⟨hqn, hEn⟩ := hqE
  have g4 : ((q : Int) == (n : Int)) = false := by simp; omega
  have g5 : ((d q : Int) == 34) = false := by simp; omega
  have g6 : ((d q : Int) == 123) = false := by simp; omega
  have g6' : ((d q : Int) == 91) = true := by simp; omega
  have hq1 : q + 1 ≤ E := by have := Plain.valEnd_brk n d q hqn0 (by rw [hop]; decide); have := hE.out; omega
  have g7 : ((E : Int) == (n : Int)) = false := by simp; omega
  have hL0 : 0 < L := by omega
  obtain ⟨L1, hL1⟩ : ∃ L1, Hid (L = L1 + 1) := ⟨L - 1, (by omega : L = L - 1 + 1)⟩
  have hLi : (L : Int) - 1 = (L1 : Int) := by have := hL1.out; omega
  have HK : Hid (d (q + L1) = 93) := by rw [show L - 1 = L1 by have := hL1.out; omega] at hK; exact hK
  clear hop hK
  have hle : q ≤ E := by omega
  have hEL : (E : Int) - (q : Int) = (L : Int) := by omega
  have HL : Hid (E = q + L) := hL
  have IA : Hid (In w a n c d) := ia
  have IS : Hid (In w as' ns cs ds) := is
  have IT : Hid (In w at' nt ct dt) := it
  have HSP : Hid (∀ i, i < ns → Plain.isSp (ds i) = true) := hsps
  clear ia is it hsps hL
  have k1 : decide ((p : Int) < 0) = false := by simp
  have k2 : decide (n < p) = false := by simp; omega
  have k3 : decide ((n : Int) < (p : Int)) = false := by simp; omega
  have k4 : decide ((65536 : Int) < (n : Int)) = false := by simp; omega
  have k5 : decide ((65536 : Int) < (ns : Int)) = false := by simp; omega
  have k6 : decide ((65536 : Int) < (nt : Int)) = false := by simp; omega
  go_enter Try.func4, Try.ntmps4
  go_wp2_with (go_at_call 15; refine hz.mono ?_; rintro e w ⟨rfl, rfl⟩)
  clear hz
  go_loopw [11] (fun v wr => ∃ i : Nat, v = .int .i64 i ∧ i ≤ ns ∧ wr = w) (fun v _ => ns - (intOf v).toNat)
  case atStart => exact ⟨0, rfl, by omega, rfl⟩
  case round =>
    obtain ⟨i, rfl, hik, rfl⟩ := hrel
    obtain ⟨w, hwo⟩ : ∃ wo : World, wo = wr := ⟨_, rfl⟩
    subst hwo
    by_cases hlt : i < ns
    · have hsi := HSP.out i hlt
      obtain ⟨b, off, rfl, hr⟩ := IS.out.row (by omega)
      have hci := hr i hlt
      clear hr
      go_wp2_with (go_at_call 9; refine (sp9 _ _).mono ?_; rintro e w' ⟨rfl, rfl⟩)
      go_roundw
      case rel => exact ⟨i + 1, by go_num, by omega, trivial⟩
      case measure => simp [intOf]; omega
    · have hin : Hid (i = ns) := (by omega : i = ns)
      clear hik
      go_wp2_with (fail)
      refine (IA.out.cl _ (Below.refl _ _)).mono ?_
      rintro e w1 ⟨a1, rfl, hs1, hb1⟩
      go_wp2_with (fail)
      refine (IS.out.cl _ hb1).mono ?_
      rintro e w2 ⟨a2, rfl, hss2, hb2⟩
      have hz1 := hb1.size
      have hs2 := (hs1.below hb2 (Nat.le_refl _)).mono hb2.size
      have hbb2 := hb1.trans (hb2.mono hz1)
      go_wp2_with (fail)
      refine (IT.out.cl _ hbb2).mono ?_
      rintro e w3 ⟨a3, rfl, hst3, hb3⟩
      have hz2 := hb2.size
      have hs3 := (hs2.below hb3 (Nat.le_refl _)).mono hb3.size
      have hss3 := (hss2.below hb3 (Nat.le_refl _)).mono hb3.size
      have hbb3 := hbb2.trans (hb3.mono (show w.heap.size ≤ w2.heap.size by omega))
      have hz3 := hbb3.size
      clear hs1 hs2 hss2 hb1 hb2 hb3 hbb2 hz1 hz2
      go_wp2_with (fail)
      refine (new11 _ _ _ _ _ _).mono ?_
      rintro e w4 ⟨rfl, hw4⟩
      obtain ⟨hs4, hb4, hz4⟩ := hs3.walker (.cells #[.slice a1 n n, .int .i64 p, .bool st] 39)
      have ha4 := Wa.new a1 n n p st w3
      rw [← hw4] at hs4 hb4 hz4 ha4
      clear hw4
      go_wp2_with (fail)
      refine (valueS _ _ _ _ _ d _ ha4 hs4 hp q E L hq hE HL.out).mono ?_
      rintro e w5 ⟨av, cv, rfl, hv5, hm5⟩
      have hb5 := hb4.trans (hm5.below (Nat.le_refl _))
      have hs5 := hs3.below hb5 (Nat.le_refl _)
      have hss5 := hss3.below hb5 (Nat.le_refl _)
      have hst5 := hst3.below hb5 (Nat.le_refl _)
      have hbb5 := hbb3.trans (hb5.mono hz3)
      have hz5 : w5.heap.size = w3.heap.size + 1 := by rw [hm5.size, hz4]
      have hc1 := hm5.c1
      clear hs4 hb4 hz4 ha4 hs3 hss3 hst3 hbb3 hm5 hb5
      go_wp2_with (fail)
      refine (pos13 _ _ _ hc1).mono ?_
      rintro e w5 ⟨rfl, rfl⟩
      go_wp2_with (fail)
      refine (skipS _ _ _ _ _ d _ hs5 hp q hq).mono ?_
      rintro e w5 ⟨rfl, rfl⟩
      have hbv : (L : Int) ≤ 65536 := by have := HL.out; omega
      go_wp2_with (fail)
      go_loopw [16] (fun v wr => ∃ j m : Nat, v = .int .i64 j ∧ j ≤ L ∧ wr = w5.drewN m) (fun v _ => L - (intOf v).toNat)
      case atStart => exact ⟨0, 0, rfl, by omega, rfl⟩
      case round =>
        obtain ⟨j, m, rfl, hjL, rfl⟩ := hrel
        by_cases hj : j < L
        · obtain ⟨b', off', rfl, _, hrv⟩ := hv5.row (by omega)
          obtain ⟨b, off, rfl, _, hr5⟩ := hs5.row (by have := HL.out; omega)
          have hqj : q + j < n := by have := HL.out; omega
          have h1 : w5.cell? ⟨b', off' + j, none⟩ = some (.int .u8 (d (q + j) : Int)) := hrv j hj
          have h2 := hr5 (q + j) hqj
          have h3 : (j : Int) < (L : Int) := by omega
          have h4 : (q : Int) + (j : Int) < (n : Int) := by omega
          clear hrv hr5
          go_wp2
          go_quiet (fail)
          go_wp2
          go_roundw
          case rel => exact ⟨j + 1, _, by go_num, by omega, rfl⟩
          case measure => simp [intOf]; omega
        · have hjx : (L : Int) ≤ (j : Int) := by omega
          obtain ⟨b, off, rfl, _, hr5⟩ := hs5.row (by omega)
          obtain ⟨b', off', hav, _, hrv⟩ := hv5.row hL0
          subst hav
          have hcq := hr5 q hqn0
          have hlast : w5.cell? ⟨b', off' + L1, none⟩ = some (.int .u8 93) := by have := hrv L1 (by have := hL1.out; omega); exact this.trans (by show some (Value.int .u8 ((d (q + L1) : Nat) : Int)) = _; rw [HK.out]; rfl)
          have hli : (L1 : Int) < (L : Int) := by omega
          have hdt : decide ((E : Int) < (n : Int)) = true := by simp; omega
          clear hrv
          go_wp2_with (fail)
          first
            | (go_quiet (fail)
               go_wp2_with (fail))
            | skip
          obtain ⟨w6, hw6⟩ : ∃ x : World, x = (w5.drewN m).alloc (.cells #[.int .u8 44] 5) := ⟨_, rfl⟩
          rw [← hw6]
          obtain ⟨hb6, hz6, sc⟩ := comma_facts w5 m hw6
          rw [hz5] at sc
          clear hw6
          have hss6 := (hss5.below hb6 (by omega)).mono (show w3.heap.size ≤ w6.heap.size by omega)
          have hst6 := (hst5.below hb6 (by omega)).mono (show w3.heap.size ≤ w6.heap.size by omega)
          have hv6 := (hv5.below hb6 (by omega)).mono (show w3.heap.size ≤ w6.heap.size by omega)
          have hbb6 := hbb5.trans (hb6.mono hbb5.size)
          obtain ⟨N1, hN1⟩ : ∃ N1, Hid (1 + nt + 0 = N1) := ⟨_, rfl⟩
          have hN1b : N1 ≤ 65537 := by have := hN1.out; omega
          have hj1 := join14 (some ⟨w3.heap.size + 1, 0, none⟩) a3 none 1 nt 0 1 nt 0 (fun _ => 44) dt (fun _ => 0) (Plain.ct dt) w6 sc hst6 (Sl.empty _ _ _ _ _ (by omega)) (fun k hk => (show k = 0 by omega) ▸ Plain.ct_comma dt) (fun k _ => Plain.ct_tail dt k) (fun k hk => by omega)
          rw [hN1.out] at hj1
          refine hj1.mono ?_
          rintro e w7 ⟨rfl, hr7, hb7, hlt7⟩
          clear hj1 sc hss5 hst5 hv5 hb6
          have sj : Sl w7.heap.size w7 (some ⟨w6.heap.size, 0, none⟩) N1 N1 (Plain.ct dt) :=
            ⟨Nat.le_refl _, by omega, fun _ => ⟨_, _, rfl, hlt7, hr7⟩, fun i hi => Plain.ct_byt dt nt i hst6.byt (by rw [hN1.out]; exact hi)⟩
          have hss7 := (hss6.below hb7 (Nat.le_refl _)).mono (Nat.le_of_lt hlt7)
          have hv7 := (hv6.below hb7 (Nat.le_refl _)).mono (Nat.le_of_lt hlt7)
          have hbb7 := hbb6.trans (hb7.mono hbb6.size)
          clear hr7 hb7 hbb6 hss6 hv6 hz5 hz6
          obtain ⟨N2, hN2⟩ : ∃ N2, Hid (ns + L + N1 = N2) := ⟨_, rfl⟩
          have hN2b : N2 ≤ 1048576 := by have := hN2.out; omega
          have hN2c : ns + L ≤ N2 := by have := hN2.out; omega
          have hj2 := join14 a2 (some ⟨b', off', none⟩) (some ⟨w6.heap.size, 0, none⟩) ns L N1 ns cv N1 ds (fun t => d (q + t)) (Plain.ct dt) (Plain.jf ns L ds d q dt) w7 hss7 hv7 sj (fun k hk => Plain.jf_ws ns L ds d q dt k hk) (fun k hk => Plain.jf_val ns L ds d q dt k hk) (fun k _ => Plain.ct_jf ns L ds d q dt k)
          rw [hN2.out] at hj2
          have hE0 : Hid (Plain.valEnd n d q = q + L) := hE.out.trans HL.out
          have hsk : Hid (Plain.skip N2 (Plain.jf ns L ds d q dt) 0 = ns) := by
            have := Plain.ctx_skip n d p q L ns nt ds dt hp hq.out hE0.out HSP.out
            rw [hN1.out, hN2.out] at this
            exact this
          obtain ⟨E2, hE2⟩ : ∃ E2, Hid (ns + L = E2) := ⟨_, rfl⟩
          have hve : Hid (Plain.valEnd N2 (Plain.jf ns L ds d q dt) ns = E2) := by
            have := Plain.ctx_end n d q L ns nt ds dt hE0.out (by have := HL.out; omega)
            rw [hN1.out, hN2.out, hE2.out] at this
            exact this
          have hE2i : (ns : Int) + (L : Int) = (E2 : Int) := by have := hE2.out; omega
          go_wp2_with (fail)
          refine hj2.mono ?_
          rintro e w8 ⟨rfl, hr8, hb8, hlt8⟩
          clear hj2
          have s8 : Sl w8.heap.size w8 (some ⟨w7.heap.size, 0, none⟩) N2 N2 (Plain.jf ns L ds d q dt) :=
            ⟨Nat.le_refl _, hN2b, fun _ => ⟨_, _, rfl, hlt8, hr8⟩, fun i hi => Plain.jf_byt ns L ds d q dt nt i hss7.byt hv7.byt hst6.byt (by rw [hN1.out, hN2.out]; exact hi)⟩
          have hv8 := (hv7.below hb8 (Nat.le_refl _)).mono (Nat.le_of_lt hlt8)
          have hbb8 := hbb7.trans (hb8.mono hbb7.size)
          clear hr8 hb8 hbb7 hv7 hss7 sj hst6
          go_wp2_with (fail)
          refine (new11 _ _ _ _ _ _).mono ?_
          rintro e w9 ⟨rfl, hw9⟩
          obtain ⟨hs9, hb9, hz9⟩ := s8.walker (.cells #[.slice (some ⟨w7.heap.size, 0, none⟩) N2 N2, .int .i64 (0 : Nat), .bool st] 39)
          have ha9 := Wa.new (some ⟨w7.heap.size, 0, none⟩) N2 N2 0 st w8
          have hw9' : w9 = w8.alloc (.cells #[.slice (some ⟨w7.heap.size, 0, none⟩) N2 N2, .int .i64 (0 : Nat), .bool st] 39) := hw9
          rw [← hw9'] at hs9 hb9 hz9 ha9
          clear hw9 hw9'
          go_wp2_with (fail)
          refine (valueS _ _ _ _ _ _ _ ha9 hs9 (by omega) ns E2 L hsk hve hE2.out.symm).mono ?_
          rintro e w10 ⟨av10, cv10, rfl, hvc10, hm10⟩
          have hb10 := hb9.trans (hm10.below (Nat.le_refl _))
          have hv10 := hv8.below hb10 (Nat.le_refl _)
          have hbb10 := hbb8.trans (hb10.mono hbb8.size)
          have hc10 := hm10.c1
          clear hm10 hb10 hv8 hs9 hb9 hz9 ha9
          go_wp2_with (fail)
          refine (sameS _ _ _ _ _ _ _ _ _ _ hvc10 hv10 (fun t ht => Plain.jf_val ns L ds d q dt t ht)).mono ?_
          rintro e w10' ⟨rfl, m10, rfl⟩
          go_wp2_with (fail)
          refine (pos13 _ E2 (w10.drewN m10) hc10).mono ?_
          rintro e w10' ⟨rfl, rfl⟩
          go_wp2_with (fail)
          go_ret
          exact ⟨ret_bool (by simp), Below.drewN' hbb10 m10⟩

end Go.Proofs.Qxb6003628a
