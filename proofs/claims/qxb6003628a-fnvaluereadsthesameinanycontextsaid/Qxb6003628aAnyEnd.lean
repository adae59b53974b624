import Derived.Test.Qxb6003628aAny
namespace Go.Proofs.Qxb6003628a
open Go.RowKit Go.WideShapes

set_option maxRecDepth 1000000 in
set_option maxHeartbeats 8000000 in
theorem main4_end (a as' at' : Option Addr) (n c ns cs nt ct p q E L : Nat) (d ds dt : Nat → Nat) (st : Bool) (w : World) (ia : In w a n c d) (is : In w as' ns cs ds) (it : In w at' nt ct dt)
    (hsps : ∀ i, i < ns → Plain.isSp (ds i) = true) (hn : n ≤ 65536) (hns : ns ≤ 65536) (hnt : nt ≤ 65536) (hp : p ≤ n)
    (hq : Hid (Plain.skip n d p = q)) (hE : Hid (Plain.valEnd n d q = E)) (hL : E = q + L) (hqe : q = n) :
    Calls Try.prog 4 #[.slice a n c, .int .i64 p, .bool st, .slice as' ns cs, .slice at' nt ct] w fun e w' => e = .returned (.bool true) ∧ Below w.heap.size w w' := by
  have hz := zz15_true a as' at' n c ns cs nt ct p st w hn hns hnt
  have hqE : q ≤ n ∧ E ≤ n := by
    have h1 := Plain.skip_spec n d p hp
    rw [hq.out] at h1
    have h2 := Plain.valEnd_bounds n d q h1.2.1
    rw [hE.out] at h2
    exact ⟨h1.2.1, h2.2⟩
  obtain ⟨hqn, hEn⟩ := hqE
  have g4 : ((q : Int) == (n : Int)) = true := by simp; omega
  clear hqe
  have hle : q ≤ E := by omega
  have hEL : (E : Int) - (q : Int) = (L : Int) := by omega
  have HL : Hid (E = q + L) := hL
  have IA : Hid (In w a n c d) := ia
  have IS : Hid (In w as' ns cs ds) := is
  have IT : Hid (In w at' nt ct dt) := it
  have HSP : Hid (∀ i, i < ns → Plain.isSp (ds i) = true) := hsps
  clear ia is it hsps hL
  have k1 : decide ((p : Int) < 0) = false := by simp
  have k2 : decide (n < p) = false := by simp; omega
  have k3 : decide ((n : Int) < (p : Int)) = false := by simp; omega
  have k4 : decide ((65536 : Int) < (n : Int)) = false := by simp; omega
  have k5 : decide ((65536 : Int) < (ns : Int)) = false := by simp; omega
  have k6 : decide ((65536 : Int) < (nt : Int)) = false := by simp; omega
  go_enter Try.func4, Try.ntmps4
  go_wp2_with (go_at_call 15; refine hz.mono ?_; rintro e w ⟨rfl, rfl⟩)
  clear hz
  go_loopw [11] (fun v wr => ∃ i : Nat, v = .int .i64 i ∧ i ≤ ns ∧ wr = w) (fun v _ => ns - (intOf v).toNat)
  case atStart => exact ⟨0, rfl, by omega, rfl⟩
  case round =>
    obtain ⟨i, rfl, hik, rfl⟩ := hrel
    obtain ⟨w, hwo⟩ : ∃ wo : World, wo = wr := ⟨_, rfl⟩
    subst hwo
    by_cases hlt : i < ns
    · have hsi := HSP.out i hlt
      obtain ⟨b, off, rfl, hr⟩ := IS.out.row (by omega)
      have hci := hr i hlt
      clear hr
      go_wp2_with (go_at_call 9; refine (sp9 _ _).mono ?_; rintro e w' ⟨rfl, rfl⟩)
      go_roundw
      case rel => exact ⟨i + 1, by go_num, by omega, trivial⟩
      case measure => simp [intOf]; omega
    · have hin : Hid (i = ns) := (by omega : i = ns)
      clear hik
      go_wp2_with (fail)
      refine (IA.out.cl _ (Below.refl _ _)).mono ?_
      rintro e w1 ⟨a1, rfl, hs1, hb1⟩
      go_wp2_with (fail)
      refine (IS.out.cl _ hb1).mono ?_
      rintro e w2 ⟨a2, rfl, hss2, hb2⟩
      have hz1 := hb1.size
      have hs2 := (hs1.below hb2 (Nat.le_refl _)).mono hb2.size
      have hbb2 := hb1.trans (hb2.mono hz1)
      go_wp2_with (fail)
      refine (IT.out.cl _ hbb2).mono ?_
      rintro e w3 ⟨a3, rfl, hst3, hb3⟩
      have hz2 := hb2.size
      have hs3 := (hs2.below hb3 (Nat.le_refl _)).mono hb3.size
      have hss3 := (hss2.below hb3 (Nat.le_refl _)).mono hb3.size
      have hbb3 := hbb2.trans (hb3.mono (show w.heap.size ≤ w2.heap.size by omega))
      have hz3 := hbb3.size
      clear hs1 hs2 hss2 hb1 hb2 hb3 hbb2 hz1 hz2
      go_wp2_with (fail)
      refine (new11 _ _ _ _ _ _).mono ?_
      rintro e w4 ⟨rfl, hw4⟩
      obtain ⟨hs4, hb4, hz4⟩ := hs3.walker (.cells #[.slice a1 n n, .int .i64 p, .bool st] 39)
      have ha4 := Wa.new a1 n n p st w3
      rw [← hw4] at hs4 hb4 hz4 ha4
      clear hw4
      go_wp2_with (fail)
      refine (valueS _ _ _ _ _ d _ ha4 hs4 hp q E L hq hE HL.out).mono ?_
      rintro e w5 ⟨av, cv, rfl, hv5, hm5⟩
      have hb5 := hb4.trans (hm5.below (Nat.le_refl _))
      have hs5 := hs3.below hb5 (Nat.le_refl _)
      have hss5 := hss3.below hb5 (Nat.le_refl _)
      have hst5 := hst3.below hb5 (Nat.le_refl _)
      have hbb5 := hbb3.trans (hb5.mono hz3)
      have hz5 : w5.heap.size = w3.heap.size + 1 := by rw [hm5.size, hz4]
      have hc1 := hm5.c1
      clear hs4 hb4 hz4 ha4 hs3 hss3 hst3 hbb3 hm5 hb5
      go_wp2_with (fail)
      refine (pos13 _ _ _ hc1).mono ?_
      rintro e w5 ⟨rfl, rfl⟩
      go_wp2_with (fail)
      refine (skipS _ _ _ _ _ d _ hs5 hp q hq).mono ?_
      rintro e w5 ⟨rfl, rfl⟩
      have hbv : (L : Int) ≤ 65536 := by have := HL.out; omega
      go_wp2_with (fail)
      go_loopw [16] (fun v wr => ∃ j m : Nat, v = .int .i64 j ∧ j ≤ L ∧ wr = w5.drewN m) (fun v _ => L - (intOf v).toNat)
      case atStart => exact ⟨0, 0, rfl, by omega, rfl⟩
      case round =>
        obtain ⟨j, m, rfl, hjL, rfl⟩ := hrel
        by_cases hj : j < L
        · obtain ⟨b', off', rfl, _, hrv⟩ := hv5.row (by omega)
          obtain ⟨b, off, rfl, _, hr5⟩ := hs5.row (by have := HL.out; omega)
          have hqj : q + j < n := by have := HL.out; omega
          have h1 : w5.cell? ⟨b', off' + j, none⟩ = some (.int .u8 (d (q + j) : Int)) := hrv j hj
          have h2 := hr5 (q + j) hqj
          have h3 : (j : Int) < (L : Int) := by omega
          have h4 : (q : Int) + (j : Int) < (n : Int) := by omega
          clear hrv hr5
          go_wp2
          go_quiet (fail)
          go_wp2
          go_roundw
          case rel => exact ⟨j + 1, _, by go_num, by omega, rfl⟩
          case measure => simp [intOf]; omega
        · have hjx : (L : Int) ≤ (j : Int) := by omega
          go_wp2_with (fail)
          go_ret
          exact ⟨rfl, Below.drewN' hbb5 _⟩

end Go.Proofs.Qxb6003628a
