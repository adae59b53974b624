import Derived.Test.Qxb6003628aOps
import Derived.Maps.AppendAt
namespace Go.Proofs.Qxb6003628a
open Go.RowKit Go.WideShapes

def rowL (f : Nat → Nat) (k : Nat) : List Value := (List.range k).map fun i => Value.int .u8 (f i : Int)
theorem rowL_succ (f : Nat → Nat) (k : Nat) : rowL f (k + 1) = rowL f k ++ [.int .u8 (f k : Int)] := by unfold rowL; rw [List.range_succ]; simp

/-- k bytes of the join have been laid. -/
structure Jn (w wr : World) (N k : Nat) (f : Nat → Nat) : Prop where
  own : wr.ownsRow w.heap.size 5 1 (.slice (some ⟨w.heap.size, 0, none⟩) k N) k (rowL f k)
  bel : Below w.heap.size w wr

theorem Jn.step {w wr w1 : World} {N k : Nat} {f : Nat → Nat} {o : Obj} (h : Jn w wr N k f) (hown : w1.ownsRow w.heap.size 5 1 (.slice (some ⟨w.heap.size, 0, none⟩) (k + 1) N) (k + 1) (rowL f k ++ [.int .u8 (f k : Int)])) (hg : (wr.alloc o).grownBy w1 (some w.heap.size)) : Jn w w1 N (k + 1) f where
  own := by rw [rowL_succ]; exact hown
  bel := (h.bel.alloc h.bel.size o).grown hg (by have := h.bel.size; simp; omega) (fun j e => by cases e; exact Nat.le_refl _)

theorem Jn.row {w wr : World} {N k : Nat} {f : Nat → Nat} (h : Jn w wr N k f) : Row wr w.heap.size 0 k f ∧ w.heap.size < wr.heap.size := by
  refine ⟨fun i hi => ?_, ?_⟩
  · rw [Nat.zero_add, h.own.cellAt i (by omega)]
    unfold rowL
    rw [List.getElem?_map, List.getElem?_range hi]
    rfl
  · rcases h.own.2 with ⟨h', _⟩ | ⟨g, cap, cur, h', _, hh, _⟩
    · simp at h'
    · simp only [Value.slice.injEq, Option.some.injEq, Addr.mk.injEq, and_true, true_and] at h'
      obtain ⟨rfl, _⟩ := h'
      exact (Array.getElem?_eq_some_iff.1 hh).1

set_option maxRecDepth 100000 in
set_option maxHeartbeats 4000000 in
theorem join14 (a1 a2 a3 : Option Addr) (n1 n2 n3 c1 c2 c3 : Nat) (d1 d2 d3 f : Nat → Nat) (w : World) (s1 : Sl w.heap.size w a1 n1 c1 d1) (s2 : Sl w.heap.size w a2 n2 c2 d2) (s3 : Sl w.heap.size w a3 n3 c3 d3)
    (hf1 : ∀ k, k < n1 → d1 k = f k) (hf2 : ∀ k, k < n2 → d2 k = f (n1 + k)) (hf3 : ∀ k, k < n3 → d3 k = f (n1 + n2 + k)) :
    Calls Try.prog 14 #[.slice a1 n1 c1, .slice a2 n2 c2, .slice a3 n3 c3] w fun e w' => e = .returned (.slice (some ⟨w.heap.size, 0, none⟩) (n1 + n2 + n3) (n1 + n2 + n3)) ∧ Row w' w.heap.size 0 (n1 + n2 + n3) f ∧ Below w.heap.size w w' ∧ w.heap.size < w'.heap.size := by
  obtain ⟨i0, hi, hz0, hz1, hz2⟩ := info_parts Try.info5
  have b1 := Nat.le_trans s1.nc s1.cb
  have b2 := Nat.le_trans s2.nc s2.cb
  have b3 := Nat.le_trans s3.nc s3.cb
  obtain ⟨N, hN⟩ : ∃ N, Hid (n1 + n2 + n3 = N) := ⟨_, rfl⟩
  have hNle : N ≤ 3145728 := by rw [← hN.out]; omega
  rw [hN.out]
  have hNi : (n1 : Int) + (n2 : Int) + (n3 : Int) = (N : Int) := by have := hN.out; omega
  have HF1 : Hid (∀ k, k < n1 → d1 k = f k) := hf1
  have HF2 : Hid (∀ k, k < n2 → d2 k = f (n1 + k)) := hf2
  have HF3 : Hid (∀ k, k < n3 → d3 k = f (n1 + n2 + k)) := hf3
  clear hf1 hf2 hf3
  go_enter Try.func14, Try.ntmps14
  go_wp2_with (at_make; refine wpList_make_own _ rfl _ _ 22 rfl w.heap.size 5 i0 (.int .u8 0) 1 Try.underlying22 hi hz0 hz1 .i64 .i64 _ N rfl rfl (by omega) (by rw [hz2]; omega) (by unfold maxLen; omega) (Nat.le_refl _) ?_; intro w1 hown hg; have hj0 : Jn w w1 N 0 f := ⟨hown, (Below.refl _ _).grown hg (Nat.le_refl _) (fun k h => by cases h)⟩; clear hown hg)
  go_loopw [7, 8] (fun v7 v8 wr => ∃ k : Nat, v8 = .int .i64 k ∧ k ≤ n1 ∧ v7 = .slice (some ⟨w.heap.size, 0, none⟩) (k) N ∧ Jn w wr N (k) f) (fun _ v8 _ => n1 - (intOf v8).toNat)
  case atStart => exact ⟨0, rfl, by omega, rfl, hj0⟩
  case round =>
    obtain ⟨k, rfl, hk, rfl, hj⟩ := hrel
    clear hj0
    by_cases hlt : k < n1
    · obtain ⟨b, off, rfl, hb, hr⟩ := s1.row (by omega)
      have hck : wr.cell? ⟨b, off + k, none⟩ = some (.int .u8 (f (k) : Int)) := by
        rw [← HF1.out k hlt]
        exact (hj.bel.cell (p := ⟨b, off + k, none⟩) hb).trans (hr k hlt)
      have hroom : k + 1 ≤ N := by have := hN.out; omega
      clear hr
      go_wp2_with (at_builtin; refine wpList_append_fits _ rfl _ _ 22 rfl w.heap.size 5 i0 1 Try.underlying22 hi hz1 w.heap.size (k) N _ rfl (hj.own.alloc _) ⟨wr.heap.size, 0, none⟩ 1 1 [.int .u8 (f (k) : Int)] rfl rfl (cell_one_new _ _ _) (by simp [Value.oneCell']) hroom ?_; intro w2 hown hg; have hj2 := hj.step hown hg; clear hown hg)
      go_roundw
      case rel => exact ⟨k + 1, by go_num, by omega, rfl, hj2⟩
      case measure => simp [intOf]; omega
    · have HK : Hid (k = n1) := (by omega : k = n1)
      have hjn : Hid (Jn w wr N (n1 + 0) f) := by have := HK.out; subst this; exact hj
      clear hj hk
      go_wp2
      obtain ⟨wo, hwo⟩ : ∃ wo : World, wo = wr := ⟨_, rfl⟩
      subst hwo
      go_loopw [7, 9] (fun v7 v8 wr => ∃ k : Nat, v8 = .int .i64 k ∧ k ≤ n2 ∧ v7 = .slice (some ⟨w.heap.size, 0, none⟩) (n1 + k) N ∧ Jn w wr N (n1 + k) f) (fun _ v8 _ => n2 - (intOf v8).toNat)
      case atStart => exact ⟨0, rfl, by omega, by rw [HK.out]; rfl, hjn.out⟩
      case round =>
        obtain ⟨k, rfl, hk, rfl, hj⟩ := hrel
        clear hjn
        by_cases hlt : k < n2
        · obtain ⟨b, off, rfl, hb, hr⟩ := s2.row (by omega)
          have hck : wr.cell? ⟨b, off + k, none⟩ = some (.int .u8 (f (n1 + k) : Int)) := by
            rw [← HF2.out k hlt]
            exact (hj.bel.cell (p := ⟨b, off + k, none⟩) hb).trans (hr k hlt)
          have hroom : n1 + k + 1 ≤ N := by have := hN.out; omega
          clear hr
          go_wp2_with (at_builtin; refine wpList_append_fits _ rfl _ _ 22 rfl w.heap.size 5 i0 1 Try.underlying22 hi hz1 w.heap.size (n1 + k) N _ rfl (hj.own.alloc _) ⟨wr.heap.size, 0, none⟩ 1 1 [.int .u8 (f (n1 + k) : Int)] rfl rfl (cell_one_new _ _ _) (by simp [Value.oneCell']) hroom ?_; intro w2 hown hg; have hj2 := hj.step hown hg; clear hown hg)
          go_roundw
          case rel => exact ⟨k + 1, by go_num, by omega, rfl, hj2⟩
          case measure => simp [intOf]; omega
        · clear HK
          have HK : Hid (k = n2) := (by omega : k = n2)
          have hjn : Hid (Jn w wr N (n1 + n2 + 0) f) := by have := HK.out; subst this; exact hj
          clear hj hk
          go_wp2
          obtain ⟨wo2, hwo⟩ : ∃ wo : World, wo = wr := ⟨_, rfl⟩
          subst hwo
          go_loopw [7, 10] (fun v7 v8 wr => ∃ k : Nat, v8 = .int .i64 k ∧ k ≤ n3 ∧ v7 = .slice (some ⟨w.heap.size, 0, none⟩) (n1 + n2 + k) N ∧ Jn w wr N (n1 + n2 + k) f) (fun _ v8 _ => n3 - (intOf v8).toNat)
          case atStart => exact ⟨0, rfl, by omega, by rw [HK.out]; rfl, hjn.out⟩
          case round =>
            obtain ⟨k, rfl, hk, rfl, hj⟩ := hrel
            clear hjn
            by_cases hlt : k < n3
            · obtain ⟨b, off, rfl, hb, hr⟩ := s3.row (by omega)
              have hck : wr.cell? ⟨b, off + k, none⟩ = some (.int .u8 (f (n1 + n2 + k) : Int)) := by
                rw [← HF3.out k hlt]
                exact (hj.bel.cell (p := ⟨b, off + k, none⟩) hb).trans (hr k hlt)
              have hroom : n1 + n2 + k + 1 ≤ N := by have := hN.out; omega
              clear hr
              go_wp2_with (at_builtin; refine wpList_append_fits _ rfl _ _ 22 rfl w.heap.size 5 i0 1 Try.underlying22 hi hz1 w.heap.size (n1 + n2 + k) N _ rfl (hj.own.alloc _) ⟨wr.heap.size, 0, none⟩ 1 1 [.int .u8 (f (n1 + n2 + k) : Int)] rfl rfl (cell_one_new _ _ _) (by simp [Value.oneCell']) hroom ?_; intro w2 hown hg; have hj2 := hj.step hown hg; clear hown hg)
              go_roundw
              case rel => exact ⟨k + 1, by go_num, by omega, rfl, hj2⟩
              case measure => simp [intOf]; omega
            · have hkn : k = n3 := by omega
              clear HK
              have HJ : Hid (Jn w wr N (n1 + n2 + k) f) := hj
              have HK : Hid (k = n3) := hkn
              clear hj hkn
              go_wp2
              go_ret
              have e : n1 + n2 + k = N := by rw [HK.out]; exact hN.out
              have hj := HJ.out
              rw [e] at hj
              exact ⟨by rw [e]; rfl, hj.row.1, hj.bel, hj.row.2⟩
end Go.Proofs.Qxb6003628a
