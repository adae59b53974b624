import Derived.Test.Qxb6003347aMembers
import Derived.RangeFuncNested
import Derived.RangeFuncBound
import Derived.RangeFuncCalls
import Derived.RangeFuncLeaves
import Derived.Shelf.Abstract
import Derived.Shelf.RegionOpen
import Derived.OwnWalkIn
import Derived.TacticsInMore
import Derived.LoopNIn
import Derived.LoopIn
namespace Go.Proofs.Qxb6003347a
open Go.RowKit Go.Shelf
attribute [local go_sem] Oper.semAt_some

/-- What a round keeps: every block below n₁ but two (the caller's own variables that the loop's body writes). -/
def Kept (n₁ c1 c2 : Nat) (W W' : World) : Prop := ∀ k, k < n₁ → k ≠ c1 → k ≠ c2 → W'.heap[k]? = W.heap[k]?
theorem Kept.refl (n₁ c1 c2 : Nat) (W : World) : Kept n₁ c1 c2 W W := fun _ _ _ _ => rfl
theorem Kept.trans {n₁ c1 c2 : Nat} {A B C : World} (h : Kept n₁ c1 c2 A B) (k : Kept n₁ c1 c2 B C) : Kept n₁ c1 c2 A C := fun i hi h1 h2 => (k i hi h1 h2).trans (h i hi h1 h2)
theorem Kept.cell {n₁ c1 c2 : Nat} {W W' : World} (h : Kept n₁ c1 c2 W W') {p : Addr} (hp : p.block < n₁) (h1 : p.block ≠ c1) (h2 : p.block ≠ c2) : W'.cell? p = W.cell? p := World.cell?_of_block (w := W) (h p.block hp h1 h2)

theorem eq_empty (p : ByteArray) (h : p.size = 0) : p = ⟨#[]⟩ := by
  cases p with
  | mk d =>
    have : d = #[] := Array.eq_empty_of_size_eq_zero h
    rw [this]

theorem ms38 (s p : ByteArray) (w : World) (m : Int) (hm : w.cell? ⟨0, 0, none⟩ = some (.int .i64 m)) (hs : s.size ≤ 1073741824) (hP : Hid (Plain.Clean (bl p))) :
    Calls Try.prog 38 #[.string s, .string p] w fun e w' => e = .returned (.int .i64 (Plain.msInt (Plain.scan (bl p) true (bl s)))) ∧ w' = w := by
  by_cases h0 : p.size = 0
  · rw [eq_empty p h0]; exact ms38_empty s w hs
  · exact ms38_some s p w m hm hs (by omega) hP

theorem LM_prefix (P : List UInt8) (ss : List ByteArray) (k : Nat) : Plain.LM P ((ss.take k).map bl) <+: Plain.LM P (ss.map bl) := by
  conv => rhs; rw [← List.take_append_drop k ss]
  unfold Plain.LM
  rw [List.map_append, List.flatMap_append]
  exact List.prefix_append _ _

theorem step_sum (P : List UInt8) (g1 t : ByteArray) (a en : Nat) (pre : List ByteArray) (goal : List (List UInt8)) {L : List (List UInt8)} (ht : t.data.toList = Plain.trimR (g1.extract a en).data.toList)
    (hL : L = Plain.trimR (((bl g1).take en).drop a) :: Plain.lm P ((bl g1).drop en)) (hS : pre.map bl ++ L = goal) :
    (pre ++ [t]).map bl ++ Plain.lm P (bl (g1.extract en g1.size)) = goal := by
  rw [← hS, hL, List.map_append, List.map_singleton, bl_extract, List.append_assoc]
  have e : bl t = Plain.trimR (((bl g1).take en).drop a) := by
    show t.data.toList = _
    rw [ht, ext_list, List.drop_take]
    rfl
  rw [e]
  rfl

def strSz : Value → Nat | .string t => t.size | _ => 0
theorem ib39 (s : ByteArray) (r : Int) (h : Hid (Lib.indexByte (bl s) 44 = r)) (w : World) : Calls Try.prog 39 #[.string s, .int .u8 44] w fun e w' => e = .returned (.int .i64 r) ∧ w' = w :=
  (Try.strings_IndexByte s 44 w).mono fun _ _ hh => ⟨by rw [hh.1, ← h.out]; rfl, hh.2⟩

set_option maxRecDepth 100000 in
set_option maxHeartbeats 4000000 in
theorem it37 (n : Nat) (hn : 1 ≤ n) (l Bs Bp n₁ c1 c2 b off len cap : Nat) (ss : List ByteArray) (p : ByteArray) (m : Int) (M : List (List UInt8)) (hM : Hid (M = Plain.LM (bl p) (ss.map bl))) (hlen : Hid (len = ss.length))
    (hl4 : len ≤ 4096) (hz : ∀ i, i < len → (ss.getD i ByteArray.empty).size ≤ 4096) (hP : Hid (Plain.Clean (bl p)))
    (hb : b < n₁ ∧ b ≠ c1 ∧ b ≠ c2) (hbp : Bp < n₁ ∧ Bp ≠ c1 ∧ Bp ≠ c2) (hb0 : 0 < n₁ ∧ 0 ≠ c1 ∧ 0 ≠ c2)
    (J Jx : List ByteArray → World → Prop)
    (hY : ∀ pre x W, J pre W → pre.length < M.length → YieldAt Fence.wide (n - 1) Try.prog l #[.string x] W fun e W' =>
      (e = .returned (.bool true) ∧ J (pre ++ [x]) W' ∧ Kept n₁ c1 c2 W W') ∨ (e = .returned (.bool false) ∧ Jx (pre ++ [x]) W'))
    (W : World) (hBs : W.cell? ⟨Bs, 0, none⟩ = some (.slice (some ⟨b, off, none⟩) len cap)) (hBp : W.cell? ⟨Bp, 0, none⟩ = some (.string p)) (hm : W.cell? ⟨0, 0, none⟩ = some (.int .i64 m))
    (hc : ∀ i, i < len → W.cell? ⟨b, off + i, none⟩ = some (.string (ss.getD i ByteArray.empty))) (h0 : J [] W) :
    CallsIn Fence.wide n Try.prog 37 #[.func (.yield l) #[] #[], .pointer (some ⟨Bs, 0, none⟩), .pointer (some ⟨Bp, 0, none⟩)] W fun e W' => (∃ v, e = .returned v) ∧
      ((∃ ys : List ByteArray, ys.map bl = M ∧ J ys W') ∨ (∃ pre : List ByteArray, pre.map bl <+: M ∧ Jx pre W')) := by
  refine callsIn_of_wp Try.func37 rfl trivial ?_ rfl
  simp only [Try.ntmps37, List.size_toArray, List.length_cons, List.length_nil, Nat.reduceAdd, Nat.reduceSub, Array.replicate_succ, Array.replicate_zero, List.push_toArray, List.append_toArray, List.nil_append, List.cons_append]
  gi_wp2
  gi_loopw [10] (fun i wr => ∃ (k : Nat) (pre : List ByteArray), k ≤ len ∧ i = .int .i64 k ∧ pre.map bl = Plain.LM (bl p) ((ss.take k).map bl) ∧ J pre wr ∧ Kept n₁ c1 c2 W wr)
    (fun i _ => len - (intOf i).toNat)
  case atStart => exact ⟨0, [], Nat.zero_le _, rfl, by simp [Plain.LM], h0, Kept.refl _ _ _ _⟩
  case round =>
    obtain ⟨k, pre, hk, rfl, hpre, hJ, hkp⟩ := hrel
    have HP : Hid (pre.map bl = Plain.LM (bl p) ((ss.take k).map bl)) := hpre
    clear hpre
    by_cases hlt : k < len
    · have hck : wr.cell? ⟨b, off + k, none⟩ = some (.string (ss.getD k ByteArray.empty)) := (hkp.cell (p := ⟨b, off + k, none⟩) hb.1 hb.2.1 hb.2.2).trans (hc k hlt)
      have hpk : wr.cell? ⟨Bp, 0, none⟩ = some (.string p) := (hkp.cell (p := ⟨Bp, 0, none⟩) hbp.1 hbp.2.1 hbp.2.2).trans hBp
      have hmk : wr.cell? ⟨0, 0, none⟩ = some (.int .i64 m) := (hkp.cell (p := ⟨0, 0, none⟩) hb0.1 hb0.2.1 hb0.2.2).trans hm
      have hzk := hz k hlt
      obtain ⟨f, hf⟩ : ∃ f, f = ss.getD k ByteArray.empty := ⟨_, rfl⟩
      rw [← hf] at hck hzk
      have HF : Hid (pre.map bl ++ Plain.lm (bl p) (bl f) = Plain.LM (bl p) ((ss.take (k + 1)).map bl)) := by
        show _ = _
        rw [LM_succ _ _ _ (by rw [← hlen.out]; exact hlt), HP.out, hf]
      clear hf HP
      gi_wp2_with (refine ⟨trivial, ?_⟩; gi_at_call 38; refine (callsIn_wide.2 (ms38 _ _ _ m hmk (by omega) hP)).mono ?_; rintro e w' ⟨rfl, rfl⟩)
      gi_loopw [5, 6] (fun v5 v6 wr => ∃ (g : ByteArray) (pre : List ByteArray) (o : Option Nat), v5 = .string g ∧ v6 = .int .i64 (Plain.msInt o) ∧ Plain.scan (bl p) true (bl g) = o ∧ pre.map bl ++ Plain.lm (bl p) (bl g) = Plain.LM (bl p) ((ss.take (k + 1)).map bl) ∧ J pre wr ∧ Kept n₁ c1 c2 W wr ∧ g.size ≤ 4096)
        (fun v5 _ _ => strSz v5)
      case atStart => exact ⟨f, pre, _, rfl, rfl, rfl, HF.out, hJ, hkp, hzk⟩
      case round =>
        clear HF hJ hkp hck hpk hmk pre hzk
        obtain ⟨g, pre, o, rfl, rfl, hsc, hsum, hJ, hkp, hzk⟩ := hrel
        have HS : Hid (pre.map bl ++ Plain.lm (bl p) (bl g) = Plain.LM (bl p) ((ss.take (k + 1)).map bl)) := hsum
        have HO : Hid (Plain.scan (bl p) true (bl g) = o) := hsc
        clear hsum hsc
        have hpk : wr.cell? ⟨Bp, 0, none⟩ = some (.string p) := (hkp.cell (p := ⟨Bp, 0, none⟩) hbp.1 hbp.2.1 hbp.2.2).trans hBp
        have hmk : wr.cell? ⟨0, 0, none⟩ = some (.int .i64 m) := (hkp.cell (p := ⟨0, 0, none⟩) hb0.1 hb0.2.1 hb0.2.2).trans hm
        cases o with
        | none =>
          have hms : Plain.msInt none = -1 := rfl
          have HN : Hid (pre.map bl = Plain.LM (bl p) ((ss.take (k + 1)).map bl)) := by
            show _ = _
            rw [← HS.out, Plain.lm_scan_none _ _ HO.out, List.append_nil]
          clear HS HO
          gi_wp2
          go_roundw
          case rel => exact ⟨k + 1, pre, by omega, by go_num, HN.out, hJ, hkp⟩
          case measure => simp [intOf]; omega
        | some i =>
          have hms : Plain.msInt (some i) = (i : Int) := rfl
          have hpos := Plain.scan_pos _ _ _ _ HO.out
          have hlt1 := Plain.scan_lt _ _ _ _ HO.out
          have hi : i < g.size := by have := hlt1.1; rwa [show (bl g).length = g.size from len_list g] at this
          obtain ⟨g1, hg1⟩ : ∃ g1, g.extract i g.size = g1 := ⟨_, rfl⟩
          have hbg : bl g1 = (bl g).drop i := by rw [← hg1]; exact bl_extract g i
          have hsz : Hid (g1.size = g.size - i) := by show _ = _; rw [← hg1]; simp
          have hs4 : g1.size ≤ 4096 := by have := hsz.out; omega
          rw [← hbg] at hpos hlt1
          have hel := Plain.endOf_le (bl g1)
          rw [show (bl g1).length = g1.size from len_list g1] at hel
          have hpe := Plain.endOf_prefix _ _ hP.out hlt1.2
          rw [show (bl p).length = p.size from len_list p] at hpe
          have HL : Hid (Plain.lm (bl p) (bl g) = Plain.trimR (((bl g1).take (Plain.endOf (bl g1))).drop p.size) :: Plain.lm (bl p) ((bl g1).drop (Plain.endOf (bl g1)))) := by
            have := Plain.lm_scan_some (bl p) (bl g) hP.out i HO.out
            rw [← hbg, show (bl p).length = p.size from len_list p] at this
            exact this
          obtain ⟨r, hr⟩ : ∃ r, Hid (Lib.indexByte (bl g1) 44 = r) := ⟨_, rfl⟩
          have hei := Plain.endOf_index (bl g1)
          rw [hr.out, show (bl g1).length = g1.size from len_list g1] at hei
          obtain ⟨en, hen⟩ : ∃ en, Plain.endOf (bl g1) = en := ⟨_, rfl⟩
          rw [hen] at hpos hel hpe HL hei
          clear hen hlt1 hbg HO
          have hrr : r = -1 ∨ r = (en : Int) := by
            have : -1 ≤ r := by rw [← hr.out]; exact Lib.indexByte_ge _ _
            by_cases h : r = -1
            · exact .inl h
            · right
              have := hei.2 r.toNat (by omega)
              omega
          have hr1 : r = -1 → en = g1.size := hei.1
          clear hei
          rcases hrr with rfl | rfl
          · obtain rfl : en = g1.size := hr1 rfl
            clear hr1
            gi_wp2_with (refine ⟨trivial, ?_⟩; gi_at_call 39; refine (callsIn_wide.2 (ib39 _ _ hr _)).mono ?_; rintro e wr ⟨rfl, rfl⟩)
            refine ⟨trivial, (callsIn_wide.2 (trimR40 _ _ (by simp; omega))).mono ?_⟩
            rintro e wr ⟨t, rfl, ht, rfl⟩
            have HM : Hid ((pre ++ [t]).map bl ++ Plain.lm (bl p) (bl (g1.extract g1.size g1.size)) = Plain.LM (bl p) ((ss.take (k + 1)).map bl)) := step_sum _ _ _ _ _ _ _ ht HL.out HS.out
            have HQ : Hid ((pre ++ [t]).map bl <+: M) := by
              show _ <+: _
              rw [hM.out]
              exact List.IsPrefix.trans ⟨_, HM.out⟩ (LM_prefix _ _ _)
            have hpl : pre.length < M.length := by
              have := HQ.out.length_le
              simp at this
              omega
            obtain ⟨fn, tmps, assign, body, hy, hR⟩ := hY pre t wr hJ hpl
            clear ht HL HS
            gi_wp2
            refine hR.mono ?_
            rintro e W3 (⟨rfl, hJ3, hk3⟩ | ⟨rfl, hJx3⟩)
            · have hkp3 := hkp.trans hk3
              have hpk3 : W3.cell? ⟨Bp, 0, none⟩ = some (.string p) := (hkp3.cell (p := ⟨Bp, 0, none⟩) hbp.1 hbp.2.1 hbp.2.2).trans hBp
              have hmk3 : W3.cell? ⟨0, 0, none⟩ = some (.int .i64 m) := (hkp3.cell (p := ⟨0, 0, none⟩) hb0.1 hb0.2.1 hb0.2.2).trans hm
              clear hpk hmk hy hR hJ hk3
              rw [show g1.extract g1.size g1.size = ByteArray.empty by simp] at HM
              gi_wp2_with (refine ⟨trivial, ?_⟩; gi_at_call 38; refine (callsIn_wide.2 (ms38 _ _ _ m hmk3 (by decide) hP)).mono ?_; rintro e wz ⟨rfl, rfl⟩)
              go_roundw
              case rel => exact ⟨ByteArray.empty, pre ++ [t], _, rfl, rfl, rfl, HM.out, hJ3, hkp3, by decide⟩
              case measure => have := hsz.out; simp [strSz]; omega
            · gi_wp2
              refine bodyPost_ret (results_none rfl _ _ _) rfl ?_
              exact ⟨⟨_, rfl⟩, .inr ⟨pre ++ [t], HQ.out, hJx3⟩⟩
          · clear hr1
            gi_wp2_with (refine ⟨trivial, ?_⟩; gi_at_call 39; refine (callsIn_wide.2 (ib39 _ _ hr _)).mono ?_; rintro e wr ⟨rfl, rfl⟩)
            refine ⟨trivial, (callsIn_wide.2 (trimR40 _ _ (by simp; omega))).mono ?_⟩
            rintro e wr ⟨t, rfl, ht, rfl⟩
            have HM : Hid ((pre ++ [t]).map bl ++ Plain.lm (bl p) (bl (g1.extract en g1.size)) = Plain.LM (bl p) ((ss.take (k + 1)).map bl)) := step_sum _ _ _ _ _ _ _ ht HL.out HS.out
            have HQ : Hid ((pre ++ [t]).map bl <+: M) := by
              show _ <+: _
              rw [hM.out]
              exact List.IsPrefix.trans ⟨_, HM.out⟩ (LM_prefix _ _ _)
            have hpl : pre.length < M.length := by
              have := HQ.out.length_le
              simp at this
              omega
            obtain ⟨fn, tmps, assign, body, hy, hR⟩ := hY pre t wr hJ hpl
            clear ht HL HS
            gi_wp2
            refine hR.mono ?_
            rintro e W3 (⟨rfl, hJ3, hk3⟩ | ⟨rfl, hJx3⟩)
            · have hkp3 := hkp.trans hk3
              have hpk3 : W3.cell? ⟨Bp, 0, none⟩ = some (.string p) := (hkp3.cell (p := ⟨Bp, 0, none⟩) hbp.1 hbp.2.1 hbp.2.2).trans hBp
              have hmk3 : W3.cell? ⟨0, 0, none⟩ = some (.int .i64 m) := (hkp3.cell (p := ⟨0, 0, none⟩) hb0.1 hb0.2.1 hb0.2.2).trans hm
              clear hpk hmk hy hR hJ hk3
              gi_wp2_with (refine ⟨trivial, ?_⟩; gi_at_call 38; refine (callsIn_wide.2 (ms38 _ _ _ m hmk3 (by simp; omega) hP)).mono ?_; rintro e wz ⟨rfl, rfl⟩)
              go_roundw
              case rel => exact ⟨g1.extract en g1.size, pre ++ [t], _, rfl, rfl, rfl, HM.out, hJ3, hkp3, by simp; omega⟩
              case measure => have := hsz.out; simp [strSz]; omega
            · gi_wp2
              refine bodyPost_ret (results_none rfl _ _ _) rfl ?_
              exact ⟨⟨_, rfl⟩, .inr ⟨pre ++ [t], HQ.out, hJx3⟩⟩
    · gi_wp2
      go_end0
      refine ⟨⟨_, rfl⟩, .inl ⟨pre, ?_, hJ⟩⟩
      have : k = ss.length := by have := hlen.out; omega
      rw [HP.out, this, List.take_length, hM.out]
end Go.Proofs.Qxb6003347a
