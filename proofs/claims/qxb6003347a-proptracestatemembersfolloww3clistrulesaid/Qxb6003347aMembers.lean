import Derived.Test.Qxb6003347aSizes
import Derived.OwnWalk
import Derived.Maps.AppendAt
import Derived.RangeFuncBox
namespace Go.Proofs.Qxb6003347a
open Go.RowKit

theorem Try.info9 : (Try.prog.info? 9).map (fun i => (i.zero, i.size, i.bytes)) = some (some (.string ⟨#[]⟩), 1, 16) := by kernel_rfl

/-- What has been gathered: a row of the call's own. -/
def Own13 (w wr : World) (v : Value) (ys : List ByteArray) : Prop := wr.ownsRow w.heap.size 9 1 v ys.length (ys.map Value.string) ∧ Below w.heap.size w wr
theorem Own13.drewN {w wr : World} {v : Value} {ys : List ByteArray} (h : Own13 w wr v ys) (n : Nat) : Own13 w (wr.drewN n) v ys := ⟨h.1, h.2.trans ⟨rfl, rfl, rfl, Nat.le_refl _, fun _ _ => rfl⟩⟩
theorem Own13.snoc {w wr w1 : World} {v v' : Value} {zs : List ByteArray} {x : ByteArray} {o : Obj} (h : Own13 w wr v zs)
    (hown : w1.ownsRow w.heap.size 9 1 v' (zs.length + 1) (zs.map Value.string ++ [.string x])) (hg : (wr.alloc o).grownBy w1 v.ownBlock) : Own13 w w1 v' (zs ++ [x]) := by
  refine ⟨by simpa using hown, ?_⟩
  refine (h.2.alloc h.2.size o).grown hg (by have := h.2.size; simp; omega) ?_
  intro k hk
  rcases h.1.2 with ⟨rfl, _⟩ | ⟨g, cap, cur, rfl, hg', _⟩
  · simp [Value.ownBlock] at hk
  · simp [Value.ownBlock] at hk; omega
def bl (s : ByteArray) : List UInt8 := s.data.toList

/-- One step of the inner loop: the part that ends at j. -/
theorem part_end (P : List UInt8) (f : ByteArray) (st j : Nat) (hst : st ≤ j) (hj : j ≤ f.size) (hno : ∀ x ∈ ((bl f).drop st).take (j - st), x ≠ 44) (hend : j = f.size ∨ ∃ h : j < f.size, f[j] = 44) :
    Plain.lm P ((bl f).drop st) = Plain.one P (bl (f.extract st j)) ++ Plain.lm P ((bl f).drop (j + 1)) := by
  have e1 : bl (f.extract st j) = ((bl f).drop st).take (j - st) := ext_list f st j
  rw [e1]
  rcases hend with rfl | ⟨h, hc⟩
  · have e2 : ((bl f).drop st).take (f.size - st) = (bl f).drop st := List.take_of_length_le (by rw [List.length_drop]; show f.data.toList.length - st ≤ _; rw [len_list]; omega)
    rw [e2] at hno ⊢
    have e3 : (bl f).drop (f.size + 1) = [] := List.drop_eq_nil_of_le (by show f.data.toList.length ≤ _; rw [len_list]; omega)
    rw [e3, Plain.lm_nil, List.append_nil]
    exact Plain.lm_seg P _ hno
  · have e2 : (bl f).drop st = ((bl f).drop st).take (j - st) ++ 44 :: (bl f).drop (j + 1) := by
      have e4 := List.take_append_drop (j - st) ((bl f).drop st)
      rw [List.drop_drop, show st + (j - st) = j by omega] at e4
      have e5 : (bl f).drop j = f[j] :: (bl f).drop (j + 1) := drop_at f j h
      rw [e5, hc] at e4
      exact e4.symm
    conv => lhs; rw [e2]
    exact Plain.lm_seg_comma P _ _ hno

theorem one_empty (P : List UInt8) (seg : List UInt8) (t : ByteArray) (ht : bl t = Plain.trim seg) (h : t.size = 0) : Plain.one P seg = [] := by
  have : Plain.trim seg = [] := by rw [← ht]; exact List.eq_nil_of_length_eq_zero (by show t.data.toList.length = 0; rw [len_list]; exact h)
  unfold Plain.one; rw [this]; simp
theorem one_other (P : List UInt8) (seg : List UInt8) (t : ByteArray) (ht : bl t = Plain.trim seg) (h : P.isPrefixOf (bl t) = false) : Plain.one P seg = [] := by
  unfold Plain.one; rw [← ht, h]; simp
theorem one_hit (P : List UInt8) (seg : List UInt8) (t : ByteArray) (ht : bl t = Plain.trim seg) (h0 : t.size ≠ 0) (h : P.isPrefixOf (bl t) = true) : Plain.one P seg = [(bl t).drop P.length] := by
  unfold Plain.one; rw [← ht, h]
  have : (bl t).isEmpty = false := by
    cases e : bl t with
    | nil => have : t.data.toList.length = 0 := by have e' : t.data.toList = [] := e
                                                   rw [e']; rfl
             rw [len_list] at this; exact absurd this h0
    | cons a l => rfl
  rw [this]; simp

theorem bl_extract (t : ByteArray) (k : Nat) : bl (t.extract k t.size) = (bl t).drop k := by
  have := ext_list t k t.size
  show (t.extract k t.size).data.toList = _
  rw [this, List.take_of_length_le]; · rfl
  rw [List.length_drop, len_list]; omega

/-- The inner loop's relation. -/
structure In13 (P : List UInt8) (w : World) (f : ByteArray) (base : Nat) (goal : List (List UInt8)) (v8 v9 v5 : Value) (wr : World) (st j : Nat) (ys : List ByteArray) : Prop where
  h8 : v8 = .int .i64 st
  h9 : v9 = .int .i64 j
  own : Own13 w wr v5 ys
  le : st ≤ j
  top : j ≤ f.size + 1
  last : j = f.size + 1 → st = j
  no : ∀ x ∈ ((bl f).drop st).take (j - st), x ≠ 44
  sum : ys.map bl ++ Plain.lm P ((bl f).drop st) = goal
  cnt : ys.length ≤ base + st

theorem no_succ (f : ByteArray) (st j : Nat) (hst : st ≤ j) (hj : j < f.size) (hno : ∀ x ∈ ((bl f).drop st).take (j - st), x ≠ 44) (hc : f[j] ≠ 44) : ∀ x ∈ ((bl f).drop st).take (j + 1 - st), x ≠ 44 := by
  have hl : j - st < ((bl f).drop st).length := by rw [List.length_drop]; show j - st < f.data.toList.length - st; rw [len_list]; omega
  have e : ((bl f).drop st).take (j + 1 - st) = ((bl f).drop st).take (j - st) ++ [f[j]] := by
    rw [show j + 1 - st = (j - st) + 1 by omega, List.take_succ_eq_append_getElem hl]
    congr 2
    rw [List.getElem_drop]
    have : st + (j - st) = j := by omega
    simp only [this]
    rfl
  intro x hx
  rw [e] at hx
  rcases List.mem_append.1 hx with h | h
  · exact hno x h
  · simp at h; rw [h]; exact hc

theorem trim_le (l : List UInt8) : (Plain.trim l).length ≤ l.length := by
  have h1 := Plain.trimR_le (Plain.trimL l)
  have h2 : (Plain.trimL l).length ≤ l.length := by unfold Plain.trimL; exact (List.dropWhile_sublist _).length_le
  unfold Plain.trim
  omega
theorem isEmpty_iff (t : ByteArray) : t.toList.isEmpty = decide (t.size = 0) := by
  rw [ByteArray.toList_eq]
  cases h : t.data.toList with
  | nil => have : t.size = 0 := by rw [← len_list, h]; rfl
           simp [this]
  | cons a l => have : t.size ≠ 0 := by rw [← len_list, h]; simp
                simp [this]

theorem LM_succ (P : List UInt8) (ss : List ByteArray) (k : Nat) (h : k < ss.length) : Plain.LM P ((ss.take (k + 1)).map bl) = Plain.LM P ((ss.take k).map bl) ++ Plain.lm P (bl (ss.getD k ByteArray.empty)) := by
  rw [List.take_succ_eq_append_getElem h, List.getD_eq_getElem?_getD, List.getElem?_eq_getElem h]
  unfold Plain.LM
  rw [List.map_append, List.flatMap_append]
  simp

set_option maxRecDepth 100000 in
set_option maxHeartbeats 4000000 in
theorem lm13 (b off n c : Nat) (ss : List ByteArray) (p : ByteArray) (w : World) (hn : n ≤ 4096) (hnl : Hid (n = ss.length)) (hz : ∀ i, i < n → (ss.getD i ByteArray.empty).size ≤ 4096) (hb : b < w.heap.size)
    (hc : ∀ i, i < n → w.cell? ⟨b, off + i, none⟩ = some (.string (ss.getD i ByteArray.empty))) :
    Calls Try.prog 13 #[.slice (some ⟨b, off, none⟩) n c, .string p] w fun e w' => ∃ v ys, e = .returned v ∧ ys.map bl = Plain.LM (bl p) (ss.map bl) ∧ Own13 w w' v ys ∧ ys.length ≤ 4097 * n := by
  obtain ⟨i0, hi, hz0, hz1, hz2⟩ := info_parts Try.info9
  go_enter Try.func13, Try.ntmps13
  go_wp2
  go_loopw [5, 6] (fun v i wr => ∃ (k : Nat) (ys : List ByteArray), i = .int .i64 k ∧ k ≤ n ∧ ys.map bl = Plain.LM (bl p) ((ss.take k).map bl) ∧ Own13 w wr v ys ∧ ys.length ≤ 4097 * k) (fun _ i _ => n - (intOf i).toNat)
  case atStart => exact ⟨0, [], rfl, Nat.zero_le _, by simp [Plain.LM], ⟨World.ownsRow_nil _ _ _ _, Below.refl _ _⟩, by simp⟩
  case round =>
    obtain ⟨k, ys, rfl, hk, hys, hown, hcnt⟩ := hrel
    have HY : Hid (ys.map bl = Plain.LM (bl p) ((ss.take k).map bl)) := hys
    clear hys
    by_cases hlt : k < n
    · have hck : wr.cell? ⟨b, off + k, none⟩ = some (.string (ss.getD k ByteArray.empty)) := (hown.2.cell (p := ⟨b, off + k, none⟩) hb).trans (hc k hlt)
      have hzk := hz k hlt
      obtain ⟨f, hf⟩ : ∃ f, f = ss.getD k ByteArray.empty := ⟨_, rfl⟩
      rw [← hf] at hck hzk
      obtain ⟨goal, hgoal⟩ : ∃ goal, Hid (Plain.LM (bl p) ((ss.take (k + 1)).map bl) = goal) := ⟨_, rfl⟩
      have HF : Hid (ys.map bl ++ Plain.lm (bl p) (bl f) = goal) := by
        show _ = _
        rw [← hgoal.out, LM_succ _ _ _ (by rw [← hnl.out]; exact hlt), HY.out, hf]
      clear hf hc hz HY
      go_wp2
      obtain ⟨wo, hwo⟩ : ∃ wo : World, wo = wr := ⟨_, rfl⟩
      subst hwo
      go_loopw [5, 8, 9] (fun v5 v8 v9 wr => ∃ (st j : Nat) (ys : List ByteArray), In13 (bl p) w f (4097 * k) goal v8 v9 v5 wr st j ys) (fun _ _ v9 _ => f.size + 1 - (intOf v9).toNat)
      case atStart => exact ⟨0, 0, ys, ⟨rfl, rfl, hown, Nat.le_refl _, by omega, fun h => by omega, by simp, HF.out, by omega⟩⟩
      case round =>
        obtain ⟨st, j, zs, hin⟩ := hrel
        obtain ⟨rfl, rfl, hwn, hle, htop, hlast, hno, hsum, hct⟩ := hin
        have HN : Hid (∀ x ∈ ((bl f).drop st).take (j - st), x ≠ 44) := hno
        have HS : Hid (zs.map bl ++ Plain.lm (bl p) ((bl f).drop st) = goal) := hsum
        have HL : Hid (j = f.size + 1 → st = j) := hlast
        clear hno hsum hlast HF hown
        by_cases hj : j ≤ f.size
        · by_cases hgo : ∃ h : j < f.size, f[j] ≠ 44
          · obtain ⟨hjl, hne⟩ := hgo
            have h1 : ((f[j].toNat : Int) != 44) = true := by
              simp
              intro e
              exact hne (by rw [← UInt8.toNat_inj]; show f[j].toNat = 44; omega)
            have HR : Hid (In13 (bl p) w f (4097 * k) goal (.int .i64 st) (.int .i64 ((j + 1 : Nat) : Int)) u5 wr st (j + 1) zs) :=
              ⟨rfl, rfl, hwn, by omega, by omega, fun h => by omega, no_succ f st j hle hjl HN.out hne, HS.out, hct⟩
            clear hwn hne
            go_wp2
            go_roundw
            case rel => exact ⟨st, j + 1, zs, by have := HR.out; simpa using this⟩
            case measure => simp [intOf]; omega
          · have hend : j = f.size ∨ ∃ h : j < f.size, f[j] = 44 := by
              by_cases hjl : j < f.size
              · right
                refine ⟨hjl, ?_⟩
                by_cases h : f[j] = 44
                · exact h
                · exact absurd ⟨hjl, h⟩ hgo
              · left; omega
            have HE : Hid (zs.map bl ++ (Plain.one (bl p) (bl (f.extract st j)) ++ Plain.lm (bl p) ((bl f).drop (j + 1))) = goal) := by
              show _ = _
              rw [← part_end (bl p) f st j hle hj HN.out hend]; exact HS.out
            have hcs : (∃ h : j < f.size, ((f[j].toNat : Int) != 44) = false) ∨ ¬ j < f.size := by
              rcases hend with h | ⟨h, h'⟩
              · right; omega
              · left; exact ⟨h, by rw [h']; rfl⟩
            have hxs : (f.extract st j).size ≤ 4096 := by simp; omega
            clear HN HS HL hgo hend
            rcases hcs with ⟨hjl, hcm⟩ | hjl
            all_goals
              go_wp2_with (fail)
              refine (trim27 _ _ (by omega)).mono ?_
              rintro e wr ⟨t, rfl, ht, rfl⟩
              have hts : t.size ≤ 4096 := by
                have := trim_le (f.extract st j).data.toList
                rw [← ht, len_list, len_list] at this
                omega
              have hte := isEmpty_iff t
              have HT : Hid (bl t = Plain.trim (bl (f.extract st j))) := ht
              clear ht
              by_cases h0 : t.size = 0
              · rw [decide_eq_true h0] at hte
                have HE' : Hid (zs.map bl ++ Plain.lm (bl p) ((bl f).drop (j + 1)) = goal) := by
                  show _ = _
                  rw [← HE.out, one_empty _ _ t HT.out h0]; rfl
                clear HE HT h0
                go_wp2
                go_roundw
                case rel => exact ⟨j + 1, j + 1, zs, ⟨by go_num, by go_num, hwn, Nat.le_refl _, by omega, fun _ => rfl, by simp, HE'.out, by omega⟩⟩
                case measure => simp [intOf]; omega
              · rw [decide_eq_false h0] at hte
                cases hpre : p.data.toList.isPrefixOf t.data.toList with
                | false =>
                  have HE' : Hid (zs.map bl ++ Plain.lm (bl p) ((bl f).drop (j + 1)) = goal) := by
                    show _ = _
                    rw [← HE.out, one_other (bl p) _ t HT.out hpre]; rfl
                  clear HE HT h0
                  go_wp2_with (go_at_call 22; refine (pre22 _ _ _ (by omega)).mono ?_; rintro e w' ⟨rfl, nq, rfl⟩)
                  go_roundw
                  case rel => exact ⟨j + 1, j + 1, zs, ⟨by go_num, by go_num, hwn.drewN _, Nat.le_refl _, by omega, fun _ => rfl, by simp, HE'.out, by omega⟩⟩
                  case measure => simp [intOf]; omega
                | true =>
                  have hpl : p.size ≤ t.size := by
                    have := (List.isPrefixOf_iff_prefix.1 hpre).length_le
                    rw [len_list, len_list] at this; exact this
                  have HE' : Hid ((zs ++ [t.extract p.size t.size]).map bl ++ Plain.lm (bl p) ((bl f).drop (j + 1)) = goal) := by
                    show _ = _
                    rw [← HE.out, one_hit (bl p) _ t HT.out h0 hpre, List.map_append, List.map_singleton, bl_extract, List.append_assoc]
                    have e9 : (bl p).length = p.size := len_list p
                    rw [e9]
                  clear HE HT h0
                  have g1 : Hid (zs.length + 1 ≤ maxLen) := by show _ ≤ _; unfold maxLen; omega
                  have g2 : Hid ((zs.length + 1) * 16 ≤ 140737488355328) := by show _ ≤ _; omega
                  have g3 : w.heap.size ≤ wr.heap.size := hwn.2.size
                  go_wp2_with (first
                    | (go_at_call 22; refine (pre22 _ _ _ (by omega)).mono ?_; rintro e w' ⟨rfl, nq, rfl⟩; have hwq := hwn.drewN nq)
                    | (at_builtin; refine wpList_append_own _ rfl _ _ 36 rfl w.heap.size 9 i0 (.string ⟨#[]⟩) 1 16 Try.underlying36 hi hz0 hz1 hz2 rfl (by decide) _ _ _ rfl (hwq.1.alloc _) ⟨(wr.drewN nq).heap.size, 0, none⟩ 1 1 [.string (t.extract p.size t.size)] rfl rfl (cell_one_new _ _ _) (by simp [Value.oneCell']) g1.out g2.out (by simp; omega) ?_; intro v' w1 hown' hgrow hnil; have hwx := hwq.snoc hown' hgrow; clear hown' hgrow hnil))
                  go_roundw
                  case rel => exact ⟨j + 1, j + 1, zs ++ [t.extract p.size t.size], ⟨by go_num, by go_num, hwx, Nat.le_refl _, by omega, fun _ => rfl, by simp, HE'.out, by simp; omega⟩⟩
                  case measure => simp [intOf]; omega
        · have hst : st = f.size + 1 := by have := HL.out (by omega); omega
          have HE' : Hid (zs.map bl = goal) := by
            show _ = _
            rw [← HS.out, List.drop_eq_nil_of_le (by show f.data.toList.length ≤ _; rw [len_list]; omega), Plain.lm_nil, List.append_nil]
          clear HN HS HL
          go_wp2
          go_roundw
          case rel => exact ⟨k + 1, zs, by go_num, by omega, by rw [HE'.out, hgoal.out], hwn, by omega⟩
          case measure => simp [intOf]; omega
    · go_wp2
      go_ret
      refine ⟨u5, ys, rfl, ?_, hown, by omega⟩
      have : k = ss.length := by have := hnl.out; omega
      rw [HY.out, this, List.take_length]
end Go.Proofs.Qxb6003347a
