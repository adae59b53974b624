import Derived.Test.Qxb6001480aWalkB
import Derived.Lib.OthersKept
namespace Go.Proofs.Qxb6001480a
open Go.RowKit

theorem encode_bad (r : Int) (h : Utf8.valid r = false) : Utf8.encode r = Utf8.encode 65533 := by
  unfold Utf8.encode
  rw [h]
  rfl

theorem encode_high (r : Int) (h : 128 ≤ r) :
    2 ≤ (Utf8.encode r).size ∧ (Utf8.encode r).size ≤ 4 ∧ ∀ h : (Utf8.encode r).size - 1 < (Utf8.encode r).size, 128 ≤ ((Utf8.encode r)[(Utf8.encode r).size - 1]'h).toNat := by
  cases hv : Utf8.valid r with
  | true => exact encode_facts r hv h
  | false => rw [encode_bad r hv]; exact encode_facts 65533 (by decide) (by decide)

theorem last_of (t : ByteArray) (n : Nat) (hn : t.size = n + 1) (h : ∀ h : t.size - 1 < t.size, 128 ≤ (t[t.size - 1]'h).toNat) : 128 ≤ (t[n]'(by omega)).toNat := by
  have := h (by omega)
  have e : t[t.size - 1]'(by omega) = t[n]'(by omega) := by congr 1; omega
  rw [e] at this
  exact this

theorem idx_any (r : Int) (w : World) (h : 128 ≤ r) (h1 : r ≤ 2147483647) :
    Calls Try.prog 10 #[.string spc, .int .i32 r] w fun e w' => e = .returned (.int .i64 (-1)) ∧ Below w.heap.size w w' := by
  by_cases h2 : r = 65533
  · subst h2; exact idx_err w
  · obtain ⟨a, b, c⟩ := encode_high r h
    rcases (show (Utf8.encode r).size = 2 ∨ (Utf8.encode r).size = 3 ∨ (Utf8.encode r).size = 4 from by omega) with e | e | e
    · exact idx_high2 r w _ rfl e (last_of _ 1 e c) h h1 h2
    · exact idx_high3 r w _ rfl e (last_of _ 2 e c) h h1 h2
    · exact idx_high4 r w _ rfl e (last_of _ 3 e c) h h1 h2

theorem low_counts (r : Nat) (h : r < 128) : decide (0 ≤ firstIdx spc r.toUInt8) = !Plain.counts r := by
  rw [firstIdx_nonneg]
  have key : ∀ r : Fin 128, (spc.data.toList.any (· == r.val.toUInt8)) = !Plain.counts r.val := by decide
  exact key ⟨r, h⟩

theorem contains_any (r : Nat) (w : World) (h1 : r ≤ 2147483647) :
    Calls Try.prog 9 #[.string spc, .int .i32 r] w fun e w' => e = .returned (.bool (!Plain.counts r)) ∧ Below w.heap.size w w' := by
  by_cases h : r < 128
  · have hc : Hid (decide (0 ≤ firstIdx spc r.toUInt8) = !Plain.counts r) := low_counts r h
    go_enter Try.func9, Try.ntmps9
    go_wp2_with (go_at_call 10; refine (idx_low _ _ (by omega) (by omega)).mono ?_; rintro e w' ⟨rfl, hb⟩)
    go_ret
    exact ⟨ret_bool hc.out, hb⟩
  · have hc : Hid (Plain.counts r = true) := by
      show Plain.counts r = true
      unfold Plain.counts
      have : (r == 32) = false ∧ (r == 9) = false ∧ (r == 10) = false ∧ (r == 13) = false := by simp; omega
      rw [this.1, this.2.1, this.2.2.1, this.2.2.2]; rfl
    go_enter Try.func9, Try.ntmps9
    go_wp2_with (go_at_call 10; refine (idx_any _ _ (by omega) (by omega)).mono ?_; rintro e w' ⟨rfl, hb⟩)
    go_ret
    exact ⟨ret_bool (by rw [hc.out]; simp), hb⟩

theorem step_of (s : ByteArray) (pos : Nat) (hp : pos < s.size) :
    Plain.sz (s.data.toList.drop pos) = (if Plain.counts (Utf8.decode s pos).1 then 1 else 0) + Plain.sz (s.data.toList.drop (pos + (Utf8.decode s pos).2)) := by
  rw [Plain.decode_eq]
  have hl : pos < s.data.toList.length := by simpa using hp
  obtain ⟨x, l, e⟩ : ∃ x l, s.data.toList.drop pos = x :: l := ⟨_, _, List.drop_eq_getElem_cons hl⟩
  rw [← List.drop_drop, e]
  exact Plain.sz_cons x l

theorem iterPos_of {w : World} {k : Nat} {s : ByteArray} {p : Nat} (h : w.heap[k]? = some (.stringIter s p)) : w.iterPos k = p := by
  simp [World.iterPos, h]

theorem spc_eq : (⟨#[32, 9, 10, 13]⟩ : ByteArray) = spc := rfl

set_option maxHeartbeats 1000000 in
theorem size_any (s : ByteArray) (w : World) (hs : s.size ≤ 1073741824) :
    Calls Try.prog 6 #[.string s] w fun e w' => e = .returned (.int .i64 (Plain.sz s.data.toList)) ∧ Below w.heap.size w w' := by
  have hsz : s.data.toList.length = s.size := by simp
  have hle := Plain.sz_le _ s.data.toList (Nat.le_refl _)
  go_enter Try.func6, Try.ntmps6
  go_wp2
  go_loopw [3] (fun v wr => ∃ pos acc : Nat, wr.heap[w.heap.size]? = some (.stringIter s pos) ∧ Below w.heap.size w wr ∧ v = .int .i64 acc ∧ acc + Plain.sz (s.data.toList.drop pos) = Plain.sz s.data.toList ∧ w.heap.size < wr.heap.size)
    (fun _ wr => s.size - wr.iterPos w.heap.size)
  case atStart => exact ⟨0, 0, World.iter_heap _ _ _, below_iter _ _ _, rfl, by simp, by show _ < (w.heap.push _).size; simp⟩
  case round =>
    obtain ⟨pos, acc, hit, hbel, rfl, hacc, hlt⟩ := hrel
    have HA : Hid (acc + Plain.sz (s.data.toList.drop pos) = Plain.sz s.data.toList) := hacc
    clear hacc
    by_cases hp : pos < s.size
    · have hnx : ∀ ty, (Instr.next (.pointer (some ⟨w.heap.size, 0, none⟩)) true ty).run Try.prog wr = _ := fun ty => Lib.run_next_any_at wr w.heap.size s pos ty hit hp
      have hdl := decode_le s pos
      have hw1 : 1 ≤ (Utf8.decode s pos).2 := by rw [Plain.decode_eq]; exact Plain.dec_width _
      have hac : acc ≤ s.size := by have := HA.out; omega
      have hst := step_of s pos hp
      have HS : Hid (acc + (if Plain.counts (Utf8.decode s pos).1 then 1 else 0) + Plain.sz (s.data.toList.drop (pos + (Utf8.decode s pos).2)) = Plain.sz s.data.toList) := by
        have := HA.out; rw [hst] at this; show _ + _ + _ = _; omega
      clear hst HA
      go_wp2_with (go_at_call 9; rw [spc_eq]; refine (contains_any _ _ hdl).mono ?_; rintro e w2 ⟨rfl, hb⟩)
      all_goals
        have hit2 : w2.heap[w.heap.size]? = some (.stringIter s (pos + (Utf8.decode s pos).2)) := (hb.block _ (by rw [Lib.iterAt_size]; exact hlt)).trans (Lib.iterAt_heap _ _ _ _ _ hit)
        have hbel2 : Below w.heap.size w w2 := (Lib.below_iterAt hbel (Nat.le_refl _) s _).trans (hb.mono (by rw [Lib.iterAt_size]; exact Nat.le_of_lt hlt))
        have hlt2 : w.heap.size < w2.heap.size := Nat.lt_of_lt_of_le hlt (by have := hb.size; rw [Lib.iterAt_size] at this; exact this)
        go_roundw
        case rel =>
          first
            | exact ⟨_, acc + 1, hit2, hbel2, by go_num, by have := HS.out; rw [if_pos (by assumption)] at this; exact this, hlt2⟩
            | exact ⟨_, acc, hit2, hbel2, rfl, by have := HS.out; rw [if_neg (Bool.eq_false_iff.1 (by assumption))] at this; exact this, hlt2⟩
        case measure => rw [iterPos_of hit2, iterPos_of hit]; omega
    · have hnx : ∀ ty, (Instr.next (.pointer (some ⟨w.heap.size, 0, none⟩)) true ty).run Try.prog wr = _ := fun ty => Lib.run_next_end_at wr w.heap.size s pos ty hit hp
      go_wp2
      go_ret
      exact ⟨ret_int (by have := HA.out; rw [List.drop_eq_nil_of_le (by omega)] at this; rw [Plain.sz_nil] at this; omega), hbel⟩
end Go.Proofs.Qxb6001480a
