import Derived.Test.Qxb6600069aWalk
namespace Go.Proofs.Qxb6600069a
open Go.RowKit Go.WideShapes

/-- The end of a string: behind the quote, within the data. -/
def Past (n s : Nat) (w : World) (e : Ending) (w' : World) : Prop := ∃ r : Nat, e = .returned (.int .i64 r) ∧ s < r ∧ r ≤ n ∧ w' = w

set_option maxHeartbeats 1000000 in
theorem str32 (b off n c s : Nat) (d : Nat → Nat) (w : World) (hn : n ≤ 1048576) (hs : s < n) (hr : Row w b off n d) :
    Calls Try.prog 32 #[.slice (some ⟨b, off, none⟩) n c, .int .i64 s] w (Past n s w) := by
  go_enter Try.func32, Try.ntmps32
  go_wp2
  go_loop [5] (fun v => ∃ i : Nat, v = .int .i64 i ∧ s < i ∧ i ≤ n + 1) (fun v => n + 1 - (intOf v).toNat)
  case atStart => exact ⟨s + 1, by go_num, by omega, by omega⟩
  case round =>
    obtain ⟨i, rfl, hsi, hin⟩ := hrel
    by_cases hlt : i < n
    · have hci := hr i hlt
      by_cases hb : d i = 92
      · have hb' : ((d i : Int) == 92) = true := by simp; omega
        clear hb
        go_wp2
        go_round
        case rel => exact ⟨i + 2, by go_num, by omega, by omega⟩
        case measure => simp [intOf]; omega
      · have hb' : ((d i : Int) == 92) = false := by simp; omega
        by_cases hq : d i = 34
        · have hq' : ((d i : Int) == 34) = true := by simp; omega
          clear hb hq
          go_wp2
          go_ret
          exact ⟨i + 1, ret_int (by omega), by omega, by omega, rfl⟩
        · have hq' : ((d i : Int) == 34) = false := by simp; omega
          clear hb hq
          go_wp2
          go_round
          case rel => exact ⟨i + 1, by go_num, by omega, by omega⟩
          case measure => simp [intOf]; omega
    · go_wp2
      go_ret
      exact ⟨n, ret_int rfl, by omega, by omega, rfl⟩

/-- The end of a value: within bounds; it stands still on a delimiter, and on nothing else. -/
def Ve (n s : Nat) (dl : Bool) (w : World) (e : Ending) (w' : World) : Prop := ∃ r : Nat, e = .returned (.int .i64 r) ∧ s ≤ r ∧ r ≤ n ∧ decide (r = s) = dl ∧ w' = w

theorem no_delim_34 : isDelim 34 = false := by decide
theorem no_delim_open {x : Nat} (h : x = 123 ∨ x = 91) : isDelim x = false := by rcases h with rfl | rfl <;> decide

set_option maxHeartbeats 2000000 in
theorem val30_str (b off n c s : Nat) (d : Nat → Nat) (w : World) (hn : n ≤ 1048576) (hs : s < n) (hr : Row w b off n d) (h34 : d s = 34) :
    Calls Try.prog 30 #[.slice (some ⟨b, off, none⟩) n c, .int .i64 s] w (Ve n s (isDelim (d s)) w) := by
  have hst := str32 b off n c s d w hn hs hr
  have hci := hr s hs
  rw [h34] at hci
  rw [h34, no_delim_34]
  clear hr h34
  go_enter Try.func30, Try.ntmps30
  go_wp2_with (go_at_call 32; refine hst.mono ?_; rintro e w' ⟨r, rfl, h1, h2, rfl⟩)
  go_ret
  exact ⟨r, ret_int rfl, by omega, by omega, decide_eq_false (by omega), rfl⟩

set_option maxHeartbeats 4000000 in
theorem val30_brk (b off n c s : Nat) (d : Nat → Nat) (w : World) (hn : n ≤ 1048576) (hs : s < n) (hr : Row w b off n d) (ho : d s = 123 ∨ d s = 91) :
    Calls Try.prog 30 #[.slice (some ⟨b, off, none⟩) n c, .int .i64 s] w (Ve n s (isDelim (d s)) w) := by
  have hci := hr s hs
  rw [no_delim_open ho]
  have go : ∀ k : Int, (k = 123 ∨ k = 91) → w.cell? ⟨b, off + s, none⟩ = some (.int .u8 k) → Calls Try.prog 30 #[.slice (some ⟨b, off, none⟩) n c, .int .i64 s] w (Ve n s false w) := by
    clear hci ho
    intro k hk hci
    have g1 : (k == 34) = false := by simp; omega
    have g2 : (k == 123 || k == 91) = true := by rcases hk with rfl | rfl <;> rfl
    rcases hk with rfl | rfl
    all_goals
      go_enter Try.func30, Try.ntmps30
      go_wp2_with (fail)
      go_loop [5, 6] (fun v5 v6 => ∃ (i : Nat) (z : Int), v6 = .int .i64 i ∧ v5 = .int .i64 z ∧ s ≤ i ∧ i ≤ n ∧ -(i : Int) ≤ z ∧ z ≤ i) (fun _ v6 => n - (intOf v6).toNat)
      case atStart => exact ⟨s, 0, rfl, rfl, by omega, by omega, by omega, by omega⟩
      case round =>
        obtain ⟨i, z, rfl, rfl, hsi, hin, hz1, hz2⟩ := hrel
        by_cases hlt : i < n
        · have hc2 := hr i hlt
          by_cases e34 : d i = 34
          · rw [e34] at hc2
            have hst := str32 b off n c i d w hn hlt hr
            clear e34
            go_wp2_with (go_at_call 32; refine hst.mono ?_; rintro e w' ⟨r, rfl, h1, h2, rfl⟩)
            go_round
            case rel => exact ⟨r, z, by go_num, rfl, by omega, by omega, by omega, by omega⟩
            case measure => simp [intOf]; omega
          have g34 : ((d i : Int) == 34) = false := ne_b _ 34 e34
          by_cases e123 : d i = 123
          · rw [e123] at hc2
            clear e34 e123
            go_wp2
            go_round
            case rel => exact ⟨i + 1, z + 1, by go_num, by go_num, by omega, by omega, by omega, by omega⟩
            case measure => simp [intOf]; omega
          have g123 : ((d i : Int) == 123) = false := ne_b _ 123 e123
          by_cases e91 : d i = 91
          · rw [e91] at hc2
            clear e34 e123 e91
            go_wp2
            go_round
            case rel => exact ⟨i + 1, z + 1, by go_num, by go_num, by omega, by omega, by omega, by omega⟩
            case measure => simp [intOf]; omega
          have g91 : ((d i : Int) == 91) = false := ne_b _ 91 e91
          by_cases hcl : d i = 125 ∨ d i = 93
          · by_cases hz : z = 1
            · subst hz
              rcases hcl with hcl | hcl
              all_goals
                rw [hcl] at hc2
                clear e34 e123 e91 hcl
                go_wp2
                go_ret
                exact ⟨i + 1, ret_int (by omega), by omega, by omega, decide_eq_false (by omega), rfl⟩
            · have gz : (z - 1 == 0) = false := by simp; omega
              rcases hcl with hcl | hcl
              all_goals
                rw [hcl] at hc2
                clear e34 e123 e91 hcl
                go_wp2
                go_round
                case rel => exact ⟨i + 1, z - 1, by go_num, by go_num, by omega, by omega, by omega, by omega⟩
                case measure => simp [intOf]; omega
          · have g125 : ((d i : Int) == 125) = false := ne_b _ 125 (by omega)
            have g93 : ((d i : Int) == 93) = false := ne_b _ 93 (by omega)
            clear e34 e123 e91 hcl
            go_wp2
            go_round
            case rel => exact ⟨i + 1, z, by go_num, rfl, by omega, by omega, by omega, by omega⟩
            case measure => simp [intOf]; omega
        · go_wp2
          go_ret
          exact ⟨n, ret_int rfl, by omega, by omega, decide_eq_false (by omega), rfl⟩
  exact go _ (by omega) hci

set_option maxHeartbeats 4000000 in
theorem val30_atom (b off n c s : Nat) (d : Nat → Nat) (w : World) (hn : n ≤ 1048576) (hs : s < n) (hd : ∀ i, i < n → d i < 256) (hr : Row w b off n d) (h34 : d s ≠ 34) (h123 : d s ≠ 123) (h91 : d s ≠ 91) :
    Calls Try.prog 30 #[.slice (some ⟨b, off, none⟩) n c, .int .i64 s] w (Ve n s (isDelim (d s)) w) := by
  have hci := hr s hs
  have g34 : ((d s : Int) == 34) = false := ne_b _ 34 h34
  have g123 : ((d s : Int) == 123) = false := ne_b _ 123 h123
  have g91 : ((d s : Int) == 91) = false := ne_b _ 91 h91
  clear h34 h123 h91
  go_enter Try.func30, Try.ntmps30
  go_wp2
  go_loop [7] (fun v => ∃ i : Nat, v = .int .i64 i ∧ s ≤ i ∧ i ≤ n ∧ (s < i → isDelim (d s) = false)) (fun v => n - (intOf v).toNat)
  case atStart => exact ⟨s, rfl, by omega, by omega, fun h => by omega⟩
  case round =>
    obtain ⟨i, rfl, hsi, hin, hh⟩ := hrel
    have HH : Hid (s < i → isDelim (d s) = false) := hh
    clear hh
    by_cases hlt : i < n
    · have hc2 := hr i hlt
      cases hde : isDelim (d i) with
      | true =>
        have HD : Hid (isDelim (d i) = true) := hde
        clear hde
        go_wp2_with (go_at_call 33; refine (idxd (d i) (hd i hlt) _).mono ?_; rintro e w' ⟨z, rfl, hz, rfl⟩; rw [HD.out] at hz)
        go_ret
        refine ⟨i, ret_int rfl, by omega, by omega, ?_, rfl⟩
        by_cases e : i = s
        · rw [decide_eq_true e, ← e]; exact HD.out.symm
        · rw [decide_eq_false e]; exact (HH.out (by omega)).symm
      | false =>
        have HD : Hid (isDelim (d i) = false) := hde
        clear hde
        go_wp2_with (go_at_call 33; refine (idxd (d i) (hd i hlt) _).mono ?_; rintro e w' ⟨z, rfl, hz, rfl⟩; rw [HD.out] at hz)
        go_round
        case rel =>
          refine ⟨i + 1, by go_num, by omega, by omega, fun _ => ?_⟩
          by_cases e : i = s
          · rw [← e]; exact HD.out
          · exact HH.out (by omega)
        case measure => simp [intOf]; omega
    · go_wp2
      go_ret
      exact ⟨i, ret_int rfl, by omega, by omega, by rw [decide_eq_false (by omega)]; exact (HH.out (by omega)).symm, rfl⟩
end Go.Proofs.Qxb6600069a
