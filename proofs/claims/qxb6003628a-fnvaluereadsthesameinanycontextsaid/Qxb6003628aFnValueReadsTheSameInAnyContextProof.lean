/-
  THE PROOF OF 'Rows.FnValueReadsTheSameInAnyContextSaid': the frame by program (proof-skeleton.mjs); the walks: Qxb6003628aBytes, Str, Clone, Next, Value, Brk, Ops, Slice, Join, Any and its cases; the plain law: Qxb6003628aPlain, Cut, Ctx.
-/
import Derived.Test.Qxb6003628aRows
import Derived.WalkKit
import Derived.ProofKit
import Derived.OpenShut
import Derived.ShutString
import Derived.ChangeOld
import Derived.Below
import Derived.Test.Qxb6003628aAnyEnd
import Derived.Test.Qxb6003628aAnyStrn
import Derived.Test.Qxb6003628aAnyStrl
import Derived.Test.Qxb6003628aAnyBrkna
import Derived.Test.Qxb6003628aAnyBrknb
import Derived.Test.Qxb6003628aAnyBrklac
import Derived.Test.Qxb6003628aAnyBrklad
import Derived.Test.Qxb6003628aAnyBrklbc
import Derived.Test.Qxb6003628aAnyBrklbd
import Derived.Test.Qxb6003628aAnyAtmn
import Derived.Test.Qxb6003628aAnyAtml
namespace Go.Proofs.Qxb6003628a.fnValueReadsTheSameInAnyContext
open Go.ChangeShapes Go.WideShapes Go.ChangeAt Go.RowKit
open Go.ChangeMaps (open_string shut_string)
set_option linter.unusedVariables false

theorem own : ownKnob Try.prog.godebug = none := by kernel_rfl
theorem laidOut : laidOutB Try.prog = true := by kernel_rfl

/-- WHAT THE WALK IS TOLD OF A SLICE OF INTEGERS THAT CAME IN: it is nil; or it leads to a row of 'cap' cells, the numbers 'zs' (the first 'len' are its elements, the rest its spare room), each fitting its kind. -/
def IsRow (k : IntKind) (w : World) (a : Option Addr) (len cap : Nat) (zs : List Int) : Prop :=
  (a = none ∧ len = 0 ∧ cap = 0 ∧ zs = []) ∨
  ∃ x, a = some x ∧ len ≤ cap ∧ cap ≤ maxLen ∧ zs.length = cap ∧ (∀ i, i < zs.length → w.cell? (x.add i) = some (.int k (zs.getD i 0))) ∧ ∀ n ∈ zs, (Lit.int k n).wf = true

theorem in_of {w : World} {a : Option Addr} {len cap : Nat} {z : List Int} (h : IsRow .u8 w a len cap z) (hl : len ≤ 65536) : ∃ d, In w a len cap d := by
  rcases h with ⟨rfl, rfl, rfl, rfl⟩ | ⟨x, rfl, hlc, hm, hz, hc, hw⟩
  · exact ⟨fun _ => 0, fun w' _ => cloneS 0 none 0 0 _ w' (Sl.empty _ _ _ _ _ (by omega)) (fun _ => rfl), fun h => by omega⟩
  · obtain ⟨hrow, hb⟩ := row_of (len := len) (by omega) hc hw
    refine ⟨dOf z, fun w' hbel => (clone10_some x len cap (dOf z) w' (by omega) (hrow.below hbel)).mono fun e w'' hh => ?_, fun h0 => ?_⟩
    · obtain ⟨h1, h2, h3, h4⟩ := hh
      exact ⟨_, h1, ⟨Nat.le_refl _, by omega, fun _ => ⟨_, _, rfl, h4, h2⟩, hb⟩, h3⟩
    · obtain ⟨b, off, e, hr⟩ := hrow.plain h0
      exact ⟨b, off, by rw [e], hr⟩

theorem main (a as' at' : Option Addr) (n c ns cs nt ct p : Nat) (d ds dt : Nat → Nat) (st : Bool) (w : World) (ia : In w a n c d) (is : In w as' ns cs ds) (it : In w at' nt ct dt)
    (hn : n ≤ 65536) (hns : ns ≤ 65536) (hnt : nt ≤ 65536) (hp : p ≤ n) :
    Calls Try.prog 4 #[.slice a n c, .int .i64 p, .bool st, .slice as' ns cs, .slice at' nt ct] w fun e w' => e = .returned (.bool true) ∧ Below w.heap.size w w' := by
  by_cases hsps : ∀ i, i < ns → Plain.isSp (ds i) = true
  · obtain ⟨q, hq⟩ : ∃ q, Hid (Plain.skip n d p = q) := ⟨_, rfl⟩
    obtain ⟨E, hE⟩ : ∃ E, Hid (Plain.valEnd n d q = E) := ⟨_, rfl⟩
    have h1 := Plain.skip_spec n d p hp
    rw [hq.out] at h1
    have h2 := Plain.valEnd_bounds n d q h1.2.1
    rw [hE.out] at h2
    obtain ⟨L, hL⟩ : ∃ L, E = q + L := ⟨E - q, by omega⟩
    by_cases hqn : q < n
    · by_cases h34 : d q = 34
      · by_cases hEe : E < n
        · exact main4_strl a as' at' n c ns cs nt ct p q E L d ds dt st w ia is it hsps hn hns hnt hp hq hE hL hqn h34 hEe
        · exact main4_strn a as' at' n c ns cs nt ct p q E L d ds dt st w ia is it hsps hn hns hnt hp hq hE hL hqn h34 (by omega)
      · by_cases h123 : d q = 123
        · by_cases hEe : E < n
          · have hk := (Plain.brk_close_last n d q L hqn (by rw [h123]; decide) (hE.out.trans hL) (by omega)).2
            have hk' : d (q + (L - 1)) = 125 ∨ d (q + (L - 1)) = 93 := by simpa [Plain.isClose] using hk
            rcases hk' with hk' | hk'
            · exact main4_brklac a as' at' n c ns cs nt ct p q E L d ds dt st w ia is it hsps hn hns hnt hp hq hE hL hqn h123 hEe hk'
            · exact main4_brklad a as' at' n c ns cs nt ct p q E L d ds dt st w ia is it hsps hn hns hnt hp hq hE hL hqn h123 hEe hk'
          · exact main4_brkna a as' at' n c ns cs nt ct p q E L d ds dt st w ia is it hsps hn hns hnt hp hq hE hL hqn h123 (by omega)
        · by_cases h91 : d q = 91
          · by_cases hEe : E < n
            · have hk := (Plain.brk_close_last n d q L hqn (by rw [h91]; decide) (hE.out.trans hL) (by omega)).2
              have hk' : d (q + (L - 1)) = 125 ∨ d (q + (L - 1)) = 93 := by simpa [Plain.isClose] using hk
              rcases hk' with hk' | hk'
              · exact main4_brklbc a as' at' n c ns cs nt ct p q E L d ds dt st w ia is it hsps hn hns hnt hp hq hE hL hqn h91 hEe hk'
              · exact main4_brklbd a as' at' n c ns cs nt ct p q E L d ds dt st w ia is it hsps hn hns hnt hp hq hE hL hqn h91 hEe hk'
            · exact main4_brknb a as' at' n c ns cs nt ct p q E L d ds dt st w ia is it hsps hn hns hnt hp hq hE hL hqn h91 (by omega)
          · by_cases hEe : E < n
            · exact main4_atml a as' at' n c ns cs nt ct p q E L d ds dt st w ia is it hsps hn hns hnt hp hq hE hL hqn h34 h123 h91 hEe
            · exact main4_atmn a as' at' n c ns cs nt ct p q E L d ds dt st w ia is it hsps hn hns hnt hp hq hE hL hqn h34 h123 h91 (by omega)
    · exact main4_end a as' at' n c ns cs nt ct p q E L d ds dt st w ia is it hsps hn hns hnt hp hq hE hL (by omega)
  · obtain ⟨k, hk⟩ : ∃ k, ¬ (k < ns → Plain.isSp (ds k) = true) := Classical.not_forall.1 hsps
    have hk1 : k < ns := Classical.byContradiction fun h => hk fun h' => absurd h' h
    have hk2 : Plain.isSp (ds k) = false := by
      cases h : Plain.isSp (ds k) with
      | true => exact absurd (fun _ => h) hk
      | false => rfl
    exact notWs4 a as' at' n c ns cs nt ct p k ds st w hn hns hnt hp is.row hk1 hk2

theorem len_of {w : World} {a : Option Addr} {len cap : Nat} {z : List Int} (h : IsRow .u8 w a len cap z) : len ≤ maxLen := by
  rcases h with ⟨rfl, rfl, rfl, rfl⟩ | ⟨x, rfl, hlc, hm, hz, hc, hw⟩
  · unfold maxLen; omega
  · omega

theorem walk (a0 : Option Addr) (len0 cap0 : Nat) (z0 : List Int) (a1 : Int) (a2 : Bool) (a3 : Option Addr) (len3 cap3 : Nat) (z3 : List Int) (a4 : Option Addr) (len4 cap4 : Nat) (z4 : List Int) (w : World) (w0 : IsRow .u8 w a0 len0 cap0 z0) (w1 : (Lit.int .i64 a1).wf = true) (w3 : IsRow .u8 w a3 len3 cap3 z3) (w4 : IsRow .u8 w a4 len4 cap4 z4) :
    Calls Try.prog 4 #[.slice a0 len0 cap0, .int .i64 a1, .bool a2, .slice a3 len3 cap3, .slice a4 len4 cap4] w fun e w' => e = .returned (.bool true) ∧ Below w.heap.size w w' := by
  by_cases h : 65536 < len0 ∨ 65536 < len3 ∨ 65536 < len4 ∨ a1 < 0 ∨ (len0 : Int) < a1
  · exact early4 a0 a3 a4 len0 cap0 len3 cap3 len4 cap4 a1 a2 w (len_of w0) (len_of w3) (len_of w4) h
  · obtain ⟨s, rfl⟩ : ∃ s : Nat, a1 = s := ⟨a1.toNat, by omega⟩
    obtain ⟨d, ia⟩ := in_of w0 (by omega)
    obtain ⟨ds, is⟩ := in_of w3 (by omega)
    obtain ⟨dt, it⟩ := in_of w4 (by omega)
    exact main a0 a3 a4 len0 cap0 len3 cap3 len4 cap4 s d ds dt a2 w ia is it (by omega) (by omega) (by omega) (by omega)

/-! ### THE ROW's STEP: WRITTEN OUT: LEAVE IT -/
set_option maxRecDepth 100000 in
theorem lifted (os : Os) (started : os.Started) (H : Type) (enc : TypeId × Value → H) :
    ReturnsInHanded {} Try.checked os 4 .any (Rows.fnValueReadsTheSameInAnyContextSpec.pre6 enc Try.prog Try.f4 Rows.fnValueReadsTheSameInAnyContextRow.domain false) (Rows.fnValueReadsTheSameInAnyContextSpec.post enc Try.prog Try.f4 false true false false) := by
  refine returnsInHanded_of_change (C := Try.checked) own started (by kernel_rfl) Try.func4
    (ChangeSpec.witness6 (enc := enc) (C := Try.checked) false ⟨#[], #[.slice none 0 0, .int .i64 0, .bool false, .slice none 0 0, .slice none 0 0], []⟩ 8 (by kernel_rfl) (by kernel_rfl) (by kernel_rfl) (by kernel_rfl)) ?_
  intro W base args ds gs before hval0 hW hcnd _
  have hval : ∀ (j : Nat) t v, Try.f4.params[j]? = some t → args[j]? = some v → Value.okWide Try.prog W .any base t v := hval0
  have hW' := hW
  obtain ⟨p, q, hA0, hV, rfl, hfz, hnd⟩ := hW
  have hA : DataW.TrodAll enc Try.prog W 0 (fun _ => true) true Try.f4.params.toList args.toList ds p := hA0
  rw [Try.params4] at hA hval
  obtain ⟨v0, vs0, d0, ds0, p0, q0, hargs, rfl, rfl, h0, r0⟩ := trodAll_cons hA
  obtain ⟨v1, vs1, d1, ds1, p1, q1, rfl, rfl, rfl, h1, r1⟩ := trodAll_cons r0
  obtain ⟨v2, vs2, d2, ds2, p2, q2, rfl, rfl, rfl, h2, r2⟩ := trodAll_cons r1
  obtain ⟨v3, vs3, d3, ds3, p3, q3, rfl, rfl, rfl, h3, r3⟩ := trodAll_cons r2
  obtain ⟨v4, vs4, d4, ds4, p4, q4, rfl, rfl, rfl, h4, r4⟩ := trodAll_cons r3
  obtain ⟨rfl, rfl, rfl⟩ := trodAll_nil r4
  obtain rfl : args = #[v0, v1, v2, v3, v4] := by cases args; simp_all
  obtain ⟨rfl, rfl⟩ := trodVars_none hV
  obtain ⟨a0, len0, cap0, rfl⟩ := okWide_slice Try.underlying22 (hval 0 22 v0 rfl rfl)
  have k0 := h0
  have lt0 : ∀ x ∈ p0, x.block < W.heap.size := by obtain ⟨m, hm⟩ := k0; exact DataW.trod_lt m _ _ _ hm
  obtain ⟨z0, w0⟩ : ∃ zs, IsRow .u8 W a0 len0 cap0 zs := by
    obtain ⟨fuel, hf⟩ := h0
    rcases open_ints Try.underlying22 Try.underlying5 (by kernel_rfl) hf with ⟨hcs, _⟩ | ⟨x, l, c, zs, hcs, _, hl, hm, hz, _, hcell, hwz⟩
    · simp [Value.cells] at hcs
      obtain ⟨rfl, rfl, rfl⟩ := hcs
      exact ⟨[], .inl ⟨rfl, rfl, rfl, rfl⟩⟩
    · simp [Value.cells] at hcs
      obtain ⟨rfl, rfl, rfl⟩ := hcs
      exact ⟨zs, .inr ⟨_, rfl, hl, hm, by simpa using hz, hcell, hwz⟩⟩
  obtain ⟨a1, rfl, rfl, rfl, w1⟩ := open_int Try.underlying3 (hval 1 3 v1 rfl rfl) h1
  obtain ⟨a2, rfl, rfl, rfl⟩ := open_bool Try.underlying4 (hval 2 4 v2 rfl rfl) h2
  obtain ⟨a3, len3, cap3, rfl⟩ := okWide_slice Try.underlying22 (hval 3 22 v3 rfl rfl)
  have k3 := h3
  have lt3 : ∀ x ∈ p3, x.block < W.heap.size := by obtain ⟨m, hm⟩ := k3; exact DataW.trod_lt m _ _ _ hm
  obtain ⟨z3, w3⟩ : ∃ zs, IsRow .u8 W a3 len3 cap3 zs := by
    obtain ⟨fuel, hf⟩ := h3
    rcases open_ints Try.underlying22 Try.underlying5 (by kernel_rfl) hf with ⟨hcs, _⟩ | ⟨x, l, c, zs, hcs, _, hl, hm, hz, _, hcell, hwz⟩
    · simp [Value.cells] at hcs
      obtain ⟨rfl, rfl, rfl⟩ := hcs
      exact ⟨[], .inl ⟨rfl, rfl, rfl, rfl⟩⟩
    · simp [Value.cells] at hcs
      obtain ⟨rfl, rfl, rfl⟩ := hcs
      exact ⟨zs, .inr ⟨_, rfl, hl, hm, by simpa using hz, hcell, hwz⟩⟩
  obtain ⟨a4, len4, cap4, rfl⟩ := okWide_slice Try.underlying22 (hval 4 22 v4 rfl rfl)
  have k4 := h4
  have lt4 : ∀ x ∈ p4, x.block < W.heap.size := by obtain ⟨m, hm⟩ := k4; exact DataW.trod_lt m _ _ _ hm
  obtain ⟨z4, w4⟩ : ∃ zs, IsRow .u8 W a4 len4 cap4 zs := by
    obtain ⟨fuel, hf⟩ := h4
    rcases open_ints Try.underlying22 Try.underlying5 (by kernel_rfl) hf with ⟨hcs, _⟩ | ⟨x, l, c, zs, hcs, _, hl, hm, hz, _, hcell, hwz⟩
    · simp [Value.cells] at hcs
      obtain ⟨rfl, rfl, rfl⟩ := hcs
      exact ⟨[], .inl ⟨rfl, rfl, rfl, rfl⟩⟩
    · simp [Value.cells] at hcs
      obtain ⟨rfl, rfl, rfl⟩ := hcs
      exact ⟨zs, .inr ⟨_, rfl, hl, hm, by simpa using hz, hcell, hwz⟩⟩
  clear hA0 hval0
  refine (walk a0 len0 cap0 z0 a1 a2 a3 len3 cap3 z3 a4 len4 cap4 z4 W w0 w1 w3 w4).mono fun e W' ⟨he, bel⟩ => ?_
  subst he
  exact ⟨_, rfl, _, _, _, [], _, [], hW', trodAll_mk1 (shut_bool Try.underlying4 _), (trodAll_cons_mk (Below.trod laidOut (by kernel_rfl) (of_decide_eq_true (by kernel_rfl)) k0 bel lt0) (trodAll_cons_mk (shut_int Try.underlying3 w1) (trodAll_cons_mk (shut_bool Try.underlying4 _) (trodAll_cons_mk (Below.trod laidOut (by kernel_rfl) (of_decide_eq_true (by kernel_rfl)) k3 bel lt3) (trodAll_cons_mk (Below.trod laidOut (by kernel_rfl) (of_decide_eq_true (by kernel_rfl)) k4 bel lt4) trodAll_mk0))))), rfl, bel.frame _, fun h => by cases h⟩

theorem over : Rows.fnValueReadsTheSameInAnyContextRow.holds Try.pinned (OpenSpec.ofChange Rows.fnValueReadsTheSameInAnyContextSpec) :=
  OpenClaim.holds_of_wide 4 Try.f4 rfl rfl rfl rfl rfl rfl rfl ⟨rfl, rfl, rfl, rfl, rfl⟩ rfl rfl rfl rfl rfl (by kernel_rfl) Try.func4 (by kernel_rfl)
    (of_decide_eq_true (by kernel_rfl)) (by unfold Func.isWrapper; first | (rw [if_pos (by decide +kernel)]; kernel_rfl) | (rw [if_neg (by decide +kernel)]; exact ⟨rfl, rfl⟩))
    (fun os started H enc _ => lifted os started H enc)

/-- ████ THE STATEMENT ████ -/
theorem proved : Rows.FnValueReadsTheSameInAnyContextSaid := over
end Go.Proofs.Qxb6003628a.fnValueReadsTheSameInAnyContext
