/-
  THE PROOF OF 'Rows.PropTraceStateMembersFollowW3CListRuleSaid': the frame after the guide's own way; the walks: Qxb6003347aSmall to Main; the plain law: Qxb6003347aPlain.
-/
import Derived.Test.Qxb6003347aRows
import Derived.Test.Qxb6003347aMain
import Derived.WalkKit
import Derived.ProofKit
import Derived.OpenShut
import Derived.ShutString
import Derived.ChangeOld
import Derived.Below
import Derived.SliceStrings
import Derived.HandedShaped
namespace Go.Proofs.Qxb6003347a.propTraceStateMembersFollowW3CListRule
open Go.ChangeShapes Go.WideShapes Go.ChangeAt Go.RowKit
open Go.ChangeMaps (open_string shut_string)
set_option linter.unusedVariables false

theorem own : ownKnob Try.prog.godebug = none := by kernel_rfl
theorem laidOut : laidOutB Try.prog = true := by kernel_rfl

/-- What the walk is told of a slice of strings that came in: it is nil; or it leads to a row of strings. -/
def IsStrs (w : World) (a : Option Addr) (len cap : Nat) (ss : List ByteArray) : Prop :=
  (a = none ∧ len = 0 ∧ cap = 0 ∧ ss = []) ∨
  ∃ x, a = some x ∧ len ≤ maxLen ∧ len = ss.length ∧ RowAt w x len ss ∧ ∀ i, i < len → (ss.getD i ByteArray.empty).size ≤ maxLen

theorem clean_nil : Plain.Clean (bl ⟨#[]⟩) := fun x hx => by simp [bl] at hx
theorem clean_stamp : Plain.Clean (bl stamp) := by
  have : ∀ x ∈ (bl stamp), x ≠ 44 ∧ Plain.sp x = false := by decide
  exact this

theorem walk (a0 : Option Addr) (len0 cap0 : Nat) (z0 : List ByteArray) (a1 : ByteArray) (a2 : Int) (w : World) (m : Int) (hm : w.cell? ⟨0, 0, none⟩ = some (.int .i64 m)) (w0 : IsStrs w a0 len0 cap0 z0) (w1 : a1.size ≤ maxLen) :
    Calls Try.prog 4 #[.slice a0 len0 cap0, .string a1, .int .i64 a2] w (Fine w) := by
  have hlist : a1.toList = bl a1 := ByteArray.toList_eq a1
  by_cases he : a1.size = 0
  · obtain rfl := eq_empty a1 he
    have hpp : ((⟨#[]⟩ : ByteArray).toList.isEmpty = true) := by rw [hlist]; rfl
    rcases w0 with ⟨rfl, rfl, rfl, rfl⟩ | ⟨x, rfl, hn, hl, hc, hz⟩
    · exact main_nil _ a2 w m hm w1 clean_nil (.inl hpp)
    · exact main_some x len0 cap0 z0 _ a2 w m hm hn hl w1 hz hc clean_nil (.inl hpp)
  · have hne : a1.toList.isEmpty = false := by rw [isEmpty_iff]; exact decide_eq_false he
    by_cases hs : a1 = stamp
    · subst hs
      have hq : (stamp.toList == [116, 97, 108, 108, 121, 99, 108, 111, 99, 107, 61]) = true := by rw [hlist]; rfl
      rcases w0 with ⟨rfl, rfl, rfl, rfl⟩ | ⟨x, rfl, hn, hl, hc, hz⟩
      · exact main_nil _ a2 w m hm w1 clean_stamp (.inr ⟨hne, hq⟩)
      · exact main_some x len0 cap0 z0 _ a2 w m hm hn hl w1 hz hc clean_stamp (.inr ⟨hne, hq⟩)
    · have hq : (a1.toList == [116, 97, 108, 108, 121, 99, 108, 111, 99, 107, 61]) = false := by
        rw [hlist]
        simp only [beq_eq_false_iff_ne, ne_eq]
        exact fun e => hs (eq_of_bl (y := stamp) e)
      refine main_other a0 len0 cap0 a1 a2 w hne hq fun W hW => ?_
      rcases w0 with ⟨rfl, rfl, rfl, rfl⟩ | ⟨x, rfl, hn, hl, hc, hz⟩
      · exact bytes11_none _ _ _ _ _ w1
      · exact bytes11 x len0 cap0 z0 a1 a2 W hn w1 hz (hc.below hW)

theorem getD_take (ss : List ByteArray) (n i : Nat) (h : i < n) : (ss.take n).getD i ByteArray.empty = ss.getD i ByteArray.empty := by
  rw [List.getD_eq_getElem?_getD, List.getD_eq_getElem?_getD, List.getElem?_take_of_lt h]

set_option maxRecDepth 100000 in
theorem lifted (os : Os) (started : os.Started) (H : Type) (enc : TypeId × Value → H) :
    ReturnsInHanded {} Try.checked os 4 .any (Rows.propTraceStateMembersFollowW3CListRuleSpec.pre6 enc Try.prog Try.f4 Rows.propTraceStateMembersFollowW3CListRuleRow.domain false) (Rows.propTraceStateMembersFollowW3CListRuleSpec.post enc Try.prog Try.f4 false true false false) := by
  refine returnsInHanded_of_change_shaped (C := Try.checked) own started (by kernel_rfl) Try.func4
    (ChangeSpec.witness6 (enc := enc) (C := Try.checked) false ⟨#[], #[.slice none 0 0, .string ByteArray.empty, .int .i64 0], []⟩ 8 (by kernel_rfl) (by kernel_rfl) (by kernel_rfl) (by kernel_rfl)) ?_
  intro W base args ds gs before hval0 hW hcnd _ hsh _
  have hval : ∀ (j : Nat) t v, Try.f4.params[j]? = some t → args[j]? = some v → Value.okWide Try.prog W .any base t v := hval0
  have hW' := hW
  obtain ⟨p, q, hA0, hV, rfl, hfz, hnd⟩ := hW
  have hA : DataW.TrodAll enc Try.prog W 0 (fun _ => true) true Try.f4.params.toList args.toList ds p := hA0
  rw [Try.params4] at hA hval
  obtain ⟨v0, vs0, d0, ds0, p0, q0, hargs, rfl, rfl, h0, r0⟩ := trodAll_cons hA
  obtain ⟨v1, vs1, d1, ds1, p1, q1, rfl, rfl, rfl, h1, r1⟩ := trodAll_cons r0
  obtain ⟨v2, vs2, d2, ds2, p2, q2, rfl, rfl, rfl, h2, r2⟩ := trodAll_cons r1
  obtain ⟨rfl, rfl, rfl⟩ := trodAll_nil r2
  obtain rfl : args = #[v0, v1, v2] := by cases args; simp_all
  obtain ⟨rfl, rfl⟩ := trodVars_none hV
  obtain ⟨a0, len0, cap0, rfl⟩ := okWide_slice Try.underlying36 (hval 0 36 v0 rfl rfl)
  have k0 := h0
  have lt0 : ∀ x ∈ p0, x.block < W.heap.size := by obtain ⟨m, hm⟩ := k0; exact DataW.trod_lt m _ _ _ hm
  obtain ⟨z0, w0⟩ : ∃ zs, IsStrs W a0 len0 cap0 zs := by
    obtain ⟨fuel, hf⟩ := h0
    rcases open_strings Try.underlying36 Try.underlying9 (by kernel_rfl) hf with ⟨hcs, _⟩ | ⟨x, l, c, ss, hcs, _, hl, hm, hz, _, hcell, hws⟩
    · simp [Value.cells] at hcs
      obtain ⟨rfl, rfl, rfl⟩ := hcs
      exact ⟨[], .inl ⟨rfl, rfl, rfl, rfl⟩⟩
    · simp [Value.cells] at hcs
      obtain ⟨rfl, rfl, rfl⟩ := hcs
      have hz' : ss.length = cap0 := by simpa using hz
      refine ⟨ss.take len0, .inr ⟨_, rfl, Nat.le_trans hl hm, by rw [List.length_take]; omega, fun i hi => by rw [getD_take _ _ _ hi]; exact hcell i (by omega), fun i hi => ?_⟩⟩
      rw [getD_take _ _ _ hi]
      have hil : i < ss.length := by omega
      rw [List.getD_eq_getElem?_getD, List.getElem?_eq_getElem hil]
      exact hws _ (List.getElem_mem hil)
  obtain ⟨a1, rfl, rfl, rfl, w1⟩ := open_string Try.underlying9 (hval 1 9 v1 rfl rfl) h1
  obtain ⟨a2, rfl, rfl, rfl, w2⟩ := open_int Try.underlying3 (hval 2 3 v2 rfl rfl) h2
  clear hA0 hval0
  obtain ⟨m, hm⟩ : ∃ m, W.cell? ⟨0, 0, none⟩ = some (.int .i64 m) := Try.laysM143.s1_3 W hsh
  refine (walk a0 len0 cap0 z0 a1 a2 W m hm w0 w1).mono fun e W' ⟨he, bel⟩ => ?_
  subst he
  exact ⟨_, rfl, _, _, _, [], _, [], hW', trodAll_mk1 (shut_bool Try.underlying4 _), (trodAll_cons_mk (Below.trod laidOut (by kernel_rfl) (of_decide_eq_true (by kernel_rfl)) k0 bel lt0) (trodAll_cons_mk (shut_string Try.underlying9 w1) (trodAll_cons_mk (shut_int Try.underlying3 w2) trodAll_mk0))), rfl, bel.frame _, fun h => by cases h⟩

theorem over : Rows.propTraceStateMembersFollowW3CListRuleRow.holds Try.pinned (OpenSpec.ofChange Rows.propTraceStateMembersFollowW3CListRuleSpec) :=
  OpenClaim.holds_of_wide 4 Try.f4 rfl rfl rfl rfl rfl rfl rfl ⟨rfl, rfl, rfl, rfl, rfl⟩ rfl rfl rfl rfl rfl (by kernel_rfl) Try.func4 (by kernel_rfl)
    (of_decide_eq_true (by kernel_rfl)) (by unfold Func.isWrapper; first | (rw [if_pos (by decide +kernel)]; kernel_rfl) | (rw [if_neg (by decide +kernel)]; exact ⟨rfl, rfl⟩))
    (fun os started H enc _ => lifted os started H enc)

theorem proved : Rows.PropTraceStateMembersFollowW3CListRuleSaid := over
end Go.Proofs.Qxb6003347a.propTraceStateMembersFollowW3CListRule
