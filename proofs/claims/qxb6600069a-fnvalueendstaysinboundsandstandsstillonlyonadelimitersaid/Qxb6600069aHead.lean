import Derived.Test.Qxb6600069aRows
import Derived.WalkKit
import Derived.ProofKit
import Derived.JoinedOf
namespace Go.Proofs.Qxb6600069a

/-- The first word of a text. -/
theorem words_cons (r : List Char) : ∀ w : List Char, (∀ c ∈ w, c ≠ ' ') → wordsSigns (w ++ ' ' :: r) = w :: wordsSigns r
  | [], _ => by rw [List.nil_append, wordsSigns]
  | c :: w, h => by
    have hc : c ≠ ' ' := h c (List.mem_cons_self ..)
    have ih := words_cons r w (fun x hx => h x (List.mem_cons_of_mem _ hx))
    rw [List.cons_append, wordsSigns, ih]
    exact fun e => hc e

/-- The head of the dump: what the program's maker wrote, and the rest. -/
theorem head_is : Try.prog.initOrder = "harness e8a7eb6384cb0f7e1573d0241355787745a2a09afaa86a0136fb2a793df9236b cut " ++ "at example.com/vestwright/vestwright/zzlaws_pkg_jsondoc_b1.FnValueEndFindsTheEndOfEveryWrittenValue example.com/vestwright/vestwright/zzlaws_pkg_jsondoc_b1.FnSkipSpaceAndValueEndWalkAListOfValues example.com/vestwright/vestwright/zzlaws_pkg_jsondoc_b1.FnValueEndStaysInBoundsAndStandsStillOnlyOnADelimiter example.com/vestwright/vestwright/zzlaws_pkg_jsondoc_b1.FnValueEndIsUnchangedByCuttingAtItsEnd example.com/vestwright/vestwright/zzlaws_pkg_jsondoc_b1.FnStringEndSkipsAnEscapedText example.com/vestwright/vestwright/zzlaws_pkg_jsondoc_b1.FnStringEndMatchesABackslashParityModel example.com/vestwright/vestwright/zzlaws_pkg_jsondoc_b1.FnStringEndIsLocalToItsString example.com/vestwright/vestwright/zzlaws_pkg_jsondoc_b1.FnSkipSpaceStopsAtTheFirstNonSpace example.com/vestwright/vestwright/zzlaws_pkg_jsondoc_b1.FnSkipSpaceIsMonotoneAndSettles" := by kernel_rfl

theorem head_words : ∃ X, behindMainWord (wordsSigns Try.prog.initOrder.toList) = "cut".toList :: X := by
  have e : "harness e8a7eb6384cb0f7e1573d0241355787745a2a09afaa86a0136fb2a793df9236b cut ".toList = "harness".toList ++ ' ' :: ("e8a7eb6384cb0f7e1573d0241355787745a2a09afaa86a0136fb2a793df9236b".toList ++ ' ' :: ("cut".toList ++ ' ' :: [])) := by kernel_rfl
  refine ⟨wordsSigns "at example.com/vestwright/vestwright/zzlaws_pkg_jsondoc_b1.FnValueEndFindsTheEndOfEveryWrittenValue example.com/vestwright/vestwright/zzlaws_pkg_jsondoc_b1.FnSkipSpaceAndValueEndWalkAListOfValues example.com/vestwright/vestwright/zzlaws_pkg_jsondoc_b1.FnValueEndStaysInBoundsAndStandsStillOnlyOnADelimiter example.com/vestwright/vestwright/zzlaws_pkg_jsondoc_b1.FnValueEndIsUnchangedByCuttingAtItsEnd example.com/vestwright/vestwright/zzlaws_pkg_jsondoc_b1.FnStringEndSkipsAnEscapedText example.com/vestwright/vestwright/zzlaws_pkg_jsondoc_b1.FnStringEndMatchesABackslashParityModel example.com/vestwright/vestwright/zzlaws_pkg_jsondoc_b1.FnStringEndIsLocalToItsString example.com/vestwright/vestwright/zzlaws_pkg_jsondoc_b1.FnSkipSpaceStopsAtTheFirstNonSpace example.com/vestwright/vestwright/zzlaws_pkg_jsondoc_b1.FnSkipSpaceIsMonotoneAndSettles".toList, ?_⟩
  have e2 : Try.prog.initOrder.toList = "harness".toList ++ ' ' :: ("e8a7eb6384cb0f7e1573d0241355787745a2a09afaa86a0136fb2a793df9236b".toList ++ ' ' :: ("cut".toList ++ ' ' :: "at example.com/vestwright/vestwright/zzlaws_pkg_jsondoc_b1.FnValueEndFindsTheEndOfEveryWrittenValue example.com/vestwright/vestwright/zzlaws_pkg_jsondoc_b1.FnSkipSpaceAndValueEndWalkAListOfValues example.com/vestwright/vestwright/zzlaws_pkg_jsondoc_b1.FnValueEndStaysInBoundsAndStandsStillOnlyOnADelimiter example.com/vestwright/vestwright/zzlaws_pkg_jsondoc_b1.FnValueEndIsUnchangedByCuttingAtItsEnd example.com/vestwright/vestwright/zzlaws_pkg_jsondoc_b1.FnStringEndSkipsAnEscapedText example.com/vestwright/vestwright/zzlaws_pkg_jsondoc_b1.FnStringEndMatchesABackslashParityModel example.com/vestwright/vestwright/zzlaws_pkg_jsondoc_b1.FnStringEndIsLocalToItsString example.com/vestwright/vestwright/zzlaws_pkg_jsondoc_b1.FnSkipSpaceStopsAtTheFirstNonSpace example.com/vestwright/vestwright/zzlaws_pkg_jsondoc_b1.FnSkipSpaceIsMonotoneAndSettles".toList)) := by
    rw [head_is, String.toList_append, e]
    simp only [List.append_assoc, List.cons_append, List.nil_append]
  rw [e2, words_cons _ _ (by decide +kernel), words_cons _ _ (by decide +kernel), words_cons _ _ (by decide +kernel)]
  generalize wordsSigns "at example.com/vestwright/vestwright/zzlaws_pkg_jsondoc_b1.FnValueEndFindsTheEndOfEveryWrittenValue example.com/vestwright/vestwright/zzlaws_pkg_jsondoc_b1.FnSkipSpaceAndValueEndWalkAListOfValues example.com/vestwright/vestwright/zzlaws_pkg_jsondoc_b1.FnValueEndStaysInBoundsAndStandsStillOnlyOnADelimiter example.com/vestwright/vestwright/zzlaws_pkg_jsondoc_b1.FnValueEndIsUnchangedByCuttingAtItsEnd example.com/vestwright/vestwright/zzlaws_pkg_jsondoc_b1.FnStringEndSkipsAnEscapedText example.com/vestwright/vestwright/zzlaws_pkg_jsondoc_b1.FnStringEndMatchesABackslashParityModel example.com/vestwright/vestwright/zzlaws_pkg_jsondoc_b1.FnStringEndIsLocalToItsString example.com/vestwright/vestwright/zzlaws_pkg_jsondoc_b1.FnSkipSpaceStopsAtTheFirstNonSpace example.com/vestwright/vestwright/zzlaws_pkg_jsondoc_b1.FnSkipSpaceIsMonotoneAndSettles".toList = X
  rw [behindMainWord, if_pos (by kernel_rfl)]

theorem may1 : Try.prog.laysLater = false := by kernel_rfl
theorem may2 : Try.prog.bearsReflect = false := by kernel_rfl
theorem may3 : Try.prog.doorFits [] = true := by kernel_rfl
theorem may4 (X : List (List Char)) : stripLifts liftWords ("cut".toList :: X) = ([], "cut".toList :: X) := by kernel_rfl

theorem may_of {P : Program} {X : List (List Char)} (hX : behindMainWord (wordsSigns P.initOrder.toList) = "cut".toList :: X) (h1 : P.laysLater = false) (h2 : P.bearsReflect = false) (h3 : P.doorFits [] = true) : P.mayEnter = true := by
  unfold Program.mayEnter
  rw [hX]
  simp only [may4, h1, h2, h3]
  simp

theorem lifts_of {P : Program} {X : List (List Char)} (hX : behindMainWord (wordsSigns P.initOrder.toList) = "cut".toList :: X) : P.headLifts = [] := by
  unfold Program.headLifts
  rw [hX]
  simp only [may4]
  simp

theorem final_of {P : Program} {X : List (List Char)} (hX : behindMainWord (wordsSigns P.initOrder.toList) = "cut".toList :: X) : P.liftsFinal = false := by
  unfold Program.liftsFinal
  rw [hX, lifts_of hX]
  kernel_rfl

theorem make_of {P : Program} {X : List (List Char)} (hX : behindMainWord (wordsSigns P.initOrder.toList) = "cut".toList :: X) : P.make = some .cut := by
  unfold Program.make
  rw [hX]
  kernel_rfl

theorem may_enter : Try.prog.mayEnter = true := by
  obtain ⟨X, hX⟩ := head_words
  exact may_of hX may1 may2 may3
theorem lifts_final : Try.prog.liftsFinal = false := by
  obtain ⟨X, hX⟩ := head_words
  exact final_of hX
theorem make_is : Try.prog.make = some .cut := by
  obtain ⟨X, hX⟩ := head_words
  exact make_of hX

end Go.Proofs.Qxb6600069a
