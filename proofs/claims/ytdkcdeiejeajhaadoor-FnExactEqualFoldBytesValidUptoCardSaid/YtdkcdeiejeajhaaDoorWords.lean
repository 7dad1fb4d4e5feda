/- The words of the program's head, and the closed facts that ask for them. Written by gen_words.py. -/
import Derived.Test.YtdkcdeiejeajhaaDoorRows
import Derived.Test.YtdkcdeiejeajhaaDoorHead
namespace Go.Proofs.YtdkcdeiejeajhaaDoor
set_option maxRecDepth 100000
theorem head_lit : Tryd.prog.initOrder = "harness e06403e8ba7dfa81ceb1a412751b87704d1c925f45e95d5ae36babb18d02b37e cut at loop.example/lib-foldedtexts/laws.FnExactEqualFoldAscii loop.example/lib-foldedtexts/laws.FnExactEqualFoldBytes loop.example/lib-foldedtexts/laws.FnExactEqualFold loop.example/lib-foldedtexts/laws.FnExactEqualFoldBytesValid loop.example/lib-foldedtexts/laws.FnExactEqualFoldValid loop.example/lib-foldedtexts/laws.FnFoldThree" := by kernel_rfl
def restSigns : List Char := ['l', 'o', 'o', 'p', '.', 'e', 'x', 'a', 'm', 'p', 'l', 'e', '/', 'l', 'i', 'b', '-', 'f', 'o', 'l', 'd', 'e', 'd', 't', 'e', 'x', 't', 's', '/', 'l', 'a', 'w', 's', '.', 'F', 'n', 'E', 'x', 'a', 'c', 't', 'E', 'q', 'u', 'a', 'l', 'F', 'o', 'l', 'd', 'A', 's', 'c', 'i', 'i', ' ', 'l', 'o', 'o', 'p', '.', 'e', 'x', 'a', 'm', 'p', 'l', 'e', '/', 'l', 'i', 'b', '-', 'f', 'o', 'l', 'd', 'e', 'd', 't', 'e', 'x', 't', 's', '/', 'l', 'a', 'w', 's', '.', 'F', 'n', 'E', 'x', 'a', 'c', 't', 'E', 'q', 'u', 'a', 'l', 'F', 'o', 'l', 'd', 'B', 'y', 't', 'e', 's', ' ', 'l', 'o', 'o', 'p', '.', 'e', 'x', 'a', 'm', 'p', 'l', 'e', '/', 'l', 'i', 'b', '-', 'f', 'o', 'l', 'd', 'e', 'd', 't', 'e', 'x', 't', 's', '/', 'l', 'a', 'w', 's', '.', 'F', 'n', 'E', 'x', 'a', 'c', 't', 'E', 'q', 'u', 'a', 'l', 'F', 'o', 'l', 'd', ' ', 'l', 'o', 'o', 'p', '.', 'e', 'x', 'a', 'm', 'p', 'l', 'e', '/', 'l', 'i', 'b', '-', 'f', 'o', 'l', 'd', 'e', 'd', 't', 'e', 'x', 't', 's', '/', 'l', 'a', 'w', 's', '.', 'F', 'n', 'E', 'x', 'a', 'c', 't', 'E', 'q', 'u', 'a', 'l', 'F', 'o', 'l', 'd', 'B', 'y', 't', 'e', 's', 'V', 'a', 'l', 'i', 'd', ' ', 'l', 'o', 'o', 'p', '.', 'e', 'x', 'a', 'm', 'p', 'l', 'e', '/', 'l', 'i', 'b', '-', 'f', 'o', 'l', 'd', 'e', 'd', 't', 'e', 'x', 't', 's', '/', 'l', 'a', 'w', 's', '.', 'F', 'n', 'E', 'x', 'a', 'c', 't', 'E', 'q', 'u', 'a', 'l', 'F', 'o', 'l', 'd', 'V', 'a', 'l', 'i', 'd', ' ', 'l', 'o', 'o', 'p', '.', 'e', 'x', 'a', 'm', 'p', 'l', 'e', '/', 'l', 'i', 'b', '-', 'f', 'o', 'l', 'd', 'e', 'd', 't', 'e', 'x', 't', 's', '/', 'l', 'a', 'w', 's', '.', 'F', 'n', 'F', 'o', 'l', 'd', 'T', 'h', 'r', 'e', 'e']
theorem head_sign : "harness e06403e8ba7dfa81ceb1a412751b87704d1c925f45e95d5ae36babb18d02b37e cut at loop.example/lib-foldedtexts/laws.FnExactEqualFoldAscii loop.example/lib-foldedtexts/laws.FnExactEqualFoldBytes loop.example/lib-foldedtexts/laws.FnExactEqualFold loop.example/lib-foldedtexts/laws.FnExactEqualFoldBytesValid loop.example/lib-foldedtexts/laws.FnExactEqualFoldValid loop.example/lib-foldedtexts/laws.FnFoldThree" = String.ofList (['h', 'a', 'r', 'n', 'e', 's', 's'] ++ ' ' :: (['e', '0', '6', '4', '0', '3', 'e', '8', 'b', 'a', '7', 'd', 'f', 'a', '8', '1', 'c', 'e', 'b', '1', 'a', '4', '1', '2', '7', '5', '1', 'b', '8', '7', '7', '0', '4', 'd', '1', 'c', '9', '2', '5', 'f', '4', '5', 'e', '9', '5', 'd', '5', 'a', 'e', '3', '6', 'b', 'a', 'b', 'b', '1', '8', 'd', '0', '2', 'b', '3', '7', 'e'] ++ ' ' :: (['c', 'u', 't'] ++ ' ' :: (['a', 't'] ++ ' ' :: (restSigns))))) := rfl
theorem head_signs : Tryd.prog.initOrder.toList = ['h', 'a', 'r', 'n', 'e', 's', 's'] ++ ' ' :: (['e', '0', '6', '4', '0', '3', 'e', '8', 'b', 'a', '7', 'd', 'f', 'a', '8', '1', 'c', 'e', 'b', '1', 'a', '4', '1', '2', '7', '5', '1', 'b', '8', '7', '7', '0', '4', 'd', '1', 'c', '9', '2', '5', 'f', '4', '5', 'e', '9', '5', 'd', '5', 'a', 'e', '3', '6', 'b', 'a', 'b', 'b', '1', '8', 'd', '0', '2', 'b', '3', '7', 'e'] ++ ' ' :: (['c', 'u', 't'] ++ ' ' :: (['a', 't'] ++ ' ' :: (restSigns)))) := by rw [head_lit, head_sign, String.toList_ofList]
theorem words_app : ∀ (a b : List Char), a.all (· != ' ') = true → wordsSigns (a ++ ' ' :: b) = a :: wordsSigns b
  | [], b, _ => by rw [List.nil_append, wordsSigns]
  | c :: a, b, h => by
    rw [List.all_cons, Bool.and_eq_true, bne_iff_ne] at h
    rw [List.cons_append, wordsSigns, words_app a b h.2]
    exact h.1
theorem head_words : ∃ r, wordsSigns Tryd.prog.initOrder.toList = ['h', 'a', 'r', 'n', 'e', 's', 's'] :: ['e', '0', '6', '4', '0', '3', 'e', '8', 'b', 'a', '7', 'd', 'f', 'a', '8', '1', 'c', 'e', 'b', '1', 'a', '4', '1', '2', '7', '5', '1', 'b', '8', '7', '7', '0', '4', 'd', '1', 'c', '9', '2', '5', 'f', '4', '5', 'e', '9', '5', 'd', '5', 'a', 'e', '3', '6', 'b', 'a', 'b', 'b', '1', '8', 'd', '0', '2', 'b', '3', '7', 'e'] :: ['c', 'u', 't'] :: ['a', 't'] :: r := by
  rw [head_signs, words_app _ _ (by rfl), words_app _ _ (by rfl), words_app _ _ (by rfl), words_app _ _ (by rfl)]
  exact ⟨_, rfl⟩
theorem head_behind : ∃ r, behindMainWord (wordsSigns Tryd.prog.initOrder.toList) = CUT :: r := by
  obtain ⟨r, hr⟩ := head_words
  rw [hr]
  exact ⟨['a', 't'] :: r, by kernel_rfl⟩
theorem enters : Tryd.prog.mayEnter = true := let ⟨_, hr⟩ := head_behind; enters_of hr (by kernel_rfl) (by kernel_rfl) (by kernel_rfl)
theorem lifts : Tryd.prog.liftsFinal = false := let ⟨_, hr⟩ := head_behind; liftsFinal_of hr
theorem make : Tryd.prog.make = some .cut := let ⟨_, hr⟩ := head_behind; make_of hr
theorem main_is : Tryd.prog.mainIs = some (true, ['e', '0', '6', '4', '0', '3', 'e', '8', 'b', 'a', '7', 'd', 'f', 'a', '8', '1', 'c', 'e', 'b', '1', 'a', '4', '1', '2', '7', '5', '1', 'b', '8', '7', '7', '0', '4', 'd', '1', 'c', '9', '2', '5', 'f', '4', '5', 'e', '9', '5', 'd', '5', 'a', 'e', '3', '6', 'b', 'a', 'b', 'b', '1', '8', 'd', '0', '2', 'b', '3', '7', 'e']) := let ⟨_, hr⟩ := head_words; mainIs_of hr (by kernel_rfl) (by kernel_rfl)
theorem main_is_str : Tryd.prog.mainIs = some (true, "e06403e8ba7dfa81ceb1a412751b87704d1c925f45e95d5ae36babb18d02b37e".toList) := by
  rw [main_is]
  kernel_rfl
end Go.Proofs.YtdkcdeiejeajhaaDoor
