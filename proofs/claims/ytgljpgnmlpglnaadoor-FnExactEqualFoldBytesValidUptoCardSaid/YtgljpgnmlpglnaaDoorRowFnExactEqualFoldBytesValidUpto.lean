/- The law FnExactEqualFoldBytesValid: for every input of at most 1048576 values and letters the law returns true and each argument reads afterwards as it read before; the listed tables of the library are as the program's text lays them. -/
import Derived.Test.YtgljpgnmlpglnaaDoorCards
import Derived.Test.YtgljpgnmlpglnaaDoorTie
import Derived.Test.YtgljpgnmlpglnaaDoorWords
import Derived.Test.YtgljpgnmlpglnaaDoorWitB
import Derived.Test.YtgljpgnmlpglnaaDoorOpen
import Derived.Test.YtgljpgnmlpglnaaDoorBulk
import Derived.Test.YtgljpgnmlpglnaaDoorLawEq4V
import Derived.ProofKit
import Derived.OpenShut
import Derived.ShutString
import Derived.ChangeOld
import Derived.Below
namespace Go.Proofs.YtgljpgnmlpglnaaDoor.fnExactEqualFoldBytesValidUpto
open Go.ChangeShapes Go.WideShapes Go.ChangeAt Go.RowKit
open Go.ChangeMaps (open_string shut_string)
set_option linter.unusedVariables false
set_option maxRecDepth 100000

theorem contract (H : Type) (enc : TypeId × Value → H) (W : World) (base : Nat) (args : Array Value) (ds gs : List (DataW H)) (before : List MemPlace)
    (hval : ∀ (j : Nat) t v, Tryd.f13.params[j]? = some t → args[j]? = some v → Value.okWide Tryd.prog W .any base t v)
    (hW : DataW.Whole enc Tryd.prog Tryd.f13.params.toList Rows.fnExactEqualFoldBytesValidSpec.vars false W args.toList ds gs before) (hk : Rows.uptoSmall H (ds ++ gs) = true) (hL : laidMetH Tryd.prog Rows.fnExactEqualFoldBytesValidUptoRow.laid W) :
    Calls Tryd.prog 13 args W fun e W' => ∃ v, e = .returned v ∧ Rows.fnExactEqualFoldBytesValidSpec.post enc Tryd.prog Tryd.f13 false true false false W args v W' := by
  have hW' := hW
  obtain ⟨p, q, hA0, hV, rfl, hfz, hnd⟩ := hW
  have hA : DataW.TrodAll enc Tryd.prog W 0 (fun _ => true) true Tryd.f13.params.toList args.toList ds p := hA0
  rw [Tryd.params13] at hA hval
  obtain ⟨v0, vs0, d0, ds0, p0, q0, hargs, rfl, rfl, h0, r0⟩ := trodAll_cons hA
  obtain ⟨v1, vs1, d1, ds1, p1, q1, rfl, rfl, rfl, h1, r1⟩ := trodAll_cons r0
  obtain ⟨rfl, rfl, rfl⟩ := trodAll_nil r1
  obtain rfl : args = #[v0, v1] := by cases args; simp_all
  obtain ⟨rfl, rfl⟩ := trodVars_none hV
  obtain ⟨a0, len0, cap0, rfl⟩ := okWide_slice Tryd.underlying22 (hval 0 22 v0 rfl rfl)
  have k0 := h0
  have lt0 : ∀ x ∈ p0, x.block < W.heap.size := by obtain ⟨m, hm⟩ := k0; exact DataW.trod_lt m _ _ _ hm
  obtain ⟨l0, hl0, hb0, hd0⟩ := bytes_open h0
  obtain ⟨a1, len1, cap1, rfl⟩ := okWide_slice Tryd.underlying22 (hval 1 22 v1 rfl rfl)
  have k1 := h1
  have lt1 : ∀ x ∈ p1, x.block < W.heap.size := by obtain ⟨m, hm⟩ := k1; exact DataW.trod_lt m _ _ _ hm
  obtain ⟨l1, hl1, hb1, hd1⟩ := bytes_open h1
  have hu0 : l0.length ≤ 1048576 := bulk_slice hk (d := d0) (by simp) (by rcases hd0 with ⟨_, rfl⟩ | ⟨sp, rfl⟩; exact .inl rfl; exact .inr ⟨_, _, rfl, by simp⟩)
  have hu1 : l1.length ≤ 1048576 := bulk_slice hk (d := d1) (by simp) (by rcases hd1 with ⟨_, rfl⟩ | ⟨sp, rfl⟩; exact .inl rfl; exact .inr ⟨_, _, rfl, by simp⟩)
  refine (exEqBValid_walk W l0 _ hb0 l1 _ hb1 (tabs_of_laidB hL) hu0 hu1).mono fun e W' ⟨he, hg⟩ => ?_
  have bel := gbelow hg
  subst he
  exact ⟨_, rfl, _, _, _, [], _, [], hW', trodAll_mk1 (shut_bool Tryd.underlying4 _), (trodAll_cons_mk (Below.trod laidOut (by kernel_rfl) (of_decide_eq_true (by kernel_rfl)) k0 bel lt0) (trodAll_cons_mk (Below.trod laidOut (by kernel_rfl) (of_decide_eq_true (by kernel_rfl)) k1 bel lt1) trodAll_mk0)), rfl, bel.frame _, fun h => by cases h⟩

theorem reads (os : Os) {H : Type} (enc : TypeId × Value → H) : ∃ places, DataW.whole enc Tryd.prog ((laidWorldB os).forCall (fun _ _ => 0) ⟨#[], #[(.slice none 0 0 : Value), .slice none 0 0], []⟩).memory Tryd.f13.params.toList Rows.fnExactEqualFoldBytesValidSpec.vars false (#[(.slice none 0 0 : Value), .slice none 0 0]).toList 8 = some ([.nil, .nil], [], places) :=
  ⟨[], by kernel_rfl⟩

theorem lifted (os : Os) (started : os.Started) (H : Type) (enc : TypeId × Value → H) (F : Stop.Interp) :
    ReturnsInHanded {} Tryd.checked os 13 .any ((Rows.OpenSpec.upto Rows.fnExactEqualFoldBytesValidSpec).preRow enc Tryd.prog Tryd.f13 Rows.fnExactEqualFoldBytesValidUptoRow.domain false Rows.fnExactEqualFoldBytesValidUptoRow.laid) (((Rows.OpenSpec.upto Rows.fnExactEqualFoldBytesValidSpec).at F).post enc Tryd.prog Tryd.f13 false true false false) := by
  obtain ⟨places, hx⟩ := reads os enc
  refine returnsInHanded_of_row (C := Tryd.checked) (s := (Rows.OpenSpec.upto Rows.fnExactEqualFoldBytesValidSpec)) own started (by kernel_rfl) Tryd.func13
    (witness_row_atRef (enc := enc) (C := Tryd.checked) false (laidWorldB os) #[(.slice none 0 0 : Value), .slice none 0 0] rfl (by kernel_rfl) (by kernel_rfl) (by kernel_rfl)
      (OpenSpec.preRow_of_cond 8 hx (by kernel_rfl) (fun k hk => by cases hk; kernel_rfl) (by kernel_rfl) (laid_metB os _))) ?_
  intro W base args ds gs before hval hW _ hc _ hL _ _
  exact contract H enc W base args ds gs before hval hW (hc _ rfl) hL

theorem facts : joinedFacts Tryd.prog 13 Tryd.f13 (Rows.OpenSpec.upto Rows.fnExactEqualFoldBytesValidSpec).bare Rows.fnExactEqualFoldBytesValidUptoRow = true := by
  unfold joinedFacts
  rw [enters, lifts, make]
  kernel_rfl

theorem said : Rows.FnExactEqualFoldBytesValidUptoSaid :=
  OpenClaim.holds_of_cond 13 Tryd.f13 rfl rfl rfl rfl rfl rfl rfl ⟨rfl, rfl, rfl, rfl, rfl⟩ rfl rfl rfl rfl rfl (by kernel_rfl) Tryd.func13 facts
    (of_decide_eq_true (by kernel_rfl)) (by unfold Func.isWrapper; first | (rw [if_pos (by decide +kernel)]; kernel_rfl) | (rw [if_neg (by decide +kernel)]; exact ⟨rfl, rfl⟩))
    (fun os started H enc _ F => by rw [OpenClaim.pre_eq_preRow]; exact lifted os started H enc F)

theorem plain (f : FuncId) (fn : Func) (hf : Tryd.pinned.checked.prog.funcNamed Rows.fnExactEqualFoldBytesValidUptoRow.func = some f) (hfn : Tryd.pinned.checked.prog.funcs[f]? = some fn) :
    false = Tryd.pinned.checked.prog.looks [] ∧ ∀ (j : Nat) t, fn.params[j]? = some t → Tryd.pinned.checked.prog.wantsStandIn t = false := by
  obtain rfl : f = 13 := Option.some.inj ((show Tryd.prog.funcNamed Rows.fnExactEqualFoldBytesValidUptoRow.func = some 13 by kernel_rfl).symm.trans hf) |>.symm
  obtain rfl : fn = Tryd.f13 := (Option.some.inj (Tryd.func13.symm.trans hfn)).symm
  refine ⟨by kernel_rfl, fun j t ht => ?_⟩
  rw [Tryd.params13] at ht
  have ht' := Array.mem_of_getElem? ht
  obtain rfl : t = 22 := by simpa using ht'
  exact (show Tryd.prog.wantsStandIn 22 = false by kernel_rfl)

theorem card : Rows.FnExactEqualFoldBytesValidUptoCardSaid :=
  Claim7.holds_tied_plain_at .later [] _ _ _ _ said (fun _ h => by cases h) (by kernel_rfl) (fun _ h => by cases h) fnExactEqualFoldBytesValidUpto_row_tie rfl ⟨rfl, rfl⟩ main_is_str rfl plain (by kernel_rfl)
end Go.Proofs.YtgljpgnmlpglnaaDoor.fnExactEqualFoldBytesValidUpto
