/- The law FnExactMapBytesValid: for every input of at most 1048576 values and letters the law returns true and each argument reads afterwards as it read before; the listed tables of the library are as the program's text lays them. -/
import Derived.Test.YtdibpklbkcmhiaaDoorCards
import Derived.Test.YtdibpklbkcmhiaaDoorTie
import Derived.Test.YtdibpklbkcmhiaaDoorWords
import Derived.Test.YtdibpklbkcmhiaaDoorWitM
import Derived.Test.YtdibpklbkcmhiaaDoorOpen
import Derived.Test.YtdibpklbkcmhiaaDoorBulk
import Derived.Test.YtdibpklbkcmhiaaDoorLawMapV
import Derived.ProofKit
import Derived.OpenShut
import Derived.ShutString
import Derived.ChangeOld
import Derived.Below
namespace Go.Proofs.YtdibpklbkcmhiaaDoor.fnExactMapBytesValidUpto
open Go.ChangeShapes Go.WideShapes Go.ChangeAt Go.RowKit
open Go.ChangeMaps (open_string shut_string)
set_option linter.unusedVariables false
set_option maxRecDepth 100000

theorem contract (H : Type) (enc : TypeId × Value → H) (W : World) (base : Nat) (args : Array Value) (ds gs : List (DataW H)) (before : List MemPlace)
    (hval : ∀ (j : Nat) t v, Tryd.f4.params[j]? = some t → args[j]? = some v → Value.okWide Tryd.prog W .any base t v)
    (hW : DataW.Whole enc Tryd.prog Tryd.f4.params.toList Rows.fnExactMapBytesValidSpec.vars false W args.toList ds gs before) (hk : Rows.uptoSmall H (ds ++ gs) = true) (hL : laidMetH Tryd.prog Rows.fnExactMapBytesValidUptoRow.laid W) :
    Calls Tryd.prog 4 args W fun e W' => ∃ v, e = .returned v ∧ Rows.fnExactMapBytesValidSpec.post enc Tryd.prog Tryd.f4 false true false false W args v W' := by
  have hW' := hW
  obtain ⟨p, q, hA0, hV, rfl, hfz, hnd⟩ := hW
  have hA : DataW.TrodAll enc Tryd.prog W 0 (fun _ => true) true Tryd.f4.params.toList args.toList ds p := hA0
  rw [Tryd.params4] at hA hval
  obtain ⟨v0, vs0, d0, ds0, p0, q0, hargs, rfl, rfl, h0, r0⟩ := trodAll_cons hA
  obtain ⟨v1, vs1, d1, ds1, p1, q1, rfl, rfl, rfl, h1, r1⟩ := trodAll_cons r0
  obtain ⟨v2, vs2, d2, ds2, p2, q2, rfl, rfl, rfl, h2, r2⟩ := trodAll_cons r1
  obtain ⟨v3, vs3, d3, ds3, p3, q3, rfl, rfl, rfl, h3, r3⟩ := trodAll_cons r2
  obtain ⟨rfl, rfl, rfl⟩ := trodAll_nil r3
  obtain rfl : args = #[v0, v1, v2, v3] := by cases args; simp_all
  obtain ⟨rfl, rfl⟩ := trodVars_none hV
  obtain ⟨a0, len0, cap0, rfl⟩ := okWide_slice Tryd.underlying22 (hval 0 22 v0 rfl rfl)
  have k0 := h0
  have lt0 : ∀ x ∈ p0, x.block < W.heap.size := by obtain ⟨m, hm⟩ := k0; exact DataW.trod_lt m _ _ _ hm
  obtain ⟨l0, hl0, hb0, hd0⟩ := table_open h0
  obtain ⟨x1, rfl, rfl, rfl⟩ := open_bool Tryd.underlying4 (hval 1 4 v1 rfl rfl) h1
  obtain ⟨x2, rfl, rfl, rfl, wx2⟩ := open_int Tryd.underlying21 (hval 2 21 v2 rfl rfl) h2
  obtain ⟨a3, len3, cap3, rfl⟩ := okWide_slice Tryd.underlying23 (hval 3 23 v3 rfl rfl)
  have k3 := h3
  have lt3 : ∀ x ∈ p3, x.block < W.heap.size := by obtain ⟨m, hm⟩ := k3; exact DataW.trod_lt m _ _ _ hm
  obtain ⟨l3, hl3, hb3, hd3⟩ := bytes_open h3
  have hu0 : l0.length ≤ 1048576 := bulk_slice hk (d := d0) (by simp) (by rcases hd0 with ⟨_, rfl⟩ | ⟨sp, rfl⟩; exact .inl rfl; exact .inr ⟨_, _, rfl, by simp⟩)
  have hu3 : l3.length ≤ 1048576 := bulk_slice hk (d := d3) (by simp) (by rcases hd3 with ⟨_, rfl⟩ | ⟨sp, rfl⟩; exact .inl rfl; exact .inr ⟨_, _, rfl, by simp⟩)
  refine (exMapBytesValid_walk W l0 _ hb0 x1 x2 wx2 l3 _ hb3 (tabs_of_laidM hL) hu0 hu3).mono fun e W' ⟨he, hg⟩ => ?_
  have bel := gbelow hg
  subst he
  exact ⟨_, rfl, _, _, _, [], _, [], hW', trodAll_mk1 (shut_bool Tryd.underlying4 _), (trodAll_cons_mk (Below.trod laidOut (by kernel_rfl) (of_decide_eq_true (by kernel_rfl)) k0 bel lt0) (trodAll_cons_mk (shut_bool Tryd.underlying4 x1) (trodAll_cons_mk (shut_int Tryd.underlying21 wx2) (trodAll_cons_mk (Below.trod laidOut (by kernel_rfl) (of_decide_eq_true (by kernel_rfl)) k3 bel lt3) trodAll_mk0)))), rfl, bel.frame _, fun h => by cases h⟩

theorem reads (os : Os) {H : Type} (enc : TypeId × Value → H) : ∃ places, DataW.whole enc Tryd.prog ((laidWorldM os).forCall (fun _ _ => 0) ⟨#[], #[(.slice none 0 0 : Value), .bool false, .int .i32 0, .slice none 0 0], []⟩).memory Tryd.f4.params.toList Rows.fnExactMapBytesValidSpec.vars false (#[(.slice none 0 0 : Value), .bool false, .int .i32 0, .slice none 0 0]).toList 8 = some ([.nil, .lit (.bool false), .lit (.int .i32 0), .nil], [], places) :=
  ⟨[], by kernel_rfl⟩

theorem lifted (os : Os) (started : os.Started) (H : Type) (enc : TypeId × Value → H) (F : Stop.Interp) :
    ReturnsInHanded {} Tryd.checked os 4 .any ((Rows.OpenSpec.upto Rows.fnExactMapBytesValidSpec).preRow enc Tryd.prog Tryd.f4 Rows.fnExactMapBytesValidUptoRow.domain false Rows.fnExactMapBytesValidUptoRow.laid) (((Rows.OpenSpec.upto Rows.fnExactMapBytesValidSpec).at F).post enc Tryd.prog Tryd.f4 false true false false) := by
  obtain ⟨places, hx⟩ := reads os enc
  refine returnsInHanded_of_row (C := Tryd.checked) (s := (Rows.OpenSpec.upto Rows.fnExactMapBytesValidSpec)) own started (by kernel_rfl) Tryd.func4
    (witness_row_atRef (enc := enc) (C := Tryd.checked) false (laidWorldM os) #[(.slice none 0 0 : Value), .bool false, .int .i32 0, .slice none 0 0] rfl (by kernel_rfl) (by kernel_rfl) (by kernel_rfl)
      (OpenSpec.preRow_of_cond 8 hx (by kernel_rfl) (fun k hk => by cases hk; kernel_rfl) (by kernel_rfl) (laid_metM os _))) ?_
  intro W base args ds gs before hval hW _ hc _ hL _ _
  exact contract H enc W base args ds gs before hval hW (hc _ rfl) hL

theorem facts : joinedFacts Tryd.prog 4 Tryd.f4 (Rows.OpenSpec.upto Rows.fnExactMapBytesValidSpec).bare Rows.fnExactMapBytesValidUptoRow = true := by
  unfold joinedFacts
  rw [enters, lifts, make]
  kernel_rfl

theorem said : Rows.FnExactMapBytesValidUptoSaid :=
  OpenClaim.holds_of_cond 4 Tryd.f4 rfl rfl rfl rfl rfl rfl rfl ⟨rfl, rfl, rfl, rfl, rfl⟩ rfl rfl rfl rfl rfl (by kernel_rfl) Tryd.func4 facts
    (of_decide_eq_true (by kernel_rfl)) (by unfold Func.isWrapper; first | (rw [if_pos (by decide +kernel)]; kernel_rfl) | (rw [if_neg (by decide +kernel)]; exact ⟨rfl, rfl⟩))
    (fun os started H enc _ F => by rw [OpenClaim.pre_eq_preRow]; exact lifted os started H enc F)

theorem plain (f : FuncId) (fn : Func) (hf : Tryd.pinned.checked.prog.funcNamed Rows.fnExactMapBytesValidUptoRow.func = some f) (hfn : Tryd.pinned.checked.prog.funcs[f]? = some fn) :
    false = Tryd.pinned.checked.prog.looks [] ∧ ∀ (j : Nat) t, fn.params[j]? = some t → Tryd.pinned.checked.prog.wantsStandIn t = false := by
  obtain rfl : f = 4 := Option.some.inj ((show Tryd.prog.funcNamed Rows.fnExactMapBytesValidUptoRow.func = some 4 by kernel_rfl).symm.trans hf) |>.symm
  obtain rfl : fn = Tryd.f4 := (Option.some.inj (Tryd.func4.symm.trans hfn)).symm
  refine ⟨by kernel_rfl, fun j t ht => ?_⟩
  rw [Tryd.params4] at ht
  have ht' := Array.mem_of_getElem? ht
  have ht2 : t = 22 ∨ t = 4 ∨ t = 21 ∨ t = 23 := by simpa using ht'
  rcases ht2 with rfl | rfl | rfl | rfl
  · exact (show Tryd.prog.wantsStandIn 22 = false by kernel_rfl)
  · exact (show Tryd.prog.wantsStandIn 4 = false by kernel_rfl)
  · exact (show Tryd.prog.wantsStandIn 21 = false by kernel_rfl)
  · exact (show Tryd.prog.wantsStandIn 23 = false by kernel_rfl)

theorem card : Rows.FnExactMapBytesValidUptoCardSaid :=
  Claim7.holds_tied_plain_at .later [] _ _ _ _ said (fun _ h => by cases h) (by kernel_rfl) (fun _ h => by cases h) fnExactMapBytesValidUpto_row_tie rfl ⟨rfl, rfl⟩ main_is_str rfl plain (by kernel_rfl)
end Go.Proofs.YtdibpklbkcmhiaaDoor.fnExactMapBytesValidUpto
