/- spec.DrawMap draws a table of at most five rules, a truth value, a number and a text; nothing that was there changes. Written by gen_drawmap.py. -/
import Derived.Test.YtdibpklbkcmhiaaDoorDrawText
import Derived.Test.YtdibpklbkcmhiaaDoorTabW
import Derived.Test.YtdibpklbkcmhiaaDoorReg
import Derived.Deep.DeepCutAuto
import Derived.BigQuiet
import Derived.Deep.QuietTactic
namespace Go.Proofs.YtdibpklbkcmhiaaDoor
open Go.RowKit Go.Lib Go.Ftx

def MapPost (w : World) (e : Ending) (w' : World) : Prop := ∃ (v : Value) (T : List (Int × Int)) (keep : Bool) (rest : Int) (s : ByteArray), T.length ≤ 5 ∧ okT T ∧ -2147483648 ≤ rest ∧ rest ≤ 2147483647 ∧ s.size ≤ 1048676 ∧
  e = .returned (.tuple #[v, .bool keep, .int .i32 rest, .string s]) ∧ RulesL w' v T ∧ w.grownBy w' none
/-- the first character of a letter that is drawn -/
theorem chars_first (s : ByteArray) (w : World) (h1 : 1 ≤ s.size) (h2 : s.size ≤ 4) :
    Calls Tryd.prog 20 #[.string s] w fun e w' => ∃ (g n cap : Nat) (z : Int), e = .returned (.slice (some ⟨g, 0, none⟩) n cap) ∧ (0 : Int) < (n : Int) ∧ (-2147483648 ≤ z ∧ z ≤ 2147483647) ∧ w.heap.size ≤ g ∧ w'.cell? ⟨g, 0, none⟩ = some (.int .i32 z) ∧ w.grownBy w' none := by
  refine (chars_any s w (by omega)).mono ?_
  rintro e w' ⟨g, cap, rfl, hown, hg⟩
  have hne : s.data.toList ≠ [] := by
    intro e
    have := Lib.size_eq s
    rw [e, List.length_nil] at this
    omega
  have hlt := (hown.lt g rfl).1
  have hle : (decodeL s.data.toList).1 ≤ 1114111 := Lib.rune_le ⟨s.data.toList.toArray⟩ 0
  rw [chars_step _ hne] at hown ⊢
  have hc := hown.cellAt 0 (by simp)
  exact ⟨g, _, cap, ((decodeL s.data.toList).1 : Nat), rfl, by simp, by omega, hlt, hc, hg⟩
abbrev ruleZ : Obj := .cells #[.int .i32 0, .int .i32 0] 41
/-- the state of the drawing: the reader at its place, the table so far -/
structure St (w : World) (bv : Value) (gt ct : Nat) (T : List (Int × Int)) (W : World) (q : Nat) : Prop where
  rd : RdAt W w.heap.size bv q
  code : CodeAt w bv
  own : W.ownsRow (w.heap.size + 1) 41 2 (.slice (some ⟨gt, 0, none⟩) T.length ct) T.length (ruleCells T)
  gr : w.grownBy W (some w.heap.size)
theorem St.gt_ne {w : World} {bv : Value} {gt ct : Nat} {T : List (Int × Int)} {W : World} {q : Nat} (h : St w bv gt ct T W q) : gt ≠ w.heap.size := by have := (h.own.lt gt rfl).1; omega
theorem CodeAt.later {w W : World} {bv : Value} (h : CodeAt w bv) (hg : w.grownBy W (some w.heap.size)) : BytesAt W w.heap.size bv := by
  rcases h with ⟨a, cap, rfl⟩ | ⟨b, off, len, cap, rfl, hl, hl2, hl3, hc⟩
  · exact .inl ⟨a, cap, rfl⟩
  · refine .inr ⟨b, off, len, cap, rfl, hl, fun i hi => ?_⟩
    obtain ⟨c, h1, h2⟩ := hc i hi
    have hlt := World.block_lt_of_cell? w _ h2
    have hne : b ≠ w.heap.size := by simp at hlt; omega
    exact ⟨hne, c, h1, hg.cell h2 (by simpa using hne)⟩
theorem CodeAt.later2 {w W : World} {bv : Value} (h : CodeAt w bv) (hg : w.grownBy W (some w.heap.size)) : CodeAt W bv := by
  rcases h with ⟨a, cap, rfl⟩ | ⟨b, off, len, cap, rfl, hl, hl2, hl3, hc⟩
  · exact .inl ⟨a, cap, rfl⟩
  · refine .inr ⟨b, off, len, cap, rfl, hl, hl2, hl3, fun i hi => ?_⟩
    obtain ⟨c, h1, h2⟩ := hc i hi
    have hlt := World.block_lt_of_cell? w _ h2
    exact ⟨c, h1, hg.cell h2 (by simp at hlt ⊢; omega)⟩
theorem St.by_ {w : World} {bv : Value} {gt ct : Nat} {T : List (Int × Int)} {W : World} {q : Nat} (h : St w bv gt ct T W q) : BytesAt W w.heap.size bv := h.code.later h.gr
theorem St.next {w : World} {bv : Value} {gt ct : Nat} {T : List (Int × Int)} {W W' : World} {q q' : Nat} (h : St w bv gt ct T W q) (hg : W.grownBy W' (some w.heap.size)) (hr : RdAt W' w.heap.size bv q') : St w bv gt ct T W' q' :=
  ⟨hr, h.code, h.own.kept hg (.inr (by simp [Value.ownBlock]; exact h.gt_ne)), gtrans h.gr hg⟩
theorem St.quiet {w : World} {bv : Value} {gt ct : Nat} {T : List (Int × Int)} {W W' : World} {q : Nat} (h : St w bv gt ct T W q) (hg : W.grownBy W' none) : St w bv gt ct T W' q :=
  h.next (gbut hg _) (h.rd.kept hg)
theorem St.alloc {w : World} {bv : Value} {gt ct : Nat} {T : List (Int × Int)} {W : World} {q : Nat} (h : St w bv gt ct T W q) (o : Obj) : St w bv gt ct T (W.alloc o) q := h.quiet (World.grownBy_alloc W o none)
theorem St.drew {w : World} {bv : Value} {gt ct : Nat} {T : List (Int × Int)} {W : World} {q : Nat} (h : St w bv gt ct T W q) : St w bv gt ct T W.drew q := h.quiet (gdrew (grefl W none))
/-- a variable of the kind of a rule lies in a block of its own -/
structure Al (w : World) (gt : Nat) (W : World) (b : Nat) (z1 z2 : Int) : Prop where
  own : W.ownsRow (w.heap.size + 1) 41 2 (.slice (some ⟨b, 0, none⟩) 1 1) 1 [.int .i32 z1, .int .i32 z2]
  ne : b ≠ gt
theorem Al.new {w : World} {bv : Value} {gt ct : Nat} {T : List (Int × Int)} {W : World} {q : Nat} (h : St w bv gt ct T W q) : Al w gt (W.alloc ruleZ) W.heap.size 0 0 := by
  have h1 := (h.own.lt gt rfl).2
  have h2 := h.rd.lt
  exact ⟨World.ownsRow_lit (size := 2) W #[.int .i32 0, .int .i32 0] 1 (by omega) (by unfold maxLen; omega) rfl, by omega⟩
theorem Al.next {w : World} {gt : Nat} {W W' : World} {b : Nat} {z1 z2 : Int} (h : Al w gt W b z1 z2) (hg : W.grownBy W' (some w.heap.size)) : Al w gt W' b z1 z2 :=
  ⟨h.own.kept hg (.inr (by have := (h.own.lt b rfl).1; simp [Value.ownBlock]; omega)), h.ne⟩
theorem Al.alloc {w : World} {gt : Nat} {W : World} {b : Nat} {z1 z2 : Int} (h : Al w gt W b z1 z2) (o : Obj) : Al w gt (W.alloc o) b z1 z2 := h.next (World.grownBy_alloc W o _)
theorem Al.cells {w : World} {gt : Nat} {W : World} {b : Nat} {z1 z2 : Int} (h : Al w gt W b z1 z2) : W.cell? ⟨b, 0, none⟩ = some (.int .i32 z1) ∧ W.cell? ⟨b, 1, none⟩ = some (.int .i32 z2) ∧ W.frozen? ⟨b, 0, none⟩ = false ∧ W.frozen? ⟨b, 1, none⟩ = false :=
  ⟨h.own.cellAt 0 (by omega), h.own.cellAt 1 (by omega), h.own.frozenAt 0, h.own.frozenAt 1⟩
theorem grown_set {w W : World} {row : Option Nat} (h : w.grownBy W row) (b j : Nat) (hb : w.heap.size ≤ b) (u : Value) : w.grownBy (W.setCell ⟨b, j, none⟩ u) row :=
  ⟨h.os, h.tape, h.output, by have := h.size; simpa using this, fun i hi hne => (heap_setCell_other W ⟨b, j, none⟩ i u (fun e => by simp at e; omega)).trans (h.block i hi hne)⟩
theorem St.set {w : World} {bv : Value} {gt ct : Nat} {T : List (Int × Int)} {W : World} {q b : Nat} {z1 z2 : Int} (h : St w bv gt ct T W q) (hA : Al w gt W b z1 z2) (j : Nat) (u : Value) : St w bv gt ct T (W.setCell ⟨b, j, none⟩ u) q := by
  have hb := (hA.own.lt b rfl).1
  have hg := (hA.own.stored j u).2
  refine ⟨?_, h.code, h.own.kept hg (.inr (by simp [Value.ownBlock]; exact fun e => hA.ne e.symm)), grown_set h.gr b j (by omega) u⟩
  show _ = _
  rw [heap_setCell_other W ⟨b, j, none⟩ w.heap.size u (by simp; omega)]
  exact h.rd
theorem St.app {w : World} {bv : Value} {gt ct : Nat} {T : List (Int × Int)} {W W' : World} {q g2 cap2 : Nat} {o : Obj} {x y : Int} (h : St w bv gt ct T W q) (hg : (W.alloc o).grownBy W' (Value.slice (some ⟨gt, 0, none⟩) T.length ct).ownBlock)
    (ho : W'.ownsRow (w.heap.size + 1) 41 2 (.slice (some ⟨g2, 0, none⟩) (T.length + 1) cap2) (T.length + 1) (ruleCells T ++ [.int .i32 x, .int .i32 y])) : St w bv g2 cap2 (T ++ [(x, y)]) W' q := by
  have hgt := (h.own.lt gt rfl).1
  have hg' : (W.alloc o).grownBy W' (some gt) := hg
  refine ⟨?_, h.code, ?_, ?_⟩
  · show _ = _
    have h1 := (h.rd.alloc o)
    rw [hg'.block w.heap.size h1.lt (by simp; omega)]
    exact h1
  · rw [List.length_append, ruleCells_append]
    exact ho
  · have h2 := galloc h.gr o
    exact ⟨hg'.os.trans h2.os, hg'.tape.trans h2.tape, hg'.output.trans h2.output, Nat.le_trans h2.size hg'.size, fun i hi hne => (hg'.block i (Nat.lt_of_lt_of_le hi h2.size) (by simp; omega)).trans (h2.block i hi hne)⟩
theorem okT_snoc {T : List (Int × Int)} {x y : Int} (h : okT T) (hx : -2147483648 ≤ x ∧ x ≤ 2147483647) (hy : -2147483648 ≤ y ∧ y ≤ 2147483647) : okT (T ++ [(x, y)]) := by
  intro z hz
  rcases List.mem_append.1 hz with hz | hz
  · exact h z hz
  · simp at hz
    subst hz
    exact ⟨hx, hy⟩
theorem set_size (w : World) (a : Addr) (v : Value) : (w.setCell a v).heap.size = w.heap.size := by simp
theorem cell_pairS (w : World) (a : Addr) (v x y : Value) (t : TypeId) : ∀ (j : Nat) (u : Value), ([x, y] : List Value)[j]? = some u → ((w.setCell a v).alloc (.cells #[x, y] t)).cell? ((⟨w.heap.size, 0, none⟩ : Addr).add j) = some u := by
  intro j u hj
  have h := cell_pair (w.setCell a v) x y t j u hj
  rw [set_size] at h
  exact h
theorem results_tmp4 {fn : Func} {t u v x : Tmp} (h : fn.results = #[.tmp t, .tmp u, .tmp v, .tmp x]) (tmps : Array Value) (P : Program) (w : World) :
    (results fn tmps).run P w = .ok (.tuple #[tmps.getD t undef, tmps.getD u undef, tmps.getD v undef, tmps.getD x undef]) w := by
  simp [results, h]
theorem list3 (w : World) : ∀ i, i < 3 → ∃ z : Int, -2147483648 ≤ z ∧ z ≤ 2147483647 ∧ (w.alloc (.cells #[.int .i32 55296, .int .i32 1114112, .int .i32 2147483647] 21)).cell? ⟨w.heap.size, i, none⟩ = some (.int .i32 z) := by
  intro i hi
  rw [cell_of_heap (heap_alloc_new w _) i]
  match i, hi with
  | 0, _ => exact ⟨55296, by omega, by omega, rfl⟩
  | 1, _ => exact ⟨1114112, by omega, by omega, rfl⟩
  | 2, _ => exact ⟨2147483647, by omega, by omega, rfl⟩
theorem list4 (w : World) : ∀ i, i < 4 → ∃ z : Int, -2147483648 ≤ z ∧ z ≤ 2147483647 ∧ (w.alloc (.cells #[.int .i32 (-1), .int .i32 120, .int .i32 45, .int .i32 8364] 21)).cell? ⟨w.heap.size, i, none⟩ = some (.int .i32 z) := by
  intro i hi
  rw [cell_of_heap (heap_alloc_new w _) i]
  match i, hi with
  | 0, _ => exact ⟨-1, by omega, by omega, rfl⟩
  | 1, _ => exact ⟨120, by omega, by omega, rfl⟩
  | 2, _ => exact ⟨45, by omega, by omega, rfl⟩
  | 3, _ => exact ⟨8364, by omega, by omega, rfl⟩
theorem Al.set {w : World} {gt : Nat} {W : World} {b : Nat} {z1 z2 : Int} (h : Al w gt W b z1 z2) (x y : Int) : Al w gt ((W.setCell ⟨b, 0, none⟩ (.int .i32 x)).setCell ⟨b, 1, none⟩ (.int .i32 y)) b x y :=
  ⟨(((h.own.stored 0 (.int .i32 x)).1).stored 1 (.int .i32 y)).1, h.ne⟩
theorem Al.set0 {w : World} {gt : Nat} {W : World} {b : Nat} {z1 z2 : Int} (h : Al w gt W b z1 z2) (x : Int) : Al w gt (W.setCell ⟨b, 0, none⟩ (.int .i32 x)) b x z2 := ⟨(h.own.stored 0 (.int .i32 x)).1, h.ne⟩
theorem Al.set1 {w : World} {gt : Nat} {W : World} {b : Nat} {z1 z2 : Int} (h : Al w gt W b z1 z2) (x : Int) : Al w gt (W.setCell ⟨b, 1, none⟩ (.int .i32 x)) b z1 x := ⟨(h.own.stored 1 (.int .i32 x)).1, h.ne⟩

theorem info_specR : (Tryd.prog.info? 41).map (fun i => (i.zero, i.size, i.bytes)) = some (some (.agg #[.int .i32 0, .int .i32 0]), 2, 8) := by kernel_rfl
set_option maxHeartbeats 8000000 in
set_option maxRecDepth 100000 in
theorem drawMap_any (w : World) (bv : Value) (hC : CodeAt w bv) : Calls Tryd.prog 18 #[bv] w (MapPost w) := by
  obtain ⟨a, len, cap, rfl⟩ : ∃ a len cap, bv = .slice a len cap := by
    rcases hC with ⟨a, cap, rfl⟩ | ⟨b, off, len, cap, rfl, _⟩
    · exact ⟨_, _, _, rfl⟩
    · exact ⟨_, _, _, rfl⟩
  obtain ⟨i0, hi, hz0, hz1', hz2'⟩ := info_parts info_specR
  obtain ⟨hR0, -⟩ := hC.reader
  have hg0 := World.grownBy_alloc w (.cells #[.slice a len cap, .int .i64 0] 52) none
  have ho := World.ownsRow_lit (base := w.heap.size + 1) (size := 2) (e := 41) (w.alloc (.cells #[.slice a len cap, .int .i64 0] 52)) #[] 0 (by rw [asize]; omega) (by unfold maxLen; omega) rfl
  rw [asize] at ho
  have S0 := Lib.hid (St.mk (w := w) (ct := 0) (T := []) (hR0.alloc (.cells #[] 41)) hC ho (gbut (galloc hg0 (.cells #[] 41)) (some w.heap.size)))
  have HC := Lib.hid hC
  clear hR0 hC hg0 ho
  go_enter Tryd.func18, Tryd.ntmps18
  go_wp2_with fail
  refine (pick_any _ w.heap.size _ 0 6 S0.out.rd S0.out.by_ (by omega) (by omega) (by omega)).mono ?_
  rintro e w1 ⟨cnt, hcnt, rfl, hR1, hg1⟩
  have S1 := Lib.hid (S0.out.next hg1 hR1)
  clear hR1 hg1 S0
  go_wp2_with fail
  go_loopg [7, 8] 5 (fun g s7 s8 wx => ∃ (gt ct n q : Nat) (T : List (Int × Int)), n ≤ g ∧ T.length + n ≤ 5 ∧ okT T ∧ s7 = .slice (some ⟨gt, 0, none⟩) T.length ct ∧ s8 = .int .i64 n ∧ q ≤ 1 + 20 * T.length ∧ Hid (St w (.slice a len cap) gt ct T wx q))
  case atStart => exact ⟨_, _, cnt, 0 + 1, [], by omega, by simp; omega, fun x hx => absurd hx (by simp), rfl, rfl, by simp, S1.out⟩
  case round =>
    obtain ⟨gt, ct, n, q, T, hng, hnT, hokT, rfl, rfl, hq, S2⟩ := hrel
    clear S1
    by_cases hn0 : 0 < n
    · have hn0z : (0 : Int) < (n : Int) := by omega
      obtain ⟨g', rfl⟩ : ∃ g', gk = g' + 1 := ⟨gk - 1, by omega⟩
      go_wp2_with fail
      go_cut [9] (fun s9 wx => ∃ (rl : Nat) (z1 z2 : Int), s9 = .pointer (some ⟨rl, 0, none⟩) ∧ (-2147483648 ≤ z1 ∧ z1 ≤ 2147483647) ∧ (-2147483648 ≤ z2 ∧ z2 ≤ 2147483647) ∧ Hid (St w (.slice a len cap) gt ct T wx (q + 3 + 3)) ∧ Hid (Al w gt wx rl z1 z2))
      case first =>
        have ST := Lib.hid S2.out.drew
        have hqq : q ≤ 900 := by omega
        clear S2
        refine wp_region_held_drew (S := fun _ => True) (by kernel_rfl) trivial (fun hHeld => ?_)
        refine wpAnyH_take (i := 0) (oi := ?_) (v := ?_) ?_ (by kernel_rfl) (by kernel_rfl) (by kernel_rfl) ?_ (Or.inl ⟨?_, ?_⟩) hHeld ?_
        rotate_left 2
        · rw [List.getElem?_toArray]; rfl
        · exact fun _ _ _ h => h
        · rfl
        · intro w' hSw
          go_simp
          try with_reducible rfl
        try simp only [Act.put, List.setIfInBounds_toArray, List.set_cons_zero, List.set_cons_succ]
        refine wpAnyH_take (i := 5) (oi := ?_) (v := ?_) ?_ (by kernel_rfl) (by kernel_rfl) (by kernel_rfl) ?_ (Or.inl ⟨?_, ?_⟩) hHeld ?_
        rotate_left 2
        · rw [List.getElem?_toArray]; rfl
        · exact fun _ _ _ h => h
        · rfl
        · intro w' hSw
          go_simp
          try with_reducible rfl
        try simp only [Act.put, List.setIfInBounds_toArray, List.set_cons_zero, List.set_cons_succ]
        refine wpAnyH_ready (rs := [1, 11]) (by kernel_rfl) (by simp) ?_
        refine AllReadyH.cons (o := ?_) ?_ (fun K hK => ?_) (AllReadyH.cons (o := ?_) ?_ (fun K hK => ?_) AllReadyH.nil)
        rotate_left 1
        · rw [List.getElem?_toArray]; rfl
        · skip
          go_simp
          go_wp2_with (go_at_call 30; refine (letter_any _ w.heap.size _ _ ST.out.rd ST.out.by_ (by omega)).mono ?_; rintro e W1 ⟨s1, x1, y1, rfl, hR, hg⟩)
          refine hK.out _ _ ?_ (fun hHeld => ?_)
          · exact trivial
          clear hK K
          replace ST := Lib.hid (ST.out.next hg hR)
          clear hR hg
          refine wpAnyH_ready (rs := [2, 11]) (by kernel_rfl) (by simp) ?_
          refine AllReadyH.cons (o := ?_) ?_ (fun K hK => ?_) (AllReadyH.cons (o := ?_) ?_ (fun K hK => ?_) AllReadyH.nil)
          rotate_left 1
          · rw [List.getElem?_toArray]; rfl
          · skip
            go_simp
            have hs0 := ST.out.rd.lt
            go_wp2_with (go_at_call 20; refine (chars_first s1 _ x1 y1).mono ?_; rintro e W2 ⟨g1, n1, c1, z1, rfl, hn1, hz1, hge, hck, hg⟩)
            refine hK.out _ _ ?_ (fun hHeld => ?_)
            · exact trivial
            clear hK K
            replace ST := Lib.hid (ST.out.quiet hg)
            have hr1 : g1 ≠ w.heap.size := Nat.ne_of_gt (Nat.lt_of_lt_of_le hs0 hge)
            clear hge hs0
            refine wpAnyH_more (S' := fun (w' : World) => w'.cell? ⟨g1, 0, none⟩ = some (.int .i32 z1)) (fun w' h => trivial) _ _ _ _ ?_
            replace hHeld : (fun (w' : World) => w'.cell? ⟨g1, 0, none⟩ = some (.int .i32 z1)) _ := hck
            clear hg hck
            refine wpAnyH_take (i := 3) (oi := ?_) (v := ?_) ?_ (by kernel_rfl) (by kernel_rfl) (by kernel_rfl) ?_ (Or.inl ⟨?_, ?_⟩) hHeld ?_
            rotate_left 2
            · rw [List.getElem?_toArray]; rfl
            · exact fun _ _ _ h => h
            · rfl
            · intro w' hSw
              have hnn : 0 < n1 := by omega
              go_simp
              try with_reducible rfl
            try simp only [Act.put, List.setIfInBounds_toArray, List.set_cons_zero, List.set_cons_succ]
            refine wpAnyH_take (i := 4) (oi := ?_) (v := ?_) ?_ (by kernel_rfl) (by kernel_rfl) (by kernel_rfl) ?_ (Or.inl ⟨?_, ?_⟩) hHeld ?_
            rotate_left 2
            · rw [List.getElem?_toArray]; rfl
            · exact fun _ _ _ h => h
            · rfl
            · intro w' hSw
              go_simp
              try with_reducible rfl
            try simp only [Act.put, List.setIfInBounds_toArray, List.set_cons_zero, List.set_cons_succ]
            refine wpAnyH_ready (rs := [6, 11]) (by kernel_rfl) (by simp) ?_
            refine AllReadyH.cons (o := ?_) ?_ (fun K hK => ?_) (AllReadyH.cons (o := ?_) ?_ (fun K hK => ?_) AllReadyH.nil)
            rotate_left 1
            · rw [List.getElem?_toArray]; rfl
            · skip
              go_simp
              go_wp2_with (go_at_call 30; refine (letter_any _ w.heap.size _ _ ST.out.rd ST.out.by_ (by omega)).mono ?_; rintro e W6 ⟨s2, x2, y2, rfl, hR, hg⟩)
              refine hK.out _ _ ?_ (fun hHeld => ?_)
              · exact (hg).cell hHeld (by simp; exact hr1)
              clear hK K
              replace ST := Lib.hid (ST.out.next hg hR)
              clear hR hg
              refine wpAnyH_ready (rs := [7, 11]) (by kernel_rfl) (by simp) ?_
              refine AllReadyH.cons (o := ?_) ?_ (fun K hK => ?_) (AllReadyH.cons (o := ?_) ?_ (fun K hK => ?_) AllReadyH.nil)
              rotate_left 1
              · rw [List.getElem?_toArray]; rfl
              · skip
                go_simp
                have hs0 := ST.out.rd.lt
                go_wp2_with (go_at_call 20; refine (chars_first s2 _ x2 y2).mono ?_; rintro e W7 ⟨g2, n2, c2, z2, rfl, hn2, hz2, hge, hck, hg⟩)
                refine hK.out _ _ ?_ (fun hHeld => ?_)
                · exact (hg).cell hHeld (by simp)
                clear hK K
                replace ST := Lib.hid (ST.out.quiet hg)
                have hr2 : g2 ≠ w.heap.size := Nat.ne_of_gt (Nat.lt_of_lt_of_le hs0 hge)
                clear hge hs0
                have hgg : True := trivial
                refine wpAnyH_more (S' := fun (w' : World) => w'.cell? ⟨g1, 0, none⟩ = some (.int .i32 z1) ∧ w'.cell? ⟨g2, 0, none⟩ = some (.int .i32 z2)) (fun w' h => h.1) _ _ _ _ ?_
                replace hHeld : (fun (w' : World) => w'.cell? ⟨g1, 0, none⟩ = some (.int .i32 z1) ∧ w'.cell? ⟨g2, 0, none⟩ = some (.int .i32 z2)) _ := ⟨hHeld, hck⟩
                clear hg hck
                refine wpAnyH_take (i := 8) (oi := ?_) (v := ?_) ?_ (by kernel_rfl) (by kernel_rfl) (by kernel_rfl) ?_ (Or.inl ⟨?_, ?_⟩) hHeld ?_
                rotate_left 2
                · rw [List.getElem?_toArray]; rfl
                · exact fun _ _ _ h => h
                · rfl
                · intro w' hSw
                  have hnn : 0 < n2 := by omega
                  go_simp
                  try with_reducible rfl
                try simp only [Act.put, List.setIfInBounds_toArray, List.set_cons_zero, List.set_cons_succ]
                refine wpAnyH_take (i := 9) (oi := ?_) (v := ?_) ?_ (by kernel_rfl) (by kernel_rfl) (by kernel_rfl) ?_ (Or.inl ⟨?_, ?_⟩) hHeld ?_
                rotate_left 2
                · rw [List.getElem?_toArray]; rfl
                · exact fun _ _ _ h => h
                · rfl
                · intro w' hSw
                  obtain ⟨hSa, hSb⟩ := hSw
                  go_simp
                  try with_reducible rfl
                try simp only [Act.put, List.setIfInBounds_toArray, List.set_cons_zero, List.set_cons_succ]
                refine wpAnyH_take (i := 10) (oi := ?_) (v := ?_) ?_ (by kernel_rfl) (by kernel_rfl) (by kernel_rfl) ?_ (Or.inl ⟨?_, ?_⟩) hHeld ?_
                rotate_left 2
                · rw [List.getElem?_toArray]; rfl
                · exact fun _ _ _ h => h
                · rfl
                · intro w' hSw
                  go_simp
                  try with_reducible rfl
                try simp only [Act.put, List.setIfInBounds_toArray, List.set_cons_zero, List.set_cons_succ]
                refine wpAnyH_ready (rs := [11]) (by kernel_rfl) (by simp) ?_
                refine AllReadyH.cons (o := ?_) ?_ (fun K hK => ?_) AllReadyH.nil
                rotate_left 1
                · rw [List.getElem?_toArray]; rfl
                have hb1 := World.new_ne _ _ hHeld.1
                have hb2 := World.new_ne _ _ hHeld.2
                go_simp
                refine hK.out _ _ ?_ (fun hHeld => ?_)
                · exact ⟨(World.grownBy_alloc _ _ none).cell hHeld.1 (by simp), (World.grownBy_alloc _ _ none).cell hHeld.2 (by simp)⟩
                clear hK K
                obtain ⟨bl, hbl, AL⟩ : ∃ bl, W7.heap.size = bl ∧ Hid (Al w gt (W7.alloc ruleZ) bl 0 0) := ⟨_, rfl, Al.new ST.out⟩
                replace ST := Lib.hid (ST.out.alloc ruleZ)
                rw [hbl]
                replace hb1 : bl ≠ g1 := by rw [← hbl]; exact hb1
                replace hb2 : bl ≠ g2 := by rw [← hbl]; exact hb2
                clear hbl
                obtain ⟨ce0, ce1, fe0, fe1⟩ := AL.out.cells
                refine wpAnyH_ready (rs := [12]) (by kernel_rfl) (by simp) ?_
                refine AllReadyH.cons (o := ?_) ?_ (fun K hK => ?_) AllReadyH.nil
                rotate_left 1
                · rw [List.getElem?_toArray]; rfl
                go_simp
                refine hK.out _ _ ?_ (fun hHeld => ?_)
                · exact ⟨by rw [World.cell?_setCell_far _ _ _ _ hb1, World.cell?_setCell_far _ _ _ _ hb1]; exact hHeld.1, by rw [World.cell?_setCell_far _ _ _ _ hb2, World.cell?_setCell_far _ _ _ _ hb2]; exact hHeld.2⟩
                clear hK K
                refine wpAnyH_done (by kernel_rfl) ?_ _
                have SF := Lib.hid ((ST.out.set AL.out 0 (.int .i32 z1)).set (AL.out.set0 z1) 1 (.int .i32 z2))
                have AF := Lib.hid (AL.out.set z1 z2)
                clear ST AL ce0 ce1 fe0 fe1 hHeld
                go_wp2_with fail
                go_meet
                exact ⟨bl, z1, z2, rfl, hz1, hz2, SF.out, AF.out⟩
              rotate_left 1
              · rw [List.getElem?_toArray]; rfl
              have hb1 := World.new_ne _ _ hHeld
              go_simp
              refine hK.out _ _ ?_ (fun hHeld => ?_)
              · exact (World.grownBy_alloc _ _ none).cell hHeld (by simp)
              clear hK K
              obtain ⟨bl, hbl, AL⟩ : ∃ bl, W6.heap.size = bl ∧ Hid (Al w gt (W6.alloc ruleZ) bl 0 0) := ⟨_, rfl, Al.new ST.out⟩
              replace ST := Lib.hid (ST.out.alloc ruleZ)
              rw [hbl]
              replace hb1 : bl ≠ g1 := by rw [← hbl]; exact hb1
              clear hbl
              refine wpAnyH_ready (rs := [7]) (by kernel_rfl) (by simp) ?_
              refine AllReadyH.cons (o := ?_) ?_ (fun K hK => ?_) AllReadyH.nil
              rotate_left 1
              · rw [List.getElem?_toArray]; rfl
              go_simp
              have hs0 := ST.out.rd.lt
              have hba := (AL.out.own.lt _ rfl).2
              go_wp2_with (go_at_call 20; refine (chars_first s2 _ x2 y2).mono ?_; rintro e W7 ⟨g2, n2, c2, z2, rfl, hn2, hz2, hge, hck, hg⟩)
              refine hK.out _ _ ?_ (fun hHeld => ?_)
              · exact (hg).cell hHeld (by simp)
              clear hK K
              replace ST := Lib.hid (ST.out.quiet hg)
              replace AL := Lib.hid (AL.out.next (gbut hg _))
              have hb2 : bl ≠ g2 := Nat.ne_of_lt (Nat.lt_of_lt_of_le hba hge)
              clear hba
              have hr2 : g2 ≠ w.heap.size := Nat.ne_of_gt (Nat.lt_of_lt_of_le hs0 hge)
              clear hge hs0
              have hgg : True := trivial
              refine wpAnyH_more (S' := fun (w' : World) => w'.cell? ⟨g1, 0, none⟩ = some (.int .i32 z1) ∧ w'.cell? ⟨g2, 0, none⟩ = some (.int .i32 z2)) (fun w' h => h.1) _ _ _ _ ?_
              replace hHeld : (fun (w' : World) => w'.cell? ⟨g1, 0, none⟩ = some (.int .i32 z1) ∧ w'.cell? ⟨g2, 0, none⟩ = some (.int .i32 z2)) _ := ⟨hHeld, hck⟩
              clear hg hck
              refine wpAnyH_take (i := 8) (oi := ?_) (v := ?_) ?_ (by kernel_rfl) (by kernel_rfl) (by kernel_rfl) ?_ (Or.inl ⟨?_, ?_⟩) hHeld ?_
              rotate_left 2
              · rw [List.getElem?_toArray]; rfl
              · exact fun _ _ _ h => h
              · rfl
              · intro w' hSw
                have hnn : 0 < n2 := by omega
                go_simp
                try with_reducible rfl
              try simp only [Act.put, List.setIfInBounds_toArray, List.set_cons_zero, List.set_cons_succ]
              refine wpAnyH_take (i := 9) (oi := ?_) (v := ?_) ?_ (by kernel_rfl) (by kernel_rfl) (by kernel_rfl) ?_ (Or.inl ⟨?_, ?_⟩) hHeld ?_
              rotate_left 2
              · rw [List.getElem?_toArray]; rfl
              · exact fun _ _ _ h => h
              · rfl
              · intro w' hSw
                obtain ⟨hSa, hSb⟩ := hSw
                go_simp
                try with_reducible rfl
              try simp only [Act.put, List.setIfInBounds_toArray, List.set_cons_zero, List.set_cons_succ]
              refine wpAnyH_take (i := 10) (oi := ?_) (v := ?_) ?_ (by kernel_rfl) (by kernel_rfl) (by kernel_rfl) ?_ (Or.inl ⟨?_, ?_⟩) hHeld ?_
              rotate_left 2
              · rw [List.getElem?_toArray]; rfl
              · exact fun _ _ _ h => h
              · rfl
              · intro w' hSw
                go_simp
                try with_reducible rfl
              try simp only [Act.put, List.setIfInBounds_toArray, List.set_cons_zero, List.set_cons_succ]
              obtain ⟨ce0, ce1, fe0, fe1⟩ := AL.out.cells
              refine wpAnyH_ready (rs := [12]) (by kernel_rfl) (by simp) ?_
              refine AllReadyH.cons (o := ?_) ?_ (fun K hK => ?_) AllReadyH.nil
              rotate_left 1
              · rw [List.getElem?_toArray]; rfl
              go_simp
              refine hK.out _ _ ?_ (fun hHeld => ?_)
              · exact ⟨by rw [World.cell?_setCell_far _ _ _ _ hb1, World.cell?_setCell_far _ _ _ _ hb1]; exact hHeld.1, by rw [World.cell?_setCell_far _ _ _ _ hb2, World.cell?_setCell_far _ _ _ _ hb2]; exact hHeld.2⟩
              clear hK K
              refine wpAnyH_done (by kernel_rfl) ?_ _
              have SF := Lib.hid ((ST.out.set AL.out 0 (.int .i32 z1)).set (AL.out.set0 z1) 1 (.int .i32 z2))
              have AF := Lib.hid (AL.out.set z1 z2)
              clear ST AL ce0 ce1 fe0 fe1 hHeld
              go_wp2_with fail
              go_meet
              exact ⟨bl, z1, z2, rfl, hz1, hz2, SF.out, AF.out⟩
            rotate_left 1
            · rw [List.getElem?_toArray]; rfl
            have hb1 := World.new_ne _ _ hHeld
            go_simp
            refine hK.out _ _ ?_ (fun hHeld => ?_)
            · exact (World.grownBy_alloc _ _ none).cell hHeld (by simp)
            clear hK K
            obtain ⟨bl, hbl, AL⟩ : ∃ bl, W2.heap.size = bl ∧ Hid (Al w gt (W2.alloc ruleZ) bl 0 0) := ⟨_, rfl, Al.new ST.out⟩
            replace ST := Lib.hid (ST.out.alloc ruleZ)
            rw [hbl]
            replace hb1 : bl ≠ g1 := by rw [← hbl]; exact hb1
            clear hbl
            refine wpAnyH_ready (rs := [6]) (by kernel_rfl) (by simp) ?_
            refine AllReadyH.cons (o := ?_) ?_ (fun K hK => ?_) AllReadyH.nil
            rotate_left 1
            · rw [List.getElem?_toArray]; rfl
            go_simp
            go_wp2_with (go_at_call 30; refine (letter_any _ w.heap.size _ _ ST.out.rd ST.out.by_ (by omega)).mono ?_; rintro e W6 ⟨s2, x2, y2, rfl, hR, hg⟩)
            refine hK.out _ _ ?_ (fun hHeld => ?_)
            · exact (hg).cell hHeld (by simp; exact hr1)
            clear hK K
            replace ST := Lib.hid (ST.out.next hg hR)
            replace AL := Lib.hid (AL.out.next hg)
            clear hR hg
            refine wpAnyH_ready (rs := [7]) (by kernel_rfl) (by simp) ?_
            refine AllReadyH.cons (o := ?_) ?_ (fun K hK => ?_) AllReadyH.nil
            rotate_left 1
            · rw [List.getElem?_toArray]; rfl
            go_simp
            have hs0 := ST.out.rd.lt
            have hba := (AL.out.own.lt _ rfl).2
            go_wp2_with (go_at_call 20; refine (chars_first s2 _ x2 y2).mono ?_; rintro e W7 ⟨g2, n2, c2, z2, rfl, hn2, hz2, hge, hck, hg⟩)
            refine hK.out _ _ ?_ (fun hHeld => ?_)
            · exact (hg).cell hHeld (by simp)
            clear hK K
            replace ST := Lib.hid (ST.out.quiet hg)
            replace AL := Lib.hid (AL.out.next (gbut hg _))
            have hb2 : bl ≠ g2 := Nat.ne_of_lt (Nat.lt_of_lt_of_le hba hge)
            clear hba
            have hr2 : g2 ≠ w.heap.size := Nat.ne_of_gt (Nat.lt_of_lt_of_le hs0 hge)
            clear hge hs0
            have hgg : True := trivial
            refine wpAnyH_more (S' := fun (w' : World) => w'.cell? ⟨g1, 0, none⟩ = some (.int .i32 z1) ∧ w'.cell? ⟨g2, 0, none⟩ = some (.int .i32 z2)) (fun w' h => h.1) _ _ _ _ ?_
            replace hHeld : (fun (w' : World) => w'.cell? ⟨g1, 0, none⟩ = some (.int .i32 z1) ∧ w'.cell? ⟨g2, 0, none⟩ = some (.int .i32 z2)) _ := ⟨hHeld, hck⟩
            clear hg hck
            refine wpAnyH_take (i := 8) (oi := ?_) (v := ?_) ?_ (by kernel_rfl) (by kernel_rfl) (by kernel_rfl) ?_ (Or.inl ⟨?_, ?_⟩) hHeld ?_
            rotate_left 2
            · rw [List.getElem?_toArray]; rfl
            · exact fun _ _ _ h => h
            · rfl
            · intro w' hSw
              have hnn : 0 < n2 := by omega
              go_simp
              try with_reducible rfl
            try simp only [Act.put, List.setIfInBounds_toArray, List.set_cons_zero, List.set_cons_succ]
            refine wpAnyH_take (i := 9) (oi := ?_) (v := ?_) ?_ (by kernel_rfl) (by kernel_rfl) (by kernel_rfl) ?_ (Or.inl ⟨?_, ?_⟩) hHeld ?_
            rotate_left 2
            · rw [List.getElem?_toArray]; rfl
            · exact fun _ _ _ h => h
            · rfl
            · intro w' hSw
              obtain ⟨hSa, hSb⟩ := hSw
              go_simp
              try with_reducible rfl
            try simp only [Act.put, List.setIfInBounds_toArray, List.set_cons_zero, List.set_cons_succ]
            refine wpAnyH_take (i := 10) (oi := ?_) (v := ?_) ?_ (by kernel_rfl) (by kernel_rfl) (by kernel_rfl) ?_ (Or.inl ⟨?_, ?_⟩) hHeld ?_
            rotate_left 2
            · rw [List.getElem?_toArray]; rfl
            · exact fun _ _ _ h => h
            · rfl
            · intro w' hSw
              go_simp
              try with_reducible rfl
            try simp only [Act.put, List.setIfInBounds_toArray, List.set_cons_zero, List.set_cons_succ]
            obtain ⟨ce0, ce1, fe0, fe1⟩ := AL.out.cells
            refine wpAnyH_ready (rs := [12]) (by kernel_rfl) (by simp) ?_
            refine AllReadyH.cons (o := ?_) ?_ (fun K hK => ?_) AllReadyH.nil
            rotate_left 1
            · rw [List.getElem?_toArray]; rfl
            go_simp
            refine hK.out _ _ ?_ (fun hHeld => ?_)
            · exact ⟨by rw [World.cell?_setCell_far _ _ _ _ hb1, World.cell?_setCell_far _ _ _ _ hb1]; exact hHeld.1, by rw [World.cell?_setCell_far _ _ _ _ hb2, World.cell?_setCell_far _ _ _ _ hb2]; exact hHeld.2⟩
            clear hK K
            refine wpAnyH_done (by kernel_rfl) ?_ _
            have SF := Lib.hid ((ST.out.set AL.out 0 (.int .i32 z1)).set (AL.out.set0 z1) 1 (.int .i32 z2))
            have AF := Lib.hid (AL.out.set z1 z2)
            clear ST AL ce0 ce1 fe0 fe1 hHeld
            go_wp2_with fail
            go_meet
            exact ⟨bl, z1, z2, rfl, hz1, hz2, SF.out, AF.out⟩
          rotate_left 1
          · rw [List.getElem?_toArray]; rfl
          go_simp
          refine hK.out _ _ ?_ (fun hHeld => ?_)
          · exact trivial
          clear hK K
          obtain ⟨bl, hbl, AL⟩ : ∃ bl, W1.heap.size = bl ∧ Hid (Al w gt (W1.alloc ruleZ) bl 0 0) := ⟨_, rfl, Al.new ST.out⟩
          replace ST := Lib.hid (ST.out.alloc ruleZ)
          rw [hbl]
          clear hbl
          refine wpAnyH_ready (rs := [2]) (by kernel_rfl) (by simp) ?_
          refine AllReadyH.cons (o := ?_) ?_ (fun K hK => ?_) AllReadyH.nil
          rotate_left 1
          · rw [List.getElem?_toArray]; rfl
          go_simp
          have hs0 := ST.out.rd.lt
          have hba := (AL.out.own.lt _ rfl).2
          go_wp2_with (go_at_call 20; refine (chars_first s1 _ x1 y1).mono ?_; rintro e W2 ⟨g1, n1, c1, z1, rfl, hn1, hz1, hge, hck, hg⟩)
          refine hK.out _ _ ?_ (fun hHeld => ?_)
          · exact trivial
          clear hK K
          replace ST := Lib.hid (ST.out.quiet hg)
          replace AL := Lib.hid (AL.out.next (gbut hg _))
          have hb1 : bl ≠ g1 := Nat.ne_of_lt (Nat.lt_of_lt_of_le hba hge)
          clear hba
          have hr1 : g1 ≠ w.heap.size := Nat.ne_of_gt (Nat.lt_of_lt_of_le hs0 hge)
          clear hge hs0
          refine wpAnyH_more (S' := fun (w' : World) => w'.cell? ⟨g1, 0, none⟩ = some (.int .i32 z1)) (fun w' h => trivial) _ _ _ _ ?_
          replace hHeld : (fun (w' : World) => w'.cell? ⟨g1, 0, none⟩ = some (.int .i32 z1)) _ := hck
          clear hg hck
          refine wpAnyH_take (i := 3) (oi := ?_) (v := ?_) ?_ (by kernel_rfl) (by kernel_rfl) (by kernel_rfl) ?_ (Or.inl ⟨?_, ?_⟩) hHeld ?_
          rotate_left 2
          · rw [List.getElem?_toArray]; rfl
          · exact fun _ _ _ h => h
          · rfl
          · intro w' hSw
            have hnn : 0 < n1 := by omega
            go_simp
            try with_reducible rfl
          try simp only [Act.put, List.setIfInBounds_toArray, List.set_cons_zero, List.set_cons_succ]
          refine wpAnyH_take (i := 4) (oi := ?_) (v := ?_) ?_ (by kernel_rfl) (by kernel_rfl) (by kernel_rfl) ?_ (Or.inl ⟨?_, ?_⟩) hHeld ?_
          rotate_left 2
          · rw [List.getElem?_toArray]; rfl
          · exact fun _ _ _ h => h
          · rfl
          · intro w' hSw
            go_simp
            try with_reducible rfl
          try simp only [Act.put, List.setIfInBounds_toArray, List.set_cons_zero, List.set_cons_succ]
          refine wpAnyH_ready (rs := [6]) (by kernel_rfl) (by simp) ?_
          refine AllReadyH.cons (o := ?_) ?_ (fun K hK => ?_) AllReadyH.nil
          rotate_left 1
          · rw [List.getElem?_toArray]; rfl
          go_simp
          go_wp2_with (go_at_call 30; refine (letter_any _ w.heap.size _ _ ST.out.rd ST.out.by_ (by omega)).mono ?_; rintro e W6 ⟨s2, x2, y2, rfl, hR, hg⟩)
          refine hK.out _ _ ?_ (fun hHeld => ?_)
          · exact (hg).cell hHeld (by simp; exact hr1)
          clear hK K
          replace ST := Lib.hid (ST.out.next hg hR)
          replace AL := Lib.hid (AL.out.next hg)
          clear hR hg
          refine wpAnyH_ready (rs := [7]) (by kernel_rfl) (by simp) ?_
          refine AllReadyH.cons (o := ?_) ?_ (fun K hK => ?_) AllReadyH.nil
          rotate_left 1
          · rw [List.getElem?_toArray]; rfl
          go_simp
          have hs0 := ST.out.rd.lt
          have hba := (AL.out.own.lt _ rfl).2
          go_wp2_with (go_at_call 20; refine (chars_first s2 _ x2 y2).mono ?_; rintro e W7 ⟨g2, n2, c2, z2, rfl, hn2, hz2, hge, hck, hg⟩)
          refine hK.out _ _ ?_ (fun hHeld => ?_)
          · exact (hg).cell hHeld (by simp)
          clear hK K
          replace ST := Lib.hid (ST.out.quiet hg)
          replace AL := Lib.hid (AL.out.next (gbut hg _))
          have hb2 : bl ≠ g2 := Nat.ne_of_lt (Nat.lt_of_lt_of_le hba hge)
          clear hba
          have hr2 : g2 ≠ w.heap.size := Nat.ne_of_gt (Nat.lt_of_lt_of_le hs0 hge)
          clear hge hs0
          have hgg : True := trivial
          refine wpAnyH_more (S' := fun (w' : World) => w'.cell? ⟨g1, 0, none⟩ = some (.int .i32 z1) ∧ w'.cell? ⟨g2, 0, none⟩ = some (.int .i32 z2)) (fun w' h => h.1) _ _ _ _ ?_
          replace hHeld : (fun (w' : World) => w'.cell? ⟨g1, 0, none⟩ = some (.int .i32 z1) ∧ w'.cell? ⟨g2, 0, none⟩ = some (.int .i32 z2)) _ := ⟨hHeld, hck⟩
          clear hg hck
          refine wpAnyH_take (i := 8) (oi := ?_) (v := ?_) ?_ (by kernel_rfl) (by kernel_rfl) (by kernel_rfl) ?_ (Or.inl ⟨?_, ?_⟩) hHeld ?_
          rotate_left 2
          · rw [List.getElem?_toArray]; rfl
          · exact fun _ _ _ h => h
          · rfl
          · intro w' hSw
            have hnn : 0 < n2 := by omega
            go_simp
            try with_reducible rfl
          try simp only [Act.put, List.setIfInBounds_toArray, List.set_cons_zero, List.set_cons_succ]
          refine wpAnyH_take (i := 9) (oi := ?_) (v := ?_) ?_ (by kernel_rfl) (by kernel_rfl) (by kernel_rfl) ?_ (Or.inl ⟨?_, ?_⟩) hHeld ?_
          rotate_left 2
          · rw [List.getElem?_toArray]; rfl
          · exact fun _ _ _ h => h
          · rfl
          · intro w' hSw
            obtain ⟨hSa, hSb⟩ := hSw
            go_simp
            try with_reducible rfl
          try simp only [Act.put, List.setIfInBounds_toArray, List.set_cons_zero, List.set_cons_succ]
          refine wpAnyH_take (i := 10) (oi := ?_) (v := ?_) ?_ (by kernel_rfl) (by kernel_rfl) (by kernel_rfl) ?_ (Or.inl ⟨?_, ?_⟩) hHeld ?_
          rotate_left 2
          · rw [List.getElem?_toArray]; rfl
          · exact fun _ _ _ h => h
          · rfl
          · intro w' hSw
            go_simp
            try with_reducible rfl
          try simp only [Act.put, List.setIfInBounds_toArray, List.set_cons_zero, List.set_cons_succ]
          obtain ⟨ce0, ce1, fe0, fe1⟩ := AL.out.cells
          refine wpAnyH_ready (rs := [12]) (by kernel_rfl) (by simp) ?_
          refine AllReadyH.cons (o := ?_) ?_ (fun K hK => ?_) AllReadyH.nil
          rotate_left 1
          · rw [List.getElem?_toArray]; rfl
          go_simp
          refine hK.out _ _ ?_ (fun hHeld => ?_)
          · exact ⟨by rw [World.cell?_setCell_far _ _ _ _ hb1, World.cell?_setCell_far _ _ _ _ hb1]; exact hHeld.1, by rw [World.cell?_setCell_far _ _ _ _ hb2, World.cell?_setCell_far _ _ _ _ hb2]; exact hHeld.2⟩
          clear hK K
          refine wpAnyH_done (by kernel_rfl) ?_ _
          have SF := Lib.hid ((ST.out.set AL.out 0 (.int .i32 z1)).set (AL.out.set0 z1) 1 (.int .i32 z2))
          have AF := Lib.hid (AL.out.set z1 z2)
          clear ST AL ce0 ce1 fe0 fe1 hHeld
          go_wp2_with fail
          go_meet
          exact ⟨bl, z1, z2, rfl, hz1, hz2, SF.out, AF.out⟩
        rotate_left 1
        · rw [List.getElem?_toArray]; rfl
        go_simp
        refine hK.out _ _ ?_ (fun hHeld => ?_)
        · exact trivial
        clear hK K
        obtain ⟨bl, hbl, AL⟩ : ∃ bl, wr.heap.size = bl ∧ Hid (Al w gt (wr.drew.alloc ruleZ) bl 0 0) := ⟨_, rfl, Al.new ST.out⟩
        replace ST := Lib.hid (ST.out.alloc ruleZ)
        rw [hbl]
        clear hbl
        refine wpAnyH_ready (rs := [1]) (by kernel_rfl) (by simp) ?_
        refine AllReadyH.cons (o := ?_) ?_ (fun K hK => ?_) AllReadyH.nil
        rotate_left 1
        · rw [List.getElem?_toArray]; rfl
        go_simp
        go_wp2_with (go_at_call 30; refine (letter_any _ w.heap.size _ _ ST.out.rd ST.out.by_ (by omega)).mono ?_; rintro e W1 ⟨s1, x1, y1, rfl, hR, hg⟩)
        refine hK.out _ _ ?_ (fun hHeld => ?_)
        · exact trivial
        clear hK K
        replace ST := Lib.hid (ST.out.next hg hR)
        replace AL := Lib.hid (AL.out.next hg)
        clear hR hg
        refine wpAnyH_ready (rs := [2]) (by kernel_rfl) (by simp) ?_
        refine AllReadyH.cons (o := ?_) ?_ (fun K hK => ?_) AllReadyH.nil
        rotate_left 1
        · rw [List.getElem?_toArray]; rfl
        go_simp
        have hs0 := ST.out.rd.lt
        have hba := (AL.out.own.lt _ rfl).2
        go_wp2_with (go_at_call 20; refine (chars_first s1 _ x1 y1).mono ?_; rintro e W2 ⟨g1, n1, c1, z1, rfl, hn1, hz1, hge, hck, hg⟩)
        refine hK.out _ _ ?_ (fun hHeld => ?_)
        · exact trivial
        clear hK K
        replace ST := Lib.hid (ST.out.quiet hg)
        replace AL := Lib.hid (AL.out.next (gbut hg _))
        have hb1 : bl ≠ g1 := Nat.ne_of_lt (Nat.lt_of_lt_of_le hba hge)
        clear hba
        have hr1 : g1 ≠ w.heap.size := Nat.ne_of_gt (Nat.lt_of_lt_of_le hs0 hge)
        clear hge hs0
        refine wpAnyH_more (S' := fun (w' : World) => w'.cell? ⟨g1, 0, none⟩ = some (.int .i32 z1)) (fun w' h => trivial) _ _ _ _ ?_
        replace hHeld : (fun (w' : World) => w'.cell? ⟨g1, 0, none⟩ = some (.int .i32 z1)) _ := hck
        clear hg hck
        refine wpAnyH_take (i := 3) (oi := ?_) (v := ?_) ?_ (by kernel_rfl) (by kernel_rfl) (by kernel_rfl) ?_ (Or.inl ⟨?_, ?_⟩) hHeld ?_
        rotate_left 2
        · rw [List.getElem?_toArray]; rfl
        · exact fun _ _ _ h => h
        · rfl
        · intro w' hSw
          have hnn : 0 < n1 := by omega
          go_simp
          try with_reducible rfl
        try simp only [Act.put, List.setIfInBounds_toArray, List.set_cons_zero, List.set_cons_succ]
        refine wpAnyH_take (i := 4) (oi := ?_) (v := ?_) ?_ (by kernel_rfl) (by kernel_rfl) (by kernel_rfl) ?_ (Or.inl ⟨?_, ?_⟩) hHeld ?_
        rotate_left 2
        · rw [List.getElem?_toArray]; rfl
        · exact fun _ _ _ h => h
        · rfl
        · intro w' hSw
          go_simp
          try with_reducible rfl
        try simp only [Act.put, List.setIfInBounds_toArray, List.set_cons_zero, List.set_cons_succ]
        refine wpAnyH_ready (rs := [6]) (by kernel_rfl) (by simp) ?_
        refine AllReadyH.cons (o := ?_) ?_ (fun K hK => ?_) AllReadyH.nil
        rotate_left 1
        · rw [List.getElem?_toArray]; rfl
        go_simp
        go_wp2_with (go_at_call 30; refine (letter_any _ w.heap.size _ _ ST.out.rd ST.out.by_ (by omega)).mono ?_; rintro e W6 ⟨s2, x2, y2, rfl, hR, hg⟩)
        refine hK.out _ _ ?_ (fun hHeld => ?_)
        · exact (hg).cell hHeld (by simp; exact hr1)
        clear hK K
        replace ST := Lib.hid (ST.out.next hg hR)
        replace AL := Lib.hid (AL.out.next hg)
        clear hR hg
        refine wpAnyH_ready (rs := [7]) (by kernel_rfl) (by simp) ?_
        refine AllReadyH.cons (o := ?_) ?_ (fun K hK => ?_) AllReadyH.nil
        rotate_left 1
        · rw [List.getElem?_toArray]; rfl
        go_simp
        have hs0 := ST.out.rd.lt
        have hba := (AL.out.own.lt _ rfl).2
        go_wp2_with (go_at_call 20; refine (chars_first s2 _ x2 y2).mono ?_; rintro e W7 ⟨g2, n2, c2, z2, rfl, hn2, hz2, hge, hck, hg⟩)
        refine hK.out _ _ ?_ (fun hHeld => ?_)
        · exact (hg).cell hHeld (by simp)
        clear hK K
        replace ST := Lib.hid (ST.out.quiet hg)
        replace AL := Lib.hid (AL.out.next (gbut hg _))
        have hb2 : bl ≠ g2 := Nat.ne_of_lt (Nat.lt_of_lt_of_le hba hge)
        clear hba
        have hr2 : g2 ≠ w.heap.size := Nat.ne_of_gt (Nat.lt_of_lt_of_le hs0 hge)
        clear hge hs0
        have hgg : True := trivial
        refine wpAnyH_more (S' := fun (w' : World) => w'.cell? ⟨g1, 0, none⟩ = some (.int .i32 z1) ∧ w'.cell? ⟨g2, 0, none⟩ = some (.int .i32 z2)) (fun w' h => h.1) _ _ _ _ ?_
        replace hHeld : (fun (w' : World) => w'.cell? ⟨g1, 0, none⟩ = some (.int .i32 z1) ∧ w'.cell? ⟨g2, 0, none⟩ = some (.int .i32 z2)) _ := ⟨hHeld, hck⟩
        clear hg hck
        refine wpAnyH_take (i := 8) (oi := ?_) (v := ?_) ?_ (by kernel_rfl) (by kernel_rfl) (by kernel_rfl) ?_ (Or.inl ⟨?_, ?_⟩) hHeld ?_
        rotate_left 2
        · rw [List.getElem?_toArray]; rfl
        · exact fun _ _ _ h => h
        · rfl
        · intro w' hSw
          have hnn : 0 < n2 := by omega
          go_simp
          try with_reducible rfl
        try simp only [Act.put, List.setIfInBounds_toArray, List.set_cons_zero, List.set_cons_succ]
        refine wpAnyH_take (i := 9) (oi := ?_) (v := ?_) ?_ (by kernel_rfl) (by kernel_rfl) (by kernel_rfl) ?_ (Or.inl ⟨?_, ?_⟩) hHeld ?_
        rotate_left 2
        · rw [List.getElem?_toArray]; rfl
        · exact fun _ _ _ h => h
        · rfl
        · intro w' hSw
          obtain ⟨hSa, hSb⟩ := hSw
          go_simp
          try with_reducible rfl
        try simp only [Act.put, List.setIfInBounds_toArray, List.set_cons_zero, List.set_cons_succ]
        refine wpAnyH_take (i := 10) (oi := ?_) (v := ?_) ?_ (by kernel_rfl) (by kernel_rfl) (by kernel_rfl) ?_ (Or.inl ⟨?_, ?_⟩) hHeld ?_
        rotate_left 2
        · rw [List.getElem?_toArray]; rfl
        · exact fun _ _ _ h => h
        · rfl
        · intro w' hSw
          go_simp
          try with_reducible rfl
        try simp only [Act.put, List.setIfInBounds_toArray, List.set_cons_zero, List.set_cons_succ]
        obtain ⟨ce0, ce1, fe0, fe1⟩ := AL.out.cells
        refine wpAnyH_ready (rs := [12]) (by kernel_rfl) (by simp) ?_
        refine AllReadyH.cons (o := ?_) ?_ (fun K hK => ?_) AllReadyH.nil
        rotate_left 1
        · rw [List.getElem?_toArray]; rfl
        go_simp
        refine hK.out _ _ ?_ (fun hHeld => ?_)
        · exact ⟨by rw [World.cell?_setCell_far _ _ _ _ hb1, World.cell?_setCell_far _ _ _ _ hb1]; exact hHeld.1, by rw [World.cell?_setCell_far _ _ _ _ hb2, World.cell?_setCell_far _ _ _ _ hb2]; exact hHeld.2⟩
        clear hK K
        refine wpAnyH_done (by kernel_rfl) ?_ _
        have SF := Lib.hid ((ST.out.set AL.out 0 (.int .i32 z1)).set (AL.out.set0 z1) 1 (.int .i32 z2))
        have AF := Lib.hid (AL.out.set z1 z2)
        clear ST AL ce0 ce1 fe0 fe1 hHeld
        go_wp2_with fail
        go_meet
        exact ⟨bl, z1, z2, rfl, hz1, hz2, SF.out, AF.out⟩
      case rest =>
        obtain ⟨rl, z1, z2, rfl, hz1, hz2, SF, AF⟩ := hcut
        clear S2
        have hqq : q ≤ 900 := by omega
        go_wp2_with fail
        refine (pick_any _ w.heap.size _ _ 8 SF.out.rd SF.out.by_ (by omega) (by omega) (by omega)).mono ?_
        rintro e w3 ⟨k, hk, rfl, hR, hg⟩
        replace SF := Lib.hid (SF.out.next hg hR)
        replace AF := Lib.hid (AF.out.next hg)
        clear hR hg
        obtain ⟨ce0, ce1, fe0, fe1⟩ := AF.out.cells
        rcases (by omega : k = 0 ∨ k = 1 ∨ 2 ≤ k) with rfl | rfl | hk2
        · go_wp2_with fail
          refine (pick_any _ w.heap.size _ _ 3 SF.out.rd SF.out.by_ (by omega) (by omega) (by omega)).mono ?_
          rintro e w4 ⟨m, hm, rfl, hR, hg⟩
          replace SF := Lib.hid (SF.out.next hg hR)
          replace AF := Lib.hid (AF.out.next hg)
          clear hR hg ce0 ce1 fe0 fe1
          obtain ⟨ce0, ce1, fe0, fe1⟩ := AF.out.cells
          replace SF := Lib.hid (SF.out.set AF.out 1 (.int .i32 (-1 - (m : Int))))
          replace AF := Lib.hid (AF.out.set1 (-1 - (m : Int)))
          go_wp2_with fail
          refine (pick_any _ w.heap.size _ _ 40 SF.out.rd SF.out.by_ (by omega) (by omega) (by omega)).mono ?_
          rintro e w5 ⟨k2, hk2, rfl, hR, hg⟩
          replace SF := Lib.hid (SF.out.next hg hR)
          replace AF := Lib.hid (AF.out.next hg)
          clear hR hg
          obtain ⟨ce0, ce1, fe0, fe1⟩ := AF.out.cells
          by_cases h40 : k2 = 0
          · subst h40
            have hlt5 := SF.out.rd.lt
            have L3 := Lib.hid (list3 w5)
            replace SF := Lib.hid (SF.out.alloc (.cells #[.int .i32 55296, .int .i32 1114112, .int .i32 2147483647] 21))
            replace AF := Lib.hid (AF.out.alloc (.cells #[.int .i32 55296, .int .i32 1114112, .int .i32 2147483647] 21))
            clear ce0 ce1 fe0 fe1
            go_wp2_with fail
            refine (pick_any _ w.heap.size _ _ 3 SF.out.rd SF.out.by_ (by omega) (by omega) (by omega)).mono ?_
            rintro e w6 ⟨m2, hm2, rfl, hR, hg⟩
            obtain ⟨zz, hza, hzb, hcz⟩ := L3.out m2 (by omega)
            have hcz' := hg.cell hcz (by simp; omega)
            replace SF := Lib.hid (SF.out.next hg hR)
            replace AF := Lib.hid (AF.out.next hg)
            clear hR hg hcz L3
            obtain ⟨ce0, ce1, fe0, fe1⟩ := AF.out.cells
            replace SF := Lib.hid (SF.out.set AF.out 1 (.int .i32 zz))
            replace AF := Lib.hid (AF.out.set1 zz)
            have hzz : -2147483648 ≤ zz ∧ zz ≤ 2147483647 := ⟨hza, hzb⟩
            obtain ⟨da0, da1, db0, db1⟩ := AF.out.cells
            have hown1 := SF.out.own.alloc (.cells #[.int .i32 z1, .int .i32 zz] 41)
            have hT4 : T.length ≤ 4 := by omega
            have hlt6 := SF.out.rd.lt
            go_wp2_with (at_builtin; refine wpList_append_own _ rfl _ _ 26 rfl (w.heap.size + 1) 41 i0 (.agg #[.int .i32 0, .int .i32 0]) 2 8 Tryd.underlying26 hi hz0 hz1' hz2' rfl (by decide) _ _ _ rfl hown1 ⟨w6.heap.size, 0, none⟩ 1 1 [.int .i32 z1, .int .i32 zz] rfl rfl (cell_pairS w6 _ _ _ _ _) (by intro u hu; simp at hu; rcases hu with rfl | rfl <;> rfl) (by unfold maxLen; omega) (by omega) (by rw [asize]; omega) ?_)
            intro v' w7 hown' hgrow hiff
            have hnn : v' ≠ .slice none 0 0 := hiff
            obtain ⟨g2, cap2, rfl, -, -⟩ := own_formN hown' hnn
            have SN := Lib.hid (SF.out.app hgrow hown')
            have hokN : okT (T ++ [(z1, zz)]) := okT_snoc hokT hz1 hzz
            clear hown' hgrow hiff hnn hown1 SF AF
            go_wp2_with fail
            go_roundg g'
            case measure => omega
            case rel => exact ⟨g2, cap2, n - 1, _, T ++ [(z1, zz)], by omega, by simp; omega, hokN, by simp, by show Value.int _ _ = _; congr 1; omega, by simp; omega, SN.out⟩
          · have h40b : ((k2 : Int) == 0) = false := by rw [beq_eq_false_iff_ne]; omega
            have hown1 := SF.out.own.alloc (.cells #[.int .i32 z1, .int .i32 (-1 - (m : Int))] 41)
            have hT4 : T.length ≤ 4 := by omega
            have hlt6 := SF.out.rd.lt
            go_wp2_with (at_builtin; refine wpList_append_own _ rfl _ _ 26 rfl (w.heap.size + 1) 41 i0 (.agg #[.int .i32 0, .int .i32 0]) 2 8 Tryd.underlying26 hi hz0 hz1' hz2' rfl (by decide) _ _ _ rfl hown1 ⟨w5.heap.size, 0, none⟩ 1 1 [.int .i32 z1, .int .i32 (-1 - (m : Int))] rfl rfl (cell_pair w5 _ _ _) (by intro u hu; simp at hu; rcases hu with rfl | rfl <;> rfl) (by unfold maxLen; omega) (by omega) (by rw [asize]; omega) ?_)
            intro v' w7 hown' hgrow hiff
            have hnn : v' ≠ .slice none 0 0 := hiff
            obtain ⟨g2, cap2, rfl, -, -⟩ := own_formN hown' hnn
            have SN := Lib.hid (SF.out.app hgrow hown')
            have hokN : okT (T ++ [(z1, (-1 - (m : Int)))]) := okT_snoc hokT hz1 (by omega)
            clear hown' hgrow hiff hnn hown1 SF AF
            go_wp2_with fail
            go_roundg g'
            case measure => omega
            case rel => exact ⟨g2, cap2, n - 1, _, T ++ [(z1, (-1 - (m : Int)))], by omega, by simp; omega, hokN, by simp, by show Value.int _ _ = _; congr 1; omega, by simp; omega, SN.out⟩
        · skip
          replace SF := Lib.hid (SF.out.set AF.out 0 (.int .i32 65533))
          replace AF := Lib.hid (AF.out.set0 65533)
          go_wp2_with fail
          refine (pick_any _ w.heap.size _ _ 40 SF.out.rd SF.out.by_ (by omega) (by omega) (by omega)).mono ?_
          rintro e w5 ⟨k2, hk2, rfl, hR, hg⟩
          replace SF := Lib.hid (SF.out.next hg hR)
          replace AF := Lib.hid (AF.out.next hg)
          clear hR hg
          obtain ⟨ce0, ce1, fe0, fe1⟩ := AF.out.cells
          by_cases h40 : k2 = 0
          · subst h40
            have hlt5 := SF.out.rd.lt
            have L3 := Lib.hid (list3 w5)
            replace SF := Lib.hid (SF.out.alloc (.cells #[.int .i32 55296, .int .i32 1114112, .int .i32 2147483647] 21))
            replace AF := Lib.hid (AF.out.alloc (.cells #[.int .i32 55296, .int .i32 1114112, .int .i32 2147483647] 21))
            clear ce0 ce1 fe0 fe1
            go_wp2_with fail
            refine (pick_any _ w.heap.size _ _ 3 SF.out.rd SF.out.by_ (by omega) (by omega) (by omega)).mono ?_
            rintro e w6 ⟨m2, hm2, rfl, hR, hg⟩
            obtain ⟨zz, hza, hzb, hcz⟩ := L3.out m2 (by omega)
            have hcz' := hg.cell hcz (by simp; omega)
            replace SF := Lib.hid (SF.out.next hg hR)
            replace AF := Lib.hid (AF.out.next hg)
            clear hR hg hcz L3
            obtain ⟨ce0, ce1, fe0, fe1⟩ := AF.out.cells
            replace SF := Lib.hid (SF.out.set AF.out 1 (.int .i32 zz))
            replace AF := Lib.hid (AF.out.set1 zz)
            have hzz : -2147483648 ≤ zz ∧ zz ≤ 2147483647 := ⟨hza, hzb⟩
            obtain ⟨da0, da1, db0, db1⟩ := AF.out.cells
            have hown1 := SF.out.own.alloc (.cells #[.int .i32 65533, .int .i32 zz] 41)
            have hT4 : T.length ≤ 4 := by omega
            have hlt6 := SF.out.rd.lt
            go_wp2_with (at_builtin; refine wpList_append_own _ rfl _ _ 26 rfl (w.heap.size + 1) 41 i0 (.agg #[.int .i32 0, .int .i32 0]) 2 8 Tryd.underlying26 hi hz0 hz1' hz2' rfl (by decide) _ _ _ rfl hown1 ⟨w6.heap.size, 0, none⟩ 1 1 [.int .i32 65533, .int .i32 zz] rfl rfl (cell_pairS w6 _ _ _ _ _) (by intro u hu; simp at hu; rcases hu with rfl | rfl <;> rfl) (by unfold maxLen; omega) (by omega) (by rw [asize]; omega) ?_)
            intro v' w7 hown' hgrow hiff
            have hnn : v' ≠ .slice none 0 0 := hiff
            obtain ⟨g2, cap2, rfl, -, -⟩ := own_formN hown' hnn
            have SN := Lib.hid (SF.out.app hgrow hown')
            have hokN : okT (T ++ [(65533, zz)]) := okT_snoc hokT (by omega) hzz
            clear hown' hgrow hiff hnn hown1 SF AF
            go_wp2_with fail
            go_roundg g'
            case measure => omega
            case rel => exact ⟨g2, cap2, n - 1, _, T ++ [(65533, zz)], by omega, by simp; omega, hokN, by simp, by show Value.int _ _ = _; congr 1; omega, by simp; omega, SN.out⟩
          · have h40b : ((k2 : Int) == 0) = false := by rw [beq_eq_false_iff_ne]; omega
            have hown1 := SF.out.own.alloc (.cells #[.int .i32 65533, .int .i32 z2] 41)
            have hT4 : T.length ≤ 4 := by omega
            have hlt6 := SF.out.rd.lt
            go_wp2_with (at_builtin; refine wpList_append_own _ rfl _ _ 26 rfl (w.heap.size + 1) 41 i0 (.agg #[.int .i32 0, .int .i32 0]) 2 8 Tryd.underlying26 hi hz0 hz1' hz2' rfl (by decide) _ _ _ rfl hown1 ⟨w5.heap.size, 0, none⟩ 1 1 [.int .i32 65533, .int .i32 z2] rfl rfl (cell_pair w5 _ _ _) (by intro u hu; simp at hu; rcases hu with rfl | rfl <;> rfl) (by unfold maxLen; omega) (by omega) (by rw [asize]; omega) ?_)
            intro v' w7 hown' hgrow hiff
            have hnn : v' ≠ .slice none 0 0 := hiff
            obtain ⟨g2, cap2, rfl, -, -⟩ := own_formN hown' hnn
            have SN := Lib.hid (SF.out.app hgrow hown')
            have hokN : okT (T ++ [(65533, z2)]) := okT_snoc hokT (by omega) hz2
            clear hown' hgrow hiff hnn hown1 SF AF
            go_wp2_with fail
            go_roundg g'
            case measure => omega
            case rel => exact ⟨g2, cap2, n - 1, _, T ++ [(65533, z2)], by omega, by simp; omega, hokN, by simp, by show Value.int _ _ = _; congr 1; omega, by simp; omega, SN.out⟩
        · have hk0 : ((k : Int) == 0) = false := by rw [beq_eq_false_iff_ne]; omega
          have hk1 : ((k : Int) == 1) = false := by rw [beq_eq_false_iff_ne]; omega
          go_wp2_with fail
          refine (pick_any _ w.heap.size _ _ 40 SF.out.rd SF.out.by_ (by omega) (by omega) (by omega)).mono ?_
          rintro e w5 ⟨k2, hk2, rfl, hR, hg⟩
          replace SF := Lib.hid (SF.out.next hg hR)
          replace AF := Lib.hid (AF.out.next hg)
          clear hR hg
          obtain ⟨ce0, ce1, fe0, fe1⟩ := AF.out.cells
          by_cases h40 : k2 = 0
          · subst h40
            have hlt5 := SF.out.rd.lt
            have L3 := Lib.hid (list3 w5)
            replace SF := Lib.hid (SF.out.alloc (.cells #[.int .i32 55296, .int .i32 1114112, .int .i32 2147483647] 21))
            replace AF := Lib.hid (AF.out.alloc (.cells #[.int .i32 55296, .int .i32 1114112, .int .i32 2147483647] 21))
            clear ce0 ce1 fe0 fe1
            go_wp2_with fail
            refine (pick_any _ w.heap.size _ _ 3 SF.out.rd SF.out.by_ (by omega) (by omega) (by omega)).mono ?_
            rintro e w6 ⟨m2, hm2, rfl, hR, hg⟩
            obtain ⟨zz, hza, hzb, hcz⟩ := L3.out m2 (by omega)
            have hcz' := hg.cell hcz (by simp; omega)
            replace SF := Lib.hid (SF.out.next hg hR)
            replace AF := Lib.hid (AF.out.next hg)
            clear hR hg hcz L3
            obtain ⟨ce0, ce1, fe0, fe1⟩ := AF.out.cells
            replace SF := Lib.hid (SF.out.set AF.out 1 (.int .i32 zz))
            replace AF := Lib.hid (AF.out.set1 zz)
            have hzz : -2147483648 ≤ zz ∧ zz ≤ 2147483647 := ⟨hza, hzb⟩
            obtain ⟨da0, da1, db0, db1⟩ := AF.out.cells
            have hown1 := SF.out.own.alloc (.cells #[.int .i32 z1, .int .i32 zz] 41)
            have hT4 : T.length ≤ 4 := by omega
            have hlt6 := SF.out.rd.lt
            go_wp2_with (at_builtin; refine wpList_append_own _ rfl _ _ 26 rfl (w.heap.size + 1) 41 i0 (.agg #[.int .i32 0, .int .i32 0]) 2 8 Tryd.underlying26 hi hz0 hz1' hz2' rfl (by decide) _ _ _ rfl hown1 ⟨w6.heap.size, 0, none⟩ 1 1 [.int .i32 z1, .int .i32 zz] rfl rfl (cell_pairS w6 _ _ _ _ _) (by intro u hu; simp at hu; rcases hu with rfl | rfl <;> rfl) (by unfold maxLen; omega) (by omega) (by rw [asize]; omega) ?_)
            intro v' w7 hown' hgrow hiff
            have hnn : v' ≠ .slice none 0 0 := hiff
            obtain ⟨g2, cap2, rfl, -, -⟩ := own_formN hown' hnn
            have SN := Lib.hid (SF.out.app hgrow hown')
            have hokN : okT (T ++ [(z1, zz)]) := okT_snoc hokT hz1 hzz
            clear hown' hgrow hiff hnn hown1 SF AF
            go_wp2_with fail
            go_roundg g'
            case measure => omega
            case rel => exact ⟨g2, cap2, n - 1, _, T ++ [(z1, zz)], by omega, by simp; omega, hokN, by simp, by show Value.int _ _ = _; congr 1; omega, by simp; omega, SN.out⟩
          · have h40b : ((k2 : Int) == 0) = false := by rw [beq_eq_false_iff_ne]; omega
            have hown1 := SF.out.own.alloc (.cells #[.int .i32 z1, .int .i32 z2] 41)
            have hT4 : T.length ≤ 4 := by omega
            have hlt6 := SF.out.rd.lt
            go_wp2_with (at_builtin; refine wpList_append_own _ rfl _ _ 26 rfl (w.heap.size + 1) 41 i0 (.agg #[.int .i32 0, .int .i32 0]) 2 8 Tryd.underlying26 hi hz0 hz1' hz2' rfl (by decide) _ _ _ rfl hown1 ⟨w5.heap.size, 0, none⟩ 1 1 [.int .i32 z1, .int .i32 z2] rfl rfl (cell_pair w5 _ _ _) (by intro u hu; simp at hu; rcases hu with rfl | rfl <;> rfl) (by unfold maxLen; omega) (by omega) (by rw [asize]; omega) ?_)
            intro v' w7 hown' hgrow hiff
            have hnn : v' ≠ .slice none 0 0 := hiff
            obtain ⟨g2, cap2, rfl, -, -⟩ := own_formN hown' hnn
            have SN := Lib.hid (SF.out.app hgrow hown')
            have hokN : okT (T ++ [(z1, z2)]) := okT_snoc hokT hz1 hz2
            clear hown' hgrow hiff hnn hown1 SF AF
            go_wp2_with fail
            go_roundg g'
            case measure => omega
            case rel => exact ⟨g2, cap2, n - 1, _, T ++ [(z1, z2)], by omega, by simp; omega, hokN, by simp, by show Value.int _ _ = _; congr 1; omega, by simp; omega, SN.out⟩
    · have hn0z : ¬ (0 : Int) < (n : Int) := by omega
      have hqq : q ≤ 900 := by omega
      go_wp2_with fail
      refine (pick_any _ w.heap.size _ _ 4 S2.out.rd S2.out.by_ (by omega) (by omega) (by omega)).mono ?_
      rintro e w3 ⟨k, hk, rfl, hR, hg⟩
      replace S2 := Lib.hid (S2.out.next hg hR)
      clear hR hg
      have hlt3 := S2.out.rd.lt
      have L4 := Lib.hid (list4 w3)
      replace S2 := Lib.hid (S2.out.alloc (.cells #[.int .i32 (-1), .int .i32 120, .int .i32 45, .int .i32 8364] 21))
      go_wp2_with fail
      refine (pick_any _ w.heap.size _ _ 4 S2.out.rd S2.out.by_ (by omega) (by omega) (by omega)).mono ?_
      rintro e w4 ⟨m, hm, rfl, hR, hg⟩
      obtain ⟨zz, hza, hzb, hcz⟩ := L4.out m (by omega)
      have hcz' := hg.cell hcz (by simp; omega)
      replace S2 := Lib.hid (S2.out.next hg hR)
      clear hR hg hcz L4
      go_wp2_with fail
      refine (raw_any w4 a len cap (HC.out.later2 S2.out.gr)).mono ?_
      rintro e w' ⟨bo, hbo, rfl, rfl⟩
      rcases (by cases bo; exact .inl rfl; exact .inr rfl : bo = false ∨ bo = true) with rfl | rfl
      · go_wp2_with fail
        refine (text_any _ w.heap.size _ _ 14 S2.out.rd S2.out.by_ (by omega) (by omega)).mono ?_
        rintro e w5 ⟨s, p, hs, rfl, -, hg⟩
        have RF := Lib.hid (rules_of_own (S2.out.own.kept hg (.inr (by simp [Value.ownBlock]; exact S2.out.gt_ne))))
        have GF := Lib.hid (gsome (gtrans S2.out.gr hg) (Nat.le_refl _))
        clear hg S2 HC
        go_wp2_with fail
        (try simp only [Exit.inBlock, Exit.then])
        refine bodyPost_ret (results_tmp4 rfl _ _ _) rfl ?_
        exact ⟨_, T, _, zz, s, by omega, hokT, hza, hzb, by omega, rfl, RF.out, GF.out⟩
      · have hl2 := hbo rfl
        rcases HC.out.later2 S2.out.gr with ⟨a', cap', e⟩ | ⟨b, off, len', cap', e, q1, q2, q3, q4⟩
        · cases e
          omega
        · cases e
          obtain ⟨l, hll, hlc2⟩ := code_list q4
          have P1 := fun q : Nat => part_string (w := w4.drewN q) l hll hlc2 1 (len - 1) (cap - 1) (by omega)
          have hne : cap ≠ 1 := by omega
          have z1 : (1 : Int) ≤ (len : Int) := by omega
          have z2 : (len : Int) ≤ (cap : Int) := by omega
          have s1 : ((l.drop 1).take (len - 1)).length ≤ len := by rw [List.length_take, List.length_drop]; omega
          generalize (l.drop 1).take (len - 1) = l1 at *
          have RF := Lib.hid fun q : Nat => (rules_of_own S2.out.own).kept (gdrewN (grefl w4 none) q)
          have GF := Lib.hid fun q : Nat => gdrewN (gsome S2.out.gr (Nat.le_refl _)) q
          clear q4 hbo hlc2 hll S2 HC
          go_wp2_with fail
          go_quiet (fail)
          go_wp2
          (try simp only [Exit.inBlock, Exit.then])
          refine bodyPost_ret (results_tmp4 rfl _ _ _) rfl ?_
          exact ⟨_, T, _, zz, ⟨l1.toArray⟩, by omega, hokT, hza, hzb, by show l1.toArray.size ≤ _; rw [List.size_toArray]; omega, rfl, RF.out _, GF.out _⟩
end Go.Proofs.YtdibpklbkcmhiaaDoor
