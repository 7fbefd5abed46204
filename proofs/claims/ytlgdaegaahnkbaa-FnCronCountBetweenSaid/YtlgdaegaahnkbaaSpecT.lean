/- Several activations, one after the other: NextMany over UTC, by hand (printed by gen_st.py). -/
import Derived.Test.YtlgdaegaahnkbaaSpecS
namespace Go.Proofs.Ytlgdaegaahnkbaa.Tm
open Go Go.RowKit Cal MC
open Go.Proofs.YtlgdaegaahnkbaaW.PrintWords Go.Proofs.YtlgdaegaahnkbaaW.PrintLast Go.Proofs.YtlgdaegaahnkbaaW.PrintMore
set_option linter.unusedVariables false
set_option linter.unusedSimpArgs false
theorem region_split' {σ : Type} {P : Program} {id : Nat} {ops : Array Oper} {dr : Bool} {Q : Exit → Act → World → Prop} {a : Act} {w : World} (ns : σ → List (Tmp × Value)) (F : σ → World → Prop)
    (h1 : (Code.region id ops dr).wp P (Only fun a' w' => ∃ g, a' = putAll a (ns g) ∧ F g w') a w) (h2 : ∀ g w', F g w' → Q .normal (putAll a (ns g)) w') : (Code.region id ops dr).wp P Q a w :=
  Code.wp_mono (fun e a' w' h => by
    obtain ⟨rfl, g, rfl, hf⟩ := h
    exact h2 g w' hf) h1
theorem alloc70 (ev : Operand → Value) (o : Oper) (ho : o.op = .alloc 70) (w : World) : (execOp ev o).run Try.prog w = .ok (.value (.pointer (some ⟨w.heap.size, 0, none⟩))) (w.alloc (.cells #[.int .u64 0, .int .i64 0, .pointer none] 70)) := by
  have hu70 := Try.underlying70
  unfold execOp
  simp only [ho]
  go_simp
theorem size70 : (Try.prog.info? 70).map (·.size) = some 3 := by kernel_rfl
theorem one70 (a b : Int) : (#[Value.int .u64 a, Value.int .i64 b, Value.pointer none]).all (·.oneCell') = true := by simp [Value.oneCell']
theorem moveS {w w1 : World} {q : Nat} {b : SB} (hb : Below w.heap.size w w1) (h : SAt w q b) : SAt w1 q b := h.below hb
theorem moveU {w w1 : World} {l : Nat} {v : Value} (hb : Below w.heap.size w w1) (h : w.cell? ⟨l, 0, none⟩ = some v) : w1.cell? ⟨l, 0, none⟩ = some v := cell_below hb h
theorem moveRow {w w1 : World} {q g t : Nat} {b : SB} {c : Array Value} {l : List (Nat × Array Value × Nat)} (h : SAt w1 q b) (hA : Blk w ((g, c, t) :: l) w1) (c' : Array Value) (ht : t ≠ 111 := by decide) : SAt (w1.setRow g c') q b := by
  refine (setRow_other w1 g q c' ?_).trans h
  rintro rfl
  have e := (hA.get 0 rfl).symm.trans h
  injection e with e
  injection e with e1 e2 e3
  exact ht e2
theorem Blk.head {w w1 : World} {p : Nat × Array Value × Nat} {l : List (Nat × Array Value × Nat)} (h : Blk w (p :: l) w1) : Blk w [p] w1 := by
  refine ⟨fun q hq => h.lie q ?_, fun q hq => h.own q ?_, by simp, h.B⟩
  · rw [List.mem_singleton] at hq; rw [hq]; exact List.mem_cons_self
  · rw [List.mem_singleton] at hq; rw [hq]; exact List.mem_cons_self
theorem Blk.grown {w W w1 : World} {g t e size n : Nat} {c : Array Value} {v : Value} {xs : List Value} {base : Nat} (h : Blk w [(g, c, t)] W) (ho : W.ownsRow base e size v n xs) (hne : e ≠ t) (hg : W.grownBy w1 v.ownBlock) (hb : Below w.heap.size w w1) : Blk w [(g, c, t)] w1 := by
  refine ⟨fun p hp => ?_, h.own, h.nod, hb⟩
  rw [List.mem_singleton] at hp
  subst hp
  exact blk_grown (h.get 0 rfl) hg (own_ne ho (h.get 0 rfl) hne)
theorem SAt.grown {W w1 : World} {q e size n base : Nat} {b : SB} {v : Value} {xs : List Value} (h : SAt W q b) (ho : W.ownsRow base e size v n xs) (hne : e ≠ 111) (hg : W.grownBy w1 v.ownBlock) : SAt w1 q b := blk_grown h hg (own_ne ho h hne)
/-- The activations one after the other, up to k. -/
noncomputable def nexts (b : SB) : Nat → Int → List Int
  | 0, _ => []
  | k + 1, x => match NX b x with
    | none => []
    | some y => y :: nexts b k y
/-- Each instant that is asked is in the years. -/
def Asked (b : SB) : Nat → Int → Prop
  | 0, _ => True
  | k + 1, x => x ≤ 253402300799 ∧ ∀ y, NX b x = some y → Asked b k y
theorem nexts_none {b : SB} {x : Int} (h : NX b x = none) (k : Nat) : nexts b k x = [] := by
  cases k with
  | zero => rfl
  | succ k => unfold nexts; rw [h]
theorem nexts_some {b : SB} {x y : Int} (h : NX b x = some y) (k : Nat) : nexts b (k + 1) x = y :: nexts b k y := by
  rw [nexts, h]
/-- The cells of a list of whole instants. -/
def rowsI (ys : List Int) : List Value := ys.flatMap fun y => [.int .i64 y, .int .i64 0]
theorem rowsI_snoc (ys : List Int) (y : Int) : rowsI (ys ++ [y]) = rowsI ys ++ [.int .i64 y, .int .i64 0] := by simp [rowsI]
theorem info26 : (Try.prog.info? 26).map (fun i => (i.zero, i.size, i.bytes)) = some (some (.agg #[.int .i64 0, .int .i64 0]), 2, 16) := by kernel_rfl
theorem under58 : Try.prog.underlying 58 = some (.slice 26) := by kernel_rfl
theorem enterL_ {P : Program} {ops : Array Oper} {Q : Exit → Act → World → Prop} {rest : List Oper} {oi : Oper} {a : Act} {w : World} (N : Option Tmp) (hd : oi.dst = N) (hg : oi.guard = none) (f : FuncId) (args : Array Value) (hrun : (execOp a.eval oi).run P w = .ok (.enter f args) w)
    (h : Calls P f args w fun e w' => ∃ v, e = .returned v ∧ wpList P ops Q rest (a.put N v) w') : wpList P ops Q (oi :: rest) a w := by
  refine wpList_plain hg fun K hK => ?_
  unfold Oper.wp
  rw [hrun, Oper.upon_enter]
  refine h.mono fun e w'' hh => ?_
  obtain ⟨v, rfl, hk⟩ := hh
  subst hd
  exact hK _ _ hk
theorem next_c (q : Nat) (b : SB) (m x : Int) (w : World) (h0 : 0 ≤ m) (h1 : m < 1000000000) (hs : SAt w q b) (hw : Wf b) (x0 : -62135596800 ≤ x) (x1 : x ≤ 253402300799) :
    Calls Try.prog 116 #[.pointer (some ⟨q, 0, none⟩), .agg #[.int .u64 m, .int .i64 (sec x), .pointer none]] w fun e w' => e = .returned (nv (NX b x)) ∧ Below w.heap.size w w' :=
  (next_any q b m x w h0 h1 hs hw x0 x1).mono fun e w' h => by
    obtain ⟨⟨r, hr, he⟩, hb⟩ := h
    rw [show NX b x = r from nx_eq hr]
    exact ⟨he, hb⟩
/-- The activations' slice. -/
def ManyPost (b : SB) (x : Int) (N : Nat) (W : World) (e : Ending) (w' : World) : Prop := ∃ v, e = .returned v ∧ w'.ownsRow W.heap.size 26 2 v (nexts b N x).length (rowsI (nexts b N x)) ∧ Below W.heap.size W w'
theorem meas_many {N a k : Nat} (h : N - a ≤ k) (h1 : a < N) : N - (a + 1) < k := by omega
theorem ownRow {w w1 : World} {g tt base e size n : Nat} {c : Array Value} {v : Value} {xs : List Value} {l : List (Nat × Array Value × Nat)} (h : w1.ownsRow base e size v n xs) (hA : Blk w ((g, c, tt) :: l) w1) (c' : Array Value) (hne : e ≠ tt := by decide) : (w1.setRow g c').ownsRow base e size v n xs := by
  have hn := own_ne h (hA.get 0 rfl) hne
  refine ⟨h.1, h.2.imp id fun hh => ?_⟩
  obtain ⟨k, cap, cur, rfl, h1, h2, h3⟩ := hh
  exact ⟨k, cap, cur, rfl, h1, (setRow_other w1 g k c' (fun e => hn (by rw [e]; rfl))).trans h2, h3⟩
set_option maxHeartbeats 1500000 in
set_option maxRecDepth 100000 in
theorem many_any (b : SB) (dl x nn : Int) (N : Nat) (w : World) (hw : Wf b) (x0 : -62135596800 ≤ x) (x1 : x ≤ 253402300799) (n0 : 0 ≤ nn) (n1 : nn < 1000000000) (hN : N ≤ 1000) (ha : Asked b N x) :
    Calls Try.prog 25 #[.agg #[.bool false, .int .i64 dl, .int .u64 (b.s : Int), .int .u64 (b.i : Int), .int .u64 (b.h : Int), .int .u64 (b.d : Int), .int .u64 (b.m : Int), .int .u64 (b.w : Int)], .agg #[.int .i64 x, .int .i64 nn], .agg #[.slice none 0 0, .slice none 0 0, .slice none 0 0, .slice none 0 0], .int .i64 (N : Int)] w (ManyPost b x N w) := by
  have HAS := Aside0.mk ha
  have HNN := Aside0.mk hN
  clear ha hN
  have HW := Aside0.mk hw
  have HX := Aside0.mk (And.intro x0 (And.intro x1 (And.intro n0 n1)))
  have HXD := Aside0.mk (show Dom x from ⟨x0, by omega⟩)
  have hI : Aside0 (Blk w [(w.heap.size + 1 + 1, #[.slice none 0 0, .slice none 0 0, .slice none 0 0, .slice none 0 0], 40), (w.heap.size + 1, #[.int .i64 x, .int .i64 nn], 26), (w.heap.size, #[.bool false, .int .i64 dl, .int .u64 (b.s : Int), .int .u64 (b.i : Int), .int .u64 (b.h : Int), .int .u64 (b.d : Int), .int .u64 (b.m : Int), .int .u64 (b.w : Int)], 24)] (((w.alloc (.cells #[.bool false, .int .i64 dl, .int .u64 (b.s : Int), .int .u64 (b.i : Int), .int .u64 (b.h : Int), .int .u64 (b.d : Int), .int .u64 (b.m : Int), .int .u64 (b.w : Int)] 24)).alloc (.cells #[.int .i64 x, .int .i64 nn] 26)).alloc (.cells #[.slice none 0 0, .slice none 0 0, .slice none 0 0, .slice none 0 0] 40))) := ⟨by
    have := ((((Blk.nil w).alloc #[.bool false, .int .i64 dl, .int .u64 (b.s : Int), .int .u64 (b.i : Int), .int .u64 (b.h : Int), .int .u64 (b.d : Int), .int .u64 (b.m : Int), .int .u64 (b.w : Int)] 24).alloc #[.int .i64 x, .int .i64 nn] 26).alloc #[.slice none 0 0, .slice none 0 0, .slice none 0 0, .slice none 0 0] 40)
    simpa only [World.size_alloc] using this⟩
  clear hw x0 x1 n0 n1
  go_enter Try.func25, Try.ntmps25
  go_wp2_with fail
  refine region_split' (fun s : Nat × Nat × Nat => [(14, .agg #[.bool false, .int .i64 dl, .int .u64 (b.s : Int), .int .u64 (b.i : Int), .int .u64 (b.h : Int), .int .u64 (b.d : Int), .int .u64 (b.m : Int), .int .u64 (b.w : Int)]), (16, .agg #[.int .i64 x, .int .i64 nn]), (17, .agg #[.slice none 0 0, .slice none 0 0, .slice none 0 0, .slice none 0 0]), (15, .iface 109 (.pointer (some ⟨s.2.1, 0, none⟩))), (18, .pointer (some ⟨s.2.2, 0, none⟩)), (19, .agg #[.int .u64 nn, .int .i64 (sec x), .pointer none]), (11, .pointer (some ⟨s.1, 0, none⟩)), (10, .iface 109 (.pointer (some ⟨s.2.1, 0, none⟩)))]) (fun s w' => Blk w ((s.1, #[.int .u64 nn, .int .i64 (sec x), .pointer none], 70) :: [(w.heap.size + 1 + 1, #[.slice none 0 0, .slice none 0 0, .slice none 0 0, .slice none 0 0], 40), (w.heap.size + 1, #[.int .i64 x, .int .i64 nn], 26), (w.heap.size, #[.bool false, .int .i64 dl, .int .u64 (b.s : Int), .int .u64 (b.i : Int), .int .u64 (b.h : Int), .int .u64 (b.d : Int), .int .u64 (b.m : Int), .int .u64 (b.w : Int)], 24)]) w' ∧ SAt w' s.2.1 b) ?_ ?_
  · refine start_ (n := 9) (S := Blk w [(w.heap.size + 1 + 1, #[.slice none 0 0, .slice none 0 0, .slice none 0 0, .slice none 0 0], 40), (w.heap.size + 1, #[.int .i64 x, .int .i64 nn], 26), (w.heap.size, #[.bool false, .int .i64 dl, .int .u64 (b.s : Int), .int .u64 (b.i : Int), .int .u64 (b.h : Int), .int .u64 (b.d : Int), .int .u64 (b.m : Int), .int .u64 (b.w : Int)], 24)]) (ds := [8]) #[false, false, false, false, false, false, false, false, false] (by kernel_rfl) rfl rfl (hI.out.drew) (fun hHeld => ?_)
    have hI2 := Aside0.mk hI.out.drew
    clear hI
    have hI := hI2
    clear hI2
    generalize hwd : World.drew _ = wdr at hI hHeld ⊢
    clear hwd
    refine take_ (i := 0) (N := (some 14)) (v := ?_) (a' := ?_) #[true, false, false, false, false, false, false, false, false] rfl rfl (by kernel_rfl) (fun _ _ _ => only_shut) (Or.inl ⟨by rfl, ?_⟩) hHeld ?_ ?_
    rotate_left
    · intro w' hS
      refine exec_load_row 24 (.tmp 4) ?_ w.heap.size ?_ 24 _ _ (hS.get 2 rfl) Try.underlying24 rfl size24
      · rfl
      · rfl
    rotate_left
    · simp only [Act.put, List.setIfInBounds_toArray, List.set_cons_zero, List.set_cons_succ, i64_w, i32_w]
      rfl
    refine take_ (i := 2) (N := (some 16)) (v := ?_) (a' := ?_) #[true, false, true, false, false, false, false, false, false] rfl rfl (by kernel_rfl) (fun _ _ _ => only_shut) (Or.inl ⟨by rfl, ?_⟩) hHeld ?_ ?_
    rotate_left
    · intro w' hS
      refine exec_load_row 26 (.tmp 5) ?_ (w.heap.size + 1) ?_ 26 _ _ (hS.get 1 rfl) Try.underlying26 rfl size26
      · rfl
      · rfl
    rotate_left
    · simp only [Act.put, List.setIfInBounds_toArray, List.set_cons_zero, List.set_cons_succ, i64_w, i32_w]
      rfl
    refine take_ (i := 3) (N := (some 17)) (v := ?_) (a' := ?_) #[true, false, true, true, false, false, false, false, false] rfl rfl (by kernel_rfl) (fun _ _ _ => only_shut) (Or.inl ⟨by rfl, ?_⟩) hHeld ?_ ?_
    rotate_left
    · intro w' hS
      refine exec_load_row 40 (.tmp 6) ?_ (w.heap.size + 1 + 1) ?_ 40 _ _ (hS.get 0 rfl) Try.underlying40 rfl size40
      · rfl
      · rfl
    rotate_left
    · simp only [Act.put, List.setIfInBounds_toArray, List.set_cons_zero, List.set_cons_succ, i64_w, i32_w]
      rfl
    refine two_ (i := 1) (j := 6) (Ni := (some 15)) (Nj := (some 11)) #[true, true, true, true, false, false, false, false, false] #[true, false, true, true, false, false, true, false, false] rfl rfl rfl rfl (by kernel_rfl) (by decide) (by decide) (fun K hK => ?_) (fun K hK => ?_)
    · refine goes_ Try.func34 (by kernel_rfl) rfl #[.agg #[.bool false, .int .i64 dl, .int .u64 (b.s : Int), .int .u64 (b.i : Int), .int .u64 (b.h : Int), .int .u64 (b.d : Int), .int .u64 (b.m : Int), .int .u64 (b.w : Int)], .pointer none] (by rfl) rfl rfl (by (try simp only [List.map_toArray, List.map_cons, List.map_nil]); first | done | rfl) ?_
      refine (schedule_any b dl _).mono ?_
      rintro e wc1 ⟨q, rfl, hs, hb⟩
      refine ⟨_, rfl, ?_⟩
      have HS := Aside0.mk hs
      clear hs
      have hI2 := Aside0.mk (hI.out.below hb)
      clear hI hb
      have hI := hI2
      clear hI2
      refine hK.out _ _ (hI.out) (fun hHeld => ?_)
      clear hK K
      refine norm_ (a' := ?_) ?_ ?_
      rotate_left
      · show Act.put _ (some 15) _ = _
        simp only [Act.put, List.setIfInBounds_toArray, List.set_cons_zero, List.set_cons_succ, i64_w, i32_w]
        rfl
      refine two_ (i := 4) (j := 6) (Ni := (some 18)) (Nj := (some 11)) #[true, true, true, true, true, false, false, false, false] #[true, true, true, true, false, false, true, false, false] rfl rfl rfl rfl (by kernel_rfl) (by decide) (by decide) (fun K hK => ?_) (fun K hK => ?_)
      · refine goes_ Try.func36 (by kernel_rfl) rfl #[.agg #[.slice none 0 0, .slice none 0 0, .slice none 0 0, .slice none 0 0]] (by rfl) rfl rfl (by (try simp only [List.map_toArray, List.map_cons, List.map_nil]); first | done | rfl) ?_
        refine (locate_any _).mono ?_
        rintro e wc4 ⟨l, rfl, hu, hb⟩
        refine ⟨_, rfl, ?_⟩
        have HS2 := Aside0.mk (moveS hb HS.out)
        clear HS
        have HS := HS2
        clear HS2
        have HU := Aside0.mk hu.1.utc
        clear hu
        have hI2 := Aside0.mk (hI.out.below hb)
        clear hI hb
        have hI := hI2
        clear hI2
        refine hK.out _ _ (hI.out) (fun hHeld => ?_)
        clear hK K
        refine norm_ (a' := ?_) ?_ ?_
        rotate_left
        · show Act.put _ (some 18) _ = _
          simp only [Act.put, List.setIfInBounds_toArray, List.set_cons_zero, List.set_cons_succ, i64_w, i32_w]
          rfl
        refine two_ (i := 5) (j := 6) (Ni := (some 19)) (Nj := (some 11)) #[true, true, true, true, true, true, false, false, false] #[true, true, true, true, true, false, true, false, false] rfl rfl rfl rfl (by kernel_rfl) (by decide) (by decide) (fun K hK => ?_) (fun K hK => ?_)
        · refine goes_ Try.func35 (by kernel_rfl) rfl #[.agg #[.int .i64 x, .int .i64 nn], .pointer (some ⟨l, 0, none⟩)] (by rfl) rfl rfl (by (try simp only [List.map_toArray, List.map_cons, List.map_nil]); first | done | rfl) ?_
          refine (moment_any x nn l _ HX.out.2.2.1 HX.out.2.2.2 HXD.out HU.out).mono ?_
          rintro e wc5 ⟨rfl, hb⟩
          refine ⟨_, rfl, ?_⟩
          have HS2 := Aside0.mk (moveS hb HS.out)
          clear HS
          have HS := HS2
          clear HS2
          have HU2 := Aside0.mk (moveU hb HU.out)
          clear HU
          have HU := HU2
          clear HU2
          have hI2 := Aside0.mk (hI.out.below hb)
          clear hI hb
          have hI := hI2
          clear hI2
          refine hK.out _ _ (hI.out) (fun hHeld => ?_)
          clear hK K
          refine norm_ (a' := ?_) ?_ ?_
          rotate_left
          · show Act.put _ (some 19) _ = _
            simp only [Act.put, List.setIfInBounds_toArray, List.set_cons_zero, List.set_cons_succ, i64_w, i32_w]
            rfl
          refine one_ (i := 6) (N := (some 11)) #[true, true, true, true, true, true, true, false, false] rfl rfl (by kernel_rfl) (by decide) (fun K hK => ?_)
          refine value_ (by rfl) rfl (alloc70 _ _ rfl _) ?_
          have HS2 := Aside0.mk (moveS ((Below.refl wc5.heap.size wc5).alloc (Nat.le_refl _) (.cells #[.int .u64 0, .int .i64 0, .pointer none] 70)) HS.out)
          clear HS
          have HS := HS2
          clear HS2
          have HU2 := Aside0.mk (moveU ((Below.refl wc5.heap.size wc5).alloc (Nat.le_refl _) (.cells #[.int .u64 0, .int .i64 0, .pointer none] 70)) HU.out)
          clear HU
          have HU := HU2
          clear HU2
          have hA := Aside0.mk (hI.out.alloc #[.int .u64 0, .int .i64 0, .pointer none] 70)
          clear hI
          generalize hga : World.alloc _ _ = wa at hA HS HU ⊢
          clear hga
          generalize hgb : wc5.heap.size = g at hA ⊢
          clear hgb
          refine hK.out _ _ (hA.out.tail) (fun hHeld => ?_)
          clear hK K
          refine norm_ (a' := ?_) ?_ ?_
          rotate_left
          · show Act.put _ (some 11) _ = _
            simp only [Act.put, List.setIfInBounds_toArray, List.set_cons_zero, List.set_cons_succ, i64_w, i32_w]
            rfl
          refine pure_ (i := 7) (N := (some 10)) (v := ?_) (a' := ?_) #[true, true, true, true, true, true, true, true, false] rfl rfl (by kernel_rfl) (fun _ _ _ => only_shut) (Or.inl ⟨by rfl, ?_⟩) ?_ ?_
          rotate_left
          · intro w'
            go_simp
            with_reducible rfl
          rotate_left
          · simp only [Act.put, List.setIfInBounds_toArray, List.set_cons_zero, List.set_cons_succ, i64_w, i32_w]
            rfl
          refine last_ (i := 8) (N := none) #[true, true, true, true, true, true, true, true, true] rfl rfl (by kernel_rfl) (by decide) (fun K hK => ?_)
          refine skip_ (by rfl) rfl (exec_store_row 70 (.tmp 11) (.tmp 19) rfl g #[.int .u64 nn, .int .i64 (sec x), .pointer none] rfl rfl 70 _ (hA.out.get 0 rfl) size70 (sz3 _ _ _ _ _ _) (one70 _ _)) ?_
          have HS2 := Aside0.mk (moveRow HS.out hA.out #[.int .u64 nn, .int .i64 (sec x), .pointer none])
          have hA2 := Aside0.mk (hA.out.row #[.int .u64 nn, .int .i64 (sec x), .pointer none])
          clear hA HS
          have hA := hA2
          have HS := HS2
          clear hA2 HS2
          generalize hgs : World.setRow _ _ _ = ws at hA HS ⊢
          clear hgs
          refine hK.out _ _ ?_
          clear hK K
          refine done_ (by kernel_rfl) ?_
          refine ⟨rfl, (g, q, l), ?_, hA.out, HS.out⟩
          simp only [putAll, Act.put, List.setIfInBounds_toArray, List.set_cons_zero, List.set_cons_succ]
        · refine value_ (by rfl) rfl (alloc70 _ _ rfl _) ?_
          have HS2 := Aside0.mk (moveS ((Below.refl wc4.heap.size wc4).alloc (Nat.le_refl _) (.cells #[.int .u64 0, .int .i64 0, .pointer none] 70)) HS.out)
          clear HS
          have HS := HS2
          clear HS2
          have HU2 := Aside0.mk (moveU ((Below.refl wc4.heap.size wc4).alloc (Nat.le_refl _) (.cells #[.int .u64 0, .int .i64 0, .pointer none] 70)) HU.out)
          clear HU
          have HU := HU2
          clear HU2
          have hA := Aside0.mk (hI.out.alloc #[.int .u64 0, .int .i64 0, .pointer none] 70)
          clear hI
          generalize hga : World.alloc _ _ = wa at hA HS HU ⊢
          clear hga
          generalize hgb : wc4.heap.size = g at hA ⊢
          clear hgb
          refine hK.out _ _ (hA.out.tail) (fun hHeld => ?_)
          clear hK K
          refine norm_ (a' := ?_) ?_ ?_
          rotate_left
          · show Act.put _ (some 11) _ = _
            simp only [Act.put, List.setIfInBounds_toArray, List.set_cons_zero, List.set_cons_succ, i64_w, i32_w]
            rfl
          refine one_ (i := 5) (N := (some 19)) #[true, true, true, true, true, true, true, false, false] rfl rfl (by kernel_rfl) (by decide) (fun K hK => ?_)
          refine goes_ Try.func35 (by kernel_rfl) rfl #[.agg #[.int .i64 x, .int .i64 nn], .pointer (some ⟨l, 0, none⟩)] (by rfl) rfl rfl (by (try simp only [List.map_toArray, List.map_cons, List.map_nil]); first | done | rfl) ?_
          refine (moment_any x nn l _ HX.out.2.2.1 HX.out.2.2.2 HXD.out HU.out).mono ?_
          rintro e wc5 ⟨rfl, hb⟩
          refine ⟨_, rfl, ?_⟩
          have HS2 := Aside0.mk (moveS hb HS.out)
          clear HS
          have HS := HS2
          clear HS2
          have HU2 := Aside0.mk (moveU hb HU.out)
          clear HU
          have HU := HU2
          clear HU2
          have hA2 := Aside0.mk (hA.out.below hb)
          clear hA hb
          have hA := hA2
          clear hA2
          refine hK.out _ _ (hA.out.tail) (fun hHeld => ?_)
          clear hK K
          refine norm_ (a' := ?_) ?_ ?_
          rotate_left
          · show Act.put _ (some 19) _ = _
            simp only [Act.put, List.setIfInBounds_toArray, List.set_cons_zero, List.set_cons_succ, i64_w, i32_w]
            rfl
          refine pure_ (i := 7) (N := (some 10)) (v := ?_) (a' := ?_) #[true, true, true, true, true, true, true, true, false] rfl rfl (by kernel_rfl) (fun _ _ _ => only_shut) (Or.inl ⟨by rfl, ?_⟩) ?_ ?_
          rotate_left
          · intro w'
            go_simp
            with_reducible rfl
          rotate_left
          · simp only [Act.put, List.setIfInBounds_toArray, List.set_cons_zero, List.set_cons_succ, i64_w, i32_w]
            rfl
          refine last_ (i := 8) (N := none) #[true, true, true, true, true, true, true, true, true] rfl rfl (by kernel_rfl) (by decide) (fun K hK => ?_)
          refine skip_ (by rfl) rfl (exec_store_row 70 (.tmp 11) (.tmp 19) rfl g #[.int .u64 nn, .int .i64 (sec x), .pointer none] rfl rfl 70 _ (hA.out.get 0 rfl) size70 (sz3 _ _ _ _ _ _) (one70 _ _)) ?_
          have HS2 := Aside0.mk (moveRow HS.out hA.out #[.int .u64 nn, .int .i64 (sec x), .pointer none])
          have hA2 := Aside0.mk (hA.out.row #[.int .u64 nn, .int .i64 (sec x), .pointer none])
          clear hA HS
          have hA := hA2
          have HS := HS2
          clear hA2 HS2
          generalize hgs : World.setRow _ _ _ = ws at hA HS ⊢
          clear hgs
          refine hK.out _ _ ?_
          clear hK K
          refine done_ (by kernel_rfl) ?_
          refine ⟨rfl, (g, q, l), ?_, hA.out, HS.out⟩
          simp only [putAll, Act.put, List.setIfInBounds_toArray, List.set_cons_zero, List.set_cons_succ]
      · refine value_ (by rfl) rfl (alloc70 _ _ rfl _) ?_
        have HS2 := Aside0.mk (moveS ((Below.refl wc1.heap.size wc1).alloc (Nat.le_refl _) (.cells #[.int .u64 0, .int .i64 0, .pointer none] 70)) HS.out)
        clear HS
        have HS := HS2
        clear HS2
        have hA := Aside0.mk (hI.out.alloc #[.int .u64 0, .int .i64 0, .pointer none] 70)
        clear hI
        generalize hga : World.alloc _ _ = wa at hA HS ⊢
        clear hga
        generalize hgb : wc1.heap.size = g at hA ⊢
        clear hgb
        refine hK.out _ _ (hA.out.tail) (fun hHeld => ?_)
        clear hK K
        refine norm_ (a' := ?_) ?_ ?_
        rotate_left
        · show Act.put _ (some 11) _ = _
          simp only [Act.put, List.setIfInBounds_toArray, List.set_cons_zero, List.set_cons_succ, i64_w, i32_w]
          rfl
        refine one_ (i := 4) (N := (some 18)) #[true, true, true, true, true, false, true, false, false] rfl rfl (by kernel_rfl) (by decide) (fun K hK => ?_)
        refine goes_ Try.func36 (by kernel_rfl) rfl #[.agg #[.slice none 0 0, .slice none 0 0, .slice none 0 0, .slice none 0 0]] (by rfl) rfl rfl (by (try simp only [List.map_toArray, List.map_cons, List.map_nil]); first | done | rfl) ?_
        refine (locate_any _).mono ?_
        rintro e wc4 ⟨l, rfl, hu, hb⟩
        refine ⟨_, rfl, ?_⟩
        have HS2 := Aside0.mk (moveS hb HS.out)
        clear HS
        have HS := HS2
        clear HS2
        have HU := Aside0.mk hu.1.utc
        clear hu
        have hA2 := Aside0.mk (hA.out.below hb)
        clear hA hb
        have hA := hA2
        clear hA2
        refine hK.out _ _ (hA.out.tail) (fun hHeld => ?_)
        clear hK K
        refine norm_ (a' := ?_) ?_ ?_
        rotate_left
        · show Act.put _ (some 18) _ = _
          simp only [Act.put, List.setIfInBounds_toArray, List.set_cons_zero, List.set_cons_succ, i64_w, i32_w]
          rfl
        refine one_ (i := 5) (N := (some 19)) #[true, true, true, true, true, true, true, false, false] rfl rfl (by kernel_rfl) (by decide) (fun K hK => ?_)
        refine goes_ Try.func35 (by kernel_rfl) rfl #[.agg #[.int .i64 x, .int .i64 nn], .pointer (some ⟨l, 0, none⟩)] (by rfl) rfl rfl (by (try simp only [List.map_toArray, List.map_cons, List.map_nil]); first | done | rfl) ?_
        refine (moment_any x nn l _ HX.out.2.2.1 HX.out.2.2.2 HXD.out HU.out).mono ?_
        rintro e wc5 ⟨rfl, hb⟩
        refine ⟨_, rfl, ?_⟩
        have HS2 := Aside0.mk (moveS hb HS.out)
        clear HS
        have HS := HS2
        clear HS2
        have HU2 := Aside0.mk (moveU hb HU.out)
        clear HU
        have HU := HU2
        clear HU2
        have hA2 := Aside0.mk (hA.out.below hb)
        clear hA hb
        have hA := hA2
        clear hA2
        refine hK.out _ _ (hA.out.tail) (fun hHeld => ?_)
        clear hK K
        refine norm_ (a' := ?_) ?_ ?_
        rotate_left
        · show Act.put _ (some 19) _ = _
          simp only [Act.put, List.setIfInBounds_toArray, List.set_cons_zero, List.set_cons_succ, i64_w, i32_w]
          rfl
        refine pure_ (i := 7) (N := (some 10)) (v := ?_) (a' := ?_) #[true, true, true, true, true, true, true, true, false] rfl rfl (by kernel_rfl) (fun _ _ _ => only_shut) (Or.inl ⟨by rfl, ?_⟩) ?_ ?_
        rotate_left
        · intro w'
          go_simp
          with_reducible rfl
        rotate_left
        · simp only [Act.put, List.setIfInBounds_toArray, List.set_cons_zero, List.set_cons_succ, i64_w, i32_w]
          rfl
        refine last_ (i := 8) (N := none) #[true, true, true, true, true, true, true, true, true] rfl rfl (by kernel_rfl) (by decide) (fun K hK => ?_)
        refine skip_ (by rfl) rfl (exec_store_row 70 (.tmp 11) (.tmp 19) rfl g #[.int .u64 nn, .int .i64 (sec x), .pointer none] rfl rfl 70 _ (hA.out.get 0 rfl) size70 (sz3 _ _ _ _ _ _) (one70 _ _)) ?_
        have HS2 := Aside0.mk (moveRow HS.out hA.out #[.int .u64 nn, .int .i64 (sec x), .pointer none])
        have hA2 := Aside0.mk (hA.out.row #[.int .u64 nn, .int .i64 (sec x), .pointer none])
        clear hA HS
        have hA := hA2
        have HS := HS2
        clear hA2 HS2
        generalize hgs : World.setRow _ _ _ = ws at hA HS ⊢
        clear hgs
        refine hK.out _ _ ?_
        clear hK K
        refine done_ (by kernel_rfl) ?_
        refine ⟨rfl, (g, q, l), ?_, hA.out, HS.out⟩
        simp only [putAll, Act.put, List.setIfInBounds_toArray, List.set_cons_zero, List.set_cons_succ]
    · refine value_ (by rfl) rfl (alloc70 _ _ rfl _) ?_
      have hA := Aside0.mk (hI.out.alloc #[.int .u64 0, .int .i64 0, .pointer none] 70)
      clear hI
      generalize hga : World.alloc _ _ = wa at hA  ⊢
      clear hga
      generalize hgb : wdr.heap.size = g at hA ⊢
      clear hgb
      refine hK.out _ _ (hA.out.tail) (fun hHeld => ?_)
      clear hK K
      refine norm_ (a' := ?_) ?_ ?_
      rotate_left
      · show Act.put _ (some 11) _ = _
        simp only [Act.put, List.setIfInBounds_toArray, List.set_cons_zero, List.set_cons_succ, i64_w, i32_w]
        rfl
      refine one_ (i := 1) (N := (some 15)) #[true, true, true, true, false, false, true, false, false] rfl rfl (by kernel_rfl) (by decide) (fun K hK => ?_)
      refine goes_ Try.func34 (by kernel_rfl) rfl #[.agg #[.bool false, .int .i64 dl, .int .u64 (b.s : Int), .int .u64 (b.i : Int), .int .u64 (b.h : Int), .int .u64 (b.d : Int), .int .u64 (b.m : Int), .int .u64 (b.w : Int)], .pointer none] (by rfl) rfl rfl (by (try simp only [List.map_toArray, List.map_cons, List.map_nil]); first | done | rfl) ?_
      refine (schedule_any b dl _).mono ?_
      rintro e wc1 ⟨q, rfl, hs, hb⟩
      refine ⟨_, rfl, ?_⟩
      have HS := Aside0.mk hs
      clear hs
      have hA2 := Aside0.mk (hA.out.below hb)
      clear hA hb
      have hA := hA2
      clear hA2
      refine hK.out _ _ (hA.out.tail) (fun hHeld => ?_)
      clear hK K
      refine norm_ (a' := ?_) ?_ ?_
      rotate_left
      · show Act.put _ (some 15) _ = _
        simp only [Act.put, List.setIfInBounds_toArray, List.set_cons_zero, List.set_cons_succ, i64_w, i32_w]
        rfl
      refine one_ (i := 4) (N := (some 18)) #[true, true, true, true, true, false, true, false, false] rfl rfl (by kernel_rfl) (by decide) (fun K hK => ?_)
      refine goes_ Try.func36 (by kernel_rfl) rfl #[.agg #[.slice none 0 0, .slice none 0 0, .slice none 0 0, .slice none 0 0]] (by rfl) rfl rfl (by (try simp only [List.map_toArray, List.map_cons, List.map_nil]); first | done | rfl) ?_
      refine (locate_any _).mono ?_
      rintro e wc4 ⟨l, rfl, hu, hb⟩
      refine ⟨_, rfl, ?_⟩
      have HS2 := Aside0.mk (moveS hb HS.out)
      clear HS
      have HS := HS2
      clear HS2
      have HU := Aside0.mk hu.1.utc
      clear hu
      have hA2 := Aside0.mk (hA.out.below hb)
      clear hA hb
      have hA := hA2
      clear hA2
      refine hK.out _ _ (hA.out.tail) (fun hHeld => ?_)
      clear hK K
      refine norm_ (a' := ?_) ?_ ?_
      rotate_left
      · show Act.put _ (some 18) _ = _
        simp only [Act.put, List.setIfInBounds_toArray, List.set_cons_zero, List.set_cons_succ, i64_w, i32_w]
        rfl
      refine one_ (i := 5) (N := (some 19)) #[true, true, true, true, true, true, true, false, false] rfl rfl (by kernel_rfl) (by decide) (fun K hK => ?_)
      refine goes_ Try.func35 (by kernel_rfl) rfl #[.agg #[.int .i64 x, .int .i64 nn], .pointer (some ⟨l, 0, none⟩)] (by rfl) rfl rfl (by (try simp only [List.map_toArray, List.map_cons, List.map_nil]); first | done | rfl) ?_
      refine (moment_any x nn l _ HX.out.2.2.1 HX.out.2.2.2 HXD.out HU.out).mono ?_
      rintro e wc5 ⟨rfl, hb⟩
      refine ⟨_, rfl, ?_⟩
      have HS2 := Aside0.mk (moveS hb HS.out)
      clear HS
      have HS := HS2
      clear HS2
      have HU2 := Aside0.mk (moveU hb HU.out)
      clear HU
      have HU := HU2
      clear HU2
      have hA2 := Aside0.mk (hA.out.below hb)
      clear hA hb
      have hA := hA2
      clear hA2
      refine hK.out _ _ (hA.out.tail) (fun hHeld => ?_)
      clear hK K
      refine norm_ (a' := ?_) ?_ ?_
      rotate_left
      · show Act.put _ (some 19) _ = _
        simp only [Act.put, List.setIfInBounds_toArray, List.set_cons_zero, List.set_cons_succ, i64_w, i32_w]
        rfl
      refine pure_ (i := 7) (N := (some 10)) (v := ?_) (a' := ?_) #[true, true, true, true, true, true, true, true, false] rfl rfl (by kernel_rfl) (fun _ _ _ => only_shut) (Or.inl ⟨by rfl, ?_⟩) ?_ ?_
      rotate_left
      · intro w'
        go_simp
        with_reducible rfl
      rotate_left
      · simp only [Act.put, List.setIfInBounds_toArray, List.set_cons_zero, List.set_cons_succ, i64_w, i32_w]
        rfl
      refine last_ (i := 8) (N := none) #[true, true, true, true, true, true, true, true, true] rfl rfl (by kernel_rfl) (by decide) (fun K hK => ?_)
      refine skip_ (by rfl) rfl (exec_store_row 70 (.tmp 11) (.tmp 19) rfl g #[.int .u64 nn, .int .i64 (sec x), .pointer none] rfl rfl 70 _ (hA.out.get 0 rfl) size70 (sz3 _ _ _ _ _ _) (one70 _ _)) ?_
      have HS2 := Aside0.mk (moveRow HS.out hA.out #[.int .u64 nn, .int .i64 (sec x), .pointer none])
      have hA2 := Aside0.mk (hA.out.row #[.int .u64 nn, .int .i64 (sec x), .pointer none])
      clear hA HS
      have hA := hA2
      have HS := HS2
      clear hA2 HS2
      generalize hgs : World.setRow _ _ _ = ws at hA HS ⊢
      clear hgs
      refine hK.out _ _ ?_
      clear hK K
      refine done_ (by kernel_rfl) ?_
      refine ⟨rfl, (g, q, l), ?_, hA.out, HS.out⟩
      simp only [putAll, Act.put, List.setIfInBounds_toArray, List.set_cons_zero, List.set_cons_succ]
  · clear hI
    rintro ⟨g, q, l⟩ w1 ⟨hI0, hs0⟩
    have hI := Aside0.mk hI0.head
    have HS := Aside0.mk hs0
    clear hI0 hs0
    simp only [putAll, Act.put, List.setIfInBounds_toArray, List.set_cons_zero, List.set_cons_succ]
    go_wp2_with fail
    go_loopg [9] N (fun gk s9 wr => ∃ (ys : List Int) (m x2 : Int), Aside0 (Blk w [(g, #[.int .u64 m, .int .i64 (sec x2), .pointer none], 70)] wr) ∧ Aside0 (SAt wr q b) ∧ Aside0 (wr.ownsRow w.heap.size 26 2 s9 ys.length (rowsI ys)) ∧ Aside0 (ys.length ≤ N ∧ (nexts b N x = ys ++ nexts b (N - ys.length) x2 ∧ Asked b (N - ys.length) x2) ∧ -62135596800 ≤ x2 ∧ 0 ≤ m ∧ m < 1000000000) ∧ Aside0 (N - ys.length ≤ gk))
    case atStart => exact ⟨[], nn, x, hI, HS, ⟨World.ownsRow_nil _ _ _ _⟩, ⟨Nat.zero_le _, ⟨rfl, HAS.out⟩, HX.out.1, HX.out.2.2.1, HX.out.2.2.2⟩, ⟨Nat.le_refl _⟩⟩
    case round =>
      clear hI HS
      obtain ⟨ys, m, x2, hI, HS, HO, HV, HM⟩ := hrel
      obtain ⟨A, c, rfl⟩ := own_slice HO.out
      by_cases hn : ys.length < N
      · have e1 : decide (ys.length < N) = true := decide_eq_true hn
        have HLT := Aside0.mk hn
        obtain ⟨k, hk⟩ : ∃ k, N - ys.length = k + 1 := ⟨N - ys.length - 1, by omega⟩
        have HK := Aside0.mk hk
        have HA1 : Aside0 (Asked b (k + 1) x2) := ⟨by have := HV.out.2.1.2; rw [hk] at this; exact this⟩
        clear hk hn
        rcases hN : NX b x2 with _ | y
        · have HN := Aside0.mk hN
          clear hN
          have HNC : Aside0 (∀ w', SAt w' q b → Calls Try.prog 116 #[.pointer (some ⟨q, 0, none⟩), .agg #[.int .u64 m, .int .i64 (sec x2), .pointer none]] w' fun e w'' => e = .returned (.agg #[.int .u64 0, .int .i64 0, .pointer none]) ∧ Below w'.heap.size w' w'') := ⟨fun w' hs => by have := next_c q b m x2 w' HV.out.2.2.2.1 HV.out.2.2.2.2 hs HW.out HV.out.2.2.1 HA1.out.1; rw [HN.out] at this; exact this⟩
          go_wp2_with (first | ((with_reducible refine wpList_isCons ?_); refine wpList_load_row rfl 70 (.tmp 11) rfl g rfl 70 _ (0, 0) _ (hI.out.get 0 rfl) Try.underlying70 rfl size70 ?_) | ((with_reducible refine wpList_isCons ?_); refine enterL_ (some 26) rfl rfl 116 #[.pointer (some ⟨q, 0, none⟩), .agg #[.int .u64 m, .int .i64 (sec x2), .pointer none]] ?hr ?_; (case hr => (have hm := method_next q; go_simp)); (refine (HNC.out _ HS.out).mono ?_); rintro e w5 ⟨rfl, hb⟩; refine ⟨_, rfl, ?_⟩; have hI2 := Aside0.mk (hI.out.below hb); have HS2 := Aside0.mk (moveS hb HS.out); have HO2 := Aside0.mk (pw_own_below HO.out hb); clear hI HS HO hb; have hI := hI2; have HS := HS2; have HO := HO2; clear hI2 HS2 HO2) | ((with_reducible refine wpList_isCons ?_); refine wpList_store_row rfl 70 (.tmp 11) (.tmp 26) rfl g #[.int .u64 0, .int .i64 0, .pointer none] rfl rfl 70 _ (hI.out.get 0 rfl) size70 (sz3 _ _ _ _ _ _) (one70 _ _) ?_; have HS2 := Aside0.mk (moveRow HS.out hI.out #[.int .u64 0, .int .i64 0, .pointer none]); have HO2 := Aside0.mk (ownRow HO.out hI.out #[.int .u64 0, .int .i64 0, .pointer none]); have hI2 := Aside0.mk (hI.out.row #[.int .u64 0, .int .i64 0, .pointer none]); clear hI HS HO; have hI := hI2; have HS := HS2; have HO := HO2; clear hI2 HS2 HO2; generalize hgs : World.setRow _ _ _ = w51 at hI HS HO ⊢; clear hgs) | (go_at_call 33; (with_reducible refine (answer_no _).mono ?_); rintro e w6 ⟨rfl, hb⟩; have hI2 := Aside0.mk (hI.out.below hb); have HS2 := Aside0.mk (moveS hb HS.out); have HO2 := Aside0.mk (pw_own_below HO.out hb); clear hI HS HO hb; have hI := hI2; have HS := HS2; have HO := HO2; clear hI2 HS2 HO2))
          go_ret
          refine ⟨_, rfl, ?_, hI.out.B.alloc hI.out.B.size _⟩
          rw [HV.out.2.1.1, nexts_none HN.out, List.append_nil]
          exact HO.out.alloc _
        · have HN := Aside0.mk hN
          clear hN
          have HNC : Aside0 (∀ w', SAt w' q b → Calls Try.prog 116 #[.pointer (some ⟨q, 0, none⟩), .agg #[.int .u64 m, .int .i64 (sec x2), .pointer none]] w' fun e w'' => e = .returned (.agg #[.int .u64 0, .int .i64 (sec y), .pointer none]) ∧ Below w'.heap.size w' w'') := ⟨fun w' hs => by have := next_c q b m x2 w' HV.out.2.2.2.1 HV.out.2.2.2.2 hs HW.out HV.out.2.2.1 HA1.out.1; rw [HN.out] at this; exact this⟩
          have HDY := Aside0.mk (dom_r (by have := nx_is b x2; rw [HN.out] at this; exact this) ⟨HV.out.2.2.1, HA1.out.1⟩ y rfl)
          go_wp2_with (first | ((with_reducible refine wpList_isCons ?_); refine wpList_load_row rfl 70 (.tmp 11) rfl g rfl 70 _ (0, 0) _ (hI.out.get 0 rfl) Try.underlying70 rfl size70 ?_) | ((with_reducible refine wpList_isCons ?_); refine enterL_ (some 26) rfl rfl 116 #[.pointer (some ⟨q, 0, none⟩), .agg #[.int .u64 m, .int .i64 (sec x2), .pointer none]] ?hr ?_; (case hr => (have hm := method_next q; go_simp)); (refine (HNC.out _ HS.out).mono ?_); rintro e w5 ⟨rfl, hb⟩; refine ⟨_, rfl, ?_⟩; have hI2 := Aside0.mk (hI.out.below hb); have HS2 := Aside0.mk (moveS hb HS.out); have HO2 := Aside0.mk (pw_own_below HO.out hb); clear hI HS HO hb; have hI := hI2; have HS := HS2; have HO := HO2; clear hI2 HS2 HO2) | ((with_reducible refine wpList_isCons ?_); refine wpList_store_row rfl 70 (.tmp 11) (.tmp 26) rfl g #[.int .u64 0, .int .i64 (sec y), .pointer none] rfl rfl 70 _ (hI.out.get 0 rfl) size70 (sz3 _ _ _ _ _ _) (one70 _ _) ?_; have HS2 := Aside0.mk (moveRow HS.out hI.out #[.int .u64 0, .int .i64 (sec y), .pointer none]); have HO2 := Aside0.mk (ownRow HO.out hI.out #[.int .u64 0, .int .i64 (sec y), .pointer none]); have hI2 := Aside0.mk (hI.out.row #[.int .u64 0, .int .i64 (sec y), .pointer none]); clear hI HS HO; have hI := hI2; have HS := HS2; have HO := HO2; clear hI2 HS2 HO2; generalize hgs : World.setRow _ _ _ = w51 at hI HS HO ⊢; clear hgs) | (go_at_call 33; (with_reducible refine (answer_yes y _ HDY.out.1 HDY.out.2).mono ?_); rintro e w6 ⟨rfl, hb⟩; have hI2 := Aside0.mk (hI.out.below hb); have HS2 := Aside0.mk (moveS hb HS.out); have HO2 := Aside0.mk (pw_own_below HO.out hb); clear hI HS HO hb; have hI := hI2; have HS := HS2; have HO := HO2; clear hI2 HS2 HO2) | ((with_reducible refine wpList_isCons ?_); refine print_append_cells (w0 := w) (W := w6.alloc (.cells #[.int .i64 y, .int .i64 0] 26)) w.heap.size rfl (.tmp 34) (.tmp 36) 58 26 (.agg #[.int .i64 0, .int .i64 0]) 2 16 rfl under58 info26 rfl (by decide) (by decide) (.slice A ys.length c) ys.length (rowsI ys) [.int .i64 y, .int .i64 0] rfl (by rw [World.size_alloc]; rfl) rfl (by simp [Value.oneCell']) (HO.out.alloc _) (hI.out.B.alloc hI.out.B.size _) (by have := hI.out.B.size; simp; omega) (by have := HLT.out; have := HNN.out; omega) ?_; rintro v1 w7 ho1 hb1 hg1 hat1; have hI2 := Aside0.mk ((hI.out.below ((Below.refl _ _).alloc (Nat.le_refl _) _)).grown (HO.out.alloc _) (by decide) hg1 hb1); have HS2 := Aside0.mk (SAt.grown (moveS ((Below.refl _ _).alloc (Nat.le_refl _) _) HS.out) (HO.out.alloc _) (by decide) hg1); have HO2 := Aside0.mk ho1; clear hI HS HO ho1 hb1 hg1 hat1; have hI := hI2; have HS := HS2; have HO := HO2; clear hI2 HS2 HO2))
          go_roundg (N - (ys.length + 1))
          case measure => exact meas_many HM.out HLT.out
          case rel =>
            refine ⟨ys ++ [y], 0, y, hI, HS, ⟨?_⟩, ⟨?_, ⟨?_, ?_⟩, ?_, by decide, by decide⟩, ⟨?_⟩⟩
            · rw [List.length_append, rowsI_snoc]; exact HO.out
            · rw [List.length_append]; have := HLT.out; simp; omega
            · rw [HV.out.2.1.1, HK.out, nexts_some HN.out, List.append_assoc, List.length_append, show N - (ys.length + [y].length) = k by have := HK.out; simp; omega]; rfl
            · rw [List.length_append, show N - (ys.length + [y].length) = k by have := HK.out; simp; omega]; exact HA1.out.2 y HN.out
            · have := HDY.out.2; omega
            · rw [List.length_append]; exact Nat.le_refl _
      · have e1 : decide (ys.length < N) = false := decide_eq_false hn
        go_wp2_with fail
        go_ret
        refine ⟨_, rfl, ?_, hI.out.B⟩
        have h := HV.out.2.1.1
        rw [show N - ys.length = 0 by omega] at h
        rw [h, show nexts b 0 x2 = [] from rfl, List.append_nil]
        exact HO.out
end Go.Proofs.Ytlgdaegaahnkbaa.Tm
