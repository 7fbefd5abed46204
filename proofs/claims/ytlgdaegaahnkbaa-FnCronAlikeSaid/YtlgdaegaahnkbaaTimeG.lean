/- cron's SpecSchedule.Next over UTC, by hand: the least second that fits. -/
import Derived.Test.YtlgdaegaahnkbaaNextP
import Derived.ScopeJumps
import Derived.WalkMore
namespace Go.Proofs.Ytlgdaegaahnkbaa.Tm
open Go Go.RowKit Cal MC
open Go.Proofs.YtlgdaegaahnkbaaW.PrintWords Go.Proofs.YtlgdaegaahnkbaaW.PrintLast Go.Proofs.YtlgdaegaahnkbaaW.PrintMore
set_option linter.unusedVariables false
set_option linter.unusedSimpArgs false
/-- A scope with one label: what holds behind the label is shown once, for the first way as well. -/
theorem wp_skip_seq {P : Program} {a : Act} {w : World} {Q : Exit → Act → World → Prop} {X : Code} (h : X.wp P Q a w) : (Code.seq .skip X).wp P Q a w := by
  apply wp_seq_k
  intro K hK
  apply wp_skip
  exact hK _ _ h
theorem wp_scope_again {P : Program} {a : Act} {w : World} {Q : Exit → Act → World → Prop} {c X : Code} (l : Nat) (J : Act → World → Prop) (μ : Act → World → Nat) (hf : findLabel c l = some (.seq .skip X))
    (pass : ∀ a w, J a w → X.wp P (Exit.jump l (fun a' w' => J a' w' ∧ μ a' w' < μ a w) Q) a w)
    (first : (∀ a w, J a w → X.wp P (Exit.jump l J Q) a w) → c.wp P (Exit.jump l J Q) a w) : (Code.scope c).wp P Q a w := by
  refine wp_scope_jumps l J μ hf (first fun a w hJ => Code.wp_mono ?_ (pass a w hJ)) fun a w hJ => wp_skip_seq (pass a w hJ)
  intro e a' w' h
  cases e with
  | goto l' => exact ⟨h.1, h.2.1⟩
  | normal => exact h
  | exit id => exact h
  | ret => exact h
  | panic ch => exact h
  | outgrown => exact h
theorem IsU.of_block {w w' : World} {k : Nat} (h : IsU w k) (he : w'.heap[k]? = w.heap[k]?) : IsU w' k :=
  ⟨by rw [World.cell?_of_block (w := w) (w' := w') (a := ⟨k, 0, none⟩) he]; exact h.utc, by rw [World.cell?_of_block (w := w) (w' := w') (a := ⟨k, 2, none⟩) he]; exact h.zone⟩
/-- The blocks that the search lives in: the time, the result, the schedule, two locations. -/
structure Nx (w w' : World) (p k l : Nat) (b : SB) (t : Array Value) : Prop where mk ::
  (A : Ad w w' t #[.int .u64 0, .int .i64 0, .pointer none])
  (S : SAt w' p b)
  (K : IsU w' k)
  (L : IsU w' l)
  (hp : p < w.heap.size)
  (hk : k ≠ w.heap.size)
  (hl : l ≠ w.heap.size)
theorem Nx.T {w w' : World} {p k l : Nat} {b : SB} {t : Array Value} (h : Nx w w' p k l b t) : w'.heap[w.heap.size]? = some (.cells t 70 (0, 0)) := h.A.T
theorem Nx.below {w w1 w2 : World} {p k l : Nat} {b : SB} {t : Array Value} (h : Nx w w1 p k l b t) (hb : Below w1.heap.size w1 w2) : Nx w w2 p k l b t :=
  ⟨h.A.below hb, h.S.below hb, h.K.below hb, h.L.below hb, h.hp, h.hk, h.hl⟩
theorem Nx.drew {w w1 : World} {p k l : Nat} {b : SB} {t : Array Value} (h : Nx w w1 p k l b t) : Nx w w1.drew p k l b t := h.below (below_drew1 (Below.refl _ _))
theorem Nx.setT {w w1 : World} {p k l : Nat} {b : SB} {r0 r1 r2 : Value} (h : Nx w w1 p k l b #[r0, r1, r2]) (a c d : Value) :
    Nx w (((w1.setCell ⟨w.heap.size, 0, none⟩ a).setCell ⟨w.heap.size, 1, none⟩ c).setCell ⟨w.heap.size, 2, none⟩ d) p k l b #[a, c, d] := by
  have hn : ∀ g : Nat, g ≠ w.heap.size → (((w1.setCell ⟨w.heap.size, 0, none⟩ a).setCell ⟨w.heap.size, 1, none⟩ c).setCell ⟨w.heap.size, 2, none⟩ d).heap[g]? = w1.heap[g]? := fun g hg => by
    rw [Below.heap_setCell _ _ _ _ hg, Below.heap_setCell _ _ _ _ hg, Below.heap_setCell _ _ _ _ hg]
  refine ⟨h.A.setT a c d, (hn p (by have := h.hp; omega)).trans h.S, h.K.of_block (hn k h.hk), h.L.of_block (hn l h.hl), h.hp, h.hk, h.hl⟩
theorem addf (n x : Int) (w : World) (h0 : 0 ≤ n) (h1 : n < 1000000000) (hx : Dom x) :
    Calls Try.prog 114 #[.agg #[.int .u64 n, .int .i64 (sec x), .pointer none], .int .i64 (1000000000 - n)] w fun e w' => e = .returned (.agg #[.int .u64 0, .int .i64 (sec (x + 1)), .pointer none]) ∧ Below w.heap.size w w' := by
  have h := add_first n (sec x) (1000000000 - n) w h0 h1 hx.s0 hx.s1 rfl
  rwa [show sec x + 1 = sec (x + 1) by unfold sec; omega] at h
/-- The year that the search ends with. -/
def lastY (x : Int) : Int := yr ((x + 1) / 86400) + 5
theorem lastY_bd (x : Int) (x0 : -62135596800 ≤ x) (x1 : x ≤ 253402300799) : 1 ≤ yr ((x + 1) / 86400) ∧ yr ((x + 1) / 86400) ≤ 10000 := by
  refine ⟨(yr_bd (by omega) (by omega)).1, yr_le.2 ?_⟩
  rw [show ys (10000 + 1) = 2933263 by decide]
  omega
def nv : Option Int → Value
  | some y => .agg #[.int .u64 0, .int .i64 (sec y), .pointer none]
  | none => .agg #[.int .u64 0, .int .i64 0, .pointer none]
/-- The search's answer: the least second that fits, or none. -/
def NPost (b : SB) (x : Int) (w : World) (e : Ending) (w' : World) : Prop := (∃ r, IsNext b.sch (x + 1) (lastY x) r ∧ e = .returned (nv r)) ∧ Below w.heap.size w w'
theorem far_k {w : World} {A B : Obj} {k : Nat} (h : ((w.alloc A).alloc B).heap.size ≤ k) : k ≠ w.heap.size := by
  rw [World.size_alloc, World.size_alloc] at h
  omega
theorem far_l {w w1 : World} {o : Obj} {l : Nat} (h : w1.heap[w.heap.size + 1]? = some o) (hl : w1.heap.size ≤ l) : l ≠ w.heap.size := by
  have := blk_lt h
  omega
theorem Nx.cast {w w1 : World} {p k l : Nat} {b : SB} {s s' : Int} (h : Nx w w1 p k l b #[.int .u64 0, .int .i64 s, .pointer none]) (e : s = s') : Nx w w1 p k l b #[.int .u64 0, .int .i64 s', .pointer none] := e ▸ h
theorem dom_ms {y : Int} (h : Dom y) : Dom (86400 * ms (y / 86400)) := by
  have e := (at_ms (y / 86400)).1
  have h1 := (yr_bd h.n0 h.n2).1
  have h2 := in_month (y / 86400)
  have h3 := h.hi
  refine ⟨?_, by omega⟩
  rcases Int.lt_or_le (ms (y / 86400)) (-719162) with c | c
  · have := (yr_le (n := ms (y / 86400)) (y := 0)).2 (by rw [show ys (0 + 1) = -719162 by decide]; exact c)
    omega
  · omega
theorem dy31 (n : Int) : dy n ≤ 31 := by have := (dy_bd n).2; have := (md_bd (yr n) (mo n)).2; omega
/-- A slot. -/
def sl (a : Act) (i : Nat) : Value := a.tmps.toList.getD i undef
theorem list_lit {l : List Value} {n : Nat} (h : l.length = n) : l = (List.range n).map (fun i => l.getD i undef) := by
  apply List.ext_getElem
  · simp [h]
  · intro i h1 h2
    simp [h1]
set_option maxRecDepth 100000 in
theorem range172 : List.range 172 = [0, 1, 2, 3, 4, 5, 6, 7, 8, 9, 10, 11, 12, 13, 14, 15, 16, 17, 18, 19, 20, 21, 22, 23, 24, 25, 26, 27, 28, 29, 30, 31, 32, 33, 34, 35, 36, 37, 38, 39, 40, 41, 42, 43, 44, 45, 46, 47, 48, 49, 50, 51, 52, 53, 54, 55, 56, 57, 58, 59, 60, 61, 62, 63, 64, 65, 66, 67, 68, 69, 70, 71, 72, 73, 74, 75, 76, 77, 78, 79, 80, 81, 82, 83, 84, 85, 86, 87, 88, 89, 90, 91, 92, 93, 94, 95, 96, 97, 98, 99, 100, 101, 102, 103, 104, 105, 106, 107, 108, 109, 110, 111, 112, 113, 114, 115, 116, 117, 118, 119, 120, 121, 122, 123, 124, 125, 126, 127, 128, 129, 130, 131, 132, 133, 134, 135, 136, 137, 138, 139, 140, 141, 142, 143, 144, 145, 146, 147, 148, 149, 150, 151, 152, 153, 154, 155, 156, 157, 158, 159, 160, 161, 162, 163, 164, 165, 166, 167, 168, 169, 170, 171] := by decide
set_option maxRecDepth 100000 in
theorem frame_lit (a : Act) (hs : a.tmps.size = 172) (hd : a.defers = []) : a = { tmps := #[sl a 0, sl a 1, sl a 2, sl a 3, sl a 4, sl a 5, sl a 6, sl a 7, sl a 8, sl a 9, sl a 10, sl a 11, sl a 12, sl a 13, sl a 14, sl a 15, sl a 16, sl a 17, sl a 18, sl a 19, sl a 20, sl a 21, sl a 22, sl a 23, sl a 24, sl a 25, sl a 26, sl a 27, sl a 28, sl a 29, sl a 30, sl a 31, sl a 32, sl a 33, sl a 34, sl a 35, sl a 36, sl a 37, sl a 38, sl a 39, sl a 40, sl a 41, sl a 42, sl a 43, sl a 44, sl a 45, sl a 46, sl a 47, sl a 48, sl a 49, sl a 50, sl a 51, sl a 52, sl a 53, sl a 54, sl a 55, sl a 56, sl a 57, sl a 58, sl a 59, sl a 60, sl a 61, sl a 62, sl a 63, sl a 64, sl a 65, sl a 66, sl a 67, sl a 68, sl a 69, sl a 70, sl a 71, sl a 72, sl a 73, sl a 74, sl a 75, sl a 76, sl a 77, sl a 78, sl a 79, sl a 80, sl a 81, sl a 82, sl a 83, sl a 84, sl a 85, sl a 86, sl a 87, sl a 88, sl a 89, sl a 90, sl a 91, sl a 92, sl a 93, sl a 94, sl a 95, sl a 96, sl a 97, sl a 98, sl a 99, sl a 100, sl a 101, sl a 102, sl a 103, sl a 104, sl a 105, sl a 106, sl a 107, sl a 108, sl a 109, sl a 110, sl a 111, sl a 112, sl a 113, sl a 114, sl a 115, sl a 116, sl a 117, sl a 118, sl a 119, sl a 120, sl a 121, sl a 122, sl a 123, sl a 124, sl a 125, sl a 126, sl a 127, sl a 128, sl a 129, sl a 130, sl a 131, sl a 132, sl a 133, sl a 134, sl a 135, sl a 136, sl a 137, sl a 138, sl a 139, sl a 140, sl a 141, sl a 142, sl a 143, sl a 144, sl a 145, sl a 146, sl a 147, sl a 148, sl a 149, sl a 150, sl a 151, sl a 152, sl a 153, sl a 154, sl a 155, sl a 156, sl a 157, sl a 158, sl a 159, sl a 160, sl a 161, sl a 162, sl a 163, sl a 164, sl a 165, sl a 166, sl a 167, sl a 168, sl a 169, sl a 170, sl a 171], defers := [] } := by
  obtain ⟨⟨t⟩, d⟩ := a
  simp only at hs hd
  subst hd
  have h := list_lit (l := t) (n := 172) (by simpa using hs)
  rw [range172] at h
  simp only [List.map_cons, List.map_nil] at h
  have e : (⟨t⟩ : Array Value) = (⟨_⟩ : Array Value) := congrArg Array.mk h
  exact congrArg (fun z => Act.mk z []) e
structure Frame (w : World) (p k l : Nat) (n x : Int) (ad : Bool) (a : Act) : Prop where mk ::
  (size : a.tmps.size = 172)
  (defers : a.defers = [])
  (s0 : sl a 0 = .pointer (some ⟨p, 0, none⟩))
  (s1 : sl a 1 = .agg #[.int .u64 n, .int .i64 (sec x), .pointer none])
  (s2 : sl a 2 = undef)
  (s3 : sl a 3 = .pointer (some ⟨w.heap.size, 0, none⟩))
  (s4 : sl a 4 = .pointer (some ⟨w.heap.size + 1, 0, none⟩))
  (s5 : sl a 5 = .pointer (some ⟨k, 0, none⟩))
  (s6 : sl a 6 = .pointer (some ⟨l, 0, none⟩))
  (s7 : sl a 7 = .bool ad)
  (s8 : sl a 8 = .int .i64 (lastY x))
def J (w : World) (p : Nat) (b : SB) (n x : Int) (a : Act) (w' : World) : Prop := ∃ (k l : Nat) (y : Int) (ad : Bool), Frame w p k l n x ad a ∧ Nx w w' p k l b #[.int .u64 0, .int .i64 (sec y), .pointer none] ∧ Pl b.sch (x + 1) (lastY x + 1) y ad
/-- What is still to come, by the time in its block. -/
def mu (w w' : World) : Nat := match w'.cell? ⟨w.heap.size, 1, none⟩ with | some (.int _ q) => (400000000000 - q).toNat | _ => 0
theorem mu_eq {w w' : World} {p k l : Nat} {b : SB} {y : Int} (h : Nx w w' p k l b #[.int .u64 0, .int .i64 (sec y), .pointer none]) : mu w w' = (400000000000 - sec y).toNat := by
  unfold mu
  rw [show w'.cell? ⟨w.heap.size, 1, none⟩ = some (.int .i64 (sec y)) from (blk_cell h.T 1).trans rfl]
theorem dom_in {b : SB} {x y yl : Int} {ad : Bool} (h : Pl b.sch (x + 1) yl y ad) (hx : -62135596800 ≤ x ∧ x ≤ 253402300799) (hl : yl ≤ lastY x + 1 := by omega) : Dom y := by
  have := lastY_bd x hx.1 hx.2
  exact dom_of (a0 := x + 1) (by omega) h.ge h.yb (by unfold lastY at hl; omega)
/-- Where the search begins again. -/
theorem at_goto {w w1 w' : World} {p k l : Nat} {b : SB} {n x y y' : Int} {ad : Bool} {a' : Act} {k0 l0 : Nat} (h0 : Nx w w1 p k0 l0 b #[.int .u64 0, .int .i64 (sec y), .pointer none]) (h : Nx w w' p k l b #[.int .u64 0, .int .i64 (sec y'), .pointer none]) (hp : Pl b.sch (x + 1) (lastY x + 1) y' ad)
    (hx : -62135596800 ≤ x ∧ x ≤ 253402300799) (hy : y < y') (hf : Frame w p k l n x ad a') : J w p b n x a' w' ∧ mu w w' < mu w w1 := by
  refine ⟨⟨k, l, y', ad, hf, h, hp⟩, ?_⟩
  have hd := dom_in hp hx
  rw [mu_eq h, mu_eq h0]
  have := hd.hi
  unfold sec
  omega
set_option maxHeartbeats 16000000 in
set_option maxRecDepth 100000 in
theorem next_any (p : Nat) (b : SB) (n x : Int) (w : World) (h0 : 0 ≤ n) (h1 : n < 1000000000) (hs : SAt w p b) (hw : Wf b) (x0 : -62135596800 ≤ x) (x1 : x ≤ 253402300799) :
    Calls Try.prog 116 #[.pointer (some ⟨p, 0, none⟩), .agg #[.int .u64 n, .int .i64 (sec x), .pointer none]] w (NPost b x w) := by
  have HX := Aside0.mk (show Dom x from ⟨x0, by omega⟩)
  have HX1 := Aside0.mk (show Dom (x + 1) from ⟨by omega, by omega⟩)
  have HP := Aside0.mk (blk_lt hs)
  have HY := Aside0.mk (lastY_bd x x0 x1)
  have hA := Aside0.mk (ad_start w #[.int .u64 n, .int .i64 (sec x), .pointer none] #[.int .u64 0, .int .i64 0, .pointer none])
  have HS := Aside0.mk (SAt.below hs hA.out.B)
  have z0 : (0 : Int) ≤ 0 := by decide
  have z1 : (0 : Int) < 1000000000 := by decide
  have w33 : wrap64 n = n := by unfold wrap64; omega
  have w34 : wrap64 (1000000000 - n) = 1000000000 - n := by unfold wrap64; omega
  have HW := Aside0.mk hw
  have HB := Aside0.mk (And.intro x0 x1)
  clear hs hw x0 x1
  go_enter Try.func116, Try.ntmps116
  go_wp2_with fail
  refine wp_scope_again 0 (J w p b n x) (fun _ w' => mu w w') rfl ?_ ?_
  · clear hA HS w33 w34 HX HX1
    intro a w1 hJ
    obtain ⟨k, l, y, ad, hF, hI0, hP0⟩ := hJ
    change Code.wp _ _ (Exit.jump 0 (fun a' w' => J w p b n x a' w' ∧ mu w w' < mu w w1) _) _ _
    rw [frame_lit a hF.size hF.defers, hF.s0, hF.s1, hF.s2, hF.s3, hF.s4, hF.s5, hF.s6, hF.s7, hF.s8]
    have HI0 := Aside0.mk hI0
    have hI := HI0
    have HPl := Aside0.mk hP0
    have HD := Aside0.mk (dom_in hP0 HB.out)
    clear hI0 hP0
    have t0 : World.cell? _ ⟨w.heap.size, 0, none⟩ = some (.int .u64 0) := (blk_cell hI.out.T 0).trans rfl
    have t1 : World.cell? _ ⟨w.heap.size, 1, none⟩ = some (.int .i64 (sec y)) := (blk_cell hI.out.T 1).trans rfl
    have t2 : World.cell? _ ⟨w.heap.size, 2, none⟩ = some (.pointer none) := (blk_cell hI.out.T 2).trans rfl
    by_cases hY : lastY x < yr (y / 86400)
    · have e0 : decide (lastY x < yr (y / 86400)) = true := decide_eq_true hY
      go_upto_region 11 with ((go_at_call 118; (with_reducible refine (year_any 0 y _ z0 z1 HD.out).mono ?_); rintro e w2 ⟨rfl, hb⟩; have hI := Aside0.mk (hI.out.below hb); clear hb t0 t1 t2; have r0 : w2.cell? ⟨w.heap.size + 1, 0, none⟩ = some (.int .u64 0) := (blk_cell hI.out.A.R 0).trans rfl; have r1 : w2.cell? ⟨w.heap.size + 1, 1, none⟩ = some (.int .i64 0) := (blk_cell hI.out.A.R 1).trans rfl; have r2 : w2.cell? ⟨w.heap.size + 1, 2, none⟩ = some (.pointer none) := (blk_cell hI.out.A.R 2).trans rfl; have f0 := blk_frozen hI.out.A.R 0; have f1 := blk_frozen hI.out.A.R 1; have f2 := blk_frozen hI.out.A.R 2))
      go_wp2_with fail
      have hA := Aside0.mk (hI.out.A.setR (.int .u64 0) (.int .i64 0) (.pointer none))
      clear r0 r1 r2 f0 f1 f2
      generalize hg : World.setCell _ _ (.pointer none) = w7 at hA ⊢
      clear hg
      have r0 : w7.cell? ⟨w.heap.size + 1, 0, none⟩ = some (.int .u64 0) := (blk_cell hA.out.R 0).trans rfl
      have r1 : w7.cell? ⟨w.heap.size + 1, 1, none⟩ = some (.int .i64 0) := (blk_cell hA.out.R 1).trans rfl
      have r2 : w7.cell? ⟨w.heap.size + 1, 2, none⟩ = some (.pointer none) := (blk_cell hA.out.R 2).trans rfl
      exact bodyPost_ret (v := .agg #[.int .u64 0, .int .i64 0, .pointer none]) (by simp [results, Try.results116, go_sem, r0, r1, r2]) rfl ⟨⟨none, past HPl.out.nf hY, rfl⟩, hA.out.B⟩
    · have e0 : decide (lastY x < yr (y / 86400)) = false := decide_eq_false hY
      have HPl := Aside0.mk (HPl.out.at (yl' := lastY x) (by omega))
      go_upto_block 0 with ((go_at_call 118; (with_reducible refine (year_any 0 y _ z0 z1 HD.out).mono ?_); rintro e w2 ⟨rfl, hb⟩; have hI := Aside0.mk (hI.out.below hb); clear hb t0 t1 t2))
      clear e0 hY HD
      have HA := Aside0.mk (Int.le_refl y)
      obtain ⟨y1, hy1⟩ : ∃ y1, y1 = y := ⟨_, rfl⟩
      have hI := Aside0.mk (hI.out.cast (congrArg sec hy1.symm))
      have HPl : Aside0 (Pl b.sch (x + 1) (lastY x) y1 ad) := by rw [hy1]; exact HPl
      have HA : Aside0 (y ≤ y1) := by rw [hy1]; exact HA
      clear hy1
      obtain ⟨ad1, had⟩ : ∃ ad1, ad1 = ad := ⟨_, rfl⟩
      rw [← had]
      have HPl : Aside0 (Pl b.sch (x + 1) (lastY x) y1 ad1) := by rw [had]; exact HPl
      clear had
      go_cut [7] (fun s7 wx => ∃ (y' : Int) (ad' : Bool), s7 = .bool ad' ∧ Aside0 (Nx w wx p k l b #[.int .u64 0, .int .i64 (sec y'), .pointer none]) ∧ Aside0 (Pl b.sch (x + 1) (lastY x) y' ad') ∧ Aside0 (y ≤ y' ∧ b.sch.M (mo (y' / 86400)) = true))
      case first =>
        go_wp2_with fail
        go_loopg [7] (400000000000 - y1).toNat (fun gk s7 wr => ∃ (y' : Int) (ad' : Bool), s7 = .bool ad' ∧ Aside0 (Nx w wr p k l b #[.int .u64 0, .int .i64 (sec y'), .pointer none]) ∧ Aside0 (Pl b.sch (x + 1) (lastY x) y' ad') ∧ Aside0 (y ≤ y' ∧ (400000000000 - y').toNat ≤ gk))
        case atStart => exact ⟨y1, ad1, rfl, hI, HPl, ⟨by have := HA.out; simpa using this⟩⟩
        case round =>
          clear hI HPl HA
          obtain ⟨y', ad', rfl, hI, HPl, HA⟩ := hrel
          have HD := Aside0.mk (dom_in HPl.out HB.out)
          have hI := Aside0.mk hI.out.drew
          have v0 : 0 ≤ mo (y' / 86400) := by have := mo_bd (y' / 86400); omega
          have v1 : mo (y' / 86400) ≤ 63 := by have := mo_bd (y' / 86400); omega
          have e1 := bit_zero b.m (mo (y' / 86400)) HW.out.m v0 v1
          by_cases hT : b.sch.M (mo (y' / 86400)) = true
          · rw [show bitOf b.m (mo (y' / 86400)) = true from hT] at e1
            have HT := Aside0.mk hT
            clear hT
            go_wp2_with fail
            refine start_ (n := 10) (S := fun w' => w'.cell? ⟨w.heap.size, 0, none⟩ = some (.int .u64 0) ∧ w'.cell? ⟨w.heap.size, 1, none⟩ = some (.int .i64 (sec y')) ∧ w'.cell? ⟨w.heap.size, 2, none⟩ = some (.pointer none) ∧ w'.cell? ⟨p, 4, none⟩ = some (.int .u64 (b.m : Int))) (ds := []) #[false, false, false, false, false, false, false, false, false, false] (by kernel_rfl) rfl rfl ⟨(blk_cell hI.out.T 0).trans rfl, (blk_cell hI.out.T 1).trans rfl, (blk_cell hI.out.T 2).trans rfl, (blk_cell hI.out.S 4).trans rfl⟩ (fun hHeld => ?_)
            refine take_ (i := 0) (N := some 44) (v := ?_) (a' := ?_) #[true, false, false, false, false, false, false, false, false, false] rfl rfl (by kernel_rfl) (fun _ _ _ h => h) (Or.inl ⟨by rfl, ?_⟩) hHeld ?_ ?_
            rotate_left
            · rintro w' ⟨s0, s1, s2, s3⟩
              go_simp
              with_reducible rfl
            rotate_left
            · simp only [Act.put, List.setIfInBounds_toArray, List.set_cons_zero, List.set_cons_succ, i64_w, i32_w, e1]
              rfl
            refine pure_ (i := 4) (N := some 48) (v := ?_) (a' := ?_) #[true, false, false, false, true, false, false, false, false, false] rfl rfl (by kernel_rfl) (fun _ _ _ h => h) (Or.inl ⟨by rfl, ?_⟩) ?_ ?_
            rotate_left
            · intro w'
              go_simp
              with_reducible rfl
            rotate_left
            · simp only [Act.put, List.setIfInBounds_toArray, List.set_cons_zero, List.set_cons_succ, i64_w, i32_w, e1]
              rfl
            refine pure_ (i := 5) (N := some 49) (v := ?_) (a' := ?_) #[true, false, false, false, true, true, false, false, false, false] rfl rfl (by kernel_rfl) (fun _ _ _ h => h) (Or.inl ⟨by rfl, ?_⟩) ?_ ?_
            rotate_left
            · intro w'
              go_simp
              with_reducible rfl
            rotate_left
            · simp only [Act.put, List.setIfInBounds_toArray, List.set_cons_zero, List.set_cons_succ, i64_w, i32_w, e1]
              rfl
            refine pure_ (i := 6) (N := some 50) (v := ?_) (a' := ?_) #[true, false, false, false, true, true, true, false, false, false] rfl rfl (by kernel_rfl) (fun _ _ _ h => h) (Or.inl ⟨by rfl, ?_⟩) ?_ ?_
            rotate_left
            · intro w'
              go_simp
              with_reducible rfl
            rotate_left
            · simp only [Act.put, List.setIfInBounds_toArray, List.set_cons_zero, List.set_cons_succ, i64_w, i32_w, e1]
              rfl
            refine take_ (i := 7) (N := some 51) (v := ?_) (a' := ?_) #[true, false, false, false, true, true, true, true, false, false] rfl rfl (by kernel_rfl) (fun _ _ _ h => h) (Or.inl ⟨by rfl, ?_⟩) hHeld ?_ ?_
            rotate_left
            · rintro w' ⟨s0, s1, s2, s3⟩
              go_simp
              with_reducible rfl
            rotate_left
            · simp only [Act.put, List.setIfInBounds_toArray, List.set_cons_zero, List.set_cons_succ, i64_w, i32_w, e1]
              rfl
            refine one_ (i := 1) (N := some 45) #[true, true, false, false, true, true, true, true, false, false] rfl rfl (by kernel_rfl) (by decide) (fun K hK => ?_)
            refine goes_ Try.func119 (by kernel_rfl) rfl #[.agg #[.int .u64 0, .int .i64 (sec y'), .pointer none]] (by rfl) rfl rfl (by (try simp only [List.map_toArray, List.map_cons, List.map_nil]); first | done | rfl) ?_
            refine (month_any 0 y' _ z0 z1 HD.out).mono ?_
            rintro e w1 ⟨rfl, hb⟩
            refine ⟨_, rfl, ?_⟩
            have hI2 := Aside0.mk (hI.out.below hb)
            clear hI hb
            have hI := hI2
            clear hI2
            refine hK.out _ _ ⟨(blk_cell hI.out.T 0).trans rfl, (blk_cell hI.out.T 1).trans rfl, (blk_cell hI.out.T 2).trans rfl, (blk_cell hI.out.S 4).trans rfl⟩ (fun hHeld => ?_)
            clear hK K
            refine norm_ (a' := ?_) ?_ ?_
            rotate_left
            · show Act.put _ (some 45) _ = _
              simp only [Act.put, List.setIfInBounds_toArray, List.set_cons_zero, List.set_cons_succ, i64_w, i32_w]
              rfl
            refine pure_ (i := 2) (N := some 46) (v := ?_) (a' := ?_) #[true, true, true, false, true, true, true, true, false, false] rfl rfl (by kernel_rfl) (fun _ _ _ h => h) (Or.inl ⟨by rfl, ?_⟩) ?_ ?_
            rotate_left
            · intro w'
              go_simp
              with_reducible rfl
            rotate_left
            · simp only [Act.put, List.setIfInBounds_toArray, List.set_cons_zero, List.set_cons_succ, i64_w, i32_w, e1]
              rfl
            refine pure_ (i := 3) (N := some 47) (v := ?_) (a' := ?_) #[true, true, true, true, true, true, true, true, false, false] rfl rfl (by kernel_rfl) (fun _ _ _ h => h) (Or.inl ⟨by rfl, ?_⟩) ?_ ?_
            rotate_left
            · intro w'
              go_simp
              with_reducible rfl
            rotate_left
            · simp only [Act.put, List.setIfInBounds_toArray, List.set_cons_zero, List.set_cons_succ, i64_w, i32_w, e1]
              rfl
            refine pure_ (i := 8) (N := some 52) (v := ?_) (a' := ?_) #[true, true, true, true, true, true, true, true, true, false] rfl rfl (by kernel_rfl) (fun _ _ _ h => h) (Or.inl ⟨by rfl, ?_⟩) ?_ ?_
            rotate_left
            · intro w'
              go_simp
              with_reducible rfl
            rotate_left
            · simp only [Act.put, List.setIfInBounds_toArray, List.set_cons_zero, List.set_cons_succ, i64_w, i32_w, e1]
              rfl
            refine pure_ (i := 9) (N := some 53) (v := ?_) (a' := ?_) #[true, true, true, true, true, true, true, true, true, true] rfl rfl (by kernel_rfl) (fun _ _ _ h => h) (Or.inl ⟨by rfl, ?_⟩) ?_ ?_
            rotate_left
            · intro w'
              go_simp
              with_reducible rfl
            rotate_left
            · simp only [Act.put, List.setIfInBounds_toArray, List.set_cons_zero, List.set_cons_succ, i64_w, i32_w, e1]
              rfl
            refine done_ (by kernel_rfl) ?_
            clear hHeld
            go_wp2_with fail
            go_meet
            exact ⟨y', ad', rfl, hI, HPl, ⟨by have h1 := HA.out; have h2 := HT.out; simp only [h1, h2, and_self]⟩⟩
          · rw [Bool.not_eq_true] at hT
            rw [show bitOf b.m (mo (y' / 86400)) = false from hT] at e1
            have HT := Aside0.mk hT
            clear hT
            obtain ⟨y0, hy0⟩ : ∃ y0, y0 = 86400 * ms (y' / 86400) := ⟨_, rfl⟩
            obtain ⟨z, hz⟩ : ∃ z, z = 86400 * me (y' / 86400) := ⟨_, rfl⟩
            have HPz : Aside0 (Pl b.sch (x + 1) (lastY x + 1) z true) := ⟨by rw [hz]; exact HPl.out.month HT.out⟩
            have HDz := Aside0.mk (dom_in HPz.out HB.out)
            have HD0 : Aside0 (Dom y0) := ⟨by rw [hy0]; exact dom_ms HD.out⟩
            have HLT : Aside0 (y' < z) := ⟨by rw [hz]; have := in_month (y' / 86400); omega⟩
            have HQ : Aside0 (∀ (l : Nat) (W : World), IsU W l → Calls Try.prog 120 #[.int .i64 (yr (y' / 86400)), .int .i64 (mo (y' / 86400)), .int .i64 1, .int .i64 0, .int .i64 0, .int .i64 0, .int .i64 0, .pointer (some ⟨l, 0, none⟩)] W (Post y0 W)) := ⟨by intro l W hU; rw [hy0]; exact mk_ok (y' / 86400) 1 0 l W hU HD.out.n0 HD.out.n2 (by omega) (by omega) (by omega) (by omega) _ (by rw [num_ms]; omega) (by rw [← hy0]; exact HD0.out)⟩
            have HC : Aside0 (∀ (W : World), Calls Try.prog 121 #[.agg #[.int .u64 0, .int .i64 (sec y0), .pointer none], .int .i64 0, .int .i64 1, .int .i64 0] W (Post z W)) := ⟨by intro W; rw [hy0, hz]; exact addMonth_ok (y' / 86400) W (by rw [← hy0]; exact HD0.out) (by rw [← hz]; exact HDz.out)⟩
            have HY0 : Aside0 (ad' = true → sec y' = sec y0) := ⟨by intro h; subst h; have h9 := HPl.out.at_month HT.out; exact congrArg sec (by omega)⟩
            by_cases hw : mo (y' / 86400) = 12
            · have e2 : (mo (z / 86400) == 1) = true := by rw [hz, show 86400 * me (y' / 86400) / 86400 = me (y' / 86400) by omega, ((next_month (y' / 86400)).2.2 hw).2]; rfl
              clear hw hy0 hz
              go_wp2_with fail
              refine start_ (n := 10) (S := fun w' => w'.cell? ⟨w.heap.size, 0, none⟩ = some (.int .u64 0) ∧ w'.cell? ⟨w.heap.size, 1, none⟩ = some (.int .i64 (sec y')) ∧ w'.cell? ⟨w.heap.size, 2, none⟩ = some (.pointer none) ∧ w'.cell? ⟨p, 4, none⟩ = some (.int .u64 (b.m : Int))) (ds := []) #[false, false, false, false, false, false, false, false, false, false] (by kernel_rfl) rfl rfl ⟨(blk_cell hI.out.T 0).trans rfl, (blk_cell hI.out.T 1).trans rfl, (blk_cell hI.out.T 2).trans rfl, (blk_cell hI.out.S 4).trans rfl⟩ (fun hHeld => ?_)
              refine take_ (i := 0) (N := some 44) (v := ?_) (a' := ?_) #[true, false, false, false, false, false, false, false, false, false] rfl rfl (by kernel_rfl) (fun _ _ _ h => h) (Or.inl ⟨by rfl, ?_⟩) hHeld ?_ ?_
              rotate_left
              · rintro w' ⟨s0, s1, s2, s3⟩
                go_simp
                with_reducible rfl
              rotate_left
              · simp only [Act.put, List.setIfInBounds_toArray, List.set_cons_zero, List.set_cons_succ, i64_w, i32_w, e1]
                rfl
              refine pure_ (i := 4) (N := some 48) (v := ?_) (a' := ?_) #[true, false, false, false, true, false, false, false, false, false] rfl rfl (by kernel_rfl) (fun _ _ _ h => h) (Or.inl ⟨by rfl, ?_⟩) ?_ ?_
              rotate_left
              · intro w'
                go_simp
                with_reducible rfl
              rotate_left
              · simp only [Act.put, List.setIfInBounds_toArray, List.set_cons_zero, List.set_cons_succ, i64_w, i32_w, e1]
                rfl
              refine pure_ (i := 5) (N := some 49) (v := ?_) (a' := ?_) #[true, false, false, false, true, true, false, false, false, false] rfl rfl (by kernel_rfl) (fun _ _ _ h => h) (Or.inl ⟨by rfl, ?_⟩) ?_ ?_
              rotate_left
              · intro w'
                go_simp
                with_reducible rfl
              rotate_left
              · simp only [Act.put, List.setIfInBounds_toArray, List.set_cons_zero, List.set_cons_succ, i64_w, i32_w, e1]
                rfl
              refine pure_ (i := 6) (N := some 50) (v := ?_) (a' := ?_) #[true, false, false, false, true, true, true, false, false, false] rfl rfl (by kernel_rfl) (fun _ _ _ h => h) (Or.inl ⟨by rfl, ?_⟩) ?_ ?_
              rotate_left
              · intro w'
                go_simp
                with_reducible rfl
              rotate_left
              · simp only [Act.put, List.setIfInBounds_toArray, List.set_cons_zero, List.set_cons_succ, i64_w, i32_w, e1]
                rfl
              refine take_ (i := 7) (N := some 51) (v := ?_) (a' := ?_) #[true, false, false, false, true, true, true, true, false, false] rfl rfl (by kernel_rfl) (fun _ _ _ h => h) (Or.inl ⟨by rfl, ?_⟩) hHeld ?_ ?_
              rotate_left
              · rintro w' ⟨s0, s1, s2, s3⟩
                go_simp
                with_reducible rfl
              rotate_left
              · simp only [Act.put, List.setIfInBounds_toArray, List.set_cons_zero, List.set_cons_succ, i64_w, i32_w, e1]
                rfl
              refine one_ (i := 1) (N := some 45) #[true, true, false, false, true, true, true, true, false, false] rfl rfl (by kernel_rfl) (by decide) (fun K hK => ?_)
              refine goes_ Try.func119 (by kernel_rfl) rfl #[.agg #[.int .u64 0, .int .i64 (sec y'), .pointer none]] (by rfl) rfl rfl (by (try simp only [List.map_toArray, List.map_cons, List.map_nil]); first | done | rfl) ?_
              refine (month_any 0 y' _ z0 z1 HD.out).mono ?_
              rintro e w1 ⟨rfl, hb⟩
              refine ⟨_, rfl, ?_⟩
              have hI2 := Aside0.mk (hI.out.below hb)
              clear hI hb
              have hI := hI2
              clear hI2
              refine hK.out _ _ ⟨(blk_cell hI.out.T 0).trans rfl, (blk_cell hI.out.T 1).trans rfl, (blk_cell hI.out.T 2).trans rfl, (blk_cell hI.out.S 4).trans rfl⟩ (fun hHeld => ?_)
              clear hK K
              refine norm_ (a' := ?_) ?_ ?_
              rotate_left
              · show Act.put _ (some 45) _ = _
                simp only [Act.put, List.setIfInBounds_toArray, List.set_cons_zero, List.set_cons_succ, i64_w, i32_w]
                rfl
              refine pure_ (i := 2) (N := some 46) (v := ?_) (a' := ?_) #[true, true, true, false, true, true, true, true, false, false] rfl rfl (by kernel_rfl) (fun _ _ _ h => h) (Or.inl ⟨by rfl, ?_⟩) ?_ ?_
              rotate_left
              · intro w'
                go_simp
                with_reducible rfl
              rotate_left
              · simp only [Act.put, List.setIfInBounds_toArray, List.set_cons_zero, List.set_cons_succ, i64_w, i32_w, e1]
                rfl
              refine pure_ (i := 3) (N := some 47) (v := ?_) (a' := ?_) #[true, true, true, true, true, true, true, true, false, false] rfl rfl (by kernel_rfl) (fun _ _ _ h => h) (Or.inl ⟨by rfl, ?_⟩) ?_ ?_
              rotate_left
              · intro w'
                go_simp
                with_reducible rfl
              rotate_left
              · simp only [Act.put, List.setIfInBounds_toArray, List.set_cons_zero, List.set_cons_succ, i64_w, i32_w, e1]
                rfl
              refine pure_ (i := 8) (N := some 52) (v := ?_) (a' := ?_) #[true, true, true, true, true, true, true, true, true, false] rfl rfl (by kernel_rfl) (fun _ _ _ h => h) (Or.inl ⟨by rfl, ?_⟩) ?_ ?_
              rotate_left
              · intro w'
                go_simp
                with_reducible rfl
              rotate_left
              · simp only [Act.put, List.setIfInBounds_toArray, List.set_cons_zero, List.set_cons_succ, i64_w, i32_w, e1]
                rfl
              refine pure_ (i := 9) (N := some 53) (v := ?_) (a' := ?_) #[true, true, true, true, true, true, true, true, true, true] rfl rfl (by kernel_rfl) (fun _ _ _ h => h) (Or.inl ⟨by rfl, ?_⟩) ?_ ?_
              rotate_left
              · intro w'
                go_simp
                with_reducible rfl
              rotate_left
              · simp only [Act.put, List.setIfInBounds_toArray, List.set_cons_zero, List.set_cons_succ, i64_w, i32_w, e1]
                rfl
              refine done_ (by kernel_rfl) ?_
              clear hHeld
              cases ad'
              · go_upto_region 15 with fail
                have hI := Aside0.mk hI.out.drew
                refine start_ (n := 7) (S := fun w' => w'.cell? ⟨w.heap.size, 0, none⟩ = some (.int .u64 0) ∧ w'.cell? ⟨w.heap.size, 1, none⟩ = some (.int .i64 (sec y')) ∧ w'.cell? ⟨w.heap.size, 2, none⟩ = some (.pointer none)) (ds := [6]) #[false, false, false, false, false, false, false] (by kernel_rfl) rfl rfl ⟨(blk_cell hI.out.T 0).trans rfl, (blk_cell hI.out.T 1).trans rfl, (blk_cell hI.out.T 2).trans rfl⟩ (fun hHeld => ?_)
                refine take_ (i := 0) (N := some 56) (v := ?_) (a' := ?_) #[true, false, false, false, false, false, false] rfl rfl (by kernel_rfl) (fun _ _ _ h => h) (Or.inl ⟨by rfl, ?_⟩) hHeld ?_ ?_
                rotate_left
                · rintro w' ⟨s0, s1, s2⟩
                  go_simp
                  with_reducible rfl
                rotate_left
                · simp only [Act.put, List.setIfInBounds_toArray, List.set_cons_zero, List.set_cons_succ, i64_w, i32_w]
                  rfl
                refine take_ (i := 2) (N := some 58) (v := ?_) (a' := ?_) #[true, false, true, false, false, false, false] rfl rfl (by kernel_rfl) (fun _ _ _ h => h) (Or.inl ⟨by rfl, ?_⟩) hHeld ?_ ?_
                rotate_left
                · rintro w' ⟨s0, s1, s2⟩
                  go_simp
                  with_reducible rfl
                rotate_left
                · simp only [Act.put, List.setIfInBounds_toArray, List.set_cons_zero, List.set_cons_succ, i64_w, i32_w]
                  rfl
                refine pure_ (i := 4) (N := some 60) (v := ?_) (a' := ?_) #[true, false, true, false, true, false, false] rfl rfl (by kernel_rfl) (fun _ _ _ h => h) (Or.inl ⟨by rfl, ?_⟩) ?_ ?_
                rotate_left
                · intro w'
                  go_simp
                  with_reducible rfl
                rotate_left
                · simp only [Act.put, List.setIfInBounds_toArray, List.set_cons_zero, List.set_cons_succ, i64_w, i32_w]
                  rfl
                refine one_ (i := 1) (N := some 57) #[true, true, true, false, true, false, false] rfl rfl (by kernel_rfl) (by decide) (fun K hK => ?_)
                refine goes_ Try.func118 (by kernel_rfl) rfl #[.agg #[.int .u64 0, .int .i64 (sec y'), .pointer none]] (by rfl) rfl rfl (by (try simp only [List.map_toArray, List.map_cons, List.map_nil]); first | done | rfl) ?_
                refine (year_any 0 y' _ z0 z1 HD.out).mono ?_
                rintro e w1 ⟨rfl, hb⟩
                refine ⟨_, rfl, ?_⟩
                have hI2 := Aside0.mk (hI.out.below hb)
                clear hI hb
                have hI := hI2
                clear hI2
                refine hK.out _ _ ⟨(blk_cell hI.out.T 0).trans rfl, (blk_cell hI.out.T 1).trans rfl, (blk_cell hI.out.T 2).trans rfl⟩ (fun hHeld => ?_)
                clear hK K
                refine norm_ (a' := ?_) ?_ ?_
                rotate_left
                · show Act.put _ (some 57) _ = _
                  simp only [Act.put, List.setIfInBounds_toArray, List.set_cons_zero, List.set_cons_succ, i64_w, i32_w]
                  rfl
                refine one_ (i := 3) (N := some 59) #[true, true, true, true, true, false, false] rfl rfl (by kernel_rfl) (by decide) (fun K hK => ?_)
                refine goes_ Try.func119 (by kernel_rfl) rfl #[.agg #[.int .u64 0, .int .i64 (sec y'), .pointer none]] (by rfl) rfl rfl (by (try simp only [List.map_toArray, List.map_cons, List.map_nil]); first | done | rfl) ?_
                refine (month_any 0 y' _ z0 z1 HD.out).mono ?_
                rintro e w3 ⟨rfl, hb⟩
                refine ⟨_, rfl, ?_⟩
                have hI2 := Aside0.mk (hI.out.below hb)
                clear hI hb
                have hI := hI2
                clear hI2
                refine hK.out _ _ ⟨(blk_cell hI.out.T 0).trans rfl, (blk_cell hI.out.T 1).trans rfl, (blk_cell hI.out.T 2).trans rfl⟩ (fun hHeld => ?_)
                clear hK K
                refine norm_ (a' := ?_) ?_ ?_
                rotate_left
                · show Act.put _ (some 59) _ = _
                  simp only [Act.put, List.setIfInBounds_toArray, List.set_cons_zero, List.set_cons_succ, i64_w, i32_w]
                  rfl
                refine one_ (i := 5) (N := some 61) #[true, true, true, true, true, true, false] rfl rfl (by kernel_rfl) (by decide) (fun K hK => ?_)
                refine goes_ Try.func120 (by kernel_rfl) rfl #[.int .i64 (yr (y' / 86400)), .int .i64 (mo (y' / 86400)), .int .i64 1, .int .i64 0, .int .i64 0, .int .i64 0, .int .i64 0, .pointer (some ⟨l, 0, none⟩)] (by rfl) rfl rfl (by (try simp only [List.map_toArray, List.map_cons, List.map_nil]); first | done | rfl) ?_
                refine (HQ.out _ _ hI.out.L).mono ?_
                rintro e w5 ⟨rfl, hb⟩
                refine ⟨_, rfl, ?_⟩
                have hI2 := Aside0.mk (hI.out.below hb)
                clear hI hb
                have hI := hI2
                clear hI2
                refine hK.out _ _ ⟨(blk_cell hI.out.T 0).trans rfl, (blk_cell hI.out.T 1).trans rfl, (blk_cell hI.out.T 2).trans rfl⟩ (fun hHeld => ?_)
                clear hK K
                refine norm_ (a' := ?_) ?_ ?_
                rotate_left
                · show Act.put _ (some 61) _ = _
                  simp only [Act.put, List.setIfInBounds_toArray, List.set_cons_zero, List.set_cons_succ, i64_w, i32_w]
                  rfl
                have rc0 := (blk_cell hI.out.T 0).trans (show _ = some _ from rfl)
                have rf0 := blk_frozen hI.out.T 0
                have rc1 := (blk_cell hI.out.T 1).trans (show _ = some _ from rfl)
                have rf1 := blk_frozen hI.out.T 1
                have rc2 := (blk_cell hI.out.T 2).trans (show _ = some _ from rfl)
                have rf2 := blk_frozen hI.out.T 2
                refine last_ (i := 6) (N := none) #[true, true, true, true, true, true, true] rfl rfl (by kernel_rfl) (by decide) (fun K hK => ?_)
                refine skip_ (w1 := ?_) (by rfl) rfl ?_ ?_
                rotate_left
                · go_simp
                  rfl
                have hI2 := Aside0.mk (hI.out.setT (.int .u64 0) (.int .i64 (sec y0)) (.pointer none))
                refine hK.out _ _ ?_
                clear hK K rc0 rc1 rc2 rf0 rf1 rf2 hI hHeld
                have hI := hI2
                clear hI2
                refine done_ (by kernel_rfl) ?_
                generalize hg : World.setCell _ _ (.pointer none) = w6 at hI ⊢
                clear hg
                have t0 : World.cell? _ ⟨w.heap.size, 0, none⟩ = some (.int .u64 0) := (blk_cell hI.out.T 0).trans rfl
                have t1 : World.cell? _ ⟨w.heap.size, 1, none⟩ = some (.int .i64 (sec y0)) := (blk_cell hI.out.T 1).trans rfl
                have t2 : World.cell? _ ⟨w.heap.size, 2, none⟩ = some (.pointer none) := (blk_cell hI.out.T 2).trans rfl
                go_upto_region 17 with ((go_at_call 121; (with_reducible refine (HC.out _).mono ?_); rintro e w3 ⟨rfl, hb⟩; have hI := Aside0.mk (hI.out.below hb); clear hb t0 t1 t2; have t0 : w3.cell? ⟨w.heap.size, 0, none⟩ = some (.int .u64 0) := (blk_cell hI.out.T 0).trans rfl; have t1 : w3.cell? ⟨w.heap.size, 1, none⟩ = some (.int .i64 (sec y0)) := (blk_cell hI.out.T 1).trans rfl; have t2 : w3.cell? ⟨w.heap.size, 2, none⟩ = some (.pointer none) := (blk_cell hI.out.T 2).trans rfl; have f0 := blk_frozen hI.out.T 0; have f1 := blk_frozen hI.out.T 1; have f2 := blk_frozen hI.out.T 2))
                have hI := Aside0.mk (hI.out.setT (.int .u64 0) (.int .i64 (sec z)) (.pointer none))
                clear t0 t1 t2 f0 f1 f2
                generalize hg : World.setCell _ _ (.pointer none) = w7 at hI ⊢
                clear hg
                have t0 : w7.cell? ⟨w.heap.size, 0, none⟩ = some (.int .u64 0) := (blk_cell hI.out.T 0).trans rfl
                have t1 : w7.cell? ⟨w.heap.size, 1, none⟩ = some (.int .i64 (sec z)) := (blk_cell hI.out.T 1).trans rfl
                have t2 : w7.cell? ⟨w.heap.size, 2, none⟩ = some (.pointer none) := (blk_cell hI.out.T 2).trans rfl
                go_wp2_with (go_at_call 119; (with_reducible refine (month_any 0 z _ z0 z1 HDz.out).mono ?_); rintro e w8 ⟨rfl, hb⟩; have hI := Aside0.mk (hI.out.below hb); clear hb t0 t1 t2; have t0 : w8.cell? ⟨w.heap.size, 0, none⟩ = some (.int .u64 0) := (blk_cell hI.out.T 0).trans rfl; have t1 : w8.cell? ⟨w.heap.size, 1, none⟩ = some (.int .i64 (sec z)) := (blk_cell hI.out.T 1).trans rfl; have t2 : w8.cell? ⟨w.heap.size, 2, none⟩ = some (.pointer none) := (blk_cell hI.out.T 2).trans rfl)
                go_step3
                refine ⟨rfl, at_goto HI0.out hI.out HPz.out HB.out (by have h1 := HA.out.1; have h2 := HLT.out; omega) ⟨rfl, rfl, rfl, rfl, rfl, rfl, rfl, rfl, rfl, rfl, rfl⟩⟩
              · have hI := Aside0.mk (hI.out.cast (by first | exact HY0.out rfl | exact HY0.out trivial))
                have t0 : World.cell? _ ⟨w.heap.size, 0, none⟩ = some (.int .u64 0) := (blk_cell hI.out.T 0).trans rfl
                have t1 : World.cell? _ ⟨w.heap.size, 1, none⟩ = some (.int .i64 (sec y0)) := (blk_cell hI.out.T 1).trans rfl
                have t2 : World.cell? _ ⟨w.heap.size, 2, none⟩ = some (.pointer none) := (blk_cell hI.out.T 2).trans rfl
                go_upto_region 17 with ((go_at_call 121; (with_reducible refine (HC.out _).mono ?_); rintro e w3 ⟨rfl, hb⟩; have hI := Aside0.mk (hI.out.below hb); clear hb t0 t1 t2; have t0 : w3.cell? ⟨w.heap.size, 0, none⟩ = some (.int .u64 0) := (blk_cell hI.out.T 0).trans rfl; have t1 : w3.cell? ⟨w.heap.size, 1, none⟩ = some (.int .i64 (sec y0)) := (blk_cell hI.out.T 1).trans rfl; have t2 : w3.cell? ⟨w.heap.size, 2, none⟩ = some (.pointer none) := (blk_cell hI.out.T 2).trans rfl; have f0 := blk_frozen hI.out.T 0; have f1 := blk_frozen hI.out.T 1; have f2 := blk_frozen hI.out.T 2))
                have hI := Aside0.mk (hI.out.setT (.int .u64 0) (.int .i64 (sec z)) (.pointer none))
                clear t0 t1 t2 f0 f1 f2
                generalize hg : World.setCell _ _ (.pointer none) = w7 at hI ⊢
                clear hg
                have t0 : w7.cell? ⟨w.heap.size, 0, none⟩ = some (.int .u64 0) := (blk_cell hI.out.T 0).trans rfl
                have t1 : w7.cell? ⟨w.heap.size, 1, none⟩ = some (.int .i64 (sec z)) := (blk_cell hI.out.T 1).trans rfl
                have t2 : w7.cell? ⟨w.heap.size, 2, none⟩ = some (.pointer none) := (blk_cell hI.out.T 2).trans rfl
                go_wp2_with (go_at_call 119; (with_reducible refine (month_any 0 z _ z0 z1 HDz.out).mono ?_); rintro e w8 ⟨rfl, hb⟩; have hI := Aside0.mk (hI.out.below hb); clear hb t0 t1 t2; have t0 : w8.cell? ⟨w.heap.size, 0, none⟩ = some (.int .u64 0) := (blk_cell hI.out.T 0).trans rfl; have t1 : w8.cell? ⟨w.heap.size, 1, none⟩ = some (.int .i64 (sec z)) := (blk_cell hI.out.T 1).trans rfl; have t2 : w8.cell? ⟨w.heap.size, 2, none⟩ = some (.pointer none) := (blk_cell hI.out.T 2).trans rfl)
                go_step3
                refine ⟨rfl, at_goto HI0.out hI.out HPz.out HB.out (by have h1 := HA.out.1; have h2 := HLT.out; omega) ⟨rfl, rfl, rfl, rfl, rfl, rfl, rfl, rfl, rfl, rfl, rfl⟩⟩
            · have e2 : (mo (z / 86400) == 1) = false := by rw [hz, show 86400 * me (y' / 86400) / 86400 = me (y' / 86400) by omega, ((next_month (y' / 86400)).2.1 (by have := mo_bd (y' / 86400); omega)).2]; have := mo_bd (y' / 86400); simp; omega
              have HN : Aside0 (yr (z / 86400) ≤ lastY x) := ⟨by rw [hz, show 86400 * me (y' / 86400) / 86400 = me (y' / 86400) by omega, ((next_month (y' / 86400)).2.1 (by have := mo_bd (y' / 86400); omega)).1]; exact HPl.out.yb⟩
              clear hw hy0 hz
              go_wp2_with fail
              refine start_ (n := 10) (S := fun w' => w'.cell? ⟨w.heap.size, 0, none⟩ = some (.int .u64 0) ∧ w'.cell? ⟨w.heap.size, 1, none⟩ = some (.int .i64 (sec y')) ∧ w'.cell? ⟨w.heap.size, 2, none⟩ = some (.pointer none) ∧ w'.cell? ⟨p, 4, none⟩ = some (.int .u64 (b.m : Int))) (ds := []) #[false, false, false, false, false, false, false, false, false, false] (by kernel_rfl) rfl rfl ⟨(blk_cell hI.out.T 0).trans rfl, (blk_cell hI.out.T 1).trans rfl, (blk_cell hI.out.T 2).trans rfl, (blk_cell hI.out.S 4).trans rfl⟩ (fun hHeld => ?_)
              refine take_ (i := 0) (N := some 44) (v := ?_) (a' := ?_) #[true, false, false, false, false, false, false, false, false, false] rfl rfl (by kernel_rfl) (fun _ _ _ h => h) (Or.inl ⟨by rfl, ?_⟩) hHeld ?_ ?_
              rotate_left
              · rintro w' ⟨s0, s1, s2, s3⟩
                go_simp
                with_reducible rfl
              rotate_left
              · simp only [Act.put, List.setIfInBounds_toArray, List.set_cons_zero, List.set_cons_succ, i64_w, i32_w, e1]
                rfl
              refine pure_ (i := 4) (N := some 48) (v := ?_) (a' := ?_) #[true, false, false, false, true, false, false, false, false, false] rfl rfl (by kernel_rfl) (fun _ _ _ h => h) (Or.inl ⟨by rfl, ?_⟩) ?_ ?_
              rotate_left
              · intro w'
                go_simp
                with_reducible rfl
              rotate_left
              · simp only [Act.put, List.setIfInBounds_toArray, List.set_cons_zero, List.set_cons_succ, i64_w, i32_w, e1]
                rfl
              refine pure_ (i := 5) (N := some 49) (v := ?_) (a' := ?_) #[true, false, false, false, true, true, false, false, false, false] rfl rfl (by kernel_rfl) (fun _ _ _ h => h) (Or.inl ⟨by rfl, ?_⟩) ?_ ?_
              rotate_left
              · intro w'
                go_simp
                with_reducible rfl
              rotate_left
              · simp only [Act.put, List.setIfInBounds_toArray, List.set_cons_zero, List.set_cons_succ, i64_w, i32_w, e1]
                rfl
              refine pure_ (i := 6) (N := some 50) (v := ?_) (a' := ?_) #[true, false, false, false, true, true, true, false, false, false] rfl rfl (by kernel_rfl) (fun _ _ _ h => h) (Or.inl ⟨by rfl, ?_⟩) ?_ ?_
              rotate_left
              · intro w'
                go_simp
                with_reducible rfl
              rotate_left
              · simp only [Act.put, List.setIfInBounds_toArray, List.set_cons_zero, List.set_cons_succ, i64_w, i32_w, e1]
                rfl
              refine take_ (i := 7) (N := some 51) (v := ?_) (a' := ?_) #[true, false, false, false, true, true, true, true, false, false] rfl rfl (by kernel_rfl) (fun _ _ _ h => h) (Or.inl ⟨by rfl, ?_⟩) hHeld ?_ ?_
              rotate_left
              · rintro w' ⟨s0, s1, s2, s3⟩
                go_simp
                with_reducible rfl
              rotate_left
              · simp only [Act.put, List.setIfInBounds_toArray, List.set_cons_zero, List.set_cons_succ, i64_w, i32_w, e1]
                rfl
              refine one_ (i := 1) (N := some 45) #[true, true, false, false, true, true, true, true, false, false] rfl rfl (by kernel_rfl) (by decide) (fun K hK => ?_)
              refine goes_ Try.func119 (by kernel_rfl) rfl #[.agg #[.int .u64 0, .int .i64 (sec y'), .pointer none]] (by rfl) rfl rfl (by (try simp only [List.map_toArray, List.map_cons, List.map_nil]); first | done | rfl) ?_
              refine (month_any 0 y' _ z0 z1 HD.out).mono ?_
              rintro e w1 ⟨rfl, hb⟩
              refine ⟨_, rfl, ?_⟩
              have hI2 := Aside0.mk (hI.out.below hb)
              clear hI hb
              have hI := hI2
              clear hI2
              refine hK.out _ _ ⟨(blk_cell hI.out.T 0).trans rfl, (blk_cell hI.out.T 1).trans rfl, (blk_cell hI.out.T 2).trans rfl, (blk_cell hI.out.S 4).trans rfl⟩ (fun hHeld => ?_)
              clear hK K
              refine norm_ (a' := ?_) ?_ ?_
              rotate_left
              · show Act.put _ (some 45) _ = _
                simp only [Act.put, List.setIfInBounds_toArray, List.set_cons_zero, List.set_cons_succ, i64_w, i32_w]
                rfl
              refine pure_ (i := 2) (N := some 46) (v := ?_) (a' := ?_) #[true, true, true, false, true, true, true, true, false, false] rfl rfl (by kernel_rfl) (fun _ _ _ h => h) (Or.inl ⟨by rfl, ?_⟩) ?_ ?_
              rotate_left
              · intro w'
                go_simp
                with_reducible rfl
              rotate_left
              · simp only [Act.put, List.setIfInBounds_toArray, List.set_cons_zero, List.set_cons_succ, i64_w, i32_w, e1]
                rfl
              refine pure_ (i := 3) (N := some 47) (v := ?_) (a' := ?_) #[true, true, true, true, true, true, true, true, false, false] rfl rfl (by kernel_rfl) (fun _ _ _ h => h) (Or.inl ⟨by rfl, ?_⟩) ?_ ?_
              rotate_left
              · intro w'
                go_simp
                with_reducible rfl
              rotate_left
              · simp only [Act.put, List.setIfInBounds_toArray, List.set_cons_zero, List.set_cons_succ, i64_w, i32_w, e1]
                rfl
              refine pure_ (i := 8) (N := some 52) (v := ?_) (a' := ?_) #[true, true, true, true, true, true, true, true, true, false] rfl rfl (by kernel_rfl) (fun _ _ _ h => h) (Or.inl ⟨by rfl, ?_⟩) ?_ ?_
              rotate_left
              · intro w'
                go_simp
                with_reducible rfl
              rotate_left
              · simp only [Act.put, List.setIfInBounds_toArray, List.set_cons_zero, List.set_cons_succ, i64_w, i32_w, e1]
                rfl
              refine pure_ (i := 9) (N := some 53) (v := ?_) (a' := ?_) #[true, true, true, true, true, true, true, true, true, true] rfl rfl (by kernel_rfl) (fun _ _ _ h => h) (Or.inl ⟨by rfl, ?_⟩) ?_ ?_
              rotate_left
              · intro w'
                go_simp
                with_reducible rfl
              rotate_left
              · simp only [Act.put, List.setIfInBounds_toArray, List.set_cons_zero, List.set_cons_succ, i64_w, i32_w, e1]
                rfl
              refine done_ (by kernel_rfl) ?_
              clear hHeld
              cases ad'
              · go_upto_region 15 with fail
                have hI := Aside0.mk hI.out.drew
                refine start_ (n := 7) (S := fun w' => w'.cell? ⟨w.heap.size, 0, none⟩ = some (.int .u64 0) ∧ w'.cell? ⟨w.heap.size, 1, none⟩ = some (.int .i64 (sec y')) ∧ w'.cell? ⟨w.heap.size, 2, none⟩ = some (.pointer none)) (ds := [6]) #[false, false, false, false, false, false, false] (by kernel_rfl) rfl rfl ⟨(blk_cell hI.out.T 0).trans rfl, (blk_cell hI.out.T 1).trans rfl, (blk_cell hI.out.T 2).trans rfl⟩ (fun hHeld => ?_)
                refine take_ (i := 0) (N := some 56) (v := ?_) (a' := ?_) #[true, false, false, false, false, false, false] rfl rfl (by kernel_rfl) (fun _ _ _ h => h) (Or.inl ⟨by rfl, ?_⟩) hHeld ?_ ?_
                rotate_left
                · rintro w' ⟨s0, s1, s2⟩
                  go_simp
                  with_reducible rfl
                rotate_left
                · simp only [Act.put, List.setIfInBounds_toArray, List.set_cons_zero, List.set_cons_succ, i64_w, i32_w]
                  rfl
                refine take_ (i := 2) (N := some 58) (v := ?_) (a' := ?_) #[true, false, true, false, false, false, false] rfl rfl (by kernel_rfl) (fun _ _ _ h => h) (Or.inl ⟨by rfl, ?_⟩) hHeld ?_ ?_
                rotate_left
                · rintro w' ⟨s0, s1, s2⟩
                  go_simp
                  with_reducible rfl
                rotate_left
                · simp only [Act.put, List.setIfInBounds_toArray, List.set_cons_zero, List.set_cons_succ, i64_w, i32_w]
                  rfl
                refine pure_ (i := 4) (N := some 60) (v := ?_) (a' := ?_) #[true, false, true, false, true, false, false] rfl rfl (by kernel_rfl) (fun _ _ _ h => h) (Or.inl ⟨by rfl, ?_⟩) ?_ ?_
                rotate_left
                · intro w'
                  go_simp
                  with_reducible rfl
                rotate_left
                · simp only [Act.put, List.setIfInBounds_toArray, List.set_cons_zero, List.set_cons_succ, i64_w, i32_w]
                  rfl
                refine one_ (i := 1) (N := some 57) #[true, true, true, false, true, false, false] rfl rfl (by kernel_rfl) (by decide) (fun K hK => ?_)
                refine goes_ Try.func118 (by kernel_rfl) rfl #[.agg #[.int .u64 0, .int .i64 (sec y'), .pointer none]] (by rfl) rfl rfl (by (try simp only [List.map_toArray, List.map_cons, List.map_nil]); first | done | rfl) ?_
                refine (year_any 0 y' _ z0 z1 HD.out).mono ?_
                rintro e w1 ⟨rfl, hb⟩
                refine ⟨_, rfl, ?_⟩
                have hI2 := Aside0.mk (hI.out.below hb)
                clear hI hb
                have hI := hI2
                clear hI2
                refine hK.out _ _ ⟨(blk_cell hI.out.T 0).trans rfl, (blk_cell hI.out.T 1).trans rfl, (blk_cell hI.out.T 2).trans rfl⟩ (fun hHeld => ?_)
                clear hK K
                refine norm_ (a' := ?_) ?_ ?_
                rotate_left
                · show Act.put _ (some 57) _ = _
                  simp only [Act.put, List.setIfInBounds_toArray, List.set_cons_zero, List.set_cons_succ, i64_w, i32_w]
                  rfl
                refine one_ (i := 3) (N := some 59) #[true, true, true, true, true, false, false] rfl rfl (by kernel_rfl) (by decide) (fun K hK => ?_)
                refine goes_ Try.func119 (by kernel_rfl) rfl #[.agg #[.int .u64 0, .int .i64 (sec y'), .pointer none]] (by rfl) rfl rfl (by (try simp only [List.map_toArray, List.map_cons, List.map_nil]); first | done | rfl) ?_
                refine (month_any 0 y' _ z0 z1 HD.out).mono ?_
                rintro e w3 ⟨rfl, hb⟩
                refine ⟨_, rfl, ?_⟩
                have hI2 := Aside0.mk (hI.out.below hb)
                clear hI hb
                have hI := hI2
                clear hI2
                refine hK.out _ _ ⟨(blk_cell hI.out.T 0).trans rfl, (blk_cell hI.out.T 1).trans rfl, (blk_cell hI.out.T 2).trans rfl⟩ (fun hHeld => ?_)
                clear hK K
                refine norm_ (a' := ?_) ?_ ?_
                rotate_left
                · show Act.put _ (some 59) _ = _
                  simp only [Act.put, List.setIfInBounds_toArray, List.set_cons_zero, List.set_cons_succ, i64_w, i32_w]
                  rfl
                refine one_ (i := 5) (N := some 61) #[true, true, true, true, true, true, false] rfl rfl (by kernel_rfl) (by decide) (fun K hK => ?_)
                refine goes_ Try.func120 (by kernel_rfl) rfl #[.int .i64 (yr (y' / 86400)), .int .i64 (mo (y' / 86400)), .int .i64 1, .int .i64 0, .int .i64 0, .int .i64 0, .int .i64 0, .pointer (some ⟨l, 0, none⟩)] (by rfl) rfl rfl (by (try simp only [List.map_toArray, List.map_cons, List.map_nil]); first | done | rfl) ?_
                refine (HQ.out _ _ hI.out.L).mono ?_
                rintro e w5 ⟨rfl, hb⟩
                refine ⟨_, rfl, ?_⟩
                have hI2 := Aside0.mk (hI.out.below hb)
                clear hI hb
                have hI := hI2
                clear hI2
                refine hK.out _ _ ⟨(blk_cell hI.out.T 0).trans rfl, (blk_cell hI.out.T 1).trans rfl, (blk_cell hI.out.T 2).trans rfl⟩ (fun hHeld => ?_)
                clear hK K
                refine norm_ (a' := ?_) ?_ ?_
                rotate_left
                · show Act.put _ (some 61) _ = _
                  simp only [Act.put, List.setIfInBounds_toArray, List.set_cons_zero, List.set_cons_succ, i64_w, i32_w]
                  rfl
                have rc0 := (blk_cell hI.out.T 0).trans (show _ = some _ from rfl)
                have rf0 := blk_frozen hI.out.T 0
                have rc1 := (blk_cell hI.out.T 1).trans (show _ = some _ from rfl)
                have rf1 := blk_frozen hI.out.T 1
                have rc2 := (blk_cell hI.out.T 2).trans (show _ = some _ from rfl)
                have rf2 := blk_frozen hI.out.T 2
                refine last_ (i := 6) (N := none) #[true, true, true, true, true, true, true] rfl rfl (by kernel_rfl) (by decide) (fun K hK => ?_)
                refine skip_ (w1 := ?_) (by rfl) rfl ?_ ?_
                rotate_left
                · go_simp
                  rfl
                have hI2 := Aside0.mk (hI.out.setT (.int .u64 0) (.int .i64 (sec y0)) (.pointer none))
                refine hK.out _ _ ?_
                clear hK K rc0 rc1 rc2 rf0 rf1 rf2 hI hHeld
                have hI := hI2
                clear hI2
                refine done_ (by kernel_rfl) ?_
                generalize hg : World.setCell _ _ (.pointer none) = w6 at hI ⊢
                clear hg
                have t0 : World.cell? _ ⟨w.heap.size, 0, none⟩ = some (.int .u64 0) := (blk_cell hI.out.T 0).trans rfl
                have t1 : World.cell? _ ⟨w.heap.size, 1, none⟩ = some (.int .i64 (sec y0)) := (blk_cell hI.out.T 1).trans rfl
                have t2 : World.cell? _ ⟨w.heap.size, 2, none⟩ = some (.pointer none) := (blk_cell hI.out.T 2).trans rfl
                go_upto_region 17 with ((go_at_call 121; (with_reducible refine (HC.out _).mono ?_); rintro e w3 ⟨rfl, hb⟩; have hI := Aside0.mk (hI.out.below hb); clear hb t0 t1 t2; have t0 : w3.cell? ⟨w.heap.size, 0, none⟩ = some (.int .u64 0) := (blk_cell hI.out.T 0).trans rfl; have t1 : w3.cell? ⟨w.heap.size, 1, none⟩ = some (.int .i64 (sec y0)) := (blk_cell hI.out.T 1).trans rfl; have t2 : w3.cell? ⟨w.heap.size, 2, none⟩ = some (.pointer none) := (blk_cell hI.out.T 2).trans rfl; have f0 := blk_frozen hI.out.T 0; have f1 := blk_frozen hI.out.T 1; have f2 := blk_frozen hI.out.T 2))
                have hI := Aside0.mk (hI.out.setT (.int .u64 0) (.int .i64 (sec z)) (.pointer none))
                clear t0 t1 t2 f0 f1 f2
                generalize hg : World.setCell _ _ (.pointer none) = w7 at hI ⊢
                clear hg
                have t0 : w7.cell? ⟨w.heap.size, 0, none⟩ = some (.int .u64 0) := (blk_cell hI.out.T 0).trans rfl
                have t1 : w7.cell? ⟨w.heap.size, 1, none⟩ = some (.int .i64 (sec z)) := (blk_cell hI.out.T 1).trans rfl
                have t2 : w7.cell? ⟨w.heap.size, 2, none⟩ = some (.pointer none) := (blk_cell hI.out.T 2).trans rfl
                go_wp2_with (go_at_call 119; (with_reducible refine (month_any 0 z _ z0 z1 HDz.out).mono ?_); rintro e w8 ⟨rfl, hb⟩; have hI := Aside0.mk (hI.out.below hb); clear hb t0 t1 t2; have t0 : w8.cell? ⟨w.heap.size, 0, none⟩ = some (.int .u64 0) := (blk_cell hI.out.T 0).trans rfl; have t1 : w8.cell? ⟨w.heap.size, 1, none⟩ = some (.int .i64 (sec z)) := (blk_cell hI.out.T 1).trans rfl; have t2 : w8.cell? ⟨w.heap.size, 2, none⟩ = some (.pointer none) := (blk_cell hI.out.T 2).trans rfl)
                go_roundg (400000000000 - z).toNat
                case measure => have h1 := HA.out.2; have h2 := HLT.out; have h3 := HDz.out.hi; omega
                case rel => exact ⟨z, true, rfl, hI, ⟨HPz.out.at HN.out⟩, ⟨by have h1 := HA.out.1; have h2 := HLT.out; exact ⟨by omega, Nat.le_refl _⟩⟩⟩
              · have hI := Aside0.mk (hI.out.cast (by first | exact HY0.out rfl | exact HY0.out trivial))
                have t0 : World.cell? _ ⟨w.heap.size, 0, none⟩ = some (.int .u64 0) := (blk_cell hI.out.T 0).trans rfl
                have t1 : World.cell? _ ⟨w.heap.size, 1, none⟩ = some (.int .i64 (sec y0)) := (blk_cell hI.out.T 1).trans rfl
                have t2 : World.cell? _ ⟨w.heap.size, 2, none⟩ = some (.pointer none) := (blk_cell hI.out.T 2).trans rfl
                go_upto_region 17 with ((go_at_call 121; (with_reducible refine (HC.out _).mono ?_); rintro e w3 ⟨rfl, hb⟩; have hI := Aside0.mk (hI.out.below hb); clear hb t0 t1 t2; have t0 : w3.cell? ⟨w.heap.size, 0, none⟩ = some (.int .u64 0) := (blk_cell hI.out.T 0).trans rfl; have t1 : w3.cell? ⟨w.heap.size, 1, none⟩ = some (.int .i64 (sec y0)) := (blk_cell hI.out.T 1).trans rfl; have t2 : w3.cell? ⟨w.heap.size, 2, none⟩ = some (.pointer none) := (blk_cell hI.out.T 2).trans rfl; have f0 := blk_frozen hI.out.T 0; have f1 := blk_frozen hI.out.T 1; have f2 := blk_frozen hI.out.T 2))
                have hI := Aside0.mk (hI.out.setT (.int .u64 0) (.int .i64 (sec z)) (.pointer none))
                clear t0 t1 t2 f0 f1 f2
                generalize hg : World.setCell _ _ (.pointer none) = w7 at hI ⊢
                clear hg
                have t0 : w7.cell? ⟨w.heap.size, 0, none⟩ = some (.int .u64 0) := (blk_cell hI.out.T 0).trans rfl
                have t1 : w7.cell? ⟨w.heap.size, 1, none⟩ = some (.int .i64 (sec z)) := (blk_cell hI.out.T 1).trans rfl
                have t2 : w7.cell? ⟨w.heap.size, 2, none⟩ = some (.pointer none) := (blk_cell hI.out.T 2).trans rfl
                go_wp2_with (go_at_call 119; (with_reducible refine (month_any 0 z _ z0 z1 HDz.out).mono ?_); rintro e w8 ⟨rfl, hb⟩; have hI := Aside0.mk (hI.out.below hb); clear hb t0 t1 t2; have t0 : w8.cell? ⟨w.heap.size, 0, none⟩ = some (.int .u64 0) := (blk_cell hI.out.T 0).trans rfl; have t1 : w8.cell? ⟨w.heap.size, 1, none⟩ = some (.int .i64 (sec z)) := (blk_cell hI.out.T 1).trans rfl; have t2 : w8.cell? ⟨w.heap.size, 2, none⟩ = some (.pointer none) := (blk_cell hI.out.T 2).trans rfl)
                go_roundg (400000000000 - z).toNat
                case measure => have h1 := HA.out.2; have h2 := HLT.out; have h3 := HDz.out.hi; omega
                case rel => exact ⟨z, true, rfl, hI, ⟨HPz.out.at HN.out⟩, ⟨by have h1 := HA.out.1; have h2 := HLT.out; exact ⟨by omega, Nat.le_refl _⟩⟩⟩
      case rest =>
        clear hI HPl HA
        obtain ⟨y1, ad1, rfl, hI, HPl, HA⟩ := hcut
        go_upto_block 2 with fail
        go_cut [7] (fun s7 wx => ∃ (y' : Int) (ad' : Bool), s7 = .bool ad' ∧ Aside0 (Nx w wx p k l b #[.int .u64 0, .int .i64 (sec y'), .pointer none]) ∧ Aside0 (Pl b.sch (x + 1) (lastY x) y' ad') ∧ Aside0 (y ≤ y' ∧ b.sch.M (mo (y' / 86400)) = true ∧ b.sch.D (y' / 86400) = true))
        case first =>
          go_wp2_with fail
          go_loopg [7] (400000000000 - y1).toNat (fun gk s7 wr => ∃ (y' : Int) (ad' : Bool), s7 = .bool ad' ∧ Aside0 (Nx w wr p k l b #[.int .u64 0, .int .i64 (sec y'), .pointer none]) ∧ Aside0 (Pl b.sch (x + 1) (lastY x) y' ad') ∧ Aside0 (y ≤ y' ∧ (400000000000 - y').toNat ≤ gk ∧ b.sch.M (mo (y' / 86400)) = true))
          case atStart => exact ⟨y1, ad1, rfl, hI, HPl, ⟨by have := HA.out; simpa using this⟩⟩
          case round =>
            clear hI HPl HA
            obtain ⟨y', ad', rfl, hI, HPl, HA⟩ := hrel
            have HD := Aside0.mk (dom_in HPl.out HB.out)
            have ee : dayOk b.d b.w (y' / 86400) = b.sch.D (y' / 86400) := rfl
            by_cases hT : b.sch.D (y' / 86400) = true
            · rw [hT] at ee
              have HT := Aside0.mk hT
              clear hT
              have t0 : World.cell? _ ⟨w.heap.size, 0, none⟩ = some (.int .u64 0) := (blk_cell hI.out.T 0).trans rfl
              have t1 : World.cell? _ ⟨w.heap.size, 1, none⟩ = some (.int .i64 (sec y')) := (blk_cell hI.out.T 1).trans rfl
              have t2 : World.cell? _ ⟨w.heap.size, 2, none⟩ = some (.pointer none) := (blk_cell hI.out.T 2).trans rfl
              go_wp2_with (go_at_call 122; (with_reducible refine (day_any_ok p b y' _ hI.out.S HW.out HD.out).mono ?_); rintro e w2 ⟨rfl, hb⟩; have hI := Aside0.mk (hI.out.below hb); clear hb t0 t1 t2)
              go_meet
              exact ⟨y', ad', rfl, hI, HPl, ⟨by have h1 := HA.out; have h2 := HT.out; simp only [h1, h2, and_self]⟩⟩
            · rw [Bool.not_eq_true] at hT
              rw [hT] at ee
              have HT := Aside0.mk hT
              clear hT
              obtain ⟨y0, hy0⟩ : ∃ y0, y0 = 86400 * (y' / 86400) := ⟨_, rfl⟩
              obtain ⟨z, hz⟩ : ∃ z, z = 86400 * (y' / 86400 + 1) := ⟨_, rfl⟩
              have HPz : Aside0 (Pl b.sch (x + 1) (lastY x + 1) z true) := ⟨by rw [hz]; exact HPl.out.day HA.out.2.2 HT.out⟩
              have HDz := Aside0.mk (dom_in HPz.out HB.out)
              have HD0 : Aside0 (Dom y0) := ⟨by rw [hy0]; exact ⟨by have := HD.out.lo; omega, by have := HD.out.hi; omega⟩⟩
              have HLT : Aside0 (y' < z) := ⟨by rw [hz]; omega⟩
              have HQ : Aside0 (∀ (l : Nat) (W : World), IsU W l → Calls Try.prog 120 #[.int .i64 (yr (y' / 86400)), .int .i64 (mo (y' / 86400)), .int .i64 (dy (y' / 86400)), .int .i64 0, .int .i64 0, .int .i64 0, .int .i64 0, .pointer (some ⟨l, 0, none⟩)] W (Post y0 W)) := ⟨by intro l W hU; rw [hy0]; exact mk_ok (y' / 86400) (dy (y' / 86400)) 0 l W hU HD.out.n0 HD.out.n2 (dy_bd _).1 (dy31 _) (by omega) (by omega) _ (by rw [(date_num _).2]; omega) (by rw [← hy0]; exact HD0.out)⟩
              have HC : Aside0 (∀ (W : World), Calls Try.prog 121 #[.agg #[.int .u64 0, .int .i64 (sec y0), .pointer none], .int .i64 0, .int .i64 0, .int .i64 1] W (Post z W)) := ⟨by intro W; rw [hy0, hz]; exact addDay_ok (y' / 86400) W (by rw [← hy0]; exact HD0.out) (by rw [← hz]; exact HDz.out)⟩
              have HY0 : Aside0 (ad' = true → sec y' = sec y0) := ⟨by intro h; subst h; have h9 := HPl.out.at_day HT.out; exact congrArg sec (by omega)⟩
              by_cases hw : y' / 86400 + 1 = me (y' / 86400)
              · have e2 : (dy (z / 86400) == 1) = true := by rw [show z / 86400 = y' / 86400 + 1 by omega, (next_day_one (y' / 86400)).2 hw]; rfl
                have e3 : (z % 86400 / 3600 != 0) = false := by rw [bne_eq_false_iff_eq]; omega
                clear hw hy0 hz
                have t0 : World.cell? _ ⟨w.heap.size, 0, none⟩ = some (.int .u64 0) := (blk_cell hI.out.T 0).trans rfl
                have t1 : World.cell? _ ⟨w.heap.size, 1, none⟩ = some (.int .i64 (sec y')) := (blk_cell hI.out.T 1).trans rfl
                have t2 : World.cell? _ ⟨w.heap.size, 2, none⟩ = some (.pointer none) := (blk_cell hI.out.T 2).trans rfl
                cases ad'
                · go_upto_block 3 with (go_at_call 122; (with_reducible refine (day_any_ok p b y' _ hI.out.S HW.out HD.out).mono ?_); rintro e w2 ⟨rfl, hb⟩; have hI := Aside0.mk (hI.out.below hb); clear hb t0 t1 t2)
                  go_upto_region 21 with fail
                  have hI := Aside0.mk hI.out.drew
                  refine start_ (n := 9) (S := fun w' => w'.cell? ⟨w.heap.size, 0, none⟩ = some (.int .u64 0) ∧ w'.cell? ⟨w.heap.size, 1, none⟩ = some (.int .i64 (sec y')) ∧ w'.cell? ⟨w.heap.size, 2, none⟩ = some (.pointer none)) (ds := [8]) #[false, false, false, false, false, false, false, false, false] (by kernel_rfl) rfl rfl ⟨(blk_cell hI.out.T 0).trans rfl, (blk_cell hI.out.T 1).trans rfl, (blk_cell hI.out.T 2).trans rfl⟩ (fun hHeld => ?_)
                  refine take_ (i := 0) (N := some 73) (v := ?_) (a' := ?_) #[true, false, false, false, false, false, false, false, false] rfl rfl (by kernel_rfl) (fun _ _ _ h => h) (Or.inl ⟨by rfl, ?_⟩) hHeld ?_ ?_
                  rotate_left
                  · rintro w' ⟨s0, s1, s2⟩
                    go_simp
                    with_reducible rfl
                  rotate_left
                  · simp only [Act.put, List.setIfInBounds_toArray, List.set_cons_zero, List.set_cons_succ, i64_w, i32_w]
                    rfl
                  refine take_ (i := 2) (N := some 75) (v := ?_) (a' := ?_) #[true, false, true, false, false, false, false, false, false] rfl rfl (by kernel_rfl) (fun _ _ _ h => h) (Or.inl ⟨by rfl, ?_⟩) hHeld ?_ ?_
                  rotate_left
                  · rintro w' ⟨s0, s1, s2⟩
                    go_simp
                    with_reducible rfl
                  rotate_left
                  · simp only [Act.put, List.setIfInBounds_toArray, List.set_cons_zero, List.set_cons_succ, i64_w, i32_w]
                    rfl
                  refine take_ (i := 4) (N := some 77) (v := ?_) (a' := ?_) #[true, false, true, false, true, false, false, false, false] rfl rfl (by kernel_rfl) (fun _ _ _ h => h) (Or.inl ⟨by rfl, ?_⟩) hHeld ?_ ?_
                  rotate_left
                  · rintro w' ⟨s0, s1, s2⟩
                    go_simp
                    with_reducible rfl
                  rotate_left
                  · simp only [Act.put, List.setIfInBounds_toArray, List.set_cons_zero, List.set_cons_succ, i64_w, i32_w]
                    rfl
                  refine pure_ (i := 6) (N := some 79) (v := ?_) (a' := ?_) #[true, false, true, false, true, false, true, false, false] rfl rfl (by kernel_rfl) (fun _ _ _ h => h) (Or.inl ⟨by rfl, ?_⟩) ?_ ?_
                  rotate_left
                  · intro w'
                    go_simp
                    with_reducible rfl
                  rotate_left
                  · simp only [Act.put, List.setIfInBounds_toArray, List.set_cons_zero, List.set_cons_succ, i64_w, i32_w]
                    rfl
                  refine one_ (i := 1) (N := some 74) #[true, true, true, false, true, false, true, false, false] rfl rfl (by kernel_rfl) (by decide) (fun K hK => ?_)
                  refine goes_ Try.func118 (by kernel_rfl) rfl #[.agg #[.int .u64 0, .int .i64 (sec y'), .pointer none]] (by rfl) rfl rfl (by (try simp only [List.map_toArray, List.map_cons, List.map_nil]); first | done | rfl) ?_
                  refine (year_any 0 y' _ z0 z1 HD.out).mono ?_
                  rintro e w1 ⟨rfl, hb⟩
                  refine ⟨_, rfl, ?_⟩
                  have hI2 := Aside0.mk (hI.out.below hb)
                  clear hI hb
                  have hI := hI2
                  clear hI2
                  refine hK.out _ _ ⟨(blk_cell hI.out.T 0).trans rfl, (blk_cell hI.out.T 1).trans rfl, (blk_cell hI.out.T 2).trans rfl⟩ (fun hHeld => ?_)
                  clear hK K
                  refine norm_ (a' := ?_) ?_ ?_
                  rotate_left
                  · show Act.put _ (some 74) _ = _
                    simp only [Act.put, List.setIfInBounds_toArray, List.set_cons_zero, List.set_cons_succ, i64_w, i32_w]
                    rfl
                  refine one_ (i := 3) (N := some 76) #[true, true, true, true, true, false, true, false, false] rfl rfl (by kernel_rfl) (by decide) (fun K hK => ?_)
                  refine goes_ Try.func119 (by kernel_rfl) rfl #[.agg #[.int .u64 0, .int .i64 (sec y'), .pointer none]] (by rfl) rfl rfl (by (try simp only [List.map_toArray, List.map_cons, List.map_nil]); first | done | rfl) ?_
                  refine (month_any 0 y' _ z0 z1 HD.out).mono ?_
                  rintro e w3 ⟨rfl, hb⟩
                  refine ⟨_, rfl, ?_⟩
                  have hI2 := Aside0.mk (hI.out.below hb)
                  clear hI hb
                  have hI := hI2
                  clear hI2
                  refine hK.out _ _ ⟨(blk_cell hI.out.T 0).trans rfl, (blk_cell hI.out.T 1).trans rfl, (blk_cell hI.out.T 2).trans rfl⟩ (fun hHeld => ?_)
                  clear hK K
                  refine norm_ (a' := ?_) ?_ ?_
                  rotate_left
                  · show Act.put _ (some 76) _ = _
                    simp only [Act.put, List.setIfInBounds_toArray, List.set_cons_zero, List.set_cons_succ, i64_w, i32_w]
                    rfl
                  refine one_ (i := 5) (N := some 78) #[true, true, true, true, true, true, true, false, false] rfl rfl (by kernel_rfl) (by decide) (fun K hK => ?_)
                  refine goes_ Try.func111 (by kernel_rfl) rfl #[.agg #[.int .u64 0, .int .i64 (sec y'), .pointer none]] (by rfl) rfl rfl (by (try simp only [List.map_toArray, List.map_cons, List.map_nil]); first | done | rfl) ?_
                  refine (day_any 0 y' _ z0 z1 HD.out).mono ?_
                  rintro e w5 ⟨rfl, hb⟩
                  refine ⟨_, rfl, ?_⟩
                  have hI2 := Aside0.mk (hI.out.below hb)
                  clear hI hb
                  have hI := hI2
                  clear hI2
                  refine hK.out _ _ ⟨(blk_cell hI.out.T 0).trans rfl, (blk_cell hI.out.T 1).trans rfl, (blk_cell hI.out.T 2).trans rfl⟩ (fun hHeld => ?_)
                  clear hK K
                  refine norm_ (a' := ?_) ?_ ?_
                  rotate_left
                  · show Act.put _ (some 78) _ = _
                    simp only [Act.put, List.setIfInBounds_toArray, List.set_cons_zero, List.set_cons_succ, i64_w, i32_w]
                    rfl
                  refine one_ (i := 7) (N := some 80) #[true, true, true, true, true, true, true, true, false] rfl rfl (by kernel_rfl) (by decide) (fun K hK => ?_)
                  refine goes_ Try.func120 (by kernel_rfl) rfl #[.int .i64 (yr (y' / 86400)), .int .i64 (mo (y' / 86400)), .int .i64 (dy (y' / 86400)), .int .i64 0, .int .i64 0, .int .i64 0, .int .i64 0, .pointer (some ⟨l, 0, none⟩)] (by rfl) rfl rfl (by (try simp only [List.map_toArray, List.map_cons, List.map_nil]); first | done | rfl) ?_
                  refine (HQ.out _ _ hI.out.L).mono ?_
                  rintro e w7 ⟨rfl, hb⟩
                  refine ⟨_, rfl, ?_⟩
                  have hI2 := Aside0.mk (hI.out.below hb)
                  clear hI hb
                  have hI := hI2
                  clear hI2
                  refine hK.out _ _ ⟨(blk_cell hI.out.T 0).trans rfl, (blk_cell hI.out.T 1).trans rfl, (blk_cell hI.out.T 2).trans rfl⟩ (fun hHeld => ?_)
                  clear hK K
                  refine norm_ (a' := ?_) ?_ ?_
                  rotate_left
                  · show Act.put _ (some 80) _ = _
                    simp only [Act.put, List.setIfInBounds_toArray, List.set_cons_zero, List.set_cons_succ, i64_w, i32_w]
                    rfl
                  have rc0 := (blk_cell hI.out.T 0).trans (show _ = some _ from rfl)
                  have rf0 := blk_frozen hI.out.T 0
                  have rc1 := (blk_cell hI.out.T 1).trans (show _ = some _ from rfl)
                  have rf1 := blk_frozen hI.out.T 1
                  have rc2 := (blk_cell hI.out.T 2).trans (show _ = some _ from rfl)
                  have rf2 := blk_frozen hI.out.T 2
                  refine last_ (i := 8) (N := none) #[true, true, true, true, true, true, true, true, true] rfl rfl (by kernel_rfl) (by decide) (fun K hK => ?_)
                  refine skip_ (w1 := ?_) (by rfl) rfl ?_ ?_
                  rotate_left
                  · go_simp
                    rfl
                  have hI2 := Aside0.mk (hI.out.setT (.int .u64 0) (.int .i64 (sec y0)) (.pointer none))
                  refine hK.out _ _ ?_
                  clear hK K rc0 rc1 rc2 rf0 rf1 rf2 hI hHeld
                  have hI := hI2
                  clear hI2
                  refine done_ (by kernel_rfl) ?_
                  generalize hg : World.setCell _ _ (.pointer none) = w6 at hI ⊢
                  clear hg
                  have t0 : World.cell? _ ⟨w.heap.size, 0, none⟩ = some (.int .u64 0) := (blk_cell hI.out.T 0).trans rfl
                  have t1 : World.cell? _ ⟨w.heap.size, 1, none⟩ = some (.int .i64 (sec y0)) := (blk_cell hI.out.T 1).trans rfl
                  have t2 : World.cell? _ ⟨w.heap.size, 2, none⟩ = some (.pointer none) := (blk_cell hI.out.T 2).trans rfl
                  go_upto_region 23 with ((go_at_call 121; (with_reducible refine (HC.out _).mono ?_); rintro e w3 ⟨rfl, hb⟩; have hI := Aside0.mk (hI.out.below hb); clear hb t0 t1 t2; have t0 : w3.cell? ⟨w.heap.size, 0, none⟩ = some (.int .u64 0) := (blk_cell hI.out.T 0).trans rfl; have t1 : w3.cell? ⟨w.heap.size, 1, none⟩ = some (.int .i64 (sec y0)) := (blk_cell hI.out.T 1).trans rfl; have t2 : w3.cell? ⟨w.heap.size, 2, none⟩ = some (.pointer none) := (blk_cell hI.out.T 2).trans rfl; have f0 := blk_frozen hI.out.T 0; have f1 := blk_frozen hI.out.T 1; have f2 := blk_frozen hI.out.T 2))
                  have hI := Aside0.mk (hI.out.setT (.int .u64 0) (.int .i64 (sec z)) (.pointer none))
                  clear t0 t1 t2 f0 f1 f2
                  generalize hg : World.setCell _ _ (.pointer none) = w7 at hI ⊢
                  clear hg
                  have t0 : w7.cell? ⟨w.heap.size, 0, none⟩ = some (.int .u64 0) := (blk_cell hI.out.T 0).trans rfl
                  have t1 : w7.cell? ⟨w.heap.size, 1, none⟩ = some (.int .i64 (sec z)) := (blk_cell hI.out.T 1).trans rfl
                  have t2 : w7.cell? ⟨w.heap.size, 2, none⟩ = some (.pointer none) := (blk_cell hI.out.T 2).trans rfl
                  go_wp2_with (first | (go_at_call 123; (with_reducible refine (hour_any 0 z _ z0 z1 HDz.out).mono ?_); rintro e w8 ⟨rfl, hb⟩; have hI := Aside0.mk (hI.out.below hb); clear hb t0 t1 t2; have t0 : w8.cell? ⟨w.heap.size, 0, none⟩ = some (.int .u64 0) := (blk_cell hI.out.T 0).trans rfl; have t1 : w8.cell? ⟨w.heap.size, 1, none⟩ = some (.int .i64 (sec z)) := (blk_cell hI.out.T 1).trans rfl; have t2 : w8.cell? ⟨w.heap.size, 2, none⟩ = some (.pointer none) := (blk_cell hI.out.T 2).trans rfl) | (go_at_call 111; (with_reducible refine (day_any 0 z _ z0 z1 HDz.out).mono ?_); rintro e w9 ⟨rfl, hb⟩; have hI := Aside0.mk (hI.out.below hb); clear hb t0 t1 t2; have t0 : w9.cell? ⟨w.heap.size, 0, none⟩ = some (.int .u64 0) := (blk_cell hI.out.T 0).trans rfl; have t1 : w9.cell? ⟨w.heap.size, 1, none⟩ = some (.int .i64 (sec z)) := (blk_cell hI.out.T 1).trans rfl; have t2 : w9.cell? ⟨w.heap.size, 2, none⟩ = some (.pointer none) := (blk_cell hI.out.T 2).trans rfl))
                  go_step3
                  refine ⟨rfl, at_goto HI0.out hI.out HPz.out HB.out (by have h1 := HA.out.1; have h2 := HLT.out; omega) ⟨rfl, rfl, rfl, rfl, rfl, rfl, rfl, rfl, rfl, rfl, rfl⟩⟩
                · go_upto_block 3 with (go_at_call 122; (with_reducible refine (day_any_ok p b y' _ hI.out.S HW.out HD.out).mono ?_); rintro e w2 ⟨rfl, hb⟩; have hI := Aside0.mk (hI.out.below hb); clear hb t0 t1 t2)
                  have hI := Aside0.mk (hI.out.cast (by first | exact HY0.out rfl | exact HY0.out trivial))
                  have t0 : World.cell? _ ⟨w.heap.size, 0, none⟩ = some (.int .u64 0) := (blk_cell hI.out.T 0).trans rfl
                  have t1 : World.cell? _ ⟨w.heap.size, 1, none⟩ = some (.int .i64 (sec y0)) := (blk_cell hI.out.T 1).trans rfl
                  have t2 : World.cell? _ ⟨w.heap.size, 2, none⟩ = some (.pointer none) := (blk_cell hI.out.T 2).trans rfl
                  go_upto_region 23 with ((go_at_call 121; (with_reducible refine (HC.out _).mono ?_); rintro e w3 ⟨rfl, hb⟩; have hI := Aside0.mk (hI.out.below hb); clear hb t0 t1 t2; have t0 : w3.cell? ⟨w.heap.size, 0, none⟩ = some (.int .u64 0) := (blk_cell hI.out.T 0).trans rfl; have t1 : w3.cell? ⟨w.heap.size, 1, none⟩ = some (.int .i64 (sec y0)) := (blk_cell hI.out.T 1).trans rfl; have t2 : w3.cell? ⟨w.heap.size, 2, none⟩ = some (.pointer none) := (blk_cell hI.out.T 2).trans rfl; have f0 := blk_frozen hI.out.T 0; have f1 := blk_frozen hI.out.T 1; have f2 := blk_frozen hI.out.T 2))
                  have hI := Aside0.mk (hI.out.setT (.int .u64 0) (.int .i64 (sec z)) (.pointer none))
                  clear t0 t1 t2 f0 f1 f2
                  generalize hg : World.setCell _ _ (.pointer none) = w7 at hI ⊢
                  clear hg
                  have t0 : w7.cell? ⟨w.heap.size, 0, none⟩ = some (.int .u64 0) := (blk_cell hI.out.T 0).trans rfl
                  have t1 : w7.cell? ⟨w.heap.size, 1, none⟩ = some (.int .i64 (sec z)) := (blk_cell hI.out.T 1).trans rfl
                  have t2 : w7.cell? ⟨w.heap.size, 2, none⟩ = some (.pointer none) := (blk_cell hI.out.T 2).trans rfl
                  go_wp2_with (first | (go_at_call 123; (with_reducible refine (hour_any 0 z _ z0 z1 HDz.out).mono ?_); rintro e w8 ⟨rfl, hb⟩; have hI := Aside0.mk (hI.out.below hb); clear hb t0 t1 t2; have t0 : w8.cell? ⟨w.heap.size, 0, none⟩ = some (.int .u64 0) := (blk_cell hI.out.T 0).trans rfl; have t1 : w8.cell? ⟨w.heap.size, 1, none⟩ = some (.int .i64 (sec z)) := (blk_cell hI.out.T 1).trans rfl; have t2 : w8.cell? ⟨w.heap.size, 2, none⟩ = some (.pointer none) := (blk_cell hI.out.T 2).trans rfl) | (go_at_call 111; (with_reducible refine (day_any 0 z _ z0 z1 HDz.out).mono ?_); rintro e w9 ⟨rfl, hb⟩; have hI := Aside0.mk (hI.out.below hb); clear hb t0 t1 t2; have t0 : w9.cell? ⟨w.heap.size, 0, none⟩ = some (.int .u64 0) := (blk_cell hI.out.T 0).trans rfl; have t1 : w9.cell? ⟨w.heap.size, 1, none⟩ = some (.int .i64 (sec z)) := (blk_cell hI.out.T 1).trans rfl; have t2 : w9.cell? ⟨w.heap.size, 2, none⟩ = some (.pointer none) := (blk_cell hI.out.T 2).trans rfl))
                  go_step3
                  refine ⟨rfl, at_goto HI0.out hI.out HPz.out HB.out (by have h1 := HA.out.1; have h2 := HLT.out; omega) ⟨rfl, rfl, rfl, rfl, rfl, rfl, rfl, rfl, rfl, rfl, rfl⟩⟩
              · have e2 : (dy (z / 86400) == 1) = false := by rw [beq_eq_false_iff_ne, show z / 86400 = y' / 86400 + 1 by omega]; exact fun h => hw ((next_day_one (y' / 86400)).1 h)
                have HN : Aside0 (yr (z / 86400) ≤ lastY x) := ⟨by rw [show z / 86400 = y' / 86400 + 1 by omega, ((next_day (y' / 86400)).1 (by have := in_month (y' / 86400); omega)).1]; exact HPl.out.yb⟩
                have HK0 : Aside0 (b.sch.M (mo (z / 86400)) = true) := ⟨by rw [show z / 86400 = y' / 86400 + 1 by omega, ((next_day (y' / 86400)).1 (by have := in_month (y' / 86400); omega)).2.1]; exact HA.out.2.2⟩
                have e3 : (z % 86400 / 3600 != 0) = false := by rw [bne_eq_false_iff_eq]; omega
                clear hw hy0 hz
                have t0 : World.cell? _ ⟨w.heap.size, 0, none⟩ = some (.int .u64 0) := (blk_cell hI.out.T 0).trans rfl
                have t1 : World.cell? _ ⟨w.heap.size, 1, none⟩ = some (.int .i64 (sec y')) := (blk_cell hI.out.T 1).trans rfl
                have t2 : World.cell? _ ⟨w.heap.size, 2, none⟩ = some (.pointer none) := (blk_cell hI.out.T 2).trans rfl
                cases ad'
                · go_upto_block 3 with (go_at_call 122; (with_reducible refine (day_any_ok p b y' _ hI.out.S HW.out HD.out).mono ?_); rintro e w2 ⟨rfl, hb⟩; have hI := Aside0.mk (hI.out.below hb); clear hb t0 t1 t2)
                  go_upto_region 21 with fail
                  have hI := Aside0.mk hI.out.drew
                  refine start_ (n := 9) (S := fun w' => w'.cell? ⟨w.heap.size, 0, none⟩ = some (.int .u64 0) ∧ w'.cell? ⟨w.heap.size, 1, none⟩ = some (.int .i64 (sec y')) ∧ w'.cell? ⟨w.heap.size, 2, none⟩ = some (.pointer none)) (ds := [8]) #[false, false, false, false, false, false, false, false, false] (by kernel_rfl) rfl rfl ⟨(blk_cell hI.out.T 0).trans rfl, (blk_cell hI.out.T 1).trans rfl, (blk_cell hI.out.T 2).trans rfl⟩ (fun hHeld => ?_)
                  refine take_ (i := 0) (N := some 73) (v := ?_) (a' := ?_) #[true, false, false, false, false, false, false, false, false] rfl rfl (by kernel_rfl) (fun _ _ _ h => h) (Or.inl ⟨by rfl, ?_⟩) hHeld ?_ ?_
                  rotate_left
                  · rintro w' ⟨s0, s1, s2⟩
                    go_simp
                    with_reducible rfl
                  rotate_left
                  · simp only [Act.put, List.setIfInBounds_toArray, List.set_cons_zero, List.set_cons_succ, i64_w, i32_w]
                    rfl
                  refine take_ (i := 2) (N := some 75) (v := ?_) (a' := ?_) #[true, false, true, false, false, false, false, false, false] rfl rfl (by kernel_rfl) (fun _ _ _ h => h) (Or.inl ⟨by rfl, ?_⟩) hHeld ?_ ?_
                  rotate_left
                  · rintro w' ⟨s0, s1, s2⟩
                    go_simp
                    with_reducible rfl
                  rotate_left
                  · simp only [Act.put, List.setIfInBounds_toArray, List.set_cons_zero, List.set_cons_succ, i64_w, i32_w]
                    rfl
                  refine take_ (i := 4) (N := some 77) (v := ?_) (a' := ?_) #[true, false, true, false, true, false, false, false, false] rfl rfl (by kernel_rfl) (fun _ _ _ h => h) (Or.inl ⟨by rfl, ?_⟩) hHeld ?_ ?_
                  rotate_left
                  · rintro w' ⟨s0, s1, s2⟩
                    go_simp
                    with_reducible rfl
                  rotate_left
                  · simp only [Act.put, List.setIfInBounds_toArray, List.set_cons_zero, List.set_cons_succ, i64_w, i32_w]
                    rfl
                  refine pure_ (i := 6) (N := some 79) (v := ?_) (a' := ?_) #[true, false, true, false, true, false, true, false, false] rfl rfl (by kernel_rfl) (fun _ _ _ h => h) (Or.inl ⟨by rfl, ?_⟩) ?_ ?_
                  rotate_left
                  · intro w'
                    go_simp
                    with_reducible rfl
                  rotate_left
                  · simp only [Act.put, List.setIfInBounds_toArray, List.set_cons_zero, List.set_cons_succ, i64_w, i32_w]
                    rfl
                  refine one_ (i := 1) (N := some 74) #[true, true, true, false, true, false, true, false, false] rfl rfl (by kernel_rfl) (by decide) (fun K hK => ?_)
                  refine goes_ Try.func118 (by kernel_rfl) rfl #[.agg #[.int .u64 0, .int .i64 (sec y'), .pointer none]] (by rfl) rfl rfl (by (try simp only [List.map_toArray, List.map_cons, List.map_nil]); first | done | rfl) ?_
                  refine (year_any 0 y' _ z0 z1 HD.out).mono ?_
                  rintro e w1 ⟨rfl, hb⟩
                  refine ⟨_, rfl, ?_⟩
                  have hI2 := Aside0.mk (hI.out.below hb)
                  clear hI hb
                  have hI := hI2
                  clear hI2
                  refine hK.out _ _ ⟨(blk_cell hI.out.T 0).trans rfl, (blk_cell hI.out.T 1).trans rfl, (blk_cell hI.out.T 2).trans rfl⟩ (fun hHeld => ?_)
                  clear hK K
                  refine norm_ (a' := ?_) ?_ ?_
                  rotate_left
                  · show Act.put _ (some 74) _ = _
                    simp only [Act.put, List.setIfInBounds_toArray, List.set_cons_zero, List.set_cons_succ, i64_w, i32_w]
                    rfl
                  refine one_ (i := 3) (N := some 76) #[true, true, true, true, true, false, true, false, false] rfl rfl (by kernel_rfl) (by decide) (fun K hK => ?_)
                  refine goes_ Try.func119 (by kernel_rfl) rfl #[.agg #[.int .u64 0, .int .i64 (sec y'), .pointer none]] (by rfl) rfl rfl (by (try simp only [List.map_toArray, List.map_cons, List.map_nil]); first | done | rfl) ?_
                  refine (month_any 0 y' _ z0 z1 HD.out).mono ?_
                  rintro e w3 ⟨rfl, hb⟩
                  refine ⟨_, rfl, ?_⟩
                  have hI2 := Aside0.mk (hI.out.below hb)
                  clear hI hb
                  have hI := hI2
                  clear hI2
                  refine hK.out _ _ ⟨(blk_cell hI.out.T 0).trans rfl, (blk_cell hI.out.T 1).trans rfl, (blk_cell hI.out.T 2).trans rfl⟩ (fun hHeld => ?_)
                  clear hK K
                  refine norm_ (a' := ?_) ?_ ?_
                  rotate_left
                  · show Act.put _ (some 76) _ = _
                    simp only [Act.put, List.setIfInBounds_toArray, List.set_cons_zero, List.set_cons_succ, i64_w, i32_w]
                    rfl
                  refine one_ (i := 5) (N := some 78) #[true, true, true, true, true, true, true, false, false] rfl rfl (by kernel_rfl) (by decide) (fun K hK => ?_)
                  refine goes_ Try.func111 (by kernel_rfl) rfl #[.agg #[.int .u64 0, .int .i64 (sec y'), .pointer none]] (by rfl) rfl rfl (by (try simp only [List.map_toArray, List.map_cons, List.map_nil]); first | done | rfl) ?_
                  refine (day_any 0 y' _ z0 z1 HD.out).mono ?_
                  rintro e w5 ⟨rfl, hb⟩
                  refine ⟨_, rfl, ?_⟩
                  have hI2 := Aside0.mk (hI.out.below hb)
                  clear hI hb
                  have hI := hI2
                  clear hI2
                  refine hK.out _ _ ⟨(blk_cell hI.out.T 0).trans rfl, (blk_cell hI.out.T 1).trans rfl, (blk_cell hI.out.T 2).trans rfl⟩ (fun hHeld => ?_)
                  clear hK K
                  refine norm_ (a' := ?_) ?_ ?_
                  rotate_left
                  · show Act.put _ (some 78) _ = _
                    simp only [Act.put, List.setIfInBounds_toArray, List.set_cons_zero, List.set_cons_succ, i64_w, i32_w]
                    rfl
                  refine one_ (i := 7) (N := some 80) #[true, true, true, true, true, true, true, true, false] rfl rfl (by kernel_rfl) (by decide) (fun K hK => ?_)
                  refine goes_ Try.func120 (by kernel_rfl) rfl #[.int .i64 (yr (y' / 86400)), .int .i64 (mo (y' / 86400)), .int .i64 (dy (y' / 86400)), .int .i64 0, .int .i64 0, .int .i64 0, .int .i64 0, .pointer (some ⟨l, 0, none⟩)] (by rfl) rfl rfl (by (try simp only [List.map_toArray, List.map_cons, List.map_nil]); first | done | rfl) ?_
                  refine (HQ.out _ _ hI.out.L).mono ?_
                  rintro e w7 ⟨rfl, hb⟩
                  refine ⟨_, rfl, ?_⟩
                  have hI2 := Aside0.mk (hI.out.below hb)
                  clear hI hb
                  have hI := hI2
                  clear hI2
                  refine hK.out _ _ ⟨(blk_cell hI.out.T 0).trans rfl, (blk_cell hI.out.T 1).trans rfl, (blk_cell hI.out.T 2).trans rfl⟩ (fun hHeld => ?_)
                  clear hK K
                  refine norm_ (a' := ?_) ?_ ?_
                  rotate_left
                  · show Act.put _ (some 80) _ = _
                    simp only [Act.put, List.setIfInBounds_toArray, List.set_cons_zero, List.set_cons_succ, i64_w, i32_w]
                    rfl
                  have rc0 := (blk_cell hI.out.T 0).trans (show _ = some _ from rfl)
                  have rf0 := blk_frozen hI.out.T 0
                  have rc1 := (blk_cell hI.out.T 1).trans (show _ = some _ from rfl)
                  have rf1 := blk_frozen hI.out.T 1
                  have rc2 := (blk_cell hI.out.T 2).trans (show _ = some _ from rfl)
                  have rf2 := blk_frozen hI.out.T 2
                  refine last_ (i := 8) (N := none) #[true, true, true, true, true, true, true, true, true] rfl rfl (by kernel_rfl) (by decide) (fun K hK => ?_)
                  refine skip_ (w1 := ?_) (by rfl) rfl ?_ ?_
                  rotate_left
                  · go_simp
                    rfl
                  have hI2 := Aside0.mk (hI.out.setT (.int .u64 0) (.int .i64 (sec y0)) (.pointer none))
                  refine hK.out _ _ ?_
                  clear hK K rc0 rc1 rc2 rf0 rf1 rf2 hI hHeld
                  have hI := hI2
                  clear hI2
                  refine done_ (by kernel_rfl) ?_
                  generalize hg : World.setCell _ _ (.pointer none) = w6 at hI ⊢
                  clear hg
                  have t0 : World.cell? _ ⟨w.heap.size, 0, none⟩ = some (.int .u64 0) := (blk_cell hI.out.T 0).trans rfl
                  have t1 : World.cell? _ ⟨w.heap.size, 1, none⟩ = some (.int .i64 (sec y0)) := (blk_cell hI.out.T 1).trans rfl
                  have t2 : World.cell? _ ⟨w.heap.size, 2, none⟩ = some (.pointer none) := (blk_cell hI.out.T 2).trans rfl
                  go_upto_region 23 with ((go_at_call 121; (with_reducible refine (HC.out _).mono ?_); rintro e w3 ⟨rfl, hb⟩; have hI := Aside0.mk (hI.out.below hb); clear hb t0 t1 t2; have t0 : w3.cell? ⟨w.heap.size, 0, none⟩ = some (.int .u64 0) := (blk_cell hI.out.T 0).trans rfl; have t1 : w3.cell? ⟨w.heap.size, 1, none⟩ = some (.int .i64 (sec y0)) := (blk_cell hI.out.T 1).trans rfl; have t2 : w3.cell? ⟨w.heap.size, 2, none⟩ = some (.pointer none) := (blk_cell hI.out.T 2).trans rfl; have f0 := blk_frozen hI.out.T 0; have f1 := blk_frozen hI.out.T 1; have f2 := blk_frozen hI.out.T 2))
                  have hI := Aside0.mk (hI.out.setT (.int .u64 0) (.int .i64 (sec z)) (.pointer none))
                  clear t0 t1 t2 f0 f1 f2
                  generalize hg : World.setCell _ _ (.pointer none) = w7 at hI ⊢
                  clear hg
                  have t0 : w7.cell? ⟨w.heap.size, 0, none⟩ = some (.int .u64 0) := (blk_cell hI.out.T 0).trans rfl
                  have t1 : w7.cell? ⟨w.heap.size, 1, none⟩ = some (.int .i64 (sec z)) := (blk_cell hI.out.T 1).trans rfl
                  have t2 : w7.cell? ⟨w.heap.size, 2, none⟩ = some (.pointer none) := (blk_cell hI.out.T 2).trans rfl
                  go_wp2_with (first | (go_at_call 123; (with_reducible refine (hour_any 0 z _ z0 z1 HDz.out).mono ?_); rintro e w8 ⟨rfl, hb⟩; have hI := Aside0.mk (hI.out.below hb); clear hb t0 t1 t2; have t0 : w8.cell? ⟨w.heap.size, 0, none⟩ = some (.int .u64 0) := (blk_cell hI.out.T 0).trans rfl; have t1 : w8.cell? ⟨w.heap.size, 1, none⟩ = some (.int .i64 (sec z)) := (blk_cell hI.out.T 1).trans rfl; have t2 : w8.cell? ⟨w.heap.size, 2, none⟩ = some (.pointer none) := (blk_cell hI.out.T 2).trans rfl) | (go_at_call 111; (with_reducible refine (day_any 0 z _ z0 z1 HDz.out).mono ?_); rintro e w9 ⟨rfl, hb⟩; have hI := Aside0.mk (hI.out.below hb); clear hb t0 t1 t2; have t0 : w9.cell? ⟨w.heap.size, 0, none⟩ = some (.int .u64 0) := (blk_cell hI.out.T 0).trans rfl; have t1 : w9.cell? ⟨w.heap.size, 1, none⟩ = some (.int .i64 (sec z)) := (blk_cell hI.out.T 1).trans rfl; have t2 : w9.cell? ⟨w.heap.size, 2, none⟩ = some (.pointer none) := (blk_cell hI.out.T 2).trans rfl))
                  go_roundg (400000000000 - z).toNat
                  case measure => have h1 := HA.out.2.1; have h2 := HLT.out; have h3 := HDz.out.hi; omega
                  case rel => exact ⟨z, true, rfl, hI, ⟨HPz.out.at HN.out⟩, ⟨by have h1 := HA.out.1; have h2 := HLT.out; exact ⟨by omega, Nat.le_refl _, HK0.out⟩⟩⟩
                · go_upto_block 3 with (go_at_call 122; (with_reducible refine (day_any_ok p b y' _ hI.out.S HW.out HD.out).mono ?_); rintro e w2 ⟨rfl, hb⟩; have hI := Aside0.mk (hI.out.below hb); clear hb t0 t1 t2)
                  have hI := Aside0.mk (hI.out.cast (by first | exact HY0.out rfl | exact HY0.out trivial))
                  have t0 : World.cell? _ ⟨w.heap.size, 0, none⟩ = some (.int .u64 0) := (blk_cell hI.out.T 0).trans rfl
                  have t1 : World.cell? _ ⟨w.heap.size, 1, none⟩ = some (.int .i64 (sec y0)) := (blk_cell hI.out.T 1).trans rfl
                  have t2 : World.cell? _ ⟨w.heap.size, 2, none⟩ = some (.pointer none) := (blk_cell hI.out.T 2).trans rfl
                  go_upto_region 23 with ((go_at_call 121; (with_reducible refine (HC.out _).mono ?_); rintro e w3 ⟨rfl, hb⟩; have hI := Aside0.mk (hI.out.below hb); clear hb t0 t1 t2; have t0 : w3.cell? ⟨w.heap.size, 0, none⟩ = some (.int .u64 0) := (blk_cell hI.out.T 0).trans rfl; have t1 : w3.cell? ⟨w.heap.size, 1, none⟩ = some (.int .i64 (sec y0)) := (blk_cell hI.out.T 1).trans rfl; have t2 : w3.cell? ⟨w.heap.size, 2, none⟩ = some (.pointer none) := (blk_cell hI.out.T 2).trans rfl; have f0 := blk_frozen hI.out.T 0; have f1 := blk_frozen hI.out.T 1; have f2 := blk_frozen hI.out.T 2))
                  have hI := Aside0.mk (hI.out.setT (.int .u64 0) (.int .i64 (sec z)) (.pointer none))
                  clear t0 t1 t2 f0 f1 f2
                  generalize hg : World.setCell _ _ (.pointer none) = w7 at hI ⊢
                  clear hg
                  have t0 : w7.cell? ⟨w.heap.size, 0, none⟩ = some (.int .u64 0) := (blk_cell hI.out.T 0).trans rfl
                  have t1 : w7.cell? ⟨w.heap.size, 1, none⟩ = some (.int .i64 (sec z)) := (blk_cell hI.out.T 1).trans rfl
                  have t2 : w7.cell? ⟨w.heap.size, 2, none⟩ = some (.pointer none) := (blk_cell hI.out.T 2).trans rfl
                  go_wp2_with (first | (go_at_call 123; (with_reducible refine (hour_any 0 z _ z0 z1 HDz.out).mono ?_); rintro e w8 ⟨rfl, hb⟩; have hI := Aside0.mk (hI.out.below hb); clear hb t0 t1 t2; have t0 : w8.cell? ⟨w.heap.size, 0, none⟩ = some (.int .u64 0) := (blk_cell hI.out.T 0).trans rfl; have t1 : w8.cell? ⟨w.heap.size, 1, none⟩ = some (.int .i64 (sec z)) := (blk_cell hI.out.T 1).trans rfl; have t2 : w8.cell? ⟨w.heap.size, 2, none⟩ = some (.pointer none) := (blk_cell hI.out.T 2).trans rfl) | (go_at_call 111; (with_reducible refine (day_any 0 z _ z0 z1 HDz.out).mono ?_); rintro e w9 ⟨rfl, hb⟩; have hI := Aside0.mk (hI.out.below hb); clear hb t0 t1 t2; have t0 : w9.cell? ⟨w.heap.size, 0, none⟩ = some (.int .u64 0) := (blk_cell hI.out.T 0).trans rfl; have t1 : w9.cell? ⟨w.heap.size, 1, none⟩ = some (.int .i64 (sec z)) := (blk_cell hI.out.T 1).trans rfl; have t2 : w9.cell? ⟨w.heap.size, 2, none⟩ = some (.pointer none) := (blk_cell hI.out.T 2).trans rfl))
                  go_roundg (400000000000 - z).toNat
                  case measure => have h1 := HA.out.2.1; have h2 := HLT.out; have h3 := HDz.out.hi; omega
                  case rel => exact ⟨z, true, rfl, hI, ⟨HPz.out.at HN.out⟩, ⟨by have h1 := HA.out.1; have h2 := HLT.out; exact ⟨by omega, Nat.le_refl _, HK0.out⟩⟩⟩
        case rest =>
          clear hI HPl HA
          obtain ⟨y1, ad1, rfl, hI, HPl, HA⟩ := hcut
          go_upto_block 4 with fail
          go_cut [7] (fun s7 wx => ∃ (y' : Int) (ad' : Bool), s7 = .bool ad' ∧ Aside0 (Nx w wx p k l b #[.int .u64 0, .int .i64 (sec y'), .pointer none]) ∧ Aside0 (Pl b.sch (x + 1) (lastY x) y' ad') ∧ Aside0 (y ≤ y' ∧ b.sch.M (mo (y' / 86400)) = true ∧ b.sch.D (y' / 86400) = true ∧ b.sch.H (y' % 86400 / 3600) = true))
          case first =>
            go_wp2_with fail
            go_loopg [7] (400000000000 - y1).toNat (fun gk s7 wr => ∃ (y' : Int) (ad' : Bool), s7 = .bool ad' ∧ Aside0 (Nx w wr p k l b #[.int .u64 0, .int .i64 (sec y'), .pointer none]) ∧ Aside0 (Pl b.sch (x + 1) (lastY x) y' ad') ∧ Aside0 (y ≤ y' ∧ (400000000000 - y').toNat ≤ gk ∧ b.sch.M (mo (y' / 86400)) = true ∧ b.sch.D (y' / 86400) = true))
            case atStart => exact ⟨y1, ad1, rfl, hI, HPl, ⟨by have := HA.out; simpa using this⟩⟩
            case round =>
              clear hI HPl HA
              obtain ⟨y', ad', rfl, hI, HPl, HA⟩ := hrel
              have HD := Aside0.mk (dom_in HPl.out HB.out)
              have hI := Aside0.mk hI.out.drew
              have v0 : 0 ≤ y' % 86400 / 3600 := by omega
              have v1 : y' % 86400 / 3600 ≤ 63 := by omega
              have e1 := bit_zero b.h (y' % 86400 / 3600) HW.out.h v0 v1
              by_cases hT : b.sch.H (y' % 86400 / 3600) = true
              · rw [show bitOf b.h (y' % 86400 / 3600) = true from hT] at e1
                have HT := Aside0.mk hT
                clear hT
                go_wp2_with fail
                refine start_ (n := 10) (S := fun w' => w'.cell? ⟨w.heap.size, 0, none⟩ = some (.int .u64 0) ∧ w'.cell? ⟨w.heap.size, 1, none⟩ = some (.int .i64 (sec y')) ∧ w'.cell? ⟨w.heap.size, 2, none⟩ = some (.pointer none) ∧ w'.cell? ⟨p, 2, none⟩ = some (.int .u64 (b.h : Int))) (ds := []) #[false, false, false, false, false, false, false, false, false, false] (by kernel_rfl) rfl rfl ⟨(blk_cell hI.out.T 0).trans rfl, (blk_cell hI.out.T 1).trans rfl, (blk_cell hI.out.T 2).trans rfl, (blk_cell hI.out.S 2).trans rfl⟩ (fun hHeld => ?_)
                refine take_ (i := 0) (N := some 104) (v := ?_) (a' := ?_) #[true, false, false, false, false, false, false, false, false, false] rfl rfl (by kernel_rfl) (fun _ _ _ h => h) (Or.inl ⟨by rfl, ?_⟩) hHeld ?_ ?_
                rotate_left
                · rintro w' ⟨s0, s1, s2, s3⟩
                  go_simp
                  with_reducible rfl
                rotate_left
                · simp only [Act.put, List.setIfInBounds_toArray, List.set_cons_zero, List.set_cons_succ, i64_w, i32_w, e1]
                  rfl
                refine pure_ (i := 4) (N := some 108) (v := ?_) (a' := ?_) #[true, false, false, false, true, false, false, false, false, false] rfl rfl (by kernel_rfl) (fun _ _ _ h => h) (Or.inl ⟨by rfl, ?_⟩) ?_ ?_
                rotate_left
                · intro w'
                  go_simp
                  with_reducible rfl
                rotate_left
                · simp only [Act.put, List.setIfInBounds_toArray, List.set_cons_zero, List.set_cons_succ, i64_w, i32_w, e1]
                  rfl
                refine pure_ (i := 5) (N := some 109) (v := ?_) (a' := ?_) #[true, false, false, false, true, true, false, false, false, false] rfl rfl (by kernel_rfl) (fun _ _ _ h => h) (Or.inl ⟨by rfl, ?_⟩) ?_ ?_
                rotate_left
                · intro w'
                  go_simp
                  with_reducible rfl
                rotate_left
                · simp only [Act.put, List.setIfInBounds_toArray, List.set_cons_zero, List.set_cons_succ, i64_w, i32_w, e1]
                  rfl
                refine pure_ (i := 6) (N := some 110) (v := ?_) (a' := ?_) #[true, false, false, false, true, true, true, false, false, false] rfl rfl (by kernel_rfl) (fun _ _ _ h => h) (Or.inl ⟨by rfl, ?_⟩) ?_ ?_
                rotate_left
                · intro w'
                  go_simp
                  with_reducible rfl
                rotate_left
                · simp only [Act.put, List.setIfInBounds_toArray, List.set_cons_zero, List.set_cons_succ, i64_w, i32_w, e1]
                  rfl
                refine take_ (i := 7) (N := some 111) (v := ?_) (a' := ?_) #[true, false, false, false, true, true, true, true, false, false] rfl rfl (by kernel_rfl) (fun _ _ _ h => h) (Or.inl ⟨by rfl, ?_⟩) hHeld ?_ ?_
                rotate_left
                · rintro w' ⟨s0, s1, s2, s3⟩
                  go_simp
                  with_reducible rfl
                rotate_left
                · simp only [Act.put, List.setIfInBounds_toArray, List.set_cons_zero, List.set_cons_succ, i64_w, i32_w, e1]
                  rfl
                refine one_ (i := 1) (N := some 105) #[true, true, false, false, true, true, true, true, false, false] rfl rfl (by kernel_rfl) (by decide) (fun K hK => ?_)
                refine goes_ Try.func123 (by kernel_rfl) rfl #[.agg #[.int .u64 0, .int .i64 (sec y'), .pointer none]] (by rfl) rfl rfl (by (try simp only [List.map_toArray, List.map_cons, List.map_nil]); first | done | rfl) ?_
                refine (hour_any 0 y' _ z0 z1 HD.out).mono ?_
                rintro e w1 ⟨rfl, hb⟩
                refine ⟨_, rfl, ?_⟩
                have hI2 := Aside0.mk (hI.out.below hb)
                clear hI hb
                have hI := hI2
                clear hI2
                refine hK.out _ _ ⟨(blk_cell hI.out.T 0).trans rfl, (blk_cell hI.out.T 1).trans rfl, (blk_cell hI.out.T 2).trans rfl, (blk_cell hI.out.S 2).trans rfl⟩ (fun hHeld => ?_)
                clear hK K
                refine norm_ (a' := ?_) ?_ ?_
                rotate_left
                · show Act.put _ (some 105) _ = _
                  simp only [Act.put, List.setIfInBounds_toArray, List.set_cons_zero, List.set_cons_succ, i64_w, i32_w]
                  rfl
                refine pure_ (i := 2) (N := some 106) (v := ?_) (a' := ?_) #[true, true, true, false, true, true, true, true, false, false] rfl rfl (by kernel_rfl) (fun _ _ _ h => h) (Or.inl ⟨by rfl, ?_⟩) ?_ ?_
                rotate_left
                · intro w'
                  go_simp
                  with_reducible rfl
                rotate_left
                · simp only [Act.put, List.setIfInBounds_toArray, List.set_cons_zero, List.set_cons_succ, i64_w, i32_w, e1]
                  rfl
                refine pure_ (i := 3) (N := some 107) (v := ?_) (a' := ?_) #[true, true, true, true, true, true, true, true, false, false] rfl rfl (by kernel_rfl) (fun _ _ _ h => h) (Or.inl ⟨by rfl, ?_⟩) ?_ ?_
                rotate_left
                · intro w'
                  go_simp
                  with_reducible rfl
                rotate_left
                · simp only [Act.put, List.setIfInBounds_toArray, List.set_cons_zero, List.set_cons_succ, i64_w, i32_w, e1]
                  rfl
                refine pure_ (i := 8) (N := some 112) (v := ?_) (a' := ?_) #[true, true, true, true, true, true, true, true, true, false] rfl rfl (by kernel_rfl) (fun _ _ _ h => h) (Or.inl ⟨by rfl, ?_⟩) ?_ ?_
                rotate_left
                · intro w'
                  go_simp
                  with_reducible rfl
                rotate_left
                · simp only [Act.put, List.setIfInBounds_toArray, List.set_cons_zero, List.set_cons_succ, i64_w, i32_w, e1]
                  rfl
                refine pure_ (i := 9) (N := some 113) (v := ?_) (a' := ?_) #[true, true, true, true, true, true, true, true, true, true] rfl rfl (by kernel_rfl) (fun _ _ _ h => h) (Or.inl ⟨by rfl, ?_⟩) ?_ ?_
                rotate_left
                · intro w'
                  go_simp
                  with_reducible rfl
                rotate_left
                · simp only [Act.put, List.setIfInBounds_toArray, List.set_cons_zero, List.set_cons_succ, i64_w, i32_w, e1]
                  rfl
                refine done_ (by kernel_rfl) ?_
                clear hHeld
                go_wp2_with fail
                go_meet
                exact ⟨y', ad', rfl, hI, HPl, ⟨by have h1 := HA.out; have h2 := HT.out; simp only [h1, h2, and_self]⟩⟩
              · rw [Bool.not_eq_true] at hT
                rw [show bitOf b.h (y' % 86400 / 3600) = false from hT] at e1
                have HT := Aside0.mk hT
                clear hT
                obtain ⟨y0, hy0⟩ : ∃ y0, y0 = 3600 * (y' / 3600) := ⟨_, rfl⟩
                obtain ⟨z, hz⟩ : ∃ z, z = 3600 * (y' / 3600 + 1) := ⟨_, rfl⟩
                have HPz : Aside0 (Pl b.sch (x + 1) (lastY x + 1) z true) := ⟨by rw [hz]; exact HPl.out.hour HA.out.2.2.1 HA.out.2.2.2 HT.out⟩
                have HDz := Aside0.mk (dom_in HPz.out HB.out)
                have HD0 : Aside0 (Dom y0) := ⟨by rw [hy0]; exact ⟨by have := HD.out.lo; omega, by have := HD.out.hi; omega⟩⟩
                have HLT : Aside0 (y' < z) := ⟨by rw [hz]; omega⟩
                have HQ : Aside0 (∀ (l : Nat) (W : World), IsU W l → Calls Try.prog 120 #[.int .i64 (yr (y' / 86400)), .int .i64 (mo (y' / 86400)), .int .i64 (dy (y' / 86400)), .int .i64 (y' % 86400 / 3600), .int .i64 0, .int .i64 0, .int .i64 0, .pointer (some ⟨l, 0, none⟩)] W (Post y0 W)) := ⟨by intro l W hU; rw [hy0]; exact mk_ok (y' / 86400) (dy (y' / 86400)) (y' % 86400 / 3600) l W hU HD.out.n0 HD.out.n2 (dy_bd _).1 (dy31 _) (by omega) (by omega) _ (by rw [(date_num _).2]; omega) (by rw [← hy0]; exact HD0.out)⟩
                have HC : Aside0 (∀ (W : World), Calls Try.prog 114 #[.agg #[.int .u64 0, .int .i64 (sec y0), .pointer none], .int .i64 3600000000000] W (Post z W)) := ⟨by intro W; have h := add_any (sec y0) 3600000000000 3600 W HD0.out.s0 HD0.out.s1 (by omega) (by omega) (by omega); rw [show sec y0 + 3600 = sec z by unfold sec; omega] at h; exact h⟩
                have HY0 : Aside0 (ad' = true → sec y' = sec y0) := ⟨by intro h; subst h; have h9 := HPl.out.at_hour HT.out; exact congrArg sec (by omega)⟩
                by_cases hw : (y' / 3600 + 1) % 24 = 0
                · have e2 : (z % 86400 / 3600 == 0) = true := by rw [beq_iff_eq]; omega
                  clear hw hy0 hz
                  go_wp2_with fail
                  refine start_ (n := 10) (S := fun w' => w'.cell? ⟨w.heap.size, 0, none⟩ = some (.int .u64 0) ∧ w'.cell? ⟨w.heap.size, 1, none⟩ = some (.int .i64 (sec y')) ∧ w'.cell? ⟨w.heap.size, 2, none⟩ = some (.pointer none) ∧ w'.cell? ⟨p, 2, none⟩ = some (.int .u64 (b.h : Int))) (ds := []) #[false, false, false, false, false, false, false, false, false, false] (by kernel_rfl) rfl rfl ⟨(blk_cell hI.out.T 0).trans rfl, (blk_cell hI.out.T 1).trans rfl, (blk_cell hI.out.T 2).trans rfl, (blk_cell hI.out.S 2).trans rfl⟩ (fun hHeld => ?_)
                  refine take_ (i := 0) (N := some 104) (v := ?_) (a' := ?_) #[true, false, false, false, false, false, false, false, false, false] rfl rfl (by kernel_rfl) (fun _ _ _ h => h) (Or.inl ⟨by rfl, ?_⟩) hHeld ?_ ?_
                  rotate_left
                  · rintro w' ⟨s0, s1, s2, s3⟩
                    go_simp
                    with_reducible rfl
                  rotate_left
                  · simp only [Act.put, List.setIfInBounds_toArray, List.set_cons_zero, List.set_cons_succ, i64_w, i32_w, e1]
                    rfl
                  refine pure_ (i := 4) (N := some 108) (v := ?_) (a' := ?_) #[true, false, false, false, true, false, false, false, false, false] rfl rfl (by kernel_rfl) (fun _ _ _ h => h) (Or.inl ⟨by rfl, ?_⟩) ?_ ?_
                  rotate_left
                  · intro w'
                    go_simp
                    with_reducible rfl
                  rotate_left
                  · simp only [Act.put, List.setIfInBounds_toArray, List.set_cons_zero, List.set_cons_succ, i64_w, i32_w, e1]
                    rfl
                  refine pure_ (i := 5) (N := some 109) (v := ?_) (a' := ?_) #[true, false, false, false, true, true, false, false, false, false] rfl rfl (by kernel_rfl) (fun _ _ _ h => h) (Or.inl ⟨by rfl, ?_⟩) ?_ ?_
                  rotate_left
                  · intro w'
                    go_simp
                    with_reducible rfl
                  rotate_left
                  · simp only [Act.put, List.setIfInBounds_toArray, List.set_cons_zero, List.set_cons_succ, i64_w, i32_w, e1]
                    rfl
                  refine pure_ (i := 6) (N := some 110) (v := ?_) (a' := ?_) #[true, false, false, false, true, true, true, false, false, false] rfl rfl (by kernel_rfl) (fun _ _ _ h => h) (Or.inl ⟨by rfl, ?_⟩) ?_ ?_
                  rotate_left
                  · intro w'
                    go_simp
                    with_reducible rfl
                  rotate_left
                  · simp only [Act.put, List.setIfInBounds_toArray, List.set_cons_zero, List.set_cons_succ, i64_w, i32_w, e1]
                    rfl
                  refine take_ (i := 7) (N := some 111) (v := ?_) (a' := ?_) #[true, false, false, false, true, true, true, true, false, false] rfl rfl (by kernel_rfl) (fun _ _ _ h => h) (Or.inl ⟨by rfl, ?_⟩) hHeld ?_ ?_
                  rotate_left
                  · rintro w' ⟨s0, s1, s2, s3⟩
                    go_simp
                    with_reducible rfl
                  rotate_left
                  · simp only [Act.put, List.setIfInBounds_toArray, List.set_cons_zero, List.set_cons_succ, i64_w, i32_w, e1]
                    rfl
                  refine one_ (i := 1) (N := some 105) #[true, true, false, false, true, true, true, true, false, false] rfl rfl (by kernel_rfl) (by decide) (fun K hK => ?_)
                  refine goes_ Try.func123 (by kernel_rfl) rfl #[.agg #[.int .u64 0, .int .i64 (sec y'), .pointer none]] (by rfl) rfl rfl (by (try simp only [List.map_toArray, List.map_cons, List.map_nil]); first | done | rfl) ?_
                  refine (hour_any 0 y' _ z0 z1 HD.out).mono ?_
                  rintro e w1 ⟨rfl, hb⟩
                  refine ⟨_, rfl, ?_⟩
                  have hI2 := Aside0.mk (hI.out.below hb)
                  clear hI hb
                  have hI := hI2
                  clear hI2
                  refine hK.out _ _ ⟨(blk_cell hI.out.T 0).trans rfl, (blk_cell hI.out.T 1).trans rfl, (blk_cell hI.out.T 2).trans rfl, (blk_cell hI.out.S 2).trans rfl⟩ (fun hHeld => ?_)
                  clear hK K
                  refine norm_ (a' := ?_) ?_ ?_
                  rotate_left
                  · show Act.put _ (some 105) _ = _
                    simp only [Act.put, List.setIfInBounds_toArray, List.set_cons_zero, List.set_cons_succ, i64_w, i32_w]
                    rfl
                  refine pure_ (i := 2) (N := some 106) (v := ?_) (a' := ?_) #[true, true, true, false, true, true, true, true, false, false] rfl rfl (by kernel_rfl) (fun _ _ _ h => h) (Or.inl ⟨by rfl, ?_⟩) ?_ ?_
                  rotate_left
                  · intro w'
                    go_simp
                    with_reducible rfl
                  rotate_left
                  · simp only [Act.put, List.setIfInBounds_toArray, List.set_cons_zero, List.set_cons_succ, i64_w, i32_w, e1]
                    rfl
                  refine pure_ (i := 3) (N := some 107) (v := ?_) (a' := ?_) #[true, true, true, true, true, true, true, true, false, false] rfl rfl (by kernel_rfl) (fun _ _ _ h => h) (Or.inl ⟨by rfl, ?_⟩) ?_ ?_
                  rotate_left
                  · intro w'
                    go_simp
                    with_reducible rfl
                  rotate_left
                  · simp only [Act.put, List.setIfInBounds_toArray, List.set_cons_zero, List.set_cons_succ, i64_w, i32_w, e1]
                    rfl
                  refine pure_ (i := 8) (N := some 112) (v := ?_) (a' := ?_) #[true, true, true, true, true, true, true, true, true, false] rfl rfl (by kernel_rfl) (fun _ _ _ h => h) (Or.inl ⟨by rfl, ?_⟩) ?_ ?_
                  rotate_left
                  · intro w'
                    go_simp
                    with_reducible rfl
                  rotate_left
                  · simp only [Act.put, List.setIfInBounds_toArray, List.set_cons_zero, List.set_cons_succ, i64_w, i32_w, e1]
                    rfl
                  refine pure_ (i := 9) (N := some 113) (v := ?_) (a' := ?_) #[true, true, true, true, true, true, true, true, true, true] rfl rfl (by kernel_rfl) (fun _ _ _ h => h) (Or.inl ⟨by rfl, ?_⟩) ?_ ?_
                  rotate_left
                  · intro w'
                    go_simp
                    with_reducible rfl
                  rotate_left
                  · simp only [Act.put, List.setIfInBounds_toArray, List.set_cons_zero, List.set_cons_succ, i64_w, i32_w, e1]
                    rfl
                  refine done_ (by kernel_rfl) ?_
                  clear hHeld
                  cases ad'
                  · go_upto_region 31 with fail
                    have hI := Aside0.mk hI.out.drew
                    refine start_ (n := 11) (S := fun w' => w'.cell? ⟨w.heap.size, 0, none⟩ = some (.int .u64 0) ∧ w'.cell? ⟨w.heap.size, 1, none⟩ = some (.int .i64 (sec y')) ∧ w'.cell? ⟨w.heap.size, 2, none⟩ = some (.pointer none)) (ds := [10]) #[false, false, false, false, false, false, false, false, false, false, false] (by kernel_rfl) rfl rfl ⟨(blk_cell hI.out.T 0).trans rfl, (blk_cell hI.out.T 1).trans rfl, (blk_cell hI.out.T 2).trans rfl⟩ (fun hHeld => ?_)
                    refine take_ (i := 0) (N := some 116) (v := ?_) (a' := ?_) #[true, false, false, false, false, false, false, false, false, false, false] rfl rfl (by kernel_rfl) (fun _ _ _ h => h) (Or.inl ⟨by rfl, ?_⟩) hHeld ?_ ?_
                    rotate_left
                    · rintro w' ⟨s0, s1, s2⟩
                      go_simp
                      with_reducible rfl
                    rotate_left
                    · simp only [Act.put, List.setIfInBounds_toArray, List.set_cons_zero, List.set_cons_succ, i64_w, i32_w]
                      rfl
                    refine take_ (i := 2) (N := some 118) (v := ?_) (a' := ?_) #[true, false, true, false, false, false, false, false, false, false, false] rfl rfl (by kernel_rfl) (fun _ _ _ h => h) (Or.inl ⟨by rfl, ?_⟩) hHeld ?_ ?_
                    rotate_left
                    · rintro w' ⟨s0, s1, s2⟩
                      go_simp
                      with_reducible rfl
                    rotate_left
                    · simp only [Act.put, List.setIfInBounds_toArray, List.set_cons_zero, List.set_cons_succ, i64_w, i32_w]
                      rfl
                    refine take_ (i := 4) (N := some 120) (v := ?_) (a' := ?_) #[true, false, true, false, true, false, false, false, false, false, false] rfl rfl (by kernel_rfl) (fun _ _ _ h => h) (Or.inl ⟨by rfl, ?_⟩) hHeld ?_ ?_
                    rotate_left
                    · rintro w' ⟨s0, s1, s2⟩
                      go_simp
                      with_reducible rfl
                    rotate_left
                    · simp only [Act.put, List.setIfInBounds_toArray, List.set_cons_zero, List.set_cons_succ, i64_w, i32_w]
                      rfl
                    refine take_ (i := 6) (N := some 122) (v := ?_) (a' := ?_) #[true, false, true, false, true, false, true, false, false, false, false] rfl rfl (by kernel_rfl) (fun _ _ _ h => h) (Or.inl ⟨by rfl, ?_⟩) hHeld ?_ ?_
                    rotate_left
                    · rintro w' ⟨s0, s1, s2⟩
                      go_simp
                      with_reducible rfl
                    rotate_left
                    · simp only [Act.put, List.setIfInBounds_toArray, List.set_cons_zero, List.set_cons_succ, i64_w, i32_w]
                      rfl
                    refine pure_ (i := 8) (N := some 124) (v := ?_) (a' := ?_) #[true, false, true, false, true, false, true, false, true, false, false] rfl rfl (by kernel_rfl) (fun _ _ _ h => h) (Or.inl ⟨by rfl, ?_⟩) ?_ ?_
                    rotate_left
                    · intro w'
                      go_simp
                      with_reducible rfl
                    rotate_left
                    · simp only [Act.put, List.setIfInBounds_toArray, List.set_cons_zero, List.set_cons_succ, i64_w, i32_w]
                      rfl
                    refine one_ (i := 1) (N := some 117) #[true, true, true, false, true, false, true, false, true, false, false] rfl rfl (by kernel_rfl) (by decide) (fun K hK => ?_)
                    refine goes_ Try.func118 (by kernel_rfl) rfl #[.agg #[.int .u64 0, .int .i64 (sec y'), .pointer none]] (by rfl) rfl rfl (by (try simp only [List.map_toArray, List.map_cons, List.map_nil]); first | done | rfl) ?_
                    refine (year_any 0 y' _ z0 z1 HD.out).mono ?_
                    rintro e w1 ⟨rfl, hb⟩
                    refine ⟨_, rfl, ?_⟩
                    have hI2 := Aside0.mk (hI.out.below hb)
                    clear hI hb
                    have hI := hI2
                    clear hI2
                    refine hK.out _ _ ⟨(blk_cell hI.out.T 0).trans rfl, (blk_cell hI.out.T 1).trans rfl, (blk_cell hI.out.T 2).trans rfl⟩ (fun hHeld => ?_)
                    clear hK K
                    refine norm_ (a' := ?_) ?_ ?_
                    rotate_left
                    · show Act.put _ (some 117) _ = _
                      simp only [Act.put, List.setIfInBounds_toArray, List.set_cons_zero, List.set_cons_succ, i64_w, i32_w]
                      rfl
                    refine one_ (i := 3) (N := some 119) #[true, true, true, true, true, false, true, false, true, false, false] rfl rfl (by kernel_rfl) (by decide) (fun K hK => ?_)
                    refine goes_ Try.func119 (by kernel_rfl) rfl #[.agg #[.int .u64 0, .int .i64 (sec y'), .pointer none]] (by rfl) rfl rfl (by (try simp only [List.map_toArray, List.map_cons, List.map_nil]); first | done | rfl) ?_
                    refine (month_any 0 y' _ z0 z1 HD.out).mono ?_
                    rintro e w3 ⟨rfl, hb⟩
                    refine ⟨_, rfl, ?_⟩
                    have hI2 := Aside0.mk (hI.out.below hb)
                    clear hI hb
                    have hI := hI2
                    clear hI2
                    refine hK.out _ _ ⟨(blk_cell hI.out.T 0).trans rfl, (blk_cell hI.out.T 1).trans rfl, (blk_cell hI.out.T 2).trans rfl⟩ (fun hHeld => ?_)
                    clear hK K
                    refine norm_ (a' := ?_) ?_ ?_
                    rotate_left
                    · show Act.put _ (some 119) _ = _
                      simp only [Act.put, List.setIfInBounds_toArray, List.set_cons_zero, List.set_cons_succ, i64_w, i32_w]
                      rfl
                    refine one_ (i := 5) (N := some 121) #[true, true, true, true, true, true, true, false, true, false, false] rfl rfl (by kernel_rfl) (by decide) (fun K hK => ?_)
                    refine goes_ Try.func111 (by kernel_rfl) rfl #[.agg #[.int .u64 0, .int .i64 (sec y'), .pointer none]] (by rfl) rfl rfl (by (try simp only [List.map_toArray, List.map_cons, List.map_nil]); first | done | rfl) ?_
                    refine (day_any 0 y' _ z0 z1 HD.out).mono ?_
                    rintro e w5 ⟨rfl, hb⟩
                    refine ⟨_, rfl, ?_⟩
                    have hI2 := Aside0.mk (hI.out.below hb)
                    clear hI hb
                    have hI := hI2
                    clear hI2
                    refine hK.out _ _ ⟨(blk_cell hI.out.T 0).trans rfl, (blk_cell hI.out.T 1).trans rfl, (blk_cell hI.out.T 2).trans rfl⟩ (fun hHeld => ?_)
                    clear hK K
                    refine norm_ (a' := ?_) ?_ ?_
                    rotate_left
                    · show Act.put _ (some 121) _ = _
                      simp only [Act.put, List.setIfInBounds_toArray, List.set_cons_zero, List.set_cons_succ, i64_w, i32_w]
                      rfl
                    refine one_ (i := 7) (N := some 123) #[true, true, true, true, true, true, true, true, true, false, false] rfl rfl (by kernel_rfl) (by decide) (fun K hK => ?_)
                    refine goes_ Try.func123 (by kernel_rfl) rfl #[.agg #[.int .u64 0, .int .i64 (sec y'), .pointer none]] (by rfl) rfl rfl (by (try simp only [List.map_toArray, List.map_cons, List.map_nil]); first | done | rfl) ?_
                    refine (hour_any 0 y' _ z0 z1 HD.out).mono ?_
                    rintro e w7 ⟨rfl, hb⟩
                    refine ⟨_, rfl, ?_⟩
                    have hI2 := Aside0.mk (hI.out.below hb)
                    clear hI hb
                    have hI := hI2
                    clear hI2
                    refine hK.out _ _ ⟨(blk_cell hI.out.T 0).trans rfl, (blk_cell hI.out.T 1).trans rfl, (blk_cell hI.out.T 2).trans rfl⟩ (fun hHeld => ?_)
                    clear hK K
                    refine norm_ (a' := ?_) ?_ ?_
                    rotate_left
                    · show Act.put _ (some 123) _ = _
                      simp only [Act.put, List.setIfInBounds_toArray, List.set_cons_zero, List.set_cons_succ, i64_w, i32_w]
                      rfl
                    refine one_ (i := 9) (N := some 125) #[true, true, true, true, true, true, true, true, true, true, false] rfl rfl (by kernel_rfl) (by decide) (fun K hK => ?_)
                    refine goes_ Try.func120 (by kernel_rfl) rfl #[.int .i64 (yr (y' / 86400)), .int .i64 (mo (y' / 86400)), .int .i64 (dy (y' / 86400)), .int .i64 (y' % 86400 / 3600), .int .i64 0, .int .i64 0, .int .i64 0, .pointer (some ⟨l, 0, none⟩)] (by rfl) rfl rfl (by (try simp only [List.map_toArray, List.map_cons, List.map_nil]); first | done | rfl) ?_
                    refine (HQ.out _ _ hI.out.L).mono ?_
                    rintro e w9 ⟨rfl, hb⟩
                    refine ⟨_, rfl, ?_⟩
                    have hI2 := Aside0.mk (hI.out.below hb)
                    clear hI hb
                    have hI := hI2
                    clear hI2
                    refine hK.out _ _ ⟨(blk_cell hI.out.T 0).trans rfl, (blk_cell hI.out.T 1).trans rfl, (blk_cell hI.out.T 2).trans rfl⟩ (fun hHeld => ?_)
                    clear hK K
                    refine norm_ (a' := ?_) ?_ ?_
                    rotate_left
                    · show Act.put _ (some 125) _ = _
                      simp only [Act.put, List.setIfInBounds_toArray, List.set_cons_zero, List.set_cons_succ, i64_w, i32_w]
                      rfl
                    have rc0 := (blk_cell hI.out.T 0).trans (show _ = some _ from rfl)
                    have rf0 := blk_frozen hI.out.T 0
                    have rc1 := (blk_cell hI.out.T 1).trans (show _ = some _ from rfl)
                    have rf1 := blk_frozen hI.out.T 1
                    have rc2 := (blk_cell hI.out.T 2).trans (show _ = some _ from rfl)
                    have rf2 := blk_frozen hI.out.T 2
                    refine last_ (i := 10) (N := none) #[true, true, true, true, true, true, true, true, true, true, true] rfl rfl (by kernel_rfl) (by decide) (fun K hK => ?_)
                    refine skip_ (w1 := ?_) (by rfl) rfl ?_ ?_
                    rotate_left
                    · go_simp
                      rfl
                    have hI2 := Aside0.mk (hI.out.setT (.int .u64 0) (.int .i64 (sec y0)) (.pointer none))
                    refine hK.out _ _ ?_
                    clear hK K rc0 rc1 rc2 rf0 rf1 rf2 hI hHeld
                    have hI := hI2
                    clear hI2
                    refine done_ (by kernel_rfl) ?_
                    generalize hg : World.setCell _ _ (.pointer none) = w6 at hI ⊢
                    clear hg
                    have t0 : World.cell? _ ⟨w.heap.size, 0, none⟩ = some (.int .u64 0) := (blk_cell hI.out.T 0).trans rfl
                    have t1 : World.cell? _ ⟨w.heap.size, 1, none⟩ = some (.int .i64 (sec y0)) := (blk_cell hI.out.T 1).trans rfl
                    have t2 : World.cell? _ ⟨w.heap.size, 2, none⟩ = some (.pointer none) := (blk_cell hI.out.T 2).trans rfl
                    go_upto_region 33 with ((go_at_call 114; (with_reducible refine (HC.out _).mono ?_); rintro e w3 ⟨rfl, hb⟩; have hI := Aside0.mk (hI.out.below hb); clear hb t0 t1 t2; have t0 : w3.cell? ⟨w.heap.size, 0, none⟩ = some (.int .u64 0) := (blk_cell hI.out.T 0).trans rfl; have t1 : w3.cell? ⟨w.heap.size, 1, none⟩ = some (.int .i64 (sec y0)) := (blk_cell hI.out.T 1).trans rfl; have t2 : w3.cell? ⟨w.heap.size, 2, none⟩ = some (.pointer none) := (blk_cell hI.out.T 2).trans rfl; have f0 := blk_frozen hI.out.T 0; have f1 := blk_frozen hI.out.T 1; have f2 := blk_frozen hI.out.T 2))
                    have hI := Aside0.mk (hI.out.setT (.int .u64 0) (.int .i64 (sec z)) (.pointer none))
                    clear t0 t1 t2 f0 f1 f2
                    generalize hg : World.setCell _ _ (.pointer none) = w7 at hI ⊢
                    clear hg
                    have t0 : w7.cell? ⟨w.heap.size, 0, none⟩ = some (.int .u64 0) := (blk_cell hI.out.T 0).trans rfl
                    have t1 : w7.cell? ⟨w.heap.size, 1, none⟩ = some (.int .i64 (sec z)) := (blk_cell hI.out.T 1).trans rfl
                    have t2 : w7.cell? ⟨w.heap.size, 2, none⟩ = some (.pointer none) := (blk_cell hI.out.T 2).trans rfl
                    go_wp2_with (go_at_call 123; (with_reducible refine (hour_any 0 z _ z0 z1 HDz.out).mono ?_); rintro e w8 ⟨rfl, hb⟩; have hI := Aside0.mk (hI.out.below hb); clear hb t0 t1 t2; have t0 : w8.cell? ⟨w.heap.size, 0, none⟩ = some (.int .u64 0) := (blk_cell hI.out.T 0).trans rfl; have t1 : w8.cell? ⟨w.heap.size, 1, none⟩ = some (.int .i64 (sec z)) := (blk_cell hI.out.T 1).trans rfl; have t2 : w8.cell? ⟨w.heap.size, 2, none⟩ = some (.pointer none) := (blk_cell hI.out.T 2).trans rfl)
                    go_step3
                    refine ⟨rfl, at_goto HI0.out hI.out HPz.out HB.out (by have h1 := HA.out.1; have h2 := HLT.out; omega) ⟨rfl, rfl, rfl, rfl, rfl, rfl, rfl, rfl, rfl, rfl, rfl⟩⟩
                  · have hI := Aside0.mk (hI.out.cast (by first | exact HY0.out rfl | exact HY0.out trivial))
                    have t0 : World.cell? _ ⟨w.heap.size, 0, none⟩ = some (.int .u64 0) := (blk_cell hI.out.T 0).trans rfl
                    have t1 : World.cell? _ ⟨w.heap.size, 1, none⟩ = some (.int .i64 (sec y0)) := (blk_cell hI.out.T 1).trans rfl
                    have t2 : World.cell? _ ⟨w.heap.size, 2, none⟩ = some (.pointer none) := (blk_cell hI.out.T 2).trans rfl
                    go_upto_region 33 with ((go_at_call 114; (with_reducible refine (HC.out _).mono ?_); rintro e w3 ⟨rfl, hb⟩; have hI := Aside0.mk (hI.out.below hb); clear hb t0 t1 t2; have t0 : w3.cell? ⟨w.heap.size, 0, none⟩ = some (.int .u64 0) := (blk_cell hI.out.T 0).trans rfl; have t1 : w3.cell? ⟨w.heap.size, 1, none⟩ = some (.int .i64 (sec y0)) := (blk_cell hI.out.T 1).trans rfl; have t2 : w3.cell? ⟨w.heap.size, 2, none⟩ = some (.pointer none) := (blk_cell hI.out.T 2).trans rfl; have f0 := blk_frozen hI.out.T 0; have f1 := blk_frozen hI.out.T 1; have f2 := blk_frozen hI.out.T 2))
                    have hI := Aside0.mk (hI.out.setT (.int .u64 0) (.int .i64 (sec z)) (.pointer none))
                    clear t0 t1 t2 f0 f1 f2
                    generalize hg : World.setCell _ _ (.pointer none) = w7 at hI ⊢
                    clear hg
                    have t0 : w7.cell? ⟨w.heap.size, 0, none⟩ = some (.int .u64 0) := (blk_cell hI.out.T 0).trans rfl
                    have t1 : w7.cell? ⟨w.heap.size, 1, none⟩ = some (.int .i64 (sec z)) := (blk_cell hI.out.T 1).trans rfl
                    have t2 : w7.cell? ⟨w.heap.size, 2, none⟩ = some (.pointer none) := (blk_cell hI.out.T 2).trans rfl
                    go_wp2_with (go_at_call 123; (with_reducible refine (hour_any 0 z _ z0 z1 HDz.out).mono ?_); rintro e w8 ⟨rfl, hb⟩; have hI := Aside0.mk (hI.out.below hb); clear hb t0 t1 t2; have t0 : w8.cell? ⟨w.heap.size, 0, none⟩ = some (.int .u64 0) := (blk_cell hI.out.T 0).trans rfl; have t1 : w8.cell? ⟨w.heap.size, 1, none⟩ = some (.int .i64 (sec z)) := (blk_cell hI.out.T 1).trans rfl; have t2 : w8.cell? ⟨w.heap.size, 2, none⟩ = some (.pointer none) := (blk_cell hI.out.T 2).trans rfl)
                    go_step3
                    refine ⟨rfl, at_goto HI0.out hI.out HPz.out HB.out (by have h1 := HA.out.1; have h2 := HLT.out; omega) ⟨rfl, rfl, rfl, rfl, rfl, rfl, rfl, rfl, rfl, rfl, rfl⟩⟩
                · have e2 : (z % 86400 / 3600 == 0) = false := by rw [beq_eq_false_iff_ne]; omega
                  have HN : Aside0 (yr (z / 86400) ≤ lastY x) := ⟨by rw [show z / 86400 = y' / 86400 by omega]; exact HPl.out.yb⟩
                  have HK0 : Aside0 (b.sch.M (mo (z / 86400)) = true) := ⟨by rw [show z / 86400 = y' / 86400 by omega]; exact HA.out.2.2.1⟩
                  have HK1 : Aside0 (b.sch.D (z / 86400) = true) := ⟨by rw [show z / 86400 = y' / 86400 by omega]; exact HA.out.2.2.2⟩
                  clear hw hy0 hz
                  go_wp2_with fail
                  refine start_ (n := 10) (S := fun w' => w'.cell? ⟨w.heap.size, 0, none⟩ = some (.int .u64 0) ∧ w'.cell? ⟨w.heap.size, 1, none⟩ = some (.int .i64 (sec y')) ∧ w'.cell? ⟨w.heap.size, 2, none⟩ = some (.pointer none) ∧ w'.cell? ⟨p, 2, none⟩ = some (.int .u64 (b.h : Int))) (ds := []) #[false, false, false, false, false, false, false, false, false, false] (by kernel_rfl) rfl rfl ⟨(blk_cell hI.out.T 0).trans rfl, (blk_cell hI.out.T 1).trans rfl, (blk_cell hI.out.T 2).trans rfl, (blk_cell hI.out.S 2).trans rfl⟩ (fun hHeld => ?_)
                  refine take_ (i := 0) (N := some 104) (v := ?_) (a' := ?_) #[true, false, false, false, false, false, false, false, false, false] rfl rfl (by kernel_rfl) (fun _ _ _ h => h) (Or.inl ⟨by rfl, ?_⟩) hHeld ?_ ?_
                  rotate_left
                  · rintro w' ⟨s0, s1, s2, s3⟩
                    go_simp
                    with_reducible rfl
                  rotate_left
                  · simp only [Act.put, List.setIfInBounds_toArray, List.set_cons_zero, List.set_cons_succ, i64_w, i32_w, e1]
                    rfl
                  refine pure_ (i := 4) (N := some 108) (v := ?_) (a' := ?_) #[true, false, false, false, true, false, false, false, false, false] rfl rfl (by kernel_rfl) (fun _ _ _ h => h) (Or.inl ⟨by rfl, ?_⟩) ?_ ?_
                  rotate_left
                  · intro w'
                    go_simp
                    with_reducible rfl
                  rotate_left
                  · simp only [Act.put, List.setIfInBounds_toArray, List.set_cons_zero, List.set_cons_succ, i64_w, i32_w, e1]
                    rfl
                  refine pure_ (i := 5) (N := some 109) (v := ?_) (a' := ?_) #[true, false, false, false, true, true, false, false, false, false] rfl rfl (by kernel_rfl) (fun _ _ _ h => h) (Or.inl ⟨by rfl, ?_⟩) ?_ ?_
                  rotate_left
                  · intro w'
                    go_simp
                    with_reducible rfl
                  rotate_left
                  · simp only [Act.put, List.setIfInBounds_toArray, List.set_cons_zero, List.set_cons_succ, i64_w, i32_w, e1]
                    rfl
                  refine pure_ (i := 6) (N := some 110) (v := ?_) (a' := ?_) #[true, false, false, false, true, true, true, false, false, false] rfl rfl (by kernel_rfl) (fun _ _ _ h => h) (Or.inl ⟨by rfl, ?_⟩) ?_ ?_
                  rotate_left
                  · intro w'
                    go_simp
                    with_reducible rfl
                  rotate_left
                  · simp only [Act.put, List.setIfInBounds_toArray, List.set_cons_zero, List.set_cons_succ, i64_w, i32_w, e1]
                    rfl
                  refine take_ (i := 7) (N := some 111) (v := ?_) (a' := ?_) #[true, false, false, false, true, true, true, true, false, false] rfl rfl (by kernel_rfl) (fun _ _ _ h => h) (Or.inl ⟨by rfl, ?_⟩) hHeld ?_ ?_
                  rotate_left
                  · rintro w' ⟨s0, s1, s2, s3⟩
                    go_simp
                    with_reducible rfl
                  rotate_left
                  · simp only [Act.put, List.setIfInBounds_toArray, List.set_cons_zero, List.set_cons_succ, i64_w, i32_w, e1]
                    rfl
                  refine one_ (i := 1) (N := some 105) #[true, true, false, false, true, true, true, true, false, false] rfl rfl (by kernel_rfl) (by decide) (fun K hK => ?_)
                  refine goes_ Try.func123 (by kernel_rfl) rfl #[.agg #[.int .u64 0, .int .i64 (sec y'), .pointer none]] (by rfl) rfl rfl (by (try simp only [List.map_toArray, List.map_cons, List.map_nil]); first | done | rfl) ?_
                  refine (hour_any 0 y' _ z0 z1 HD.out).mono ?_
                  rintro e w1 ⟨rfl, hb⟩
                  refine ⟨_, rfl, ?_⟩
                  have hI2 := Aside0.mk (hI.out.below hb)
                  clear hI hb
                  have hI := hI2
                  clear hI2
                  refine hK.out _ _ ⟨(blk_cell hI.out.T 0).trans rfl, (blk_cell hI.out.T 1).trans rfl, (blk_cell hI.out.T 2).trans rfl, (blk_cell hI.out.S 2).trans rfl⟩ (fun hHeld => ?_)
                  clear hK K
                  refine norm_ (a' := ?_) ?_ ?_
                  rotate_left
                  · show Act.put _ (some 105) _ = _
                    simp only [Act.put, List.setIfInBounds_toArray, List.set_cons_zero, List.set_cons_succ, i64_w, i32_w]
                    rfl
                  refine pure_ (i := 2) (N := some 106) (v := ?_) (a' := ?_) #[true, true, true, false, true, true, true, true, false, false] rfl rfl (by kernel_rfl) (fun _ _ _ h => h) (Or.inl ⟨by rfl, ?_⟩) ?_ ?_
                  rotate_left
                  · intro w'
                    go_simp
                    with_reducible rfl
                  rotate_left
                  · simp only [Act.put, List.setIfInBounds_toArray, List.set_cons_zero, List.set_cons_succ, i64_w, i32_w, e1]
                    rfl
                  refine pure_ (i := 3) (N := some 107) (v := ?_) (a' := ?_) #[true, true, true, true, true, true, true, true, false, false] rfl rfl (by kernel_rfl) (fun _ _ _ h => h) (Or.inl ⟨by rfl, ?_⟩) ?_ ?_
                  rotate_left
                  · intro w'
                    go_simp
                    with_reducible rfl
                  rotate_left
                  · simp only [Act.put, List.setIfInBounds_toArray, List.set_cons_zero, List.set_cons_succ, i64_w, i32_w, e1]
                    rfl
                  refine pure_ (i := 8) (N := some 112) (v := ?_) (a' := ?_) #[true, true, true, true, true, true, true, true, true, false] rfl rfl (by kernel_rfl) (fun _ _ _ h => h) (Or.inl ⟨by rfl, ?_⟩) ?_ ?_
                  rotate_left
                  · intro w'
                    go_simp
                    with_reducible rfl
                  rotate_left
                  · simp only [Act.put, List.setIfInBounds_toArray, List.set_cons_zero, List.set_cons_succ, i64_w, i32_w, e1]
                    rfl
                  refine pure_ (i := 9) (N := some 113) (v := ?_) (a' := ?_) #[true, true, true, true, true, true, true, true, true, true] rfl rfl (by kernel_rfl) (fun _ _ _ h => h) (Or.inl ⟨by rfl, ?_⟩) ?_ ?_
                  rotate_left
                  · intro w'
                    go_simp
                    with_reducible rfl
                  rotate_left
                  · simp only [Act.put, List.setIfInBounds_toArray, List.set_cons_zero, List.set_cons_succ, i64_w, i32_w, e1]
                    rfl
                  refine done_ (by kernel_rfl) ?_
                  clear hHeld
                  cases ad'
                  · go_upto_region 31 with fail
                    have hI := Aside0.mk hI.out.drew
                    refine start_ (n := 11) (S := fun w' => w'.cell? ⟨w.heap.size, 0, none⟩ = some (.int .u64 0) ∧ w'.cell? ⟨w.heap.size, 1, none⟩ = some (.int .i64 (sec y')) ∧ w'.cell? ⟨w.heap.size, 2, none⟩ = some (.pointer none)) (ds := [10]) #[false, false, false, false, false, false, false, false, false, false, false] (by kernel_rfl) rfl rfl ⟨(blk_cell hI.out.T 0).trans rfl, (blk_cell hI.out.T 1).trans rfl, (blk_cell hI.out.T 2).trans rfl⟩ (fun hHeld => ?_)
                    refine take_ (i := 0) (N := some 116) (v := ?_) (a' := ?_) #[true, false, false, false, false, false, false, false, false, false, false] rfl rfl (by kernel_rfl) (fun _ _ _ h => h) (Or.inl ⟨by rfl, ?_⟩) hHeld ?_ ?_
                    rotate_left
                    · rintro w' ⟨s0, s1, s2⟩
                      go_simp
                      with_reducible rfl
                    rotate_left
                    · simp only [Act.put, List.setIfInBounds_toArray, List.set_cons_zero, List.set_cons_succ, i64_w, i32_w]
                      rfl
                    refine take_ (i := 2) (N := some 118) (v := ?_) (a' := ?_) #[true, false, true, false, false, false, false, false, false, false, false] rfl rfl (by kernel_rfl) (fun _ _ _ h => h) (Or.inl ⟨by rfl, ?_⟩) hHeld ?_ ?_
                    rotate_left
                    · rintro w' ⟨s0, s1, s2⟩
                      go_simp
                      with_reducible rfl
                    rotate_left
                    · simp only [Act.put, List.setIfInBounds_toArray, List.set_cons_zero, List.set_cons_succ, i64_w, i32_w]
                      rfl
                    refine take_ (i := 4) (N := some 120) (v := ?_) (a' := ?_) #[true, false, true, false, true, false, false, false, false, false, false] rfl rfl (by kernel_rfl) (fun _ _ _ h => h) (Or.inl ⟨by rfl, ?_⟩) hHeld ?_ ?_
                    rotate_left
                    · rintro w' ⟨s0, s1, s2⟩
                      go_simp
                      with_reducible rfl
                    rotate_left
                    · simp only [Act.put, List.setIfInBounds_toArray, List.set_cons_zero, List.set_cons_succ, i64_w, i32_w]
                      rfl
                    refine take_ (i := 6) (N := some 122) (v := ?_) (a' := ?_) #[true, false, true, false, true, false, true, false, false, false, false] rfl rfl (by kernel_rfl) (fun _ _ _ h => h) (Or.inl ⟨by rfl, ?_⟩) hHeld ?_ ?_
                    rotate_left
                    · rintro w' ⟨s0, s1, s2⟩
                      go_simp
                      with_reducible rfl
                    rotate_left
                    · simp only [Act.put, List.setIfInBounds_toArray, List.set_cons_zero, List.set_cons_succ, i64_w, i32_w]
                      rfl
                    refine pure_ (i := 8) (N := some 124) (v := ?_) (a' := ?_) #[true, false, true, false, true, false, true, false, true, false, false] rfl rfl (by kernel_rfl) (fun _ _ _ h => h) (Or.inl ⟨by rfl, ?_⟩) ?_ ?_
                    rotate_left
                    · intro w'
                      go_simp
                      with_reducible rfl
                    rotate_left
                    · simp only [Act.put, List.setIfInBounds_toArray, List.set_cons_zero, List.set_cons_succ, i64_w, i32_w]
                      rfl
                    refine one_ (i := 1) (N := some 117) #[true, true, true, false, true, false, true, false, true, false, false] rfl rfl (by kernel_rfl) (by decide) (fun K hK => ?_)
                    refine goes_ Try.func118 (by kernel_rfl) rfl #[.agg #[.int .u64 0, .int .i64 (sec y'), .pointer none]] (by rfl) rfl rfl (by (try simp only [List.map_toArray, List.map_cons, List.map_nil]); first | done | rfl) ?_
                    refine (year_any 0 y' _ z0 z1 HD.out).mono ?_
                    rintro e w1 ⟨rfl, hb⟩
                    refine ⟨_, rfl, ?_⟩
                    have hI2 := Aside0.mk (hI.out.below hb)
                    clear hI hb
                    have hI := hI2
                    clear hI2
                    refine hK.out _ _ ⟨(blk_cell hI.out.T 0).trans rfl, (blk_cell hI.out.T 1).trans rfl, (blk_cell hI.out.T 2).trans rfl⟩ (fun hHeld => ?_)
                    clear hK K
                    refine norm_ (a' := ?_) ?_ ?_
                    rotate_left
                    · show Act.put _ (some 117) _ = _
                      simp only [Act.put, List.setIfInBounds_toArray, List.set_cons_zero, List.set_cons_succ, i64_w, i32_w]
                      rfl
                    refine one_ (i := 3) (N := some 119) #[true, true, true, true, true, false, true, false, true, false, false] rfl rfl (by kernel_rfl) (by decide) (fun K hK => ?_)
                    refine goes_ Try.func119 (by kernel_rfl) rfl #[.agg #[.int .u64 0, .int .i64 (sec y'), .pointer none]] (by rfl) rfl rfl (by (try simp only [List.map_toArray, List.map_cons, List.map_nil]); first | done | rfl) ?_
                    refine (month_any 0 y' _ z0 z1 HD.out).mono ?_
                    rintro e w3 ⟨rfl, hb⟩
                    refine ⟨_, rfl, ?_⟩
                    have hI2 := Aside0.mk (hI.out.below hb)
                    clear hI hb
                    have hI := hI2
                    clear hI2
                    refine hK.out _ _ ⟨(blk_cell hI.out.T 0).trans rfl, (blk_cell hI.out.T 1).trans rfl, (blk_cell hI.out.T 2).trans rfl⟩ (fun hHeld => ?_)
                    clear hK K
                    refine norm_ (a' := ?_) ?_ ?_
                    rotate_left
                    · show Act.put _ (some 119) _ = _
                      simp only [Act.put, List.setIfInBounds_toArray, List.set_cons_zero, List.set_cons_succ, i64_w, i32_w]
                      rfl
                    refine one_ (i := 5) (N := some 121) #[true, true, true, true, true, true, true, false, true, false, false] rfl rfl (by kernel_rfl) (by decide) (fun K hK => ?_)
                    refine goes_ Try.func111 (by kernel_rfl) rfl #[.agg #[.int .u64 0, .int .i64 (sec y'), .pointer none]] (by rfl) rfl rfl (by (try simp only [List.map_toArray, List.map_cons, List.map_nil]); first | done | rfl) ?_
                    refine (day_any 0 y' _ z0 z1 HD.out).mono ?_
                    rintro e w5 ⟨rfl, hb⟩
                    refine ⟨_, rfl, ?_⟩
                    have hI2 := Aside0.mk (hI.out.below hb)
                    clear hI hb
                    have hI := hI2
                    clear hI2
                    refine hK.out _ _ ⟨(blk_cell hI.out.T 0).trans rfl, (blk_cell hI.out.T 1).trans rfl, (blk_cell hI.out.T 2).trans rfl⟩ (fun hHeld => ?_)
                    clear hK K
                    refine norm_ (a' := ?_) ?_ ?_
                    rotate_left
                    · show Act.put _ (some 121) _ = _
                      simp only [Act.put, List.setIfInBounds_toArray, List.set_cons_zero, List.set_cons_succ, i64_w, i32_w]
                      rfl
                    refine one_ (i := 7) (N := some 123) #[true, true, true, true, true, true, true, true, true, false, false] rfl rfl (by kernel_rfl) (by decide) (fun K hK => ?_)
                    refine goes_ Try.func123 (by kernel_rfl) rfl #[.agg #[.int .u64 0, .int .i64 (sec y'), .pointer none]] (by rfl) rfl rfl (by (try simp only [List.map_toArray, List.map_cons, List.map_nil]); first | done | rfl) ?_
                    refine (hour_any 0 y' _ z0 z1 HD.out).mono ?_
                    rintro e w7 ⟨rfl, hb⟩
                    refine ⟨_, rfl, ?_⟩
                    have hI2 := Aside0.mk (hI.out.below hb)
                    clear hI hb
                    have hI := hI2
                    clear hI2
                    refine hK.out _ _ ⟨(blk_cell hI.out.T 0).trans rfl, (blk_cell hI.out.T 1).trans rfl, (blk_cell hI.out.T 2).trans rfl⟩ (fun hHeld => ?_)
                    clear hK K
                    refine norm_ (a' := ?_) ?_ ?_
                    rotate_left
                    · show Act.put _ (some 123) _ = _
                      simp only [Act.put, List.setIfInBounds_toArray, List.set_cons_zero, List.set_cons_succ, i64_w, i32_w]
                      rfl
                    refine one_ (i := 9) (N := some 125) #[true, true, true, true, true, true, true, true, true, true, false] rfl rfl (by kernel_rfl) (by decide) (fun K hK => ?_)
                    refine goes_ Try.func120 (by kernel_rfl) rfl #[.int .i64 (yr (y' / 86400)), .int .i64 (mo (y' / 86400)), .int .i64 (dy (y' / 86400)), .int .i64 (y' % 86400 / 3600), .int .i64 0, .int .i64 0, .int .i64 0, .pointer (some ⟨l, 0, none⟩)] (by rfl) rfl rfl (by (try simp only [List.map_toArray, List.map_cons, List.map_nil]); first | done | rfl) ?_
                    refine (HQ.out _ _ hI.out.L).mono ?_
                    rintro e w9 ⟨rfl, hb⟩
                    refine ⟨_, rfl, ?_⟩
                    have hI2 := Aside0.mk (hI.out.below hb)
                    clear hI hb
                    have hI := hI2
                    clear hI2
                    refine hK.out _ _ ⟨(blk_cell hI.out.T 0).trans rfl, (blk_cell hI.out.T 1).trans rfl, (blk_cell hI.out.T 2).trans rfl⟩ (fun hHeld => ?_)
                    clear hK K
                    refine norm_ (a' := ?_) ?_ ?_
                    rotate_left
                    · show Act.put _ (some 125) _ = _
                      simp only [Act.put, List.setIfInBounds_toArray, List.set_cons_zero, List.set_cons_succ, i64_w, i32_w]
                      rfl
                    have rc0 := (blk_cell hI.out.T 0).trans (show _ = some _ from rfl)
                    have rf0 := blk_frozen hI.out.T 0
                    have rc1 := (blk_cell hI.out.T 1).trans (show _ = some _ from rfl)
                    have rf1 := blk_frozen hI.out.T 1
                    have rc2 := (blk_cell hI.out.T 2).trans (show _ = some _ from rfl)
                    have rf2 := blk_frozen hI.out.T 2
                    refine last_ (i := 10) (N := none) #[true, true, true, true, true, true, true, true, true, true, true] rfl rfl (by kernel_rfl) (by decide) (fun K hK => ?_)
                    refine skip_ (w1 := ?_) (by rfl) rfl ?_ ?_
                    rotate_left
                    · go_simp
                      rfl
                    have hI2 := Aside0.mk (hI.out.setT (.int .u64 0) (.int .i64 (sec y0)) (.pointer none))
                    refine hK.out _ _ ?_
                    clear hK K rc0 rc1 rc2 rf0 rf1 rf2 hI hHeld
                    have hI := hI2
                    clear hI2
                    refine done_ (by kernel_rfl) ?_
                    generalize hg : World.setCell _ _ (.pointer none) = w6 at hI ⊢
                    clear hg
                    have t0 : World.cell? _ ⟨w.heap.size, 0, none⟩ = some (.int .u64 0) := (blk_cell hI.out.T 0).trans rfl
                    have t1 : World.cell? _ ⟨w.heap.size, 1, none⟩ = some (.int .i64 (sec y0)) := (blk_cell hI.out.T 1).trans rfl
                    have t2 : World.cell? _ ⟨w.heap.size, 2, none⟩ = some (.pointer none) := (blk_cell hI.out.T 2).trans rfl
                    go_upto_region 33 with ((go_at_call 114; (with_reducible refine (HC.out _).mono ?_); rintro e w3 ⟨rfl, hb⟩; have hI := Aside0.mk (hI.out.below hb); clear hb t0 t1 t2; have t0 : w3.cell? ⟨w.heap.size, 0, none⟩ = some (.int .u64 0) := (blk_cell hI.out.T 0).trans rfl; have t1 : w3.cell? ⟨w.heap.size, 1, none⟩ = some (.int .i64 (sec y0)) := (blk_cell hI.out.T 1).trans rfl; have t2 : w3.cell? ⟨w.heap.size, 2, none⟩ = some (.pointer none) := (blk_cell hI.out.T 2).trans rfl; have f0 := blk_frozen hI.out.T 0; have f1 := blk_frozen hI.out.T 1; have f2 := blk_frozen hI.out.T 2))
                    have hI := Aside0.mk (hI.out.setT (.int .u64 0) (.int .i64 (sec z)) (.pointer none))
                    clear t0 t1 t2 f0 f1 f2
                    generalize hg : World.setCell _ _ (.pointer none) = w7 at hI ⊢
                    clear hg
                    have t0 : w7.cell? ⟨w.heap.size, 0, none⟩ = some (.int .u64 0) := (blk_cell hI.out.T 0).trans rfl
                    have t1 : w7.cell? ⟨w.heap.size, 1, none⟩ = some (.int .i64 (sec z)) := (blk_cell hI.out.T 1).trans rfl
                    have t2 : w7.cell? ⟨w.heap.size, 2, none⟩ = some (.pointer none) := (blk_cell hI.out.T 2).trans rfl
                    go_wp2_with (go_at_call 123; (with_reducible refine (hour_any 0 z _ z0 z1 HDz.out).mono ?_); rintro e w8 ⟨rfl, hb⟩; have hI := Aside0.mk (hI.out.below hb); clear hb t0 t1 t2; have t0 : w8.cell? ⟨w.heap.size, 0, none⟩ = some (.int .u64 0) := (blk_cell hI.out.T 0).trans rfl; have t1 : w8.cell? ⟨w.heap.size, 1, none⟩ = some (.int .i64 (sec z)) := (blk_cell hI.out.T 1).trans rfl; have t2 : w8.cell? ⟨w.heap.size, 2, none⟩ = some (.pointer none) := (blk_cell hI.out.T 2).trans rfl)
                    go_roundg (400000000000 - z).toNat
                    case measure => have h1 := HA.out.2.1; have h2 := HLT.out; have h3 := HDz.out.hi; omega
                    case rel => exact ⟨z, true, rfl, hI, ⟨HPz.out.at HN.out⟩, ⟨by have h1 := HA.out.1; have h2 := HLT.out; exact ⟨by omega, Nat.le_refl _, HK0.out, HK1.out⟩⟩⟩
                  · have hI := Aside0.mk (hI.out.cast (by first | exact HY0.out rfl | exact HY0.out trivial))
                    have t0 : World.cell? _ ⟨w.heap.size, 0, none⟩ = some (.int .u64 0) := (blk_cell hI.out.T 0).trans rfl
                    have t1 : World.cell? _ ⟨w.heap.size, 1, none⟩ = some (.int .i64 (sec y0)) := (blk_cell hI.out.T 1).trans rfl
                    have t2 : World.cell? _ ⟨w.heap.size, 2, none⟩ = some (.pointer none) := (blk_cell hI.out.T 2).trans rfl
                    go_upto_region 33 with ((go_at_call 114; (with_reducible refine (HC.out _).mono ?_); rintro e w3 ⟨rfl, hb⟩; have hI := Aside0.mk (hI.out.below hb); clear hb t0 t1 t2; have t0 : w3.cell? ⟨w.heap.size, 0, none⟩ = some (.int .u64 0) := (blk_cell hI.out.T 0).trans rfl; have t1 : w3.cell? ⟨w.heap.size, 1, none⟩ = some (.int .i64 (sec y0)) := (blk_cell hI.out.T 1).trans rfl; have t2 : w3.cell? ⟨w.heap.size, 2, none⟩ = some (.pointer none) := (blk_cell hI.out.T 2).trans rfl; have f0 := blk_frozen hI.out.T 0; have f1 := blk_frozen hI.out.T 1; have f2 := blk_frozen hI.out.T 2))
                    have hI := Aside0.mk (hI.out.setT (.int .u64 0) (.int .i64 (sec z)) (.pointer none))
                    clear t0 t1 t2 f0 f1 f2
                    generalize hg : World.setCell _ _ (.pointer none) = w7 at hI ⊢
                    clear hg
                    have t0 : w7.cell? ⟨w.heap.size, 0, none⟩ = some (.int .u64 0) := (blk_cell hI.out.T 0).trans rfl
                    have t1 : w7.cell? ⟨w.heap.size, 1, none⟩ = some (.int .i64 (sec z)) := (blk_cell hI.out.T 1).trans rfl
                    have t2 : w7.cell? ⟨w.heap.size, 2, none⟩ = some (.pointer none) := (blk_cell hI.out.T 2).trans rfl
                    go_wp2_with (go_at_call 123; (with_reducible refine (hour_any 0 z _ z0 z1 HDz.out).mono ?_); rintro e w8 ⟨rfl, hb⟩; have hI := Aside0.mk (hI.out.below hb); clear hb t0 t1 t2; have t0 : w8.cell? ⟨w.heap.size, 0, none⟩ = some (.int .u64 0) := (blk_cell hI.out.T 0).trans rfl; have t1 : w8.cell? ⟨w.heap.size, 1, none⟩ = some (.int .i64 (sec z)) := (blk_cell hI.out.T 1).trans rfl; have t2 : w8.cell? ⟨w.heap.size, 2, none⟩ = some (.pointer none) := (blk_cell hI.out.T 2).trans rfl)
                    go_roundg (400000000000 - z).toNat
                    case measure => have h1 := HA.out.2.1; have h2 := HLT.out; have h3 := HDz.out.hi; omega
                    case rel => exact ⟨z, true, rfl, hI, ⟨HPz.out.at HN.out⟩, ⟨by have h1 := HA.out.1; have h2 := HLT.out; exact ⟨by omega, Nat.le_refl _, HK0.out, HK1.out⟩⟩⟩
          case rest =>
            clear hI HPl HA
            obtain ⟨y1, ad1, rfl, hI, HPl, HA⟩ := hcut
            go_upto_block 6 with fail
            go_cut [7] (fun s7 wx => ∃ (y' : Int) (ad' : Bool), s7 = .bool ad' ∧ Aside0 (Nx w wx p k l b #[.int .u64 0, .int .i64 (sec y'), .pointer none]) ∧ Aside0 (Pl b.sch (x + 1) (lastY x) y' ad') ∧ Aside0 (y ≤ y' ∧ b.sch.M (mo (y' / 86400)) = true ∧ b.sch.D (y' / 86400) = true ∧ b.sch.H (y' % 86400 / 3600) = true ∧ b.sch.I (y' % 3600 / 60) = true))
            case first =>
              go_wp2_with fail
              go_loopg [7] (400000000000 - y1).toNat (fun gk s7 wr => ∃ (y' : Int) (ad' : Bool), s7 = .bool ad' ∧ Aside0 (Nx w wr p k l b #[.int .u64 0, .int .i64 (sec y'), .pointer none]) ∧ Aside0 (Pl b.sch (x + 1) (lastY x) y' ad') ∧ Aside0 (y ≤ y' ∧ (400000000000 - y').toNat ≤ gk ∧ b.sch.M (mo (y' / 86400)) = true ∧ b.sch.D (y' / 86400) = true ∧ b.sch.H (y' % 86400 / 3600) = true))
              case atStart => exact ⟨y1, ad1, rfl, hI, HPl, ⟨by have := HA.out; simpa using this⟩⟩
              case round =>
                clear hI HPl HA
                obtain ⟨y', ad', rfl, hI, HPl, HA⟩ := hrel
                have HD := Aside0.mk (dom_in HPl.out HB.out)
                have hI := Aside0.mk hI.out.drew
                have v0 : 0 ≤ y' % 3600 / 60 := by omega
                have v1 : y' % 3600 / 60 ≤ 63 := by omega
                have e1 := bit_zero b.i (y' % 3600 / 60) HW.out.i v0 v1
                by_cases hT : b.sch.I (y' % 3600 / 60) = true
                · rw [show bitOf b.i (y' % 3600 / 60) = true from hT] at e1
                  have HT := Aside0.mk hT
                  clear hT
                  go_wp2_with fail
                  refine start_ (n := 10) (S := fun w' => w'.cell? ⟨w.heap.size, 0, none⟩ = some (.int .u64 0) ∧ w'.cell? ⟨w.heap.size, 1, none⟩ = some (.int .i64 (sec y')) ∧ w'.cell? ⟨w.heap.size, 2, none⟩ = some (.pointer none) ∧ w'.cell? ⟨p, 1, none⟩ = some (.int .u64 (b.i : Int))) (ds := []) #[false, false, false, false, false, false, false, false, false, false] (by kernel_rfl) rfl rfl ⟨(blk_cell hI.out.T 0).trans rfl, (blk_cell hI.out.T 1).trans rfl, (blk_cell hI.out.T 2).trans rfl, (blk_cell hI.out.S 1).trans rfl⟩ (fun hHeld => ?_)
                  refine take_ (i := 0) (N := some 131) (v := ?_) (a' := ?_) #[true, false, false, false, false, false, false, false, false, false] rfl rfl (by kernel_rfl) (fun _ _ _ h => h) (Or.inl ⟨by rfl, ?_⟩) hHeld ?_ ?_
                  rotate_left
                  · rintro w' ⟨s0, s1, s2, s3⟩
                    go_simp
                    with_reducible rfl
                  rotate_left
                  · simp only [Act.put, List.setIfInBounds_toArray, List.set_cons_zero, List.set_cons_succ, i64_w, i32_w, e1]
                    rfl
                  refine pure_ (i := 4) (N := some 135) (v := ?_) (a' := ?_) #[true, false, false, false, true, false, false, false, false, false] rfl rfl (by kernel_rfl) (fun _ _ _ h => h) (Or.inl ⟨by rfl, ?_⟩) ?_ ?_
                  rotate_left
                  · intro w'
                    go_simp
                    with_reducible rfl
                  rotate_left
                  · simp only [Act.put, List.setIfInBounds_toArray, List.set_cons_zero, List.set_cons_succ, i64_w, i32_w, e1]
                    rfl
                  refine pure_ (i := 5) (N := some 136) (v := ?_) (a' := ?_) #[true, false, false, false, true, true, false, false, false, false] rfl rfl (by kernel_rfl) (fun _ _ _ h => h) (Or.inl ⟨by rfl, ?_⟩) ?_ ?_
                  rotate_left
                  · intro w'
                    go_simp
                    with_reducible rfl
                  rotate_left
                  · simp only [Act.put, List.setIfInBounds_toArray, List.set_cons_zero, List.set_cons_succ, i64_w, i32_w, e1]
                    rfl
                  refine pure_ (i := 6) (N := some 137) (v := ?_) (a' := ?_) #[true, false, false, false, true, true, true, false, false, false] rfl rfl (by kernel_rfl) (fun _ _ _ h => h) (Or.inl ⟨by rfl, ?_⟩) ?_ ?_
                  rotate_left
                  · intro w'
                    go_simp
                    with_reducible rfl
                  rotate_left
                  · simp only [Act.put, List.setIfInBounds_toArray, List.set_cons_zero, List.set_cons_succ, i64_w, i32_w, e1]
                    rfl
                  refine take_ (i := 7) (N := some 138) (v := ?_) (a' := ?_) #[true, false, false, false, true, true, true, true, false, false] rfl rfl (by kernel_rfl) (fun _ _ _ h => h) (Or.inl ⟨by rfl, ?_⟩) hHeld ?_ ?_
                  rotate_left
                  · rintro w' ⟨s0, s1, s2, s3⟩
                    go_simp
                    with_reducible rfl
                  rotate_left
                  · simp only [Act.put, List.setIfInBounds_toArray, List.set_cons_zero, List.set_cons_succ, i64_w, i32_w, e1]
                    rfl
                  refine one_ (i := 1) (N := some 132) #[true, true, false, false, true, true, true, true, false, false] rfl rfl (by kernel_rfl) (by decide) (fun K hK => ?_)
                  refine goes_ Try.func124 (by kernel_rfl) rfl #[.agg #[.int .u64 0, .int .i64 (sec y'), .pointer none]] (by rfl) rfl rfl (by (try simp only [List.map_toArray, List.map_cons, List.map_nil]); first | done | rfl) ?_
                  refine (minute_any 0 y' _ z0 z1 HD.out).mono ?_
                  rintro e w1 ⟨rfl, hb⟩
                  refine ⟨_, rfl, ?_⟩
                  have hI2 := Aside0.mk (hI.out.below hb)
                  clear hI hb
                  have hI := hI2
                  clear hI2
                  refine hK.out _ _ ⟨(blk_cell hI.out.T 0).trans rfl, (blk_cell hI.out.T 1).trans rfl, (blk_cell hI.out.T 2).trans rfl, (blk_cell hI.out.S 1).trans rfl⟩ (fun hHeld => ?_)
                  clear hK K
                  refine norm_ (a' := ?_) ?_ ?_
                  rotate_left
                  · show Act.put _ (some 132) _ = _
                    simp only [Act.put, List.setIfInBounds_toArray, List.set_cons_zero, List.set_cons_succ, i64_w, i32_w]
                    rfl
                  refine pure_ (i := 2) (N := some 133) (v := ?_) (a' := ?_) #[true, true, true, false, true, true, true, true, false, false] rfl rfl (by kernel_rfl) (fun _ _ _ h => h) (Or.inl ⟨by rfl, ?_⟩) ?_ ?_
                  rotate_left
                  · intro w'
                    go_simp
                    with_reducible rfl
                  rotate_left
                  · simp only [Act.put, List.setIfInBounds_toArray, List.set_cons_zero, List.set_cons_succ, i64_w, i32_w, e1]
                    rfl
                  refine pure_ (i := 3) (N := some 134) (v := ?_) (a' := ?_) #[true, true, true, true, true, true, true, true, false, false] rfl rfl (by kernel_rfl) (fun _ _ _ h => h) (Or.inl ⟨by rfl, ?_⟩) ?_ ?_
                  rotate_left
                  · intro w'
                    go_simp
                    with_reducible rfl
                  rotate_left
                  · simp only [Act.put, List.setIfInBounds_toArray, List.set_cons_zero, List.set_cons_succ, i64_w, i32_w, e1]
                    rfl
                  refine pure_ (i := 8) (N := some 139) (v := ?_) (a' := ?_) #[true, true, true, true, true, true, true, true, true, false] rfl rfl (by kernel_rfl) (fun _ _ _ h => h) (Or.inl ⟨by rfl, ?_⟩) ?_ ?_
                  rotate_left
                  · intro w'
                    go_simp
                    with_reducible rfl
                  rotate_left
                  · simp only [Act.put, List.setIfInBounds_toArray, List.set_cons_zero, List.set_cons_succ, i64_w, i32_w, e1]
                    rfl
                  refine pure_ (i := 9) (N := some 140) (v := ?_) (a' := ?_) #[true, true, true, true, true, true, true, true, true, true] rfl rfl (by kernel_rfl) (fun _ _ _ h => h) (Or.inl ⟨by rfl, ?_⟩) ?_ ?_
                  rotate_left
                  · intro w'
                    go_simp
                    with_reducible rfl
                  rotate_left
                  · simp only [Act.put, List.setIfInBounds_toArray, List.set_cons_zero, List.set_cons_succ, i64_w, i32_w, e1]
                    rfl
                  refine done_ (by kernel_rfl) ?_
                  clear hHeld
                  go_wp2_with fail
                  go_meet
                  exact ⟨y', ad', rfl, hI, HPl, ⟨by have h1 := HA.out; have h2 := HT.out; simp only [h1, h2, and_self]⟩⟩
                · rw [Bool.not_eq_true] at hT
                  rw [show bitOf b.i (y' % 3600 / 60) = false from hT] at e1
                  have HT := Aside0.mk hT
                  clear hT
                  obtain ⟨y0, hy0⟩ : ∃ y0, y0 = y' - y' % 60 := ⟨_, rfl⟩
                  obtain ⟨z, hz⟩ : ∃ z, z = 60 * (y' / 60 + 1) := ⟨_, rfl⟩
                  have HPz : Aside0 (Pl b.sch (x + 1) (lastY x + 1) z true) := ⟨by rw [hz]; exact HPl.out.minute HA.out.2.2.1 HA.out.2.2.2.1 HA.out.2.2.2.2 HT.out⟩
                  have HDz := Aside0.mk (dom_in HPz.out HB.out)
                  have HD0 : Aside0 (Dom y0) := ⟨by rw [hy0]; exact ⟨by have := HD.out.lo; omega, by have := HD.out.hi; omega⟩⟩
                  have HLT : Aside0 (y' < z) := ⟨by rw [hz]; omega⟩
                  have HQ : Aside0 (∀ (W : World), Calls Try.prog 125 #[.agg #[.int .u64 0, .int .i64 (sec y'), .pointer none], .int .i64 60000000000] W (Post y0 W)) := ⟨by intro W; rw [hy0]; exact trunc60_any y' W HD.out⟩
                  have HC : Aside0 (∀ (W : World), Calls Try.prog 114 #[.agg #[.int .u64 0, .int .i64 (sec y0), .pointer none], .int .i64 60000000000] W (Post z W)) := ⟨by intro W; have h := add_any (sec y0) 60000000000 60 W HD0.out.s0 HD0.out.s1 (by omega) (by omega) (by omega); rw [show sec y0 + 60 = sec z by unfold sec; omega] at h; exact h⟩
                  have HY0 : Aside0 (ad' = true → sec y' = sec y0) := ⟨by intro h; subst h; have h9 := HPl.out.at_minute HT.out; exact congrArg sec (by omega)⟩
                  by_cases hw : (y' / 60 + 1) % 60 = 0
                  · have e2 : (z % 3600 / 60 == 0) = true := by rw [beq_iff_eq]; omega
                    clear hw hy0 hz
                    go_wp2_with fail
                    refine start_ (n := 10) (S := fun w' => w'.cell? ⟨w.heap.size, 0, none⟩ = some (.int .u64 0) ∧ w'.cell? ⟨w.heap.size, 1, none⟩ = some (.int .i64 (sec y')) ∧ w'.cell? ⟨w.heap.size, 2, none⟩ = some (.pointer none) ∧ w'.cell? ⟨p, 1, none⟩ = some (.int .u64 (b.i : Int))) (ds := []) #[false, false, false, false, false, false, false, false, false, false] (by kernel_rfl) rfl rfl ⟨(blk_cell hI.out.T 0).trans rfl, (blk_cell hI.out.T 1).trans rfl, (blk_cell hI.out.T 2).trans rfl, (blk_cell hI.out.S 1).trans rfl⟩ (fun hHeld => ?_)
                    refine take_ (i := 0) (N := some 131) (v := ?_) (a' := ?_) #[true, false, false, false, false, false, false, false, false, false] rfl rfl (by kernel_rfl) (fun _ _ _ h => h) (Or.inl ⟨by rfl, ?_⟩) hHeld ?_ ?_
                    rotate_left
                    · rintro w' ⟨s0, s1, s2, s3⟩
                      go_simp
                      with_reducible rfl
                    rotate_left
                    · simp only [Act.put, List.setIfInBounds_toArray, List.set_cons_zero, List.set_cons_succ, i64_w, i32_w, e1]
                      rfl
                    refine pure_ (i := 4) (N := some 135) (v := ?_) (a' := ?_) #[true, false, false, false, true, false, false, false, false, false] rfl rfl (by kernel_rfl) (fun _ _ _ h => h) (Or.inl ⟨by rfl, ?_⟩) ?_ ?_
                    rotate_left
                    · intro w'
                      go_simp
                      with_reducible rfl
                    rotate_left
                    · simp only [Act.put, List.setIfInBounds_toArray, List.set_cons_zero, List.set_cons_succ, i64_w, i32_w, e1]
                      rfl
                    refine pure_ (i := 5) (N := some 136) (v := ?_) (a' := ?_) #[true, false, false, false, true, true, false, false, false, false] rfl rfl (by kernel_rfl) (fun _ _ _ h => h) (Or.inl ⟨by rfl, ?_⟩) ?_ ?_
                    rotate_left
                    · intro w'
                      go_simp
                      with_reducible rfl
                    rotate_left
                    · simp only [Act.put, List.setIfInBounds_toArray, List.set_cons_zero, List.set_cons_succ, i64_w, i32_w, e1]
                      rfl
                    refine pure_ (i := 6) (N := some 137) (v := ?_) (a' := ?_) #[true, false, false, false, true, true, true, false, false, false] rfl rfl (by kernel_rfl) (fun _ _ _ h => h) (Or.inl ⟨by rfl, ?_⟩) ?_ ?_
                    rotate_left
                    · intro w'
                      go_simp
                      with_reducible rfl
                    rotate_left
                    · simp only [Act.put, List.setIfInBounds_toArray, List.set_cons_zero, List.set_cons_succ, i64_w, i32_w, e1]
                      rfl
                    refine take_ (i := 7) (N := some 138) (v := ?_) (a' := ?_) #[true, false, false, false, true, true, true, true, false, false] rfl rfl (by kernel_rfl) (fun _ _ _ h => h) (Or.inl ⟨by rfl, ?_⟩) hHeld ?_ ?_
                    rotate_left
                    · rintro w' ⟨s0, s1, s2, s3⟩
                      go_simp
                      with_reducible rfl
                    rotate_left
                    · simp only [Act.put, List.setIfInBounds_toArray, List.set_cons_zero, List.set_cons_succ, i64_w, i32_w, e1]
                      rfl
                    refine one_ (i := 1) (N := some 132) #[true, true, false, false, true, true, true, true, false, false] rfl rfl (by kernel_rfl) (by decide) (fun K hK => ?_)
                    refine goes_ Try.func124 (by kernel_rfl) rfl #[.agg #[.int .u64 0, .int .i64 (sec y'), .pointer none]] (by rfl) rfl rfl (by (try simp only [List.map_toArray, List.map_cons, List.map_nil]); first | done | rfl) ?_
                    refine (minute_any 0 y' _ z0 z1 HD.out).mono ?_
                    rintro e w1 ⟨rfl, hb⟩
                    refine ⟨_, rfl, ?_⟩
                    have hI2 := Aside0.mk (hI.out.below hb)
                    clear hI hb
                    have hI := hI2
                    clear hI2
                    refine hK.out _ _ ⟨(blk_cell hI.out.T 0).trans rfl, (blk_cell hI.out.T 1).trans rfl, (blk_cell hI.out.T 2).trans rfl, (blk_cell hI.out.S 1).trans rfl⟩ (fun hHeld => ?_)
                    clear hK K
                    refine norm_ (a' := ?_) ?_ ?_
                    rotate_left
                    · show Act.put _ (some 132) _ = _
                      simp only [Act.put, List.setIfInBounds_toArray, List.set_cons_zero, List.set_cons_succ, i64_w, i32_w]
                      rfl
                    refine pure_ (i := 2) (N := some 133) (v := ?_) (a' := ?_) #[true, true, true, false, true, true, true, true, false, false] rfl rfl (by kernel_rfl) (fun _ _ _ h => h) (Or.inl ⟨by rfl, ?_⟩) ?_ ?_
                    rotate_left
                    · intro w'
                      go_simp
                      with_reducible rfl
                    rotate_left
                    · simp only [Act.put, List.setIfInBounds_toArray, List.set_cons_zero, List.set_cons_succ, i64_w, i32_w, e1]
                      rfl
                    refine pure_ (i := 3) (N := some 134) (v := ?_) (a' := ?_) #[true, true, true, true, true, true, true, true, false, false] rfl rfl (by kernel_rfl) (fun _ _ _ h => h) (Or.inl ⟨by rfl, ?_⟩) ?_ ?_
                    rotate_left
                    · intro w'
                      go_simp
                      with_reducible rfl
                    rotate_left
                    · simp only [Act.put, List.setIfInBounds_toArray, List.set_cons_zero, List.set_cons_succ, i64_w, i32_w, e1]
                      rfl
                    refine pure_ (i := 8) (N := some 139) (v := ?_) (a' := ?_) #[true, true, true, true, true, true, true, true, true, false] rfl rfl (by kernel_rfl) (fun _ _ _ h => h) (Or.inl ⟨by rfl, ?_⟩) ?_ ?_
                    rotate_left
                    · intro w'
                      go_simp
                      with_reducible rfl
                    rotate_left
                    · simp only [Act.put, List.setIfInBounds_toArray, List.set_cons_zero, List.set_cons_succ, i64_w, i32_w, e1]
                      rfl
                    refine pure_ (i := 9) (N := some 140) (v := ?_) (a' := ?_) #[true, true, true, true, true, true, true, true, true, true] rfl rfl (by kernel_rfl) (fun _ _ _ h => h) (Or.inl ⟨by rfl, ?_⟩) ?_ ?_
                    rotate_left
                    · intro w'
                      go_simp
                      with_reducible rfl
                    rotate_left
                    · simp only [Act.put, List.setIfInBounds_toArray, List.set_cons_zero, List.set_cons_succ, i64_w, i32_w, e1]
                      rfl
                    refine done_ (by kernel_rfl) ?_
                    clear hHeld
                    cases ad'
                    · have t0 : World.cell? _ ⟨w.heap.size, 0, none⟩ = some (.int .u64 0) := (blk_cell hI.out.T 0).trans rfl
                      have t1 : World.cell? _ ⟨w.heap.size, 1, none⟩ = some (.int .i64 (sec y')) := (blk_cell hI.out.T 1).trans rfl
                      have t2 : World.cell? _ ⟨w.heap.size, 2, none⟩ = some (.pointer none) := (blk_cell hI.out.T 2).trans rfl
                      go_upto_region 38 with ((go_at_call 125; (with_reducible refine (HQ.out _).mono ?_); rintro e w3 ⟨rfl, hb⟩; have hI := Aside0.mk (hI.out.below hb); clear hb t0 t1 t2; have t0 : w3.cell? ⟨w.heap.size, 0, none⟩ = some (.int .u64 0) := (blk_cell hI.out.T 0).trans rfl; have t1 : w3.cell? ⟨w.heap.size, 1, none⟩ = some (.int .i64 (sec y')) := (blk_cell hI.out.T 1).trans rfl; have t2 : w3.cell? ⟨w.heap.size, 2, none⟩ = some (.pointer none) := (blk_cell hI.out.T 2).trans rfl; have f0 := blk_frozen hI.out.T 0; have f1 := blk_frozen hI.out.T 1; have f2 := blk_frozen hI.out.T 2))
                      have hI := Aside0.mk (hI.out.setT (.int .u64 0) (.int .i64 (sec y0)) (.pointer none))
                      clear t0 t1 t2 f0 f1 f2
                      generalize hg : World.setCell _ _ (.pointer none) = w6 at hI ⊢
                      clear hg
                      have t0 : World.cell? _ ⟨w.heap.size, 0, none⟩ = some (.int .u64 0) := (blk_cell hI.out.T 0).trans rfl
                      have t1 : World.cell? _ ⟨w.heap.size, 1, none⟩ = some (.int .i64 (sec y0)) := (blk_cell hI.out.T 1).trans rfl
                      have t2 : World.cell? _ ⟨w.heap.size, 2, none⟩ = some (.pointer none) := (blk_cell hI.out.T 2).trans rfl
                      go_upto_region 39 with ((go_at_call 114; (with_reducible refine (HC.out _).mono ?_); rintro e w3 ⟨rfl, hb⟩; have hI := Aside0.mk (hI.out.below hb); clear hb t0 t1 t2; have t0 : w3.cell? ⟨w.heap.size, 0, none⟩ = some (.int .u64 0) := (blk_cell hI.out.T 0).trans rfl; have t1 : w3.cell? ⟨w.heap.size, 1, none⟩ = some (.int .i64 (sec y0)) := (blk_cell hI.out.T 1).trans rfl; have t2 : w3.cell? ⟨w.heap.size, 2, none⟩ = some (.pointer none) := (blk_cell hI.out.T 2).trans rfl; have f0 := blk_frozen hI.out.T 0; have f1 := blk_frozen hI.out.T 1; have f2 := blk_frozen hI.out.T 2))
                      have hI := Aside0.mk (hI.out.setT (.int .u64 0) (.int .i64 (sec z)) (.pointer none))
                      clear t0 t1 t2 f0 f1 f2
                      generalize hg : World.setCell _ _ (.pointer none) = w7 at hI ⊢
                      clear hg
                      have t0 : w7.cell? ⟨w.heap.size, 0, none⟩ = some (.int .u64 0) := (blk_cell hI.out.T 0).trans rfl
                      have t1 : w7.cell? ⟨w.heap.size, 1, none⟩ = some (.int .i64 (sec z)) := (blk_cell hI.out.T 1).trans rfl
                      have t2 : w7.cell? ⟨w.heap.size, 2, none⟩ = some (.pointer none) := (blk_cell hI.out.T 2).trans rfl
                      go_wp2_with (go_at_call 124; (with_reducible refine (minute_any 0 z _ z0 z1 HDz.out).mono ?_); rintro e w8 ⟨rfl, hb⟩; have hI := Aside0.mk (hI.out.below hb); clear hb t0 t1 t2; have t0 : w8.cell? ⟨w.heap.size, 0, none⟩ = some (.int .u64 0) := (blk_cell hI.out.T 0).trans rfl; have t1 : w8.cell? ⟨w.heap.size, 1, none⟩ = some (.int .i64 (sec z)) := (blk_cell hI.out.T 1).trans rfl; have t2 : w8.cell? ⟨w.heap.size, 2, none⟩ = some (.pointer none) := (blk_cell hI.out.T 2).trans rfl)
                      go_step3
                      refine ⟨rfl, at_goto HI0.out hI.out HPz.out HB.out (by have h1 := HA.out.1; have h2 := HLT.out; omega) ⟨rfl, rfl, rfl, rfl, rfl, rfl, rfl, rfl, rfl, rfl, rfl⟩⟩
                    · have hI := Aside0.mk (hI.out.cast (by first | exact HY0.out rfl | exact HY0.out trivial))
                      have t0 : World.cell? _ ⟨w.heap.size, 0, none⟩ = some (.int .u64 0) := (blk_cell hI.out.T 0).trans rfl
                      have t1 : World.cell? _ ⟨w.heap.size, 1, none⟩ = some (.int .i64 (sec y0)) := (blk_cell hI.out.T 1).trans rfl
                      have t2 : World.cell? _ ⟨w.heap.size, 2, none⟩ = some (.pointer none) := (blk_cell hI.out.T 2).trans rfl
                      go_upto_region 39 with ((go_at_call 114; (with_reducible refine (HC.out _).mono ?_); rintro e w3 ⟨rfl, hb⟩; have hI := Aside0.mk (hI.out.below hb); clear hb t0 t1 t2; have t0 : w3.cell? ⟨w.heap.size, 0, none⟩ = some (.int .u64 0) := (blk_cell hI.out.T 0).trans rfl; have t1 : w3.cell? ⟨w.heap.size, 1, none⟩ = some (.int .i64 (sec y0)) := (blk_cell hI.out.T 1).trans rfl; have t2 : w3.cell? ⟨w.heap.size, 2, none⟩ = some (.pointer none) := (blk_cell hI.out.T 2).trans rfl; have f0 := blk_frozen hI.out.T 0; have f1 := blk_frozen hI.out.T 1; have f2 := blk_frozen hI.out.T 2))
                      have hI := Aside0.mk (hI.out.setT (.int .u64 0) (.int .i64 (sec z)) (.pointer none))
                      clear t0 t1 t2 f0 f1 f2
                      generalize hg : World.setCell _ _ (.pointer none) = w7 at hI ⊢
                      clear hg
                      have t0 : w7.cell? ⟨w.heap.size, 0, none⟩ = some (.int .u64 0) := (blk_cell hI.out.T 0).trans rfl
                      have t1 : w7.cell? ⟨w.heap.size, 1, none⟩ = some (.int .i64 (sec z)) := (blk_cell hI.out.T 1).trans rfl
                      have t2 : w7.cell? ⟨w.heap.size, 2, none⟩ = some (.pointer none) := (blk_cell hI.out.T 2).trans rfl
                      go_wp2_with (go_at_call 124; (with_reducible refine (minute_any 0 z _ z0 z1 HDz.out).mono ?_); rintro e w8 ⟨rfl, hb⟩; have hI := Aside0.mk (hI.out.below hb); clear hb t0 t1 t2; have t0 : w8.cell? ⟨w.heap.size, 0, none⟩ = some (.int .u64 0) := (blk_cell hI.out.T 0).trans rfl; have t1 : w8.cell? ⟨w.heap.size, 1, none⟩ = some (.int .i64 (sec z)) := (blk_cell hI.out.T 1).trans rfl; have t2 : w8.cell? ⟨w.heap.size, 2, none⟩ = some (.pointer none) := (blk_cell hI.out.T 2).trans rfl)
                      go_step3
                      refine ⟨rfl, at_goto HI0.out hI.out HPz.out HB.out (by have h1 := HA.out.1; have h2 := HLT.out; omega) ⟨rfl, rfl, rfl, rfl, rfl, rfl, rfl, rfl, rfl, rfl, rfl⟩⟩
                  · have e2 : (z % 3600 / 60 == 0) = false := by rw [beq_eq_false_iff_ne]; omega
                    have HN : Aside0 (yr (z / 86400) ≤ lastY x) := ⟨by rw [show z / 86400 = y' / 86400 by omega]; exact HPl.out.yb⟩
                    have HK0 : Aside0 (b.sch.M (mo (z / 86400)) = true) := ⟨by rw [show z / 86400 = y' / 86400 by omega]; exact HA.out.2.2.1⟩
                    have HK1 : Aside0 (b.sch.D (z / 86400) = true) := ⟨by rw [show z / 86400 = y' / 86400 by omega]; exact HA.out.2.2.2.1⟩
                    have HK2 : Aside0 (b.sch.H (z % 86400 / 3600) = true) := ⟨by rw [show z % 86400 / 3600 = y' % 86400 / 3600 by omega]; exact HA.out.2.2.2.2⟩
                    clear hw hy0 hz
                    go_wp2_with fail
                    refine start_ (n := 10) (S := fun w' => w'.cell? ⟨w.heap.size, 0, none⟩ = some (.int .u64 0) ∧ w'.cell? ⟨w.heap.size, 1, none⟩ = some (.int .i64 (sec y')) ∧ w'.cell? ⟨w.heap.size, 2, none⟩ = some (.pointer none) ∧ w'.cell? ⟨p, 1, none⟩ = some (.int .u64 (b.i : Int))) (ds := []) #[false, false, false, false, false, false, false, false, false, false] (by kernel_rfl) rfl rfl ⟨(blk_cell hI.out.T 0).trans rfl, (blk_cell hI.out.T 1).trans rfl, (blk_cell hI.out.T 2).trans rfl, (blk_cell hI.out.S 1).trans rfl⟩ (fun hHeld => ?_)
                    refine take_ (i := 0) (N := some 131) (v := ?_) (a' := ?_) #[true, false, false, false, false, false, false, false, false, false] rfl rfl (by kernel_rfl) (fun _ _ _ h => h) (Or.inl ⟨by rfl, ?_⟩) hHeld ?_ ?_
                    rotate_left
                    · rintro w' ⟨s0, s1, s2, s3⟩
                      go_simp
                      with_reducible rfl
                    rotate_left
                    · simp only [Act.put, List.setIfInBounds_toArray, List.set_cons_zero, List.set_cons_succ, i64_w, i32_w, e1]
                      rfl
                    refine pure_ (i := 4) (N := some 135) (v := ?_) (a' := ?_) #[true, false, false, false, true, false, false, false, false, false] rfl rfl (by kernel_rfl) (fun _ _ _ h => h) (Or.inl ⟨by rfl, ?_⟩) ?_ ?_
                    rotate_left
                    · intro w'
                      go_simp
                      with_reducible rfl
                    rotate_left
                    · simp only [Act.put, List.setIfInBounds_toArray, List.set_cons_zero, List.set_cons_succ, i64_w, i32_w, e1]
                      rfl
                    refine pure_ (i := 5) (N := some 136) (v := ?_) (a' := ?_) #[true, false, false, false, true, true, false, false, false, false] rfl rfl (by kernel_rfl) (fun _ _ _ h => h) (Or.inl ⟨by rfl, ?_⟩) ?_ ?_
                    rotate_left
                    · intro w'
                      go_simp
                      with_reducible rfl
                    rotate_left
                    · simp only [Act.put, List.setIfInBounds_toArray, List.set_cons_zero, List.set_cons_succ, i64_w, i32_w, e1]
                      rfl
                    refine pure_ (i := 6) (N := some 137) (v := ?_) (a' := ?_) #[true, false, false, false, true, true, true, false, false, false] rfl rfl (by kernel_rfl) (fun _ _ _ h => h) (Or.inl ⟨by rfl, ?_⟩) ?_ ?_
                    rotate_left
                    · intro w'
                      go_simp
                      with_reducible rfl
                    rotate_left
                    · simp only [Act.put, List.setIfInBounds_toArray, List.set_cons_zero, List.set_cons_succ, i64_w, i32_w, e1]
                      rfl
                    refine take_ (i := 7) (N := some 138) (v := ?_) (a' := ?_) #[true, false, false, false, true, true, true, true, false, false] rfl rfl (by kernel_rfl) (fun _ _ _ h => h) (Or.inl ⟨by rfl, ?_⟩) hHeld ?_ ?_
                    rotate_left
                    · rintro w' ⟨s0, s1, s2, s3⟩
                      go_simp
                      with_reducible rfl
                    rotate_left
                    · simp only [Act.put, List.setIfInBounds_toArray, List.set_cons_zero, List.set_cons_succ, i64_w, i32_w, e1]
                      rfl
                    refine one_ (i := 1) (N := some 132) #[true, true, false, false, true, true, true, true, false, false] rfl rfl (by kernel_rfl) (by decide) (fun K hK => ?_)
                    refine goes_ Try.func124 (by kernel_rfl) rfl #[.agg #[.int .u64 0, .int .i64 (sec y'), .pointer none]] (by rfl) rfl rfl (by (try simp only [List.map_toArray, List.map_cons, List.map_nil]); first | done | rfl) ?_
                    refine (minute_any 0 y' _ z0 z1 HD.out).mono ?_
                    rintro e w1 ⟨rfl, hb⟩
                    refine ⟨_, rfl, ?_⟩
                    have hI2 := Aside0.mk (hI.out.below hb)
                    clear hI hb
                    have hI := hI2
                    clear hI2
                    refine hK.out _ _ ⟨(blk_cell hI.out.T 0).trans rfl, (blk_cell hI.out.T 1).trans rfl, (blk_cell hI.out.T 2).trans rfl, (blk_cell hI.out.S 1).trans rfl⟩ (fun hHeld => ?_)
                    clear hK K
                    refine norm_ (a' := ?_) ?_ ?_
                    rotate_left
                    · show Act.put _ (some 132) _ = _
                      simp only [Act.put, List.setIfInBounds_toArray, List.set_cons_zero, List.set_cons_succ, i64_w, i32_w]
                      rfl
                    refine pure_ (i := 2) (N := some 133) (v := ?_) (a' := ?_) #[true, true, true, false, true, true, true, true, false, false] rfl rfl (by kernel_rfl) (fun _ _ _ h => h) (Or.inl ⟨by rfl, ?_⟩) ?_ ?_
                    rotate_left
                    · intro w'
                      go_simp
                      with_reducible rfl
                    rotate_left
                    · simp only [Act.put, List.setIfInBounds_toArray, List.set_cons_zero, List.set_cons_succ, i64_w, i32_w, e1]
                      rfl
                    refine pure_ (i := 3) (N := some 134) (v := ?_) (a' := ?_) #[true, true, true, true, true, true, true, true, false, false] rfl rfl (by kernel_rfl) (fun _ _ _ h => h) (Or.inl ⟨by rfl, ?_⟩) ?_ ?_
                    rotate_left
                    · intro w'
                      go_simp
                      with_reducible rfl
                    rotate_left
                    · simp only [Act.put, List.setIfInBounds_toArray, List.set_cons_zero, List.set_cons_succ, i64_w, i32_w, e1]
                      rfl
                    refine pure_ (i := 8) (N := some 139) (v := ?_) (a' := ?_) #[true, true, true, true, true, true, true, true, true, false] rfl rfl (by kernel_rfl) (fun _ _ _ h => h) (Or.inl ⟨by rfl, ?_⟩) ?_ ?_
                    rotate_left
                    · intro w'
                      go_simp
                      with_reducible rfl
                    rotate_left
                    · simp only [Act.put, List.setIfInBounds_toArray, List.set_cons_zero, List.set_cons_succ, i64_w, i32_w, e1]
                      rfl
                    refine pure_ (i := 9) (N := some 140) (v := ?_) (a' := ?_) #[true, true, true, true, true, true, true, true, true, true] rfl rfl (by kernel_rfl) (fun _ _ _ h => h) (Or.inl ⟨by rfl, ?_⟩) ?_ ?_
                    rotate_left
                    · intro w'
                      go_simp
                      with_reducible rfl
                    rotate_left
                    · simp only [Act.put, List.setIfInBounds_toArray, List.set_cons_zero, List.set_cons_succ, i64_w, i32_w, e1]
                      rfl
                    refine done_ (by kernel_rfl) ?_
                    clear hHeld
                    cases ad'
                    · have t0 : World.cell? _ ⟨w.heap.size, 0, none⟩ = some (.int .u64 0) := (blk_cell hI.out.T 0).trans rfl
                      have t1 : World.cell? _ ⟨w.heap.size, 1, none⟩ = some (.int .i64 (sec y')) := (blk_cell hI.out.T 1).trans rfl
                      have t2 : World.cell? _ ⟨w.heap.size, 2, none⟩ = some (.pointer none) := (blk_cell hI.out.T 2).trans rfl
                      go_upto_region 38 with ((go_at_call 125; (with_reducible refine (HQ.out _).mono ?_); rintro e w3 ⟨rfl, hb⟩; have hI := Aside0.mk (hI.out.below hb); clear hb t0 t1 t2; have t0 : w3.cell? ⟨w.heap.size, 0, none⟩ = some (.int .u64 0) := (blk_cell hI.out.T 0).trans rfl; have t1 : w3.cell? ⟨w.heap.size, 1, none⟩ = some (.int .i64 (sec y')) := (blk_cell hI.out.T 1).trans rfl; have t2 : w3.cell? ⟨w.heap.size, 2, none⟩ = some (.pointer none) := (blk_cell hI.out.T 2).trans rfl; have f0 := blk_frozen hI.out.T 0; have f1 := blk_frozen hI.out.T 1; have f2 := blk_frozen hI.out.T 2))
                      have hI := Aside0.mk (hI.out.setT (.int .u64 0) (.int .i64 (sec y0)) (.pointer none))
                      clear t0 t1 t2 f0 f1 f2
                      generalize hg : World.setCell _ _ (.pointer none) = w6 at hI ⊢
                      clear hg
                      have t0 : World.cell? _ ⟨w.heap.size, 0, none⟩ = some (.int .u64 0) := (blk_cell hI.out.T 0).trans rfl
                      have t1 : World.cell? _ ⟨w.heap.size, 1, none⟩ = some (.int .i64 (sec y0)) := (blk_cell hI.out.T 1).trans rfl
                      have t2 : World.cell? _ ⟨w.heap.size, 2, none⟩ = some (.pointer none) := (blk_cell hI.out.T 2).trans rfl
                      go_upto_region 39 with ((go_at_call 114; (with_reducible refine (HC.out _).mono ?_); rintro e w3 ⟨rfl, hb⟩; have hI := Aside0.mk (hI.out.below hb); clear hb t0 t1 t2; have t0 : w3.cell? ⟨w.heap.size, 0, none⟩ = some (.int .u64 0) := (blk_cell hI.out.T 0).trans rfl; have t1 : w3.cell? ⟨w.heap.size, 1, none⟩ = some (.int .i64 (sec y0)) := (blk_cell hI.out.T 1).trans rfl; have t2 : w3.cell? ⟨w.heap.size, 2, none⟩ = some (.pointer none) := (blk_cell hI.out.T 2).trans rfl; have f0 := blk_frozen hI.out.T 0; have f1 := blk_frozen hI.out.T 1; have f2 := blk_frozen hI.out.T 2))
                      have hI := Aside0.mk (hI.out.setT (.int .u64 0) (.int .i64 (sec z)) (.pointer none))
                      clear t0 t1 t2 f0 f1 f2
                      generalize hg : World.setCell _ _ (.pointer none) = w7 at hI ⊢
                      clear hg
                      have t0 : w7.cell? ⟨w.heap.size, 0, none⟩ = some (.int .u64 0) := (blk_cell hI.out.T 0).trans rfl
                      have t1 : w7.cell? ⟨w.heap.size, 1, none⟩ = some (.int .i64 (sec z)) := (blk_cell hI.out.T 1).trans rfl
                      have t2 : w7.cell? ⟨w.heap.size, 2, none⟩ = some (.pointer none) := (blk_cell hI.out.T 2).trans rfl
                      go_wp2_with (go_at_call 124; (with_reducible refine (minute_any 0 z _ z0 z1 HDz.out).mono ?_); rintro e w8 ⟨rfl, hb⟩; have hI := Aside0.mk (hI.out.below hb); clear hb t0 t1 t2; have t0 : w8.cell? ⟨w.heap.size, 0, none⟩ = some (.int .u64 0) := (blk_cell hI.out.T 0).trans rfl; have t1 : w8.cell? ⟨w.heap.size, 1, none⟩ = some (.int .i64 (sec z)) := (blk_cell hI.out.T 1).trans rfl; have t2 : w8.cell? ⟨w.heap.size, 2, none⟩ = some (.pointer none) := (blk_cell hI.out.T 2).trans rfl)
                      go_roundg (400000000000 - z).toNat
                      case measure => have h1 := HA.out.2.1; have h2 := HLT.out; have h3 := HDz.out.hi; omega
                      case rel => exact ⟨z, true, rfl, hI, ⟨HPz.out.at HN.out⟩, ⟨by have h1 := HA.out.1; have h2 := HLT.out; exact ⟨by omega, Nat.le_refl _, HK0.out, HK1.out, HK2.out⟩⟩⟩
                    · have hI := Aside0.mk (hI.out.cast (by first | exact HY0.out rfl | exact HY0.out trivial))
                      have t0 : World.cell? _ ⟨w.heap.size, 0, none⟩ = some (.int .u64 0) := (blk_cell hI.out.T 0).trans rfl
                      have t1 : World.cell? _ ⟨w.heap.size, 1, none⟩ = some (.int .i64 (sec y0)) := (blk_cell hI.out.T 1).trans rfl
                      have t2 : World.cell? _ ⟨w.heap.size, 2, none⟩ = some (.pointer none) := (blk_cell hI.out.T 2).trans rfl
                      go_upto_region 39 with ((go_at_call 114; (with_reducible refine (HC.out _).mono ?_); rintro e w3 ⟨rfl, hb⟩; have hI := Aside0.mk (hI.out.below hb); clear hb t0 t1 t2; have t0 : w3.cell? ⟨w.heap.size, 0, none⟩ = some (.int .u64 0) := (blk_cell hI.out.T 0).trans rfl; have t1 : w3.cell? ⟨w.heap.size, 1, none⟩ = some (.int .i64 (sec y0)) := (blk_cell hI.out.T 1).trans rfl; have t2 : w3.cell? ⟨w.heap.size, 2, none⟩ = some (.pointer none) := (blk_cell hI.out.T 2).trans rfl; have f0 := blk_frozen hI.out.T 0; have f1 := blk_frozen hI.out.T 1; have f2 := blk_frozen hI.out.T 2))
                      have hI := Aside0.mk (hI.out.setT (.int .u64 0) (.int .i64 (sec z)) (.pointer none))
                      clear t0 t1 t2 f0 f1 f2
                      generalize hg : World.setCell _ _ (.pointer none) = w7 at hI ⊢
                      clear hg
                      have t0 : w7.cell? ⟨w.heap.size, 0, none⟩ = some (.int .u64 0) := (blk_cell hI.out.T 0).trans rfl
                      have t1 : w7.cell? ⟨w.heap.size, 1, none⟩ = some (.int .i64 (sec z)) := (blk_cell hI.out.T 1).trans rfl
                      have t2 : w7.cell? ⟨w.heap.size, 2, none⟩ = some (.pointer none) := (blk_cell hI.out.T 2).trans rfl
                      go_wp2_with (go_at_call 124; (with_reducible refine (minute_any 0 z _ z0 z1 HDz.out).mono ?_); rintro e w8 ⟨rfl, hb⟩; have hI := Aside0.mk (hI.out.below hb); clear hb t0 t1 t2; have t0 : w8.cell? ⟨w.heap.size, 0, none⟩ = some (.int .u64 0) := (blk_cell hI.out.T 0).trans rfl; have t1 : w8.cell? ⟨w.heap.size, 1, none⟩ = some (.int .i64 (sec z)) := (blk_cell hI.out.T 1).trans rfl; have t2 : w8.cell? ⟨w.heap.size, 2, none⟩ = some (.pointer none) := (blk_cell hI.out.T 2).trans rfl)
                      go_roundg (400000000000 - z).toNat
                      case measure => have h1 := HA.out.2.1; have h2 := HLT.out; have h3 := HDz.out.hi; omega
                      case rel => exact ⟨z, true, rfl, hI, ⟨HPz.out.at HN.out⟩, ⟨by have h1 := HA.out.1; have h2 := HLT.out; exact ⟨by omega, Nat.le_refl _, HK0.out, HK1.out, HK2.out⟩⟩⟩
            case rest =>
              clear hI HPl HA
              obtain ⟨y1, ad1, rfl, hI, HPl, HA⟩ := hcut
              go_upto_block 8 with fail
              go_cut [7] (fun s7 wx => ∃ (y' : Int) (ad' : Bool), s7 = .bool ad' ∧ Aside0 (Nx w wx p k l b #[.int .u64 0, .int .i64 (sec y'), .pointer none]) ∧ Aside0 (Pl b.sch (x + 1) (lastY x) y' ad') ∧ Aside0 (y ≤ y' ∧ b.sch.M (mo (y' / 86400)) = true ∧ b.sch.D (y' / 86400) = true ∧ b.sch.H (y' % 86400 / 3600) = true ∧ b.sch.I (y' % 3600 / 60) = true ∧ b.sch.S (y' % 60) = true))
              case first =>
                go_wp2_with fail
                go_loopg [7] (400000000000 - y1).toNat (fun gk s7 wr => ∃ (y' : Int) (ad' : Bool), s7 = .bool ad' ∧ Aside0 (Nx w wr p k l b #[.int .u64 0, .int .i64 (sec y'), .pointer none]) ∧ Aside0 (Pl b.sch (x + 1) (lastY x) y' ad') ∧ Aside0 (y ≤ y' ∧ (400000000000 - y').toNat ≤ gk ∧ b.sch.M (mo (y' / 86400)) = true ∧ b.sch.D (y' / 86400) = true ∧ b.sch.H (y' % 86400 / 3600) = true ∧ b.sch.I (y' % 3600 / 60) = true))
                case atStart => exact ⟨y1, ad1, rfl, hI, HPl, ⟨by have := HA.out; simpa using this⟩⟩
                case round =>
                  clear hI HPl HA
                  obtain ⟨y', ad', rfl, hI, HPl, HA⟩ := hrel
                  have HD := Aside0.mk (dom_in HPl.out HB.out)
                  have hI := Aside0.mk hI.out.drew
                  have v0 : 0 ≤ y' % 60 := by omega
                  have v1 : y' % 60 ≤ 63 := by omega
                  have e1 := bit_zero b.s (y' % 60) HW.out.s v0 v1
                  by_cases hT : b.sch.S (y' % 60) = true
                  · rw [show bitOf b.s (y' % 60) = true from hT] at e1
                    have HT := Aside0.mk hT
                    clear hT
                    go_wp2_with fail
                    refine start_ (n := 10) (S := fun w' => w'.cell? ⟨w.heap.size, 0, none⟩ = some (.int .u64 0) ∧ w'.cell? ⟨w.heap.size, 1, none⟩ = some (.int .i64 (sec y')) ∧ w'.cell? ⟨w.heap.size, 2, none⟩ = some (.pointer none) ∧ w'.cell? ⟨p, 0, none⟩ = some (.int .u64 (b.s : Int))) (ds := []) #[false, false, false, false, false, false, false, false, false, false] (by kernel_rfl) rfl rfl ⟨(blk_cell hI.out.T 0).trans rfl, (blk_cell hI.out.T 1).trans rfl, (blk_cell hI.out.T 2).trans rfl, (blk_cell hI.out.S 0).trans rfl⟩ (fun hHeld => ?_)
                    refine take_ (i := 0) (N := some 150) (v := ?_) (a' := ?_) #[true, false, false, false, false, false, false, false, false, false] rfl rfl (by kernel_rfl) (fun _ _ _ h => h) (Or.inl ⟨by rfl, ?_⟩) hHeld ?_ ?_
                    rotate_left
                    · rintro w' ⟨s0, s1, s2, s3⟩
                      go_simp
                      with_reducible rfl
                    rotate_left
                    · simp only [Act.put, List.setIfInBounds_toArray, List.set_cons_zero, List.set_cons_succ, i64_w, i32_w, e1]
                      rfl
                    refine pure_ (i := 4) (N := some 154) (v := ?_) (a' := ?_) #[true, false, false, false, true, false, false, false, false, false] rfl rfl (by kernel_rfl) (fun _ _ _ h => h) (Or.inl ⟨by rfl, ?_⟩) ?_ ?_
                    rotate_left
                    · intro w'
                      go_simp
                      with_reducible rfl
                    rotate_left
                    · simp only [Act.put, List.setIfInBounds_toArray, List.set_cons_zero, List.set_cons_succ, i64_w, i32_w, e1]
                      rfl
                    refine pure_ (i := 5) (N := some 155) (v := ?_) (a' := ?_) #[true, false, false, false, true, true, false, false, false, false] rfl rfl (by kernel_rfl) (fun _ _ _ h => h) (Or.inl ⟨by rfl, ?_⟩) ?_ ?_
                    rotate_left
                    · intro w'
                      go_simp
                      with_reducible rfl
                    rotate_left
                    · simp only [Act.put, List.setIfInBounds_toArray, List.set_cons_zero, List.set_cons_succ, i64_w, i32_w, e1]
                      rfl
                    refine pure_ (i := 6) (N := some 156) (v := ?_) (a' := ?_) #[true, false, false, false, true, true, true, false, false, false] rfl rfl (by kernel_rfl) (fun _ _ _ h => h) (Or.inl ⟨by rfl, ?_⟩) ?_ ?_
                    rotate_left
                    · intro w'
                      go_simp
                      with_reducible rfl
                    rotate_left
                    · simp only [Act.put, List.setIfInBounds_toArray, List.set_cons_zero, List.set_cons_succ, i64_w, i32_w, e1]
                      rfl
                    refine take_ (i := 7) (N := some 157) (v := ?_) (a' := ?_) #[true, false, false, false, true, true, true, true, false, false] rfl rfl (by kernel_rfl) (fun _ _ _ h => h) (Or.inl ⟨by rfl, ?_⟩) hHeld ?_ ?_
                    rotate_left
                    · rintro w' ⟨s0, s1, s2, s3⟩
                      go_simp
                      with_reducible rfl
                    rotate_left
                    · simp only [Act.put, List.setIfInBounds_toArray, List.set_cons_zero, List.set_cons_succ, i64_w, i32_w, e1]
                      rfl
                    refine one_ (i := 1) (N := some 151) #[true, true, false, false, true, true, true, true, false, false] rfl rfl (by kernel_rfl) (by decide) (fun K hK => ?_)
                    refine goes_ Try.func126 (by kernel_rfl) rfl #[.agg #[.int .u64 0, .int .i64 (sec y'), .pointer none]] (by rfl) rfl rfl (by (try simp only [List.map_toArray, List.map_cons, List.map_nil]); first | done | rfl) ?_
                    refine (second_any 0 y' _ z0 z1 HD.out).mono ?_
                    rintro e w1 ⟨rfl, hb⟩
                    refine ⟨_, rfl, ?_⟩
                    have hI2 := Aside0.mk (hI.out.below hb)
                    clear hI hb
                    have hI := hI2
                    clear hI2
                    refine hK.out _ _ ⟨(blk_cell hI.out.T 0).trans rfl, (blk_cell hI.out.T 1).trans rfl, (blk_cell hI.out.T 2).trans rfl, (blk_cell hI.out.S 0).trans rfl⟩ (fun hHeld => ?_)
                    clear hK K
                    refine norm_ (a' := ?_) ?_ ?_
                    rotate_left
                    · show Act.put _ (some 151) _ = _
                      simp only [Act.put, List.setIfInBounds_toArray, List.set_cons_zero, List.set_cons_succ, i64_w, i32_w]
                      rfl
                    refine pure_ (i := 2) (N := some 152) (v := ?_) (a' := ?_) #[true, true, true, false, true, true, true, true, false, false] rfl rfl (by kernel_rfl) (fun _ _ _ h => h) (Or.inl ⟨by rfl, ?_⟩) ?_ ?_
                    rotate_left
                    · intro w'
                      go_simp
                      with_reducible rfl
                    rotate_left
                    · simp only [Act.put, List.setIfInBounds_toArray, List.set_cons_zero, List.set_cons_succ, i64_w, i32_w, e1]
                      rfl
                    refine pure_ (i := 3) (N := some 153) (v := ?_) (a' := ?_) #[true, true, true, true, true, true, true, true, false, false] rfl rfl (by kernel_rfl) (fun _ _ _ h => h) (Or.inl ⟨by rfl, ?_⟩) ?_ ?_
                    rotate_left
                    · intro w'
                      go_simp
                      with_reducible rfl
                    rotate_left
                    · simp only [Act.put, List.setIfInBounds_toArray, List.set_cons_zero, List.set_cons_succ, i64_w, i32_w, e1]
                      rfl
                    refine pure_ (i := 8) (N := some 158) (v := ?_) (a' := ?_) #[true, true, true, true, true, true, true, true, true, false] rfl rfl (by kernel_rfl) (fun _ _ _ h => h) (Or.inl ⟨by rfl, ?_⟩) ?_ ?_
                    rotate_left
                    · intro w'
                      go_simp
                      with_reducible rfl
                    rotate_left
                    · simp only [Act.put, List.setIfInBounds_toArray, List.set_cons_zero, List.set_cons_succ, i64_w, i32_w, e1]
                      rfl
                    refine pure_ (i := 9) (N := some 159) (v := ?_) (a' := ?_) #[true, true, true, true, true, true, true, true, true, true] rfl rfl (by kernel_rfl) (fun _ _ _ h => h) (Or.inl ⟨by rfl, ?_⟩) ?_ ?_
                    rotate_left
                    · intro w'
                      go_simp
                      with_reducible rfl
                    rotate_left
                    · simp only [Act.put, List.setIfInBounds_toArray, List.set_cons_zero, List.set_cons_succ, i64_w, i32_w, e1]
                      rfl
                    refine done_ (by kernel_rfl) ?_
                    clear hHeld
                    go_wp2_with fail
                    go_meet
                    exact ⟨y', ad', rfl, hI, HPl, ⟨by have h1 := HA.out; have h2 := HT.out; simp only [h1, h2, and_self]⟩⟩
                  · rw [Bool.not_eq_true] at hT
                    rw [show bitOf b.s (y' % 60) = false from hT] at e1
                    have HT := Aside0.mk hT
                    clear hT
                    obtain ⟨y0, hy0⟩ : ∃ y0, y0 = y' := ⟨_, rfl⟩
                    obtain ⟨z, hz⟩ : ∃ z, z = y' + 1 := ⟨_, rfl⟩
                    have HPz : Aside0 (Pl b.sch (x + 1) (lastY x + 1) z true) := ⟨by rw [hz]; exact HPl.out.second HA.out.2.2.1 HA.out.2.2.2.1 HA.out.2.2.2.2.1 HA.out.2.2.2.2.2 HT.out⟩
                    have HDz := Aside0.mk (dom_in HPz.out HB.out)
                    have HD0 : Aside0 (Dom y0) := ⟨by rw [hy0]; exact HD.out⟩
                    have HLT : Aside0 (y' < z) := ⟨by rw [hz]; omega⟩
                    have HQ : Aside0 (∀ (W : World), Calls Try.prog 125 #[.agg #[.int .u64 0, .int .i64 (sec y'), .pointer none], .int .i64 1000000000] W (Post y0 W)) := ⟨by intro W; rw [hy0]; exact trunc1_any y' W HD.out⟩
                    have HC : Aside0 (∀ (W : World), Calls Try.prog 114 #[.agg #[.int .u64 0, .int .i64 (sec y0), .pointer none], .int .i64 1000000000] W (Post z W)) := ⟨by intro W; have h := add_any (sec y0) 1000000000 1 W HD0.out.s0 HD0.out.s1 (by omega) (by omega) (by omega); rw [show sec y0 + 1 = sec z by unfold sec; omega] at h; exact h⟩
                    have HY0 : Aside0 (ad' = true → sec y' = sec y0) := ⟨by intro h; subst h; have h9 := hy0; exact congrArg sec (by omega)⟩
                    by_cases hw : (y' + 1) % 60 = 0
                    · have e2 : (z % 60 == 0) = true := by rw [beq_iff_eq]; omega
                      clear hw hy0 hz
                      go_wp2_with fail
                      refine start_ (n := 10) (S := fun w' => w'.cell? ⟨w.heap.size, 0, none⟩ = some (.int .u64 0) ∧ w'.cell? ⟨w.heap.size, 1, none⟩ = some (.int .i64 (sec y')) ∧ w'.cell? ⟨w.heap.size, 2, none⟩ = some (.pointer none) ∧ w'.cell? ⟨p, 0, none⟩ = some (.int .u64 (b.s : Int))) (ds := []) #[false, false, false, false, false, false, false, false, false, false] (by kernel_rfl) rfl rfl ⟨(blk_cell hI.out.T 0).trans rfl, (blk_cell hI.out.T 1).trans rfl, (blk_cell hI.out.T 2).trans rfl, (blk_cell hI.out.S 0).trans rfl⟩ (fun hHeld => ?_)
                      refine take_ (i := 0) (N := some 150) (v := ?_) (a' := ?_) #[true, false, false, false, false, false, false, false, false, false] rfl rfl (by kernel_rfl) (fun _ _ _ h => h) (Or.inl ⟨by rfl, ?_⟩) hHeld ?_ ?_
                      rotate_left
                      · rintro w' ⟨s0, s1, s2, s3⟩
                        go_simp
                        with_reducible rfl
                      rotate_left
                      · simp only [Act.put, List.setIfInBounds_toArray, List.set_cons_zero, List.set_cons_succ, i64_w, i32_w, e1]
                        rfl
                      refine pure_ (i := 4) (N := some 154) (v := ?_) (a' := ?_) #[true, false, false, false, true, false, false, false, false, false] rfl rfl (by kernel_rfl) (fun _ _ _ h => h) (Or.inl ⟨by rfl, ?_⟩) ?_ ?_
                      rotate_left
                      · intro w'
                        go_simp
                        with_reducible rfl
                      rotate_left
                      · simp only [Act.put, List.setIfInBounds_toArray, List.set_cons_zero, List.set_cons_succ, i64_w, i32_w, e1]
                        rfl
                      refine pure_ (i := 5) (N := some 155) (v := ?_) (a' := ?_) #[true, false, false, false, true, true, false, false, false, false] rfl rfl (by kernel_rfl) (fun _ _ _ h => h) (Or.inl ⟨by rfl, ?_⟩) ?_ ?_
                      rotate_left
                      · intro w'
                        go_simp
                        with_reducible rfl
                      rotate_left
                      · simp only [Act.put, List.setIfInBounds_toArray, List.set_cons_zero, List.set_cons_succ, i64_w, i32_w, e1]
                        rfl
                      refine pure_ (i := 6) (N := some 156) (v := ?_) (a' := ?_) #[true, false, false, false, true, true, true, false, false, false] rfl rfl (by kernel_rfl) (fun _ _ _ h => h) (Or.inl ⟨by rfl, ?_⟩) ?_ ?_
                      rotate_left
                      · intro w'
                        go_simp
                        with_reducible rfl
                      rotate_left
                      · simp only [Act.put, List.setIfInBounds_toArray, List.set_cons_zero, List.set_cons_succ, i64_w, i32_w, e1]
                        rfl
                      refine take_ (i := 7) (N := some 157) (v := ?_) (a' := ?_) #[true, false, false, false, true, true, true, true, false, false] rfl rfl (by kernel_rfl) (fun _ _ _ h => h) (Or.inl ⟨by rfl, ?_⟩) hHeld ?_ ?_
                      rotate_left
                      · rintro w' ⟨s0, s1, s2, s3⟩
                        go_simp
                        with_reducible rfl
                      rotate_left
                      · simp only [Act.put, List.setIfInBounds_toArray, List.set_cons_zero, List.set_cons_succ, i64_w, i32_w, e1]
                        rfl
                      refine one_ (i := 1) (N := some 151) #[true, true, false, false, true, true, true, true, false, false] rfl rfl (by kernel_rfl) (by decide) (fun K hK => ?_)
                      refine goes_ Try.func126 (by kernel_rfl) rfl #[.agg #[.int .u64 0, .int .i64 (sec y'), .pointer none]] (by rfl) rfl rfl (by (try simp only [List.map_toArray, List.map_cons, List.map_nil]); first | done | rfl) ?_
                      refine (second_any 0 y' _ z0 z1 HD.out).mono ?_
                      rintro e w1 ⟨rfl, hb⟩
                      refine ⟨_, rfl, ?_⟩
                      have hI2 := Aside0.mk (hI.out.below hb)
                      clear hI hb
                      have hI := hI2
                      clear hI2
                      refine hK.out _ _ ⟨(blk_cell hI.out.T 0).trans rfl, (blk_cell hI.out.T 1).trans rfl, (blk_cell hI.out.T 2).trans rfl, (blk_cell hI.out.S 0).trans rfl⟩ (fun hHeld => ?_)
                      clear hK K
                      refine norm_ (a' := ?_) ?_ ?_
                      rotate_left
                      · show Act.put _ (some 151) _ = _
                        simp only [Act.put, List.setIfInBounds_toArray, List.set_cons_zero, List.set_cons_succ, i64_w, i32_w]
                        rfl
                      refine pure_ (i := 2) (N := some 152) (v := ?_) (a' := ?_) #[true, true, true, false, true, true, true, true, false, false] rfl rfl (by kernel_rfl) (fun _ _ _ h => h) (Or.inl ⟨by rfl, ?_⟩) ?_ ?_
                      rotate_left
                      · intro w'
                        go_simp
                        with_reducible rfl
                      rotate_left
                      · simp only [Act.put, List.setIfInBounds_toArray, List.set_cons_zero, List.set_cons_succ, i64_w, i32_w, e1]
                        rfl
                      refine pure_ (i := 3) (N := some 153) (v := ?_) (a' := ?_) #[true, true, true, true, true, true, true, true, false, false] rfl rfl (by kernel_rfl) (fun _ _ _ h => h) (Or.inl ⟨by rfl, ?_⟩) ?_ ?_
                      rotate_left
                      · intro w'
                        go_simp
                        with_reducible rfl
                      rotate_left
                      · simp only [Act.put, List.setIfInBounds_toArray, List.set_cons_zero, List.set_cons_succ, i64_w, i32_w, e1]
                        rfl
                      refine pure_ (i := 8) (N := some 158) (v := ?_) (a' := ?_) #[true, true, true, true, true, true, true, true, true, false] rfl rfl (by kernel_rfl) (fun _ _ _ h => h) (Or.inl ⟨by rfl, ?_⟩) ?_ ?_
                      rotate_left
                      · intro w'
                        go_simp
                        with_reducible rfl
                      rotate_left
                      · simp only [Act.put, List.setIfInBounds_toArray, List.set_cons_zero, List.set_cons_succ, i64_w, i32_w, e1]
                        rfl
                      refine pure_ (i := 9) (N := some 159) (v := ?_) (a' := ?_) #[true, true, true, true, true, true, true, true, true, true] rfl rfl (by kernel_rfl) (fun _ _ _ h => h) (Or.inl ⟨by rfl, ?_⟩) ?_ ?_
                      rotate_left
                      · intro w'
                        go_simp
                        with_reducible rfl
                      rotate_left
                      · simp only [Act.put, List.setIfInBounds_toArray, List.set_cons_zero, List.set_cons_succ, i64_w, i32_w, e1]
                        rfl
                      refine done_ (by kernel_rfl) ?_
                      clear hHeld
                      cases ad'
                      · have t0 : World.cell? _ ⟨w.heap.size, 0, none⟩ = some (.int .u64 0) := (blk_cell hI.out.T 0).trans rfl
                        have t1 : World.cell? _ ⟨w.heap.size, 1, none⟩ = some (.int .i64 (sec y')) := (blk_cell hI.out.T 1).trans rfl
                        have t2 : World.cell? _ ⟨w.heap.size, 2, none⟩ = some (.pointer none) := (blk_cell hI.out.T 2).trans rfl
                        go_upto_region 44 with ((go_at_call 125; (with_reducible refine (HQ.out _).mono ?_); rintro e w3 ⟨rfl, hb⟩; have hI := Aside0.mk (hI.out.below hb); clear hb t0 t1 t2; have t0 : w3.cell? ⟨w.heap.size, 0, none⟩ = some (.int .u64 0) := (blk_cell hI.out.T 0).trans rfl; have t1 : w3.cell? ⟨w.heap.size, 1, none⟩ = some (.int .i64 (sec y')) := (blk_cell hI.out.T 1).trans rfl; have t2 : w3.cell? ⟨w.heap.size, 2, none⟩ = some (.pointer none) := (blk_cell hI.out.T 2).trans rfl; have f0 := blk_frozen hI.out.T 0; have f1 := blk_frozen hI.out.T 1; have f2 := blk_frozen hI.out.T 2))
                        have hI := Aside0.mk (hI.out.setT (.int .u64 0) (.int .i64 (sec y0)) (.pointer none))
                        clear t0 t1 t2 f0 f1 f2
                        generalize hg : World.setCell _ _ (.pointer none) = w6 at hI ⊢
                        clear hg
                        have t0 : World.cell? _ ⟨w.heap.size, 0, none⟩ = some (.int .u64 0) := (blk_cell hI.out.T 0).trans rfl
                        have t1 : World.cell? _ ⟨w.heap.size, 1, none⟩ = some (.int .i64 (sec y0)) := (blk_cell hI.out.T 1).trans rfl
                        have t2 : World.cell? _ ⟨w.heap.size, 2, none⟩ = some (.pointer none) := (blk_cell hI.out.T 2).trans rfl
                        go_upto_region 45 with ((go_at_call 114; (with_reducible refine (HC.out _).mono ?_); rintro e w3 ⟨rfl, hb⟩; have hI := Aside0.mk (hI.out.below hb); clear hb t0 t1 t2; have t0 : w3.cell? ⟨w.heap.size, 0, none⟩ = some (.int .u64 0) := (blk_cell hI.out.T 0).trans rfl; have t1 : w3.cell? ⟨w.heap.size, 1, none⟩ = some (.int .i64 (sec y0)) := (blk_cell hI.out.T 1).trans rfl; have t2 : w3.cell? ⟨w.heap.size, 2, none⟩ = some (.pointer none) := (blk_cell hI.out.T 2).trans rfl; have f0 := blk_frozen hI.out.T 0; have f1 := blk_frozen hI.out.T 1; have f2 := blk_frozen hI.out.T 2))
                        have hI := Aside0.mk (hI.out.setT (.int .u64 0) (.int .i64 (sec z)) (.pointer none))
                        clear t0 t1 t2 f0 f1 f2
                        generalize hg : World.setCell _ _ (.pointer none) = w7 at hI ⊢
                        clear hg
                        have t0 : w7.cell? ⟨w.heap.size, 0, none⟩ = some (.int .u64 0) := (blk_cell hI.out.T 0).trans rfl
                        have t1 : w7.cell? ⟨w.heap.size, 1, none⟩ = some (.int .i64 (sec z)) := (blk_cell hI.out.T 1).trans rfl
                        have t2 : w7.cell? ⟨w.heap.size, 2, none⟩ = some (.pointer none) := (blk_cell hI.out.T 2).trans rfl
                        go_wp2_with (go_at_call 126; (with_reducible refine (second_any 0 z _ z0 z1 HDz.out).mono ?_); rintro e w8 ⟨rfl, hb⟩; have hI := Aside0.mk (hI.out.below hb); clear hb t0 t1 t2; have t0 : w8.cell? ⟨w.heap.size, 0, none⟩ = some (.int .u64 0) := (blk_cell hI.out.T 0).trans rfl; have t1 : w8.cell? ⟨w.heap.size, 1, none⟩ = some (.int .i64 (sec z)) := (blk_cell hI.out.T 1).trans rfl; have t2 : w8.cell? ⟨w.heap.size, 2, none⟩ = some (.pointer none) := (blk_cell hI.out.T 2).trans rfl)
                        go_step3
                        refine ⟨rfl, at_goto HI0.out hI.out HPz.out HB.out (by have h1 := HA.out.1; have h2 := HLT.out; omega) ⟨rfl, rfl, rfl, rfl, rfl, rfl, rfl, rfl, rfl, rfl, rfl⟩⟩
                      · have hI := Aside0.mk (hI.out.cast (by first | exact HY0.out rfl | exact HY0.out trivial))
                        have t0 : World.cell? _ ⟨w.heap.size, 0, none⟩ = some (.int .u64 0) := (blk_cell hI.out.T 0).trans rfl
                        have t1 : World.cell? _ ⟨w.heap.size, 1, none⟩ = some (.int .i64 (sec y0)) := (blk_cell hI.out.T 1).trans rfl
                        have t2 : World.cell? _ ⟨w.heap.size, 2, none⟩ = some (.pointer none) := (blk_cell hI.out.T 2).trans rfl
                        go_upto_region 45 with ((go_at_call 114; (with_reducible refine (HC.out _).mono ?_); rintro e w3 ⟨rfl, hb⟩; have hI := Aside0.mk (hI.out.below hb); clear hb t0 t1 t2; have t0 : w3.cell? ⟨w.heap.size, 0, none⟩ = some (.int .u64 0) := (blk_cell hI.out.T 0).trans rfl; have t1 : w3.cell? ⟨w.heap.size, 1, none⟩ = some (.int .i64 (sec y0)) := (blk_cell hI.out.T 1).trans rfl; have t2 : w3.cell? ⟨w.heap.size, 2, none⟩ = some (.pointer none) := (blk_cell hI.out.T 2).trans rfl; have f0 := blk_frozen hI.out.T 0; have f1 := blk_frozen hI.out.T 1; have f2 := blk_frozen hI.out.T 2))
                        have hI := Aside0.mk (hI.out.setT (.int .u64 0) (.int .i64 (sec z)) (.pointer none))
                        clear t0 t1 t2 f0 f1 f2
                        generalize hg : World.setCell _ _ (.pointer none) = w7 at hI ⊢
                        clear hg
                        have t0 : w7.cell? ⟨w.heap.size, 0, none⟩ = some (.int .u64 0) := (blk_cell hI.out.T 0).trans rfl
                        have t1 : w7.cell? ⟨w.heap.size, 1, none⟩ = some (.int .i64 (sec z)) := (blk_cell hI.out.T 1).trans rfl
                        have t2 : w7.cell? ⟨w.heap.size, 2, none⟩ = some (.pointer none) := (blk_cell hI.out.T 2).trans rfl
                        go_wp2_with (go_at_call 126; (with_reducible refine (second_any 0 z _ z0 z1 HDz.out).mono ?_); rintro e w8 ⟨rfl, hb⟩; have hI := Aside0.mk (hI.out.below hb); clear hb t0 t1 t2; have t0 : w8.cell? ⟨w.heap.size, 0, none⟩ = some (.int .u64 0) := (blk_cell hI.out.T 0).trans rfl; have t1 : w8.cell? ⟨w.heap.size, 1, none⟩ = some (.int .i64 (sec z)) := (blk_cell hI.out.T 1).trans rfl; have t2 : w8.cell? ⟨w.heap.size, 2, none⟩ = some (.pointer none) := (blk_cell hI.out.T 2).trans rfl)
                        go_step3
                        refine ⟨rfl, at_goto HI0.out hI.out HPz.out HB.out (by have h1 := HA.out.1; have h2 := HLT.out; omega) ⟨rfl, rfl, rfl, rfl, rfl, rfl, rfl, rfl, rfl, rfl, rfl⟩⟩
                    · have e2 : (z % 60 == 0) = false := by rw [beq_eq_false_iff_ne]; omega
                      have HN : Aside0 (yr (z / 86400) ≤ lastY x) := ⟨by rw [show z / 86400 = y' / 86400 by omega]; exact HPl.out.yb⟩
                      have HK0 : Aside0 (b.sch.M (mo (z / 86400)) = true) := ⟨by rw [show z / 86400 = y' / 86400 by omega]; exact HA.out.2.2.1⟩
                      have HK1 : Aside0 (b.sch.D (z / 86400) = true) := ⟨by rw [show z / 86400 = y' / 86400 by omega]; exact HA.out.2.2.2.1⟩
                      have HK2 : Aside0 (b.sch.H (z % 86400 / 3600) = true) := ⟨by rw [show z % 86400 / 3600 = y' % 86400 / 3600 by omega]; exact HA.out.2.2.2.2.1⟩
                      have HK3 : Aside0 (b.sch.I (z % 3600 / 60) = true) := ⟨by rw [show z % 3600 / 60 = y' % 3600 / 60 by omega]; exact HA.out.2.2.2.2.2⟩
                      clear hw hy0 hz
                      go_wp2_with fail
                      refine start_ (n := 10) (S := fun w' => w'.cell? ⟨w.heap.size, 0, none⟩ = some (.int .u64 0) ∧ w'.cell? ⟨w.heap.size, 1, none⟩ = some (.int .i64 (sec y')) ∧ w'.cell? ⟨w.heap.size, 2, none⟩ = some (.pointer none) ∧ w'.cell? ⟨p, 0, none⟩ = some (.int .u64 (b.s : Int))) (ds := []) #[false, false, false, false, false, false, false, false, false, false] (by kernel_rfl) rfl rfl ⟨(blk_cell hI.out.T 0).trans rfl, (blk_cell hI.out.T 1).trans rfl, (blk_cell hI.out.T 2).trans rfl, (blk_cell hI.out.S 0).trans rfl⟩ (fun hHeld => ?_)
                      refine take_ (i := 0) (N := some 150) (v := ?_) (a' := ?_) #[true, false, false, false, false, false, false, false, false, false] rfl rfl (by kernel_rfl) (fun _ _ _ h => h) (Or.inl ⟨by rfl, ?_⟩) hHeld ?_ ?_
                      rotate_left
                      · rintro w' ⟨s0, s1, s2, s3⟩
                        go_simp
                        with_reducible rfl
                      rotate_left
                      · simp only [Act.put, List.setIfInBounds_toArray, List.set_cons_zero, List.set_cons_succ, i64_w, i32_w, e1]
                        rfl
                      refine pure_ (i := 4) (N := some 154) (v := ?_) (a' := ?_) #[true, false, false, false, true, false, false, false, false, false] rfl rfl (by kernel_rfl) (fun _ _ _ h => h) (Or.inl ⟨by rfl, ?_⟩) ?_ ?_
                      rotate_left
                      · intro w'
                        go_simp
                        with_reducible rfl
                      rotate_left
                      · simp only [Act.put, List.setIfInBounds_toArray, List.set_cons_zero, List.set_cons_succ, i64_w, i32_w, e1]
                        rfl
                      refine pure_ (i := 5) (N := some 155) (v := ?_) (a' := ?_) #[true, false, false, false, true, true, false, false, false, false] rfl rfl (by kernel_rfl) (fun _ _ _ h => h) (Or.inl ⟨by rfl, ?_⟩) ?_ ?_
                      rotate_left
                      · intro w'
                        go_simp
                        with_reducible rfl
                      rotate_left
                      · simp only [Act.put, List.setIfInBounds_toArray, List.set_cons_zero, List.set_cons_succ, i64_w, i32_w, e1]
                        rfl
                      refine pure_ (i := 6) (N := some 156) (v := ?_) (a' := ?_) #[true, false, false, false, true, true, true, false, false, false] rfl rfl (by kernel_rfl) (fun _ _ _ h => h) (Or.inl ⟨by rfl, ?_⟩) ?_ ?_
                      rotate_left
                      · intro w'
                        go_simp
                        with_reducible rfl
                      rotate_left
                      · simp only [Act.put, List.setIfInBounds_toArray, List.set_cons_zero, List.set_cons_succ, i64_w, i32_w, e1]
                        rfl
                      refine take_ (i := 7) (N := some 157) (v := ?_) (a' := ?_) #[true, false, false, false, true, true, true, true, false, false] rfl rfl (by kernel_rfl) (fun _ _ _ h => h) (Or.inl ⟨by rfl, ?_⟩) hHeld ?_ ?_
                      rotate_left
                      · rintro w' ⟨s0, s1, s2, s3⟩
                        go_simp
                        with_reducible rfl
                      rotate_left
                      · simp only [Act.put, List.setIfInBounds_toArray, List.set_cons_zero, List.set_cons_succ, i64_w, i32_w, e1]
                        rfl
                      refine one_ (i := 1) (N := some 151) #[true, true, false, false, true, true, true, true, false, false] rfl rfl (by kernel_rfl) (by decide) (fun K hK => ?_)
                      refine goes_ Try.func126 (by kernel_rfl) rfl #[.agg #[.int .u64 0, .int .i64 (sec y'), .pointer none]] (by rfl) rfl rfl (by (try simp only [List.map_toArray, List.map_cons, List.map_nil]); first | done | rfl) ?_
                      refine (second_any 0 y' _ z0 z1 HD.out).mono ?_
                      rintro e w1 ⟨rfl, hb⟩
                      refine ⟨_, rfl, ?_⟩
                      have hI2 := Aside0.mk (hI.out.below hb)
                      clear hI hb
                      have hI := hI2
                      clear hI2
                      refine hK.out _ _ ⟨(blk_cell hI.out.T 0).trans rfl, (blk_cell hI.out.T 1).trans rfl, (blk_cell hI.out.T 2).trans rfl, (blk_cell hI.out.S 0).trans rfl⟩ (fun hHeld => ?_)
                      clear hK K
                      refine norm_ (a' := ?_) ?_ ?_
                      rotate_left
                      · show Act.put _ (some 151) _ = _
                        simp only [Act.put, List.setIfInBounds_toArray, List.set_cons_zero, List.set_cons_succ, i64_w, i32_w]
                        rfl
                      refine pure_ (i := 2) (N := some 152) (v := ?_) (a' := ?_) #[true, true, true, false, true, true, true, true, false, false] rfl rfl (by kernel_rfl) (fun _ _ _ h => h) (Or.inl ⟨by rfl, ?_⟩) ?_ ?_
                      rotate_left
                      · intro w'
                        go_simp
                        with_reducible rfl
                      rotate_left
                      · simp only [Act.put, List.setIfInBounds_toArray, List.set_cons_zero, List.set_cons_succ, i64_w, i32_w, e1]
                        rfl
                      refine pure_ (i := 3) (N := some 153) (v := ?_) (a' := ?_) #[true, true, true, true, true, true, true, true, false, false] rfl rfl (by kernel_rfl) (fun _ _ _ h => h) (Or.inl ⟨by rfl, ?_⟩) ?_ ?_
                      rotate_left
                      · intro w'
                        go_simp
                        with_reducible rfl
                      rotate_left
                      · simp only [Act.put, List.setIfInBounds_toArray, List.set_cons_zero, List.set_cons_succ, i64_w, i32_w, e1]
                        rfl
                      refine pure_ (i := 8) (N := some 158) (v := ?_) (a' := ?_) #[true, true, true, true, true, true, true, true, true, false] rfl rfl (by kernel_rfl) (fun _ _ _ h => h) (Or.inl ⟨by rfl, ?_⟩) ?_ ?_
                      rotate_left
                      · intro w'
                        go_simp
                        with_reducible rfl
                      rotate_left
                      · simp only [Act.put, List.setIfInBounds_toArray, List.set_cons_zero, List.set_cons_succ, i64_w, i32_w, e1]
                        rfl
                      refine pure_ (i := 9) (N := some 159) (v := ?_) (a' := ?_) #[true, true, true, true, true, true, true, true, true, true] rfl rfl (by kernel_rfl) (fun _ _ _ h => h) (Or.inl ⟨by rfl, ?_⟩) ?_ ?_
                      rotate_left
                      · intro w'
                        go_simp
                        with_reducible rfl
                      rotate_left
                      · simp only [Act.put, List.setIfInBounds_toArray, List.set_cons_zero, List.set_cons_succ, i64_w, i32_w, e1]
                        rfl
                      refine done_ (by kernel_rfl) ?_
                      clear hHeld
                      cases ad'
                      · have t0 : World.cell? _ ⟨w.heap.size, 0, none⟩ = some (.int .u64 0) := (blk_cell hI.out.T 0).trans rfl
                        have t1 : World.cell? _ ⟨w.heap.size, 1, none⟩ = some (.int .i64 (sec y')) := (blk_cell hI.out.T 1).trans rfl
                        have t2 : World.cell? _ ⟨w.heap.size, 2, none⟩ = some (.pointer none) := (blk_cell hI.out.T 2).trans rfl
                        go_upto_region 44 with ((go_at_call 125; (with_reducible refine (HQ.out _).mono ?_); rintro e w3 ⟨rfl, hb⟩; have hI := Aside0.mk (hI.out.below hb); clear hb t0 t1 t2; have t0 : w3.cell? ⟨w.heap.size, 0, none⟩ = some (.int .u64 0) := (blk_cell hI.out.T 0).trans rfl; have t1 : w3.cell? ⟨w.heap.size, 1, none⟩ = some (.int .i64 (sec y')) := (blk_cell hI.out.T 1).trans rfl; have t2 : w3.cell? ⟨w.heap.size, 2, none⟩ = some (.pointer none) := (blk_cell hI.out.T 2).trans rfl; have f0 := blk_frozen hI.out.T 0; have f1 := blk_frozen hI.out.T 1; have f2 := blk_frozen hI.out.T 2))
                        have hI := Aside0.mk (hI.out.setT (.int .u64 0) (.int .i64 (sec y0)) (.pointer none))
                        clear t0 t1 t2 f0 f1 f2
                        generalize hg : World.setCell _ _ (.pointer none) = w6 at hI ⊢
                        clear hg
                        have t0 : World.cell? _ ⟨w.heap.size, 0, none⟩ = some (.int .u64 0) := (blk_cell hI.out.T 0).trans rfl
                        have t1 : World.cell? _ ⟨w.heap.size, 1, none⟩ = some (.int .i64 (sec y0)) := (blk_cell hI.out.T 1).trans rfl
                        have t2 : World.cell? _ ⟨w.heap.size, 2, none⟩ = some (.pointer none) := (blk_cell hI.out.T 2).trans rfl
                        go_upto_region 45 with ((go_at_call 114; (with_reducible refine (HC.out _).mono ?_); rintro e w3 ⟨rfl, hb⟩; have hI := Aside0.mk (hI.out.below hb); clear hb t0 t1 t2; have t0 : w3.cell? ⟨w.heap.size, 0, none⟩ = some (.int .u64 0) := (blk_cell hI.out.T 0).trans rfl; have t1 : w3.cell? ⟨w.heap.size, 1, none⟩ = some (.int .i64 (sec y0)) := (blk_cell hI.out.T 1).trans rfl; have t2 : w3.cell? ⟨w.heap.size, 2, none⟩ = some (.pointer none) := (blk_cell hI.out.T 2).trans rfl; have f0 := blk_frozen hI.out.T 0; have f1 := blk_frozen hI.out.T 1; have f2 := blk_frozen hI.out.T 2))
                        have hI := Aside0.mk (hI.out.setT (.int .u64 0) (.int .i64 (sec z)) (.pointer none))
                        clear t0 t1 t2 f0 f1 f2
                        generalize hg : World.setCell _ _ (.pointer none) = w7 at hI ⊢
                        clear hg
                        have t0 : w7.cell? ⟨w.heap.size, 0, none⟩ = some (.int .u64 0) := (blk_cell hI.out.T 0).trans rfl
                        have t1 : w7.cell? ⟨w.heap.size, 1, none⟩ = some (.int .i64 (sec z)) := (blk_cell hI.out.T 1).trans rfl
                        have t2 : w7.cell? ⟨w.heap.size, 2, none⟩ = some (.pointer none) := (blk_cell hI.out.T 2).trans rfl
                        go_wp2_with (go_at_call 126; (with_reducible refine (second_any 0 z _ z0 z1 HDz.out).mono ?_); rintro e w8 ⟨rfl, hb⟩; have hI := Aside0.mk (hI.out.below hb); clear hb t0 t1 t2; have t0 : w8.cell? ⟨w.heap.size, 0, none⟩ = some (.int .u64 0) := (blk_cell hI.out.T 0).trans rfl; have t1 : w8.cell? ⟨w.heap.size, 1, none⟩ = some (.int .i64 (sec z)) := (blk_cell hI.out.T 1).trans rfl; have t2 : w8.cell? ⟨w.heap.size, 2, none⟩ = some (.pointer none) := (blk_cell hI.out.T 2).trans rfl)
                        go_roundg (400000000000 - z).toNat
                        case measure => have h1 := HA.out.2.1; have h2 := HLT.out; have h3 := HDz.out.hi; omega
                        case rel => exact ⟨z, true, rfl, hI, ⟨HPz.out.at HN.out⟩, ⟨by have h1 := HA.out.1; have h2 := HLT.out; exact ⟨by omega, Nat.le_refl _, HK0.out, HK1.out, HK2.out, HK3.out⟩⟩⟩
                      · have hI := Aside0.mk (hI.out.cast (by first | exact HY0.out rfl | exact HY0.out trivial))
                        have t0 : World.cell? _ ⟨w.heap.size, 0, none⟩ = some (.int .u64 0) := (blk_cell hI.out.T 0).trans rfl
                        have t1 : World.cell? _ ⟨w.heap.size, 1, none⟩ = some (.int .i64 (sec y0)) := (blk_cell hI.out.T 1).trans rfl
                        have t2 : World.cell? _ ⟨w.heap.size, 2, none⟩ = some (.pointer none) := (blk_cell hI.out.T 2).trans rfl
                        go_upto_region 45 with ((go_at_call 114; (with_reducible refine (HC.out _).mono ?_); rintro e w3 ⟨rfl, hb⟩; have hI := Aside0.mk (hI.out.below hb); clear hb t0 t1 t2; have t0 : w3.cell? ⟨w.heap.size, 0, none⟩ = some (.int .u64 0) := (blk_cell hI.out.T 0).trans rfl; have t1 : w3.cell? ⟨w.heap.size, 1, none⟩ = some (.int .i64 (sec y0)) := (blk_cell hI.out.T 1).trans rfl; have t2 : w3.cell? ⟨w.heap.size, 2, none⟩ = some (.pointer none) := (blk_cell hI.out.T 2).trans rfl; have f0 := blk_frozen hI.out.T 0; have f1 := blk_frozen hI.out.T 1; have f2 := blk_frozen hI.out.T 2))
                        have hI := Aside0.mk (hI.out.setT (.int .u64 0) (.int .i64 (sec z)) (.pointer none))
                        clear t0 t1 t2 f0 f1 f2
                        generalize hg : World.setCell _ _ (.pointer none) = w7 at hI ⊢
                        clear hg
                        have t0 : w7.cell? ⟨w.heap.size, 0, none⟩ = some (.int .u64 0) := (blk_cell hI.out.T 0).trans rfl
                        have t1 : w7.cell? ⟨w.heap.size, 1, none⟩ = some (.int .i64 (sec z)) := (blk_cell hI.out.T 1).trans rfl
                        have t2 : w7.cell? ⟨w.heap.size, 2, none⟩ = some (.pointer none) := (blk_cell hI.out.T 2).trans rfl
                        go_wp2_with (go_at_call 126; (with_reducible refine (second_any 0 z _ z0 z1 HDz.out).mono ?_); rintro e w8 ⟨rfl, hb⟩; have hI := Aside0.mk (hI.out.below hb); clear hb t0 t1 t2; have t0 : w8.cell? ⟨w.heap.size, 0, none⟩ = some (.int .u64 0) := (blk_cell hI.out.T 0).trans rfl; have t1 : w8.cell? ⟨w.heap.size, 1, none⟩ = some (.int .i64 (sec z)) := (blk_cell hI.out.T 1).trans rfl; have t2 : w8.cell? ⟨w.heap.size, 2, none⟩ = some (.pointer none) := (blk_cell hI.out.T 2).trans rfl)
                        go_roundg (400000000000 - z).toNat
                        case measure => have h1 := HA.out.2.1; have h2 := HLT.out; have h3 := HDz.out.hi; omega
                        case rel => exact ⟨z, true, rfl, hI, ⟨HPz.out.at HN.out⟩, ⟨by have h1 := HA.out.1; have h2 := HLT.out; exact ⟨by omega, Nat.le_refl _, HK0.out, HK1.out, HK2.out, HK3.out⟩⟩⟩
              case rest =>
                clear hI HPl HA
                obtain ⟨y1, ad1, rfl, hI, HPl, HA⟩ := hcut
                have t0 : World.cell? _ ⟨w.heap.size, 0, none⟩ = some (.int .u64 0) := (blk_cell hI.out.T 0).trans rfl
                have t1 : World.cell? _ ⟨w.heap.size, 1, none⟩ = some (.int .i64 (sec y1)) := (blk_cell hI.out.T 1).trans rfl
                have t2 : World.cell? _ ⟨w.heap.size, 2, none⟩ = some (.pointer none) := (blk_cell hI.out.T 2).trans rfl
                go_wp2_with ((go_at_call 62; (with_reducible refine (in_any 0 (sec y1) k _ z0 z1 hI.out.K.utc).mono ?_); rintro e w2 ⟨rfl, hb⟩; have hI := Aside0.mk (hI.out.below hb); clear hb t0 t1 t2; have r0 : w2.cell? ⟨w.heap.size + 1, 0, none⟩ = some (.int .u64 0) := (blk_cell hI.out.A.R 0).trans rfl; have r1 : w2.cell? ⟨w.heap.size + 1, 1, none⟩ = some (.int .i64 0) := (blk_cell hI.out.A.R 1).trans rfl; have r2 : w2.cell? ⟨w.heap.size + 1, 2, none⟩ = some (.pointer none) := (blk_cell hI.out.A.R 2).trans rfl; have f0 := blk_frozen hI.out.A.R 0; have f1 := blk_frozen hI.out.A.R 1; have f2 := blk_frozen hI.out.A.R 2))
                have hA := Aside0.mk (hI.out.A.setR (.int .u64 0) (.int .i64 (sec y1)) (.pointer none))
                clear r0 r1 r2 f0 f1 f2
                generalize hg : World.setCell _ _ (.pointer none) = w7 at hA ⊢
                clear hg
                have r0 : w7.cell? ⟨w.heap.size + 1, 0, none⟩ = some (.int .u64 0) := (blk_cell hA.out.R 0).trans rfl
                have r1 : w7.cell? ⟨w.heap.size + 1, 1, none⟩ = some (.int .i64 (sec y1)) := (blk_cell hA.out.R 1).trans rfl
                have r2 : w7.cell? ⟨w.heap.size + 1, 2, none⟩ = some (.pointer none) := (blk_cell hA.out.R 2).trans rfl
                exact bodyPost_ret (v := .agg #[.int .u64 0, .int .i64 (sec y1), .pointer none]) (by simp [results, Try.results116, go_sem, r0, r1, r2]) rfl ⟨⟨some y1, found HPl.out.nf HPl.out.ge HPl.out.yb HA.out.2.1 HA.out.2.2.1 HA.out.2.2.2.1 HA.out.2.2.2.2.1 HA.out.2.2.2.2.2, rfl⟩, hA.out.B⟩
  · intro hrest
    have HR := Aside0.mk hrest
    clear hrest
    go_upto_region 2 with ((go_at_call 117; (with_reducible refine (location_any _ _ _).mono ?_); rintro e w1 ⟨k, rfl, hu, hb⟩; have hA := Aside0.mk (hA.out.below hb); have HS := Aside0.mk (SAt.below HS.out hb); have HK := Aside0.mk hu.1; have Hk := Aside0.mk hu.2; clear hb hu))
    have c6 : w1.cell? ⟨p, 6, none⟩ = some (.pointer none) := (blk_cell HS.out 6).trans rfl
    have t0 : w1.cell? ⟨w.heap.size, 0, none⟩ = some (.int .u64 n) := (blk_cell hA.out.T 0).trans rfl
    have t1 : w1.cell? ⟨w.heap.size, 1, none⟩ = some (.int .i64 (sec x)) := (blk_cell hA.out.T 1).trans rfl
    have t2 : w1.cell? ⟨w.heap.size, 2, none⟩ = some (.pointer none) := (blk_cell hA.out.T 2).trans rfl
    go_upto_region 7 with ((go_at_call 117; (with_reducible refine (location_any _ _ _).mono ?_); rintro e w2 ⟨l, rfl, hu, hb⟩; have hI := Aside0.mk (Nx.mk (hA.out.below hb) (SAt.below HS.out hb) (HK.out.below hb) hu.1 HP.out (far_k Hk.out) (far_l hA.out.R hu.2)); clear c6 t0 t1 t2; have c6 : w2.cell? ⟨p, 6, none⟩ = some (.pointer none) := (blk_cell hI.out.S 6).trans rfl; clear hu hb hA HS HK))
    clear c6
    have hI := Aside0.mk hI.out.drew
    refine start_ (n := 7) (S := fun w' => w'.cell? ⟨w.heap.size, 0, none⟩ = some (.int .u64 n) ∧ w'.cell? ⟨w.heap.size, 1, none⟩ = some (.int .i64 (sec x)) ∧ w'.cell? ⟨w.heap.size, 2, none⟩ = some (.pointer none)) (ds := [6]) #[false, false, false, false, false, false, false] (by kernel_rfl) rfl rfl ⟨(blk_cell hI.out.T 0).trans rfl, (blk_cell hI.out.T 1).trans rfl, (blk_cell hI.out.T 2).trans rfl⟩ (fun hHeld => ?_)
    refine take_ (i := 0) (N := some 30) (v := ?_) (a' := ?_) #[true, false, false, false, false, false, false] rfl rfl (by kernel_rfl) (fun _ _ _ h => h) (Or.inl ⟨by rfl, ?_⟩) hHeld ?_ ?_
    rotate_left
    · rintro w' ⟨s0, s1, s2⟩
      go_simp
      with_reducible rfl
    rotate_left
    · simp only [Act.put, List.setIfInBounds_toArray, List.set_cons_zero, List.set_cons_succ, i64_w, i32_w, w33, w34]
      rfl
    refine take_ (i := 1) (N := some 31) (v := ?_) (a' := ?_) #[true, true, false, false, false, false, false] rfl rfl (by kernel_rfl) (fun _ _ _ h => h) (Or.inl ⟨by rfl, ?_⟩) hHeld ?_ ?_
    rotate_left
    · rintro w' ⟨s0, s1, s2⟩
      go_simp
      with_reducible rfl
    rotate_left
    · simp only [Act.put, List.setIfInBounds_toArray, List.set_cons_zero, List.set_cons_succ, i64_w, i32_w, w33, w34]
      rfl
    refine one_ (i := 2) (N := some 32) #[true, true, true, false, false, false, false] rfl rfl (by kernel_rfl) (by decide) (fun K hK => ?_)
    refine goes_ Try.func55 (by kernel_rfl) rfl #[.agg #[.int .u64 n, .int .i64 (sec x), .pointer none]] (by rfl) rfl rfl (by (try simp only [List.map_toArray, List.map_cons, List.map_nil]); first | done | rfl) ?_
    refine (nano_any n (sec x) _ h0 h1).mono ?_
    rintro e w2 ⟨rfl, hb⟩
    refine ⟨_, rfl, ?_⟩
    have hI2 := Aside0.mk (hI.out.below hb)
    clear hI hb
    have hI := hI2
    clear hI2
    refine hK.out _ _ ⟨(blk_cell hI.out.T 0).trans rfl, (blk_cell hI.out.T 1).trans rfl, (blk_cell hI.out.T 2).trans rfl⟩ (fun hHeld => ?_)
    clear hK K
    refine norm_ (a' := ?_) ?_ ?_
    rotate_left
    · show Act.put _ (some 32) _ = _
      simp only [Act.put, List.setIfInBounds_toArray, List.set_cons_zero, List.set_cons_succ, i64_w, i32_w]
      rfl
    refine pure_ (i := 3) (N := some 33) (v := ?_) (a' := ?_) #[true, true, true, true, false, false, false] rfl rfl (by kernel_rfl) (fun _ _ _ h => h) (Or.inl ⟨by rfl, ?_⟩) ?_ ?_
    rotate_left
    · intro w'
      go_simp
      with_reducible rfl
    rotate_left
    · simp only [Act.put, List.setIfInBounds_toArray, List.set_cons_zero, List.set_cons_succ, i64_w, i32_w, w33, w34]
      rfl
    refine pure_ (i := 4) (N := some 34) (v := ?_) (a' := ?_) #[true, true, true, true, true, false, false] rfl rfl (by kernel_rfl) (fun _ _ _ h => h) (Or.inl ⟨by rfl, ?_⟩) ?_ ?_
    rotate_left
    · intro w'
      go_simp
      with_reducible rfl
    rotate_left
    · simp only [Act.put, List.setIfInBounds_toArray, List.set_cons_zero, List.set_cons_succ, i64_w, i32_w, w33, w34]
      rfl
    refine one_ (i := 5) (N := some 35) #[true, true, true, true, true, true, false] rfl rfl (by kernel_rfl) (by decide) (fun K hK => ?_)
    refine goes_ Try.func114 (by kernel_rfl) rfl #[.agg #[.int .u64 n, .int .i64 (sec x), .pointer none], .int .i64 (1000000000 - n)] (by rfl) rfl rfl (by (try simp only [List.map_toArray, List.map_cons, List.map_nil]); first | done | rfl) ?_
    refine (addf n x _ h0 h1 HX.out).mono ?_
    rintro e w5 ⟨rfl, hb⟩
    refine ⟨_, rfl, ?_⟩
    have hI2 := Aside0.mk (hI.out.below hb)
    clear hI hb
    have hI := hI2
    clear hI2
    refine hK.out _ _ ⟨(blk_cell hI.out.T 0).trans rfl, (blk_cell hI.out.T 1).trans rfl, (blk_cell hI.out.T 2).trans rfl⟩ (fun hHeld => ?_)
    clear hK K
    refine norm_ (a' := ?_) ?_ ?_
    rotate_left
    · show Act.put _ (some 35) _ = _
      simp only [Act.put, List.setIfInBounds_toArray, List.set_cons_zero, List.set_cons_succ, i64_w, i32_w]
      rfl
    have rc0 := (blk_cell hI.out.T 0).trans (show _ = some _ from rfl)
    have rf0 := blk_frozen hI.out.T 0
    have rc1 := (blk_cell hI.out.T 1).trans (show _ = some _ from rfl)
    have rf1 := blk_frozen hI.out.T 1
    have rc2 := (blk_cell hI.out.T 2).trans (show _ = some _ from rfl)
    have rf2 := blk_frozen hI.out.T 2
    refine last_ (i := 6) (N := none) #[true, true, true, true, true, true, true] rfl rfl (by kernel_rfl) (by decide) (fun K hK => ?_)
    refine skip_ (w1 := ?_) (by rfl) rfl ?_ ?_
    rotate_left
    · go_simp
      rfl
    have hI2 := Aside0.mk (hI.out.setT (.int .u64 0) (.int .i64 (sec (x + 1))) (.pointer none))
    refine hK.out _ _ ?_
    clear hK K rc0 rc1 rc2 rf0 rf1 rf2 hI hHeld
    have hI := hI2
    clear hI2
    refine done_ (by kernel_rfl) ?_
    generalize hg : World.setCell _ _ (.pointer none) = w7 at hI ⊢
    clear hg
    have t0 : w7.cell? ⟨w.heap.size, 0, none⟩ = some (.int .u64 0) := (blk_cell hI.out.T 0).trans rfl
    have t1 : w7.cell? ⟨w.heap.size, 1, none⟩ = some (.int .i64 (sec (x + 1))) := (blk_cell hI.out.T 1).trans rfl
    have t2 : w7.cell? ⟨w.heap.size, 2, none⟩ = some (.pointer none) := (blk_cell hI.out.T 2).trans rfl
    have y0 := HY.out.1
    have y1 := HY.out.2
    go_wp2_with (go_at_call 118; (with_reducible refine (year_any 0 (x + 1) _ z0 z1 HX1.out).mono ?_); rintro e w8 ⟨rfl, hb⟩; have hI := Aside0.mk (hI.out.below hb); clear hb t0 t1 t2 HX1)
    rw [show yr ((x + 1) / 86400) + 5 = lastY x from rfl]
    go_step3
    go_step
    go_step
    refine HR.out _ _ ⟨k, l, x + 1, false, ⟨rfl, rfl, rfl, rfl, rfl, rfl, rfl, rfl, rfl, rfl, rfl⟩, hI.out, ?_⟩
    exact Pl.start _ _ _ (by unfold lastY; omega)
end Go.Proofs.Ytlgdaegaahnkbaa.Tm
