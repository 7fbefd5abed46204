/- What is proved: FnSemverTermsTurned, its walk by hand: lists in the opposite order say the same. -/
import Derived.Test.YtalpehfjjidfhaaDoorListsP
import Derived.Test.YtalpehfjjidfhaaDoorTrods
import Derived.Test.YtalpehfjjidfhaaDoorHandS
import Derived.Deep.RegionLawGrows
namespace Go.Proofs.YtalpehfjjidfhaaDoor.MP
open Go Go.RowKit Sv Hand
open Go.Proofs.YtalpehfjjidfhaaDoorW.PrintWords Go.Proofs.YtalpehfjjidfhaaDoorW.PrintLast Go.Proofs.YtalpehfjjidfhaaDoorW.PrintMore
open Go.Proofs.YtalpehfjjidfhaaDoor.MA (tl validPre smallPre digsL okPre okSmall bs_size)
set_option linter.unusedVariables false
set_option linter.unusedSimpArgs false
theorem info73 : (Tryd.prog.info? 73).map (fun i => (i.zero, i.size, i.bytes)) = some (some (.slice none 0 0), 1, 24) := by kernel_rfl
/-- Lists in the opposite order, each in the opposite order. -/
def rv (l : List (List S42)) : List (List S42) := l.reverse.map List.reverse
theorem rv_cons (x : List S42) (l : List (List S42)) : rv (x :: l) = rv l ++ [x.reverse] := by simp [rv]
theorem listHolds_rv (M m t : Int) (u : ByteArray) (pre : Bool) (x : List S42) : listHolds M m t u pre x.reverse = listHolds M m t u pre x := by
  unfold listHolds hasP
  rw [List.any_reverse, List.all_reverse]
theorem termsHold_rv (M m t : Int) (u : ByteArray) (pre : Bool) (l : List (List S42)) : termsHold M m t u pre (rv l) = termsHold M m t u pre l := by
  unfold termsHold rv
  rw [List.any_map, List.any_reverse]
  congr 1
  funext x
  exact listHolds_rv M m t u pre x
theorem askT_rv {l : List (List S42)} (h : askT l) : askT (rv l) := by
  refine ⟨by simpa [rv] using h.1, fun x hx => ?_⟩
  simp only [rv, List.mem_map, List.mem_reverse] at hx
  obtain ⟨y, hy, rfl⟩ := hx
  obtain ⟨h1, h2⟩ := h.2 y hy
  exact ⟨by simpa using h1, fun z hz => h2 z (by simpa using hz)⟩
theorem k42_mkM (w : World) (base : Nat) (ok : Nat → Prop) (x : S42)  : k42.M w base ok x [.int .i64 x.f0, .int .i64 x.f1, .int .u64 x.f2, .int .u64 x.f3, .int .u64 x.f4, .string x.f5] := ⟨[.int .i64 x.f0], [.int .i64 x.f1, .int .u64 x.f2, .int .u64 x.f3, .int .u64 x.f4, .string x.f5], rfl, rfl, ⟨[.int .i64 x.f1], [.int .u64 x.f2, .int .u64 x.f3, .int .u64 x.f4, .string x.f5], rfl, rfl, ⟨[.int .u64 x.f2], [.int .u64 x.f3, .int .u64 x.f4, .string x.f5], rfl, rfl, ⟨[.int .u64 x.f3], [.int .u64 x.f4, .string x.f5], rfl, rfl, ⟨[.int .u64 x.f4], [.string x.f5], rfl, rfl, rfl⟩⟩⟩⟩⟩
theorem info42 : (Tryd.prog.info? 42).map (fun i => (i.zero, i.size, i.bytes)) = some (some (.agg #[(.int .i64 0), (.int .i64 0), (.int .u64 0), (.int .u64 0), (.int .u64 0), (.string ⟨#[]⟩)]), 6, 56) := by kernel_rfl
/-- The world in which one term lies in a list of its own, and that list alone in lists. -/
def ownW (w1 : World) (x : S42) : World := (w1.alloc (.cells #[.int .i64 x.f0, .int .i64 x.f1, .int .u64 x.f2, .int .u64 x.f3, .int .u64 x.f4, .string x.f5] 42)).alloc (.cells #[.slice (some ⟨w1.heap.size, 0, none⟩) 1 1] 73)
theorem ownR {w1 : World} {base : Nat} {D : List (List S42)} {v : Value} (HO : Kd.R (Kd.slice 42 k42) 73 w1 base (fun _ => True) v D) (x : S42) : Kd.R (Kd.slice 42 k42) 73 (ownW w1 x) base (fun _ => True) v D := Kd.R_alloc (Kd.R_alloc HO _) _
theorem grow_cut {w1 : World} {base : Nat} {D : List (List S42)} {Ad : Option Addr} {cd : Nat} (x : S42) (HO : Kd.R (Kd.slice 42 k42) 73 w1 base (fun _ => True) (.slice Ad D.length cd) D) (hbase : base ≤ w1.heap.size) :
    ∃ olds : List Value, olds.length = D.length * 1 ∧ (∀ b, Ad = some b → ∀ j u, olds[j]? = some u → (ownW w1 x).cell? (b.add j) = some u) ∧ (Ad = none → D.length = 0 ∧ D.length = 0) ∧ (∀ (j : Nat) (u : Value), [Value.slice (some ⟨w1.heap.size, 0, none⟩) 1 1][j]? = some u → (ownW w1 x).cell? (Addr.add ⟨w1.heap.size + 1, 0, none⟩ j) = some u) ∧
      ∀ v' w', w'.ownsRow (ownW w1 x).heap.size 73 1 v' (D.length + 1) (olds ++ [.slice (some ⟨w1.heap.size, 0, none⟩) 1 1]) → (ownW w1 x).grownBy w' none → ∃ (Ao : Option Addr) (co : Nat), v' = .slice Ao (D ++ [[x]]).length co ∧ Kd.C (Kd.slice 42 k42) w' Ao (D ++ [[x]]).length (D ++ [[x]]) := by
  have hsz : w1.heap.size ≤ (ownW w1 x).heap.size := by unfold ownW; simp; omega
  have HOW : Kd.R (Kd.slice 42 k42) 73 (ownW w1 x) base (fun _ => True) (.slice Ad D.length cd) D := Kd.R_alloc (Kd.R_alloc HO _) _
  obtain ⟨h0, inner, hown, hr⟩ := HOW
  have hlen : inner.length = D.length * 1 := hown.1
  refine ⟨inner, hlen, ?_, ?_, ?_, ?_⟩
  · intro b hb j u hj
    rcases hown.2 with ⟨e, _⟩ | ⟨g, cap, cur, e, _, hh, _, _, _, ht⟩
    · injection e with e1 _ _
      rw [hb] at e1
      cases e1
    · injection e with e1 _ _
      rw [hb] at e1
      injection e1 with e1
      subst e1
      rw [Addr.add_lit, Nat.zero_add, cell_of_row (ownW w1 x) g j cur 73 (0, 0) hh]
      rw [← ht, List.getElem?_take] at hj
      split at hj
      · rw [← Array.getElem?_toList]; exact hj
      · cases hj
  · intro hn
    rcases hown.2 with ⟨_, e⟩ | ⟨g, cap, cur, e, _⟩
    · exact ⟨e, e⟩
    · injection e with e1 _ _
      rw [hn] at e1
      cases e1
  · intro j u hj
    cases j with
    | zero =>
      have e : Value.slice (some ⟨w1.heap.size, 0, none⟩) 1 1 = u := by simpa using hj
      subst e
      have hb2 : (ownW w1 x).heap[w1.heap.size + 1]? = some (.cells #[.slice (some ⟨w1.heap.size, 0, none⟩) 1 1] 73 (0, 0)) := by
        have := heap_alloc_new (w1.alloc (.cells #[.int .i64 x.f0, .int .i64 x.f1, .int .u64 x.f2, .int .u64 x.f3, .int .u64 x.f4, .string x.f5] 42)) (.cells #[.slice (some ⟨w1.heap.size, 0, none⟩) 1 1] 73)
        simpa [ownW] using this
      rw [Addr.add_lit]
      exact (blk_cell hb2 0).trans rfl
    | succ j => simp at hj
  · intro v' w' ho hg
    obtain ⟨a1, a2, a3, a4, a5⟩ := hg
    have hg' : (ownW w1 x).grownBy w' (Value.slice Ad D.length cd).ownBlock := ⟨a1, a2, a3, a4, fun k hk _ => a5 k hk (by simp)⟩
    have hb1 : (ownW w1 x).heap[w1.heap.size]? = some (.cells #[.int .i64 x.f0, .int .i64 x.f1, .int .u64 x.f2, .int .u64 x.f3, .int .u64 x.f4, .string x.f5] 42 (0, 0)) := by
      unfold ownW
      exact blk_alloc (heap_alloc_new w1 _) _
    have hM : Kd.M (Kd.slice 42 k42) (ownW w1 x) base (fun k => k = w1.heap.size) [x] [.slice (some ⟨w1.heap.size, 0, none⟩) 1 1] := by
      refine ⟨_, rfl, fun k hk => ?_, [.int .i64 x.f0, .int .i64 x.f1, .int .u64 x.f2, .int .u64 x.f3, .int .u64 x.f4, .string x.f5], ⟨rfl, .inr ⟨w1.heap.size, 1, _, rfl, hbase, hb1, Nat.le_refl _, by decide, rfl, rfl⟩⟩, Reps.c6 (k42_mkM _ _ _ x) (Reps.none _ _)⟩
      simpa [Value.ownBlock] using hk.symm
    have hne : some w1.heap.size ≠ (Value.slice Ad D.length cd).ownBlock := fun e => by
      have := Kd.R_lt HO _ e.symm
      omega
    have hR := Kd.R_appended (d := Kd.slice 42 k42) (okp := fun k => k = w1.heap.size) h0 hr hM (fun k hk => ⟨trivial, by rw [hk]; exact hne⟩) (fun _ _ => trivial) (own_weaken ho (Nat.le_trans hbase hsz)) hg' (by
      cases hv : v'.ownBlock with
      | none =>
        rcases ho.2 with ⟨_, e⟩ | ⟨g, cap, cur, e, _⟩
        · omega
        · subst e; simp [Value.ownBlock] at hv
      | some k => exact Or.inr ⟨k, rfl, own_base ho k hv⟩)
    obtain ⟨Ao, co, e, _, hC⟩ := Kd.R_reads hR
    exact ⟨Ao, co, e, hC⟩
theorem lens_le : ∀ (L : List (List S42)), (∀ x ∈ L, x.length ≠ 0) → L.length ≤ lens L
  | [], _ => Nat.le_refl _
  | x :: r, h => by
    have h1 := h x List.mem_cons_self
    have h2 := lens_le r (fun y hy => h y (List.mem_cons_of_mem _ hy))
    simp only [lens, List.length_cons]
    omega
theorem cmp_self (M m t : Int) (u : ByteArray) (h : GoodU u) : cmpVer M m t u M m t u = 0 := by
  have s : ∀ a : Int, seg a a = 0 := fun a => by unfold seg; simp
  unfold cmpVer
  rw [s M, s m, s t, if_pos rfl, if_pos rfl, if_pos rfl]
  exact (preOrd.eq u u h h).2 rfl
theorem own_holds (M m t : Int) (u : ByteArray) (pre : Bool) (D : List (List S42)) (h : GoodU u) : termsHold M m t u pre (D ++ [[(⟨0, 3, M, m, t, u⟩ : S42)]]) = true := by
  unfold termsHold
  rw [List.any_append]
  have : listHolds M m t u pre [(⟨0, 3, M, m, t, u⟩ : S42)] = true := by
    unfold listHolds hasP sayT saysB equalB openB
    simp only [List.all_cons, List.all_nil, List.any_cons, List.any_nil, Bool.or_false, Bool.and_true, if_true, cmp_self M m t u h]
    cases pre <;> cases hu : u.toList <;> simp
  rw [List.any_cons, this, Bool.true_or, Bool.or_true]
set_option maxHeartbeats 8000000 in
set_option maxRecDepth 100000 in
theorem turned_at (A0 : Option Addr) (c0 : Nat) (L : List (List S42)) (M m t : Int) (u v : ByteArray) (pre : Bool) (w : World) (hG0 : Hand.Gl w) (hr0 : Kd.C (Kd.slice 42 k42) w A0 L.length L) (hc0 : L.length ≤ c0) :
    Calls Tryd.prog 20 #[.slice A0 L.length c0, .agg #[.int .u64 M, .int .u64 m, .int .u64 t, .string u, .string v], .bool pre] w fun e w' => e = .returned (.bool true) ∧ Below w.heap.size w w' := by
  have HG := Aside0.mk hG0
  have HR0 := Aside0.mk hr0
  have HC0 := Aside0.mk hc0
  clear hG0 hr0 hc0
  have hu29 := Tryd.underlying29
  have hu42 := Tryd.underlying42
  obtain ⟨f1, hf1⟩ : ∃ b, b = fits11 L := ⟨_, rfl⟩
  obtain ⟨f2, hf2⟩ : ∃ b, b = decide (u.size ≤ 2147483647 ∧ v.size ≤ 2147483647) := ⟨_, rfl⟩
  have HF1 := Aside0.mk hf1
  have HF2 := Aside0.mk hf2
  have C67 : ∀ w1 : World, Below w.heap.size w w1 → Calls Tryd.prog 67 #[.slice A0 L.length c0] w1 fun e w' => e = .returned (.bool f1) ∧ Below w1.heap.size w1 w' :=
    fun w1 hb => laws_zzFits11.calls (tot L + 1) A0 c0 L f1 w1 (Kd.C_below HR0.out hb) HC0.out (by rw [hf1]; exact zz11_f L _ (by omega))
  have C25 : ∀ w1 : World, Calls Tryd.prog 25 #[.agg #[.int .u64 M, .int .u64 m, .int .u64 t, .string u, .string v]] w1 fun e w' => e = .returned (.bool f2) ∧ Below w1.heap.size w1 w' :=
    fun w1 => laws_zzFits14.calls M m t u v f2 w1 (by rw [hf2]; exact fits_f M m t u v)
  have X67 := Aside0.mk C67
  have X25 := Aside0.mk C25
  clear hf1 hf2 C67 C25
  have HB := Aside0.mk (Below.refl w.heap.size w)
  go_enter Tryd.func20, Tryd.ntmps20
  go_upto_region 1 with (first | ((with_reducible refine gate_dst (N := 4) rfl ?_); (try (refine gate_guard (by rfl) ?_; dsimp only)); refine box_event ?hg (N := 4) ?hd (cs := #[.int .u64 M, .int .u64 m, .int .u64 t, .string u, .string v]) (t := 29) ?hr ?_; (case hd => rfl); (case hg => rfl); (case hr => first | (go_simp; done) | (go_simp; rfl)); intro g4 hg w5 hbox hb; have n0_ := Aside0.mk (below_step HB.out hb); have n1_ := Aside0.mk hbox; have n2_ : Aside0 (w.heap.size ≤ g4) := ⟨by rw [hg]; exact below_size HB.out⟩; clear HB; have HB := n0_; have BK4 := n1_; have GE4 := n2_; clear n0_ n1_ n2_; clear hb hbox hg))
  (try simp only [Act.put, putA, putZ, putS])
  go_cut [19] (fun v19 wc => v19 = .bool (!(f1 && f2)) ∧ Aside0 (wc.heap[g4]? = some (.cells #[.int .u64 M, .int .u64 m, .int .u64 t, .string u, .string v] 29 (0, 0))) ∧ Aside0 (Below w.heap.size w wc))
  case first =>
    cases f1 <;> cases f2
    all_goals
      go_wp2_with (first | (go_at_call 67; (with_reducible refine (X67.out _ (hbl HB.out)).mono ?_); rintro e w9 ⟨rfl, hb⟩; have n0_ := Aside0.mk (below_step (hbl HB.out) hb); have n1_ := Aside0.mk (blk_below (hbk BK4.out) hb); clear HB BK4 hb; have HB := n0_; have BK4 := n1_; clear n0_ n1_; (try clear hc0); (try clear hc1); (try clear hc2); (try clear hc3); (try clear hc4); have hc0 : w9.cell? ⟨g4, 0, none⟩ = some (.int .u64 M) := (blk_cell BK4.out 0).trans rfl; have hc1 : w9.cell? ⟨g4, 1, none⟩ = some (.int .u64 m) := (blk_cell BK4.out 1).trans rfl; have hc2 : w9.cell? ⟨g4, 2, none⟩ = some (.int .u64 t) := (blk_cell BK4.out 2).trans rfl; have hc3 : w9.cell? ⟨g4, 3, none⟩ = some (.string u) := (blk_cell BK4.out 3).trans rfl; have hc4 : w9.cell? ⟨g4, 4, none⟩ = some (.string v) := (blk_cell BK4.out 4).trans rfl) | (go_at_call 25; (with_reducible refine (X25.out _).mono ?_); rintro e w10 ⟨rfl, hb⟩; have n0_ := Aside0.mk (below_step (hbl HB.out) hb); have n1_ := Aside0.mk (blk_below (hbk BK4.out) hb); clear HB BK4 hb; have HB := n0_; have BK4 := n1_; clear n0_ n1_; (try clear hc0); (try clear hc1); (try clear hc2); (try clear hc3); (try clear hc4); have hc0 : w10.cell? ⟨g4, 0, none⟩ = some (.int .u64 M) := (blk_cell BK4.out 0).trans rfl; have hc1 : w10.cell? ⟨g4, 1, none⟩ = some (.int .u64 m) := (blk_cell BK4.out 1).trans rfl; have hc2 : w10.cell? ⟨g4, 2, none⟩ = some (.int .u64 t) := (blk_cell BK4.out 2).trans rfl; have hc3 : w10.cell? ⟨g4, 3, none⟩ = some (.string u) := (blk_cell BK4.out 3).trans rfl; have hc4 : w10.cell? ⟨g4, 4, none⟩ = some (.string v) := (blk_cell BK4.out 4).trans rfl))
      go_meet
      case rel => exact ⟨rfl, ⟨hbk BK4.out⟩, ⟨hbl HB.out⟩⟩
  case rest =>
  clear BK4 HB
  obtain ⟨rfl, BK4, HB⟩ := hcut
  cases hff : (f1 && f2)
  · go_wp2
    go_ret
    exact ⟨rfl, HB.out⟩
  obtain ⟨e1, e2⟩ : f1 = true ∧ f2 = true := by simpa using hff
  subst e1; subst e2
  have hfl := fits_len HF1.out.symm
  have huv : u.size ≤ 2147483647 ∧ v.size ≤ 2147483647 := of_decide_eq_true HF2.out.symm
  obtain ⟨b3, hb3, hB3⟩ := scGood_f L HF1.out.symm (tot L + 5000000000) (by omega)
  obtain ⟨b4, hb4⟩ : ∃ b, b = goodS (⟨M, m, t, u, v⟩ : S29) := ⟨_, rfl⟩
  have X74 : Aside0 (∀ w1 : World, Below w.heap.size w w1 → Calls Tryd.prog 74 #[.slice A0 L.length c0] w1 fun e w' => e = .returned (.bool b3) ∧ Below w1.heap.size w1 w') :=
    ⟨fun w1 hb => laws_scGood.calls (tot L + 5000000000) A0 c0 L b3 w1 (Kd.C_below HR0.out hb) HC0.out hb3⟩
  have X26 : Aside0 (∀ (w1 : World) (A : Option Addr) (n c : Nat), Kd.R k29 29 w1 w.heap.size (fun _ => True) (.slice A n c) [(⟨M, m, t, u, v⟩ : S29)] → Calls Tryd.prog 26 #[.slice A n c] w1 fun e w' => e = .returned (.bool b4) ∧ Below w1.heap.size w1 w') :=
    ⟨fun w1 A n c hR => by
      obtain ⟨r1, r2, r3⟩ := Kd.R_reads' hR
      subst r1
      exact laws_svGood.calls 200201 A c [(⟨M, m, t, u, v⟩ : S29)] b4 w1 r3 r2 (by rw [hb4]; exact good1 _ (by omega) _)⟩
  have HB3 := Aside0.mk hB3
  have HB4 := Aside0.mk hb4
  clear hb3 hB3 hb4 HF1 HF2 X67 X25 hff
  go_upto_region 3 with fail
  (try simp only [Act.put, putA, putZ, putS])
  go_cut [28] (fun v28 wc => v28 = .bool (!(b3 && b4)) ∧ Aside0 (wc.heap[g4]? = some (.cells #[.int .u64 M, .int .u64 m, .int .u64 t, .string u, .string v] 29 (0, 0))) ∧ Aside0 (Below w.heap.size w wc))
  case first =>
    have hc0 : wc.cell? ⟨g4, 0, none⟩ = some (.int .u64 M) := (blk_cell BK4.out 0).trans rfl
    have hc1 : wc.cell? ⟨g4, 1, none⟩ = some (.int .u64 m) := (blk_cell BK4.out 1).trans rfl
    have hc2 : wc.cell? ⟨g4, 2, none⟩ = some (.int .u64 t) := (blk_cell BK4.out 2).trans rfl
    have hc3 : wc.cell? ⟨g4, 3, none⟩ = some (.string u) := (blk_cell BK4.out 3).trans rfl
    have hc4 : wc.cell? ⟨g4, 4, none⟩ = some (.string v) := (blk_cell BK4.out 4).trans rfl
    cases b3 <;> cases b4
    all_goals
      go_wp2_with (first
        | (go_at_call 74; (with_reducible refine (X74.out _ (hbl HB.out)).mono ?_); rintro e w9 ⟨rfl, hb⟩; have n0_ := Aside0.mk (below_step (hbl HB.out) hb); have n1_ := Aside0.mk (blk_below (hbk BK4.out) hb); clear HB BK4 hb; have HB := n0_; have BK4 := n1_; clear n0_ n1_; (try clear hc0); (try clear hc1); (try clear hc2); (try clear hc3); (try clear hc4); have hc0 : w9.cell? ⟨g4, 0, none⟩ = some (.int .u64 M) := (blk_cell BK4.out 0).trans rfl; have hc1 : w9.cell? ⟨g4, 1, none⟩ = some (.int .u64 m) := (blk_cell BK4.out 1).trans rfl; have hc2 : w9.cell? ⟨g4, 2, none⟩ = some (.int .u64 t) := (blk_cell BK4.out 2).trans rfl; have hc3 : w9.cell? ⟨g4, 3, none⟩ = some (.string u) := (blk_cell BK4.out 3).trans rfl; have hc4 : w9.cell? ⟨g4, 4, none⟩ = some (.string v) := (blk_cell BK4.out 4).trans rfl)
        | ((with_reducible refine gate_dst (N := 25) rfl ?_); (try (refine gate_guard (by rfl) ?_; dsimp only)); refine Kd.R_lit k29 _ 29 ?hg (N := 25) ?hd (xs := ([(⟨M, m, t, u, v⟩ : S29)] : List (S29))) (inner := [.int .u64 M, .int .u64 m, .int .u64 t, .string u, .string v]) (ok := fun _ => True) (okp := fun _ => True) ?hr ?hp (fun _ hk => hk) trivial (Below.refl _ _) (Nat.le_refl _) (by simp) ?_; (case hd => rfl); (case hg => rfl); (case hr => first | (go_simp; done) | (go_simp; rfl)); (case hp => exact (Reps.c5 (show Kd.M k29 _ _ _ (⟨M, m, t, u, v⟩ : S29) [.int .u64 M, .int .u64 m, .int .u64 t, .string u, .string v] from (k29_mkM _ _ _ (⟨M, m, t, u, v⟩ : S29))) (Reps.none _ _))); intro v25 w11 ho hb hg_ hnew_; clear hg_ hnew_; have n2_ := Aside0.mk (Kd.R_lower ho (below_size (hbl HB.out))); obtain ⟨Ao, co, eo⟩ := Kd.R_slice n2_.out; replace eo : v25 = .slice Ao 1 co := eo; subst eo; have HO := n2_; clear n2_ ho; have n0_ := Aside0.mk (below_step (hbl HB.out) hb); have n1_ := Aside0.mk (blk_below (hbk BK4.out) hb); clear HB BK4 hb; have HB := n0_; have BK4 := n1_; clear n0_ n1_; (try clear hc0); (try clear hc1); (try clear hc2); (try clear hc3); (try clear hc4); have hc0 : w11.cell? ⟨g4, 0, none⟩ = some (.int .u64 M) := (blk_cell BK4.out 0).trans rfl; have hc1 : w11.cell? ⟨g4, 1, none⟩ = some (.int .u64 m) := (blk_cell BK4.out 1).trans rfl; have hc2 : w11.cell? ⟨g4, 2, none⟩ = some (.int .u64 t) := (blk_cell BK4.out 2).trans rfl; have hc3 : w11.cell? ⟨g4, 3, none⟩ = some (.string u) := (blk_cell BK4.out 3).trans rfl; have hc4 : w11.cell? ⟨g4, 4, none⟩ = some (.string v) := (blk_cell BK4.out 4).trans rfl)
        | (go_at_call 26; (with_reducible refine (X26.out _ _ _ _ HO.out).mono ?_); rintro e w12 ⟨rfl, hb⟩; have n0_ := Aside0.mk (below_step (hbl HB.out) hb); have n1_ := Aside0.mk (blk_below (hbk BK4.out) hb); clear HB BK4 hb; have HB := n0_; have BK4 := n1_; clear n0_ n1_; (try clear hc0); (try clear hc1); (try clear hc2); (try clear hc3); (try clear hc4); have hc0 : w12.cell? ⟨g4, 0, none⟩ = some (.int .u64 M) := (blk_cell BK4.out 0).trans rfl; have hc1 : w12.cell? ⟨g4, 1, none⟩ = some (.int .u64 m) := (blk_cell BK4.out 1).trans rfl; have hc2 : w12.cell? ⟨g4, 2, none⟩ = some (.int .u64 t) := (blk_cell BK4.out 2).trans rfl; have hc3 : w12.cell? ⟨g4, 3, none⟩ = some (.string u) := (blk_cell BK4.out 3).trans rfl; have hc4 : w12.cell? ⟨g4, 4, none⟩ = some (.string v) := (blk_cell BK4.out 4).trans rfl))
      go_meet
      case rel => exact ⟨rfl, ⟨hbk BK4.out⟩, ⟨hbl HB.out⟩⟩
  case rest =>
  clear BK4 HB
  obtain ⟨rfl, BK4, HB⟩ := hcut
  cases hff : (b3 && b4)
  · go_wp2
    go_ret
    exact ⟨rfl, HB.out⟩
  obtain ⟨e1, e2⟩ : b3 = true ∧ b4 = true := by simpa using hff
  subst e1; subst e2
  have hG := (HB3.out rfl).1
  have hgs := good_u HB4.out.symm
  have hask : askT L := by
    refine ⟨hfl.1, fun x hx => ⟨(hfl.2 x hx).1, fun y hy => ?_⟩⟩
    obtain ⟨_, _, q1, q2, q3, _⟩ := (hG x hx).2 y hy
    have := (hfl.2 x hx).2 y hy
    exact ⟨q1, q2, q3, by omega⟩
  have HASK := Aside0.mk hask
  have HGU : Aside0 (GoodU u) := ⟨hgs.2.2⟩
  have HU : Aside0 (u.size ≤ 2147483647) := ⟨huv.1⟩
  have hlen : 0 < L.length := by
    cases L with
    | nil => exact absurd (HB3.out rfl).2.2 (by simp [lens])
    | cons x r => simp
  have HLEN : Aside0 (0 < L.length ∧ L.length ≤ 2147483647) := ⟨hlen, hfl.1⟩
  have HLT : Aside0 (L.length ≤ 24) := ⟨by have h1 := (HB3.out rfl).2.1; have h2 := lens_le L (fun x hx => (hG x hx).1); omega⟩
  clear hG hgs hask huv hfl HB3 HB4 X74 X26 hff hlen
  go_wp2
  go_loopg [7, 8] L.length (fun kq_ v7 v8 w' => ∃ (x : Int) (D : List (List S42)), v8 = .int .i64 x ∧ Aside0 (-1 ≤ x ∧ x + 1 = kq_ ∧ x < L.length) ∧ Aside0 (D = rv (L.drop (x + 1).toNat)) ∧ Aside0 (Kd.R (Kd.slice 42 k42) 73 w' w.heap.size (fun _ => True) v7 D) ∧ Aside0 (w'.heap[g4]? = some (.cells #[.int .u64 M, .int .u64 m, .int .u64 t, .string u, .string v] 29 (0, 0))) ∧ Aside0 (Below w.heap.size w w'))
  case atStart => exact ⟨wrap64 ((L.length : Int) - 1), [], rfl, ⟨by have := HLEN.out; rw [IntWalk.wrap64_in _ (by omega)]; omega⟩, ⟨by have := HLEN.out; rw [IntWalk.wrap64_in _ (by omega), show ((L.length : Int) - 1 + 1).toNat = L.length by omega, List.drop_length]; rfl⟩, ⟨Kd.R_nil _ _ _ _ _⟩, BK4, HB⟩
  case round =>
    clear BK4 HB
    obtain ⟨x, D, rfl, HX, HD, HO, BK4, HB⟩ := hrel
    have hx := HX.out
    by_cases c3 : x ≥ 0
    · have c3b0 : decide (x ≥ 0) = true := decide_eq_true c3
      have c3b1 : decide (0 ≤ x) = true := decide_eq_true c3
      obtain ⟨k1, rfl⟩ : ∃ k1, gk = k1 + 1 := ⟨gk - 1, by omega⟩
      have p1 : 0 ≤ x := c3
      have q1 : x < (L.length : Int) := hx.2.2
      obtain ⟨ad1, A1, c1, e1, hx1, hl1, hi1⟩ := at_L5 HR0.out x p1 q1
      cases e1
      have HX1 := Aside0.mk hx1
      replace hx1 := (HB.out.cell (World.block_lt_of_cell? w _ hx1)).trans hx1
      have HR1 := Aside0.mk hi1
      have hmem : rd_L5 L x ∈ L := getD_mem L [] x.toNat (by omega)
      have hm1 := (HASK.out.2 _ hmem).1
      have hds : rv (L.drop x.toNat) = D ++ [(rd_L5 L x).reverse] := by
        rw [drop_get L [] x.toNat (by omega), rv_cons, HD.out, show (x + 1).toNat = x.toNat + 1 by omega]; rfl
      have HDS := Aside0.mk hds
      have HM1 := Aside0.mk hm1
      have HX2 : Aside0 (0 ≤ x ∧ x = k1 ∧ x < L.length) := ⟨by omega⟩
      have HDL : Aside0 (D.length ≤ 2147483647) := ⟨by rw [HD.out]; simp [rv]; have := HLEN.out; omega⟩
      generalize rd_L5 L x = xs at hx1 HX1 hl1 HR1 HM1 HDS
      clear hi1 hmem hm1 hds HD hx HX
      replace p1 := eq_true p1
      replace q1 := eq_true q1
      replace c3 := eq_true c3
      go_wp2
      go_loopg [9, 10] xs.length (fun kq_ v9 v10 w' => ∃ (y : Int) (ys : List S42), v10 = .int .i64 y ∧ Aside0 (-1 ≤ y ∧ y + 1 = kq_ ∧ y < xs.length) ∧ Aside0 (ys = (xs.drop (y + 1).toNat).reverse) ∧ Aside0 (Kd.R k42 42 w' w.heap.size (fun _ => True) v9 ys) ∧ Aside0 (Kd.R (Kd.slice 42 k42) 73 w' w.heap.size (fun k => True ∧ some k ≠ v9.ownBlock) u7 D) ∧ Aside0 (w'.heap[g4]? = some (.cells #[.int .u64 M, .int .u64 m, .int .u64 t, .string u, .string v] 29 (0, 0))) ∧ Aside0 (Below w.heap.size w w'))
      case atStart => exact ⟨wrap64 ((xs.length : Int) - 1), [], rfl, ⟨by have := HM1.out; rw [IntWalk.wrap64_in _ (by omega)]; omega⟩, ⟨by have := HM1.out; rw [IntWalk.wrap64_in _ (by omega), show ((xs.length : Int) - 1 + 1).toNat = xs.length by omega, List.drop_length]; rfl⟩, ⟨Kd.R_nil _ _ _ _ _⟩, ⟨Kd.R_apart_nil HO.out⟩, BK4, HB⟩
      case round =>
        clear HO BK4 HB hx1
        obtain ⟨y, ys, rfl, HY, HE, HTR, HOR, BK4, HB⟩ := hrel
        have hy := HY.out
        by_cases d3 : y ≥ 0
        · have d3b0 : decide (y ≥ 0) = true := decide_eq_true d3
          have d3b1 : decide (0 ≤ y) = true := decide_eq_true d3
          obtain ⟨k2, rfl⟩ : ∃ k2, gk = k2 + 1 := ⟨gk - 1, by omega⟩
          have p2 : 0 ≤ y := d3
          have q2 : y < (xs.length : Int) := hy.2.2
          have hx1 := HX1.out
          replace hx1 := (HB.out.cell (World.block_lt_of_cell? w _ hx1)).trans hx1
          obtain ⟨ad2, e2, hy0, hy1, hy2, hy3, hy4, hy5⟩ := at_T42 HR1.out y p2 q2
          cases e2
          replace hy0 := (HB.out.cell (World.block_lt_of_cell? w _ hy0)).trans hy0
          replace hy1 := (HB.out.cell (World.block_lt_of_cell? w _ hy1)).trans hy1
          replace hy2 := (HB.out.cell (World.block_lt_of_cell? w _ hy2)).trans hy2
          replace hy3 := (HB.out.cell (World.block_lt_of_cell? w _ hy3)).trans hy3
          replace hy4 := (HB.out.cell (World.block_lt_of_cell? w _ hy4)).trans hy4
          replace hy5 := (HB.out.cell (World.block_lt_of_cell? w _ hy5)).trans hy5
          have hes : (xs.drop y.toNat).reverse = ys ++ [rd_T42 xs y] := by
            rw [drop_get xs z42 y.toNat (by omega), List.reverse_cons, HE.out, show (y + 1).toNat = y.toNat + 1 by omega]; rfl
          have HES := Aside0.mk hes
          have HYL : Aside0 (ys.length ≤ 2147483647) := ⟨by rw [HE.out]; simp; have := HM1.out; omega⟩
          have HY2 : Aside0 (0 ≤ y ∧ y = k2 ∧ y < xs.length) := ⟨by omega⟩
          clear hes HE hy HY
          generalize rd_T42 xs y = tt at hy0 hy1 hy2 hy3 hy4 hy5 HES
          obtain ⟨y2, hy2'⟩ : ∃ z, z = ys ++ [tt] := ⟨_, rfl⟩
          have NY := Aside0.mk hy2'
          clear hy2'
          replace p2 := eq_true p2
          replace q2 := eq_true q2
          replace d3 := eq_true d3
          go_wp2_with (first
            | ((with_reducible refine gate_builtin (b := .append) (xs := #[.tmp 46, .tmp 54]) rfl ?_); go_loud (at_builtin; refine Kd.R_append k42 (w0 := w) w.heap.size rfl (.tmp 46) (.tmp 54) 73 42 (.agg #[(.int .i64 0), (.int .i64 0), (.int .u64 0), (.int .u64 0), (.int .u64 0), (.string ⟨#[]⟩)]) 56 rfl Tryd.underlying73 info42 rfl (by decide) (by omega) u9 ys tt [.int .i64 tt.f0, .int .i64 tt.f1, .int .u64 tt.f2, .int .u64 tt.f3, .int .u64 tt.f4, .string tt.f5] (fun _ => True) (fun _ => False) rfl rfl ?aP (fun _ hk => hk.elim) ?aF ?aO ?aB ?aS ?aL ?_; (case aP => exact k42_mkM _ _ _ tt); (case aF => exact (fun _ _ => trivial)); (case aO => exact HTR.out); (case aB => exact HB.out); (case aS => exact below_size HB.out); (case aL => have := HYL.out; omega); intro v1 w2 ho hb hg hat; rw [← NY.out] at ho; have n0_ := Aside0.mk hb; have n1_ := Aside0.mk ho; have n2_ := Aside0.mk (Kd.R_after HOR.out hg hat); have n3_ := Aside0.mk (blk_grown BK4.out hg (Kd.R_ne HTR.out BK4.out (by decide))); clear HB HTR HOR BK4 ho hb hg hat; have HB := n0_; have HTR := n1_; have HOR := n2_; have BK4 := n3_; clear n0_ n1_ n2_ n3_)))
          go_roundg k2
          case measure => omega
          case rel => exact ⟨wrap64 (y - 1), y2, rfl, ⟨by have := HY2.out; have := HM1.out; rw [IntWalk.wrap64_in _ (by omega)]; omega⟩, ⟨by have := HY2.out; have := HM1.out; rw [IntWalk.wrap64_in _ (by omega), show (y - 1 + 1).toNat = y.toNat by omega, HES.out, NY.out]⟩, HTR, HOR, BK4, HB⟩
        · have d3b0 : decide (y ≥ 0) = false := decide_eq_false d3
          have d3b1 : decide (0 ≤ y) = false := decide_eq_false d3
          have hes : ys = xs.reverse := by rw [HE.out, show (y + 1).toNat = 0 by omega, List.drop_zero]
          have HES := Aside0.mk hes
          clear HE hes hy HY d3
          obtain ⟨Ai, ci, rfl⟩ := Kd.R_slice HTR.out
          obtain ⟨D2, hD2⟩ : ∃ z, z = D ++ [ys] := ⟨_, rfl⟩
          have ND := Aside0.mk hD2
          clear hD2
          go_wp2_with (first
            | ((with_reducible refine gate_builtin (b := .append) (xs := #[.tmp 56, .tmp 58]) rfl ?_); at_builtin; refine Kd.R_append (Kd.slice 42 k42) (w0 := w) w.heap.size rfl (.tmp 56) (.tmp 58) 62 73 (.slice none 0 0) 24 rfl Tryd.underlying62 info73 rfl (by decide) (by omega) u7 D ys [.slice Ai ys.length ci] (fun _ => True) (fun k => True ∧ some k ≠ u7.ownBlock) rfl rfl ?aP (fun _ hk => hk) ?aF ?aO ?aB ?aS ?aL ?_; (case aP => exact ⟨_, rfl, Kd.R_apartR HTR.out HOR.out (by decide)⟩); (case aF => exact (fun _ _ => trivial)); (case aO => exact Kd.R_drop HOR.out); (case aB => exact HB.out); (case aS => exact below_size HB.out); (case aL => have := HDL.out; omega); intro v1 w2 ho hb hg hat; rw [← ND.out] at ho; have n0_ := Aside0.mk hb; have n1_ := Aside0.mk ho; have n3_ := Aside0.mk (blk_grown BK4.out hg (Kd.R_ne HOR.out BK4.out (by decide))); clear HB HTR HOR BK4 ho hb hg hat; have HB := n0_; have HO := n1_; have BK4 := n3_; clear n0_ n1_ n3_))
          go_roundg k1
          case measure => omega
          case rel => exact ⟨wrap64 (x - 1), D2, rfl, ⟨by have := HX2.out; have := HLEN.out; rw [IntWalk.wrap64_in _ (by omega)]; omega⟩, ⟨by have := HX2.out; have := HLEN.out; rw [IntWalk.wrap64_in _ (by omega), show (x - 1 + 1).toNat = x.toNat by omega, HDS.out, ND.out, HES.out]⟩, HO, BK4, HB⟩
    · have c3b0 : decide (x ≥ 0) = false := decide_eq_false c3
      have c3b1 : decide (0 ≤ x) = false := decide_eq_false c3
      have hfin : D = rv L := by rw [HD.out, show (x + 1).toNat = 0 by omega, List.drop_zero]
      have HFIN := Aside0.mk hfin
      clear hfin HD hx HX c3
      obtain ⟨Ad, cd, rfl⟩ := Kd.R_slice HO.out
      have hcd : D.length ≤ cd := (Kd.R_reads' HO.out).2.1
      generalize hL2 : rv L = D0 at HFIN
      have hLL := HFIN.out
      subst hLL
      have hthD : termsHold M m t u pre D = termsHold M m t u pre L := by rw [← hL2]; exact termsHold_rv M m t u pre L
      have haskD : askT D := by rw [← hL2]; exact askT_rv HASK.out
      have hlenD : D.length ≤ 2147483647 := haskD.1
      have hlenP : 0 < D.length := by rw [← hL2]; simp [rv]; exact HLEN.out.1
      have hown : termsHold M m t u pre (D ++ [[(⟨0, 3, M, m, t, u⟩ : S42)]]) = true := own_holds M m t u pre D HGU.out
      have hasko : askT (D ++ [[(⟨0, 3, M, m, t, u⟩ : S42)]]) := by
        have hn : D.length < 2147483647 := by have h1 := HLEN.out.2; have h2 := HLT.out; rw [← hL2]; simp [rv]; omega
        refine ⟨by simp; omega, fun x hx => ?_⟩
        rcases List.mem_append.1 hx with hx | hx
        · exact haskD.2 x hx
        · obtain rfl := List.mem_singleton.1 hx
          refine ⟨by simp, fun y hy => ?_⟩
          obtain rfl := List.mem_singleton.1 hy
          exact ⟨Int.le_refl 0, (by omega : (0 : Int) < 8), (by omega : (0 : Int) ≤ 3), by have := HU.out; show u.size < 8796093022208; omega⟩
      have HTD := Aside0.mk hthD
      have HAD := Aside0.mk haskD
      have HOW := Aside0.mk hown
      have HAO := Aside0.mk hasko
      have HLD : Aside0 (0 < D.length ∧ D.length ≤ 2147483647) := ⟨hlenP, hlenD⟩
      clear HFIN hL2 hthD haskD hown hasko hlenD hlenP
      go_upto_region 15 with fail
      (try simp only [Act.put, putA, putZ, putS])
      go_cut [11] (fun v11 wc => ∃ (Ao : Option Addr) (co : Nat) (L3 : List (List S42)), v11 = .slice Ao L3.length co ∧ Aside0 (L3 = D ++ [[(⟨0, 3, M, m, t, u⟩ : S42)]]) ∧ Aside0 (Kd.C (Kd.slice 42 k42) wc Ao L3.length L3) ∧ Aside0 (Kd.R (Kd.slice 42 k42) 73 wc w.heap.size (fun _ => True) (.slice Ad D.length cd) D) ∧ Aside0 (wc.heap[g4]? = some (.cells #[.int .u64 M, .int .u64 m, .int .u64 t, .string u, .string v] 29 (0, 0))) ∧ Aside0 (Below w.heap.size w wc))
      case first =>
        have hc0 : wr.cell? ⟨g4, 0, none⟩ = some (.int .u64 M) := (blk_cell BK4.out 0).trans rfl
        have hc1 : wr.cell? ⟨g4, 1, none⟩ = some (.int .u64 m) := (blk_cell BK4.out 1).trans rfl
        have hc2 : wr.cell? ⟨g4, 2, none⟩ = some (.int .u64 t) := (blk_cell BK4.out 2).trans rfl
        have hc3 : wr.cell? ⟨g4, 3, none⟩ = some (.string u) := (blk_cell BK4.out 3).trans rfl
        have hc4 : wr.cell? ⟨g4, 4, none⟩ = some (.string v) := (blk_cell BK4.out 4).trans rfl
        obtain ⟨i0, hi0, hz0⟩ := Option.map_eq_some_iff.1 info73
        simp only [Prod.mk.injEq] at hz0
        have HI := Aside0.mk (⟨hi0, hz0⟩ : Tryd.prog.info? 73 = some i0 ∧ _)
        obtain ⟨L3, hL3⟩ : ∃ z, z = D ++ [[(⟨0, 3, M, m, t, u⟩ : S42)]] := ⟨_, rfl⟩
        have NL := Aside0.mk hL3
        clear hi0 hz0 hL3
        go_region_law (first
          | (refine goes_ Tryd.func40 (by kernel_rfl) rfl #[.int .i64 0, .agg #[.int .u64 M, .int .u64 m, .int .u64 t, .string u, .string v], .int .i64 3] (by rfl) rfl rfl (by (try simp only [List.map_toArray, List.map_cons, List.map_nil]); first | done | rfl) ?_; refine (stTerm_3 0 M m t u v 3 (by omega) (by omega) _).mono ?_; rintro e w1 ⟨rfl, hb⟩; refine ⟨_, rfl, ?_⟩; have n2_ := Aside0.mk (Kd.R_below (by (with_reducible repeat (first | apply Kd.R_alloc | apply Kd.R_drewN | apply Kd.R_drew)); exact HO.out) hb); clear HO; have HO := n2_; clear n2_; have n0_ := Aside0.mk (below_step (hbl HB.out) hb); have n1_ := Aside0.mk (blk_below (hbk BK4.out) hb); clear HB BK4 hb; have HB := n0_; have BK4 := n1_; clear n0_ n1_; (try clear hc0); (try clear hc1); (try clear hc2); (try clear hc3); (try clear hc4); have hc0 : w1.cell? ⟨g4, 0, none⟩ = some (.int .u64 M) := (blk_cell BK4.out 0).trans rfl; have hc1 : w1.cell? ⟨g4, 1, none⟩ = some (.int .u64 m) := (blk_cell BK4.out 1).trans rfl; have hc2 : w1.cell? ⟨g4, 2, none⟩ = some (.int .u64 t) := (blk_cell BK4.out 2).trans rfl; have hc3 : w1.cell? ⟨g4, 3, none⟩ = some (.string u) := (blk_cell BK4.out 3).trans rfl; have hc4 : w1.cell? ⟨g4, 4, none⟩ = some (.string v) := (blk_cell BK4.out 4).trans rfl)
          | (obtain ⟨olds, hol, hoc, hon, hnc, hoK⟩ := grow_cut (⟨0, 3, M, m, t, u⟩ : S42) HO.out (below_size HB.out); refine step_append_grows rfl (.tmp 65) (.tmp 69) 62 rfl 73 i0 (.slice none 0 0) 1 24 Tryd.underlying62 HI.out.1 HI.out.2.1 HI.out.2.2.1 HI.out.2.2.2 rfl (by decide) Ad D.length D.length olds ?hs hon hol ?holds ⟨w1.heap.size + 1, 0, none⟩ 1 1 [.slice (some ⟨w1.heap.size, 0, none⟩) 1 1] ?hx rfl ?hc ?h1 ?hf ?hb1 ?hb2 ?_; (case hs => rfl); (case holds => exact hoc); (case hx => first | rfl | (go_simp; done) | (go_simp; rfl)); (case hc => exact hnc); (case h1 => exact (fun u_ hu_ => by rw [List.mem_singleton.1 hu_]; rfl)); (case hf => omega); (case hb1 => have := HLD.out; unfold maxLen; omega); (case hb2 => have := HLD.out; omega); intro v' w2 hown hgrow; obtain ⟨Ao, co, eo, hC⟩ := hoK v' w2 hown hgrow; rw [← NL.out] at eo hC; subst eo; have n0_ := Aside0.mk (Below.grown (below_alloc (below_alloc HB.out _) _) hgrow (below_size (below_alloc (below_alloc HB.out _) _)) (fun k hk => by cases hk)); have q1_ : Kd.R (Kd.slice 42 k42) 73 w2 w.heap.size (fun _ => True) (.slice Ad D.length cd) D := Kd.R_step (ownR HO.out (⟨0, 3, M, m, t, u⟩ : S42)) (fun k_ _ hk_ => hgrow.block k_ hk_ (Option.some_ne_none k_)); have n1_ := Aside0.mk q1_; clear q1_; have q2_ : w2.heap[g4]? = some (.cells #[.int .u64 M, .int .u64 m, .int .u64 t, .string u, .string v] 29 (0, 0)) := blk_grown (row := none) (blk_alloc (blk_alloc BK4.out _) _) hgrow (Option.some_ne_none _); have n2_ := Aside0.mk q2_; clear q2_; have n3_ := Aside0.mk hC; clear HB HO BK4 hC hown hgrow hol hoc hon hnc hoK; have HB := n0_; have HO := n1_; have BK4 := n2_; have HC3 := n3_; clear n0_ n1_ n2_ n3_))
        all_goals
          go_wp2
          go_meet
          case rel => exact ⟨Ao, co, L3, rfl, NL, HC3, HO, BK4, HB⟩
      case rest =>
        clear BK4 HB HO
        obtain ⟨Ao, co, L3, rfl, NL, HC3, HO, BK4, HB⟩ := hcut
        obtain ⟨r, hr⟩ : ∃ r, r = termsHold M m t u pre L := ⟨_, rfl⟩
        have hCD := (Kd.R_reads' HO.out).2.2
        have X1 : Aside0 (∀ w1 : World, Below w.heap.size w w1 → Calls Tryd.prog 70 #[.slice A0 L.length c0, .agg #[.int .u64 M, .int .u64 m, .int .u64 t, .string u, .string v], .bool pre] w1 fun e w' => e = .returned (.bool r) ∧ Below w1.heap.size w1 w') :=
          ⟨fun w1 hb => by rw [hr]; exact TermsHold_any A0 c0 L M m t u v pre w1 (Kd.C_below HR0.out hb) (HG.out.below hb) (by have := HU.out; omega) HASK.out⟩
        have X2 : Aside0 (∀ w1 : World, Below w.heap.size w w1 → Below wc.heap.size wc w1 → Calls Tryd.prog 70 #[.slice Ad D.length cd, .agg #[.int .u64 M, .int .u64 m, .int .u64 t, .string u, .string v], .bool pre] w1 fun e w' => e = .returned (.bool r) ∧ Below w1.heap.size w1 w') :=
          ⟨fun w1 hb hb2 => by rw [hr, ← HTD.out]; exact TermsHold_any Ad cd D M m t u v pre w1 (Kd.C_below hCD hb2) (HG.out.below hb) (by have := HU.out; omega) HAD.out⟩
        have X3 : Aside0 (∀ w1 : World, Below w.heap.size w w1 → Below wc.heap.size wc w1 → Calls Tryd.prog 70 #[.slice Ao L3.length co, .agg #[.int .u64 M, .int .u64 m, .int .u64 t, .string u, .string v], .bool pre] w1 fun e w' => e = .returned (.bool true) ∧ Below w1.heap.size w1 w') :=
          ⟨fun w1 hb hb2 => by
            have h1 : termsHold M m t u pre L3 = true := by rw [NL.out]; exact HOW.out
            have h2 : askT L3 := by rw [NL.out]; exact HAO.out
            rw [← h1]; exact TermsHold_any Ao co L3 M m t u v pre w1 (Kd.C_below HC3.out hb2) (HG.out.below hb) (by have := HU.out; omega) h2⟩
        have HX := Aside0.mk (Below.refl wc.heap.size wc)
        have hc0 : wc.cell? ⟨g4, 0, none⟩ = some (.int .u64 M) := (blk_cell BK4.out 0).trans rfl
        have hc1 : wc.cell? ⟨g4, 1, none⟩ = some (.int .u64 m) := (blk_cell BK4.out 1).trans rfl
        have hc2 : wc.cell? ⟨g4, 2, none⟩ = some (.int .u64 t) := (blk_cell BK4.out 2).trans rfl
        have hc3 : wc.cell? ⟨g4, 3, none⟩ = some (.string u) := (blk_cell BK4.out 3).trans rfl
        have hc4 : wc.cell? ⟨g4, 4, none⟩ = some (.string v) := (blk_cell BK4.out 4).trans rfl
        clear hCD hr HO HC3 NL HTD HAD HOW HAO HLD hcd
        cases r
        all_goals
          go_wp2_with fail
          go_region_with (first
            | (go_at_call 70; (with_reducible refine (X1.out _ ?h1).mono ?_); (case h1 => exact hbl HB.out); rintro e w7 ⟨rfl, hb⟩; have n0_ := Aside0.mk (below_step (hbl HB.out) hb); have n1_ := Aside0.mk (blk_below (hbk BK4.out) hb); have n2_ := Aside0.mk (below_step (hbl HX.out) hb); clear HB BK4 HX hb; have HB := n0_; have BK4 := n1_; have HX := n2_; clear n0_ n1_ n2_; (try clear hc0); (try clear hc1); (try clear hc2); (try clear hc3); (try clear hc4); have hc0 : w7.cell? ⟨g4, 0, none⟩ = some (.int .u64 M) := (blk_cell BK4.out 0).trans rfl; have hc1 : w7.cell? ⟨g4, 1, none⟩ = some (.int .u64 m) := (blk_cell BK4.out 1).trans rfl; have hc2 : w7.cell? ⟨g4, 2, none⟩ = some (.int .u64 t) := (blk_cell BK4.out 2).trans rfl; have hc3 : w7.cell? ⟨g4, 3, none⟩ = some (.string u) := (blk_cell BK4.out 3).trans rfl; have hc4 : w7.cell? ⟨g4, 4, none⟩ = some (.string v) := (blk_cell BK4.out 4).trans rfl)
            | (go_at_call 70; (with_reducible refine (X2.out _ ?h1 ?h2).mono ?_); (case h1 => exact hbl HB.out); (case h2 => exact hbl HX.out); rintro e w8 ⟨rfl, hb⟩; have n0_ := Aside0.mk (below_step (hbl HB.out) hb); have n1_ := Aside0.mk (blk_below (hbk BK4.out) hb); have n2_ := Aside0.mk (below_step (hbl HX.out) hb); clear HB BK4 HX hb; have HB := n0_; have BK4 := n1_; have HX := n2_; clear n0_ n1_ n2_; (try clear hc0); (try clear hc1); (try clear hc2); (try clear hc3); (try clear hc4); have hc0 : w8.cell? ⟨g4, 0, none⟩ = some (.int .u64 M) := (blk_cell BK4.out 0).trans rfl; have hc1 : w8.cell? ⟨g4, 1, none⟩ = some (.int .u64 m) := (blk_cell BK4.out 1).trans rfl; have hc2 : w8.cell? ⟨g4, 2, none⟩ = some (.int .u64 t) := (blk_cell BK4.out 2).trans rfl; have hc3 : w8.cell? ⟨g4, 3, none⟩ = some (.string u) := (blk_cell BK4.out 3).trans rfl; have hc4 : w8.cell? ⟨g4, 4, none⟩ = some (.string v) := (blk_cell BK4.out 4).trans rfl)
            | (go_at_call 70; (with_reducible refine (X3.out _ ?h1 ?h2).mono ?_); (case h1 => exact hbl HB.out); (case h2 => exact hbl HX.out); rintro e w9 ⟨rfl, hb⟩; have n0_ := Aside0.mk (below_step (hbl HB.out) hb); have n1_ := Aside0.mk (blk_below (hbk BK4.out) hb); have n2_ := Aside0.mk (below_step (hbl HX.out) hb); clear HB BK4 HX hb; have HB := n0_; have BK4 := n1_; have HX := n2_; clear n0_ n1_ n2_; (try clear hc0); (try clear hc1); (try clear hc2); (try clear hc3); (try clear hc4); have hc0 : w9.cell? ⟨g4, 0, none⟩ = some (.int .u64 M) := (blk_cell BK4.out 0).trans rfl; have hc1 : w9.cell? ⟨g4, 1, none⟩ = some (.int .u64 m) := (blk_cell BK4.out 1).trans rfl; have hc2 : w9.cell? ⟨g4, 2, none⟩ = some (.int .u64 t) := (blk_cell BK4.out 2).trans rfl; have hc3 : w9.cell? ⟨g4, 3, none⟩ = some (.string u) := (blk_cell BK4.out 3).trans rfl; have hc4 : w9.cell? ⟨g4, 4, none⟩ = some (.string v) := (blk_cell BK4.out 4).trans rfl))
          all_goals
            go_wp2
            go_ret
            exact ⟨rfl, HB.out⟩
theorem turned_walk (A0 : Option Addr) (c0 : Nat) (L : List (List S42)) (M m t : Int) (u v : ByteArray) (pre : Bool) (w : World) (hG0 : Hand.Gl w) (hr0 : Kd.C (Kd.slice 42 k42) w A0 L.length L) (hc0 : L.length ≤ c0) (hW : ∀ x ∈ L, (∀ t ∈ x, wf42 t) ∧ x.length ≤ maxLen) (w0 : (Lit.int .u64 M).wf = true) (w1_ : (Lit.int .u64 m).wf = true) (w2 : (Lit.int .u64 t).wf = true) (w3 : u.size ≤ maxLen) (w4 : v.size ≤ maxLen) :
    Calls Tryd.prog 20 #[.slice A0 L.length c0, .agg #[.int .u64 M, .int .u64 m, .int .u64 t, .string u, .string v], .bool pre] w fun e w' => e = .returned (.bool true) ∧ Below w.heap.size w w' :=
  turned_at A0 c0 L M m t u v pre w hG0 hr0 hc0
end Go.Proofs.YtalpehfjjidfhaaDoor.MP
