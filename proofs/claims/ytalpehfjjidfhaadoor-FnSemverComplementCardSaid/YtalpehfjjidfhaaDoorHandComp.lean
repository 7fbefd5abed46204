/- What is proved: FnSemverComplement, its walk by hand. -/
import Derived.Test.YtalpehfjjidfhaaDoorCompH
namespace Go.Proofs.YtalpehfjjidfhaaDoor.MP
open Go Go.RowKit Sv Hand
open Go.Proofs.YtalpehfjjidfhaaDoorW.PrintWords Go.Proofs.YtalpehfjjidfhaaDoorW.PrintLast Go.Proofs.YtalpehfjjidfhaaDoorW.PrintMore
open Go.Proofs.YtalpehfjjidfhaaDoor.MA (tl validPre smallPre digsL okPre okSmall bs_size)
set_option linter.unusedVariables false
set_option linter.unusedSimpArgs false
/-- A row of one element, which is a list that came in. -/
theorem lens_ge : ∀ (L : List (List S42)), (∀ x ∈ L, x.length ≠ 0) → L.length ≤ lens L
  | [], _ => Nat.le_refl _
  | x :: r, h => by
    have h1 := h x List.mem_cons_self
    have h2 := lens_ge r (fun y hy => h y (List.mem_cons_of_mem _ hy))
    simp only [lens, List.length_cons]
    omega
theorem ask_of' {L : List (List S42)} (hf : L.length ≤ 2147483647 ∧ ∀ x ∈ L, x.length ≤ 2147483647 ∧ ∀ t ∈ x, t.f5.size ≤ 2147483647) (hG : ∀ x ∈ L, x.length ≠ 0 ∧ ∀ t ∈ x, GT t) : askT L := by
  refine ⟨hf.1, fun x hx => ⟨(hf.2 x hx).1, fun t ht => ?_⟩⟩
  obtain ⟨_, _, q1, q2, q3, _⟩ := (hG x hx).2 t ht
  have := (hf.2 x hx).2 t ht
  exact ⟨q1, q2, q3, by omega⟩
theorem lit_C {W : World} {n : Nat} {A0 : Option Addr} {c0 : Nat} {L : List (List S42)} (hn : W.heap.size = n) (hC : Kd.C (Kd.slice 42 k42) W A0 L.length L) (hc : L.length ≤ c0) : Kd.C (Kd.slice 73 (Kd.slice 42 k42)) (W.alloc (.cells #[.slice A0 L.length c0] 62)) (some ⟨n, 0, none⟩) 1 [L] := by
  subst hn
  have hb : (W.alloc (.cells #[.slice A0 L.length c0] 62)).heap[W.heap.size]? = some (.cells #[.slice A0 L.length c0] 62 (0, 0)) := heap_alloc_new W _
  refine ⟨rfl, by omega, fun _ => ⟨_, rfl, fun j p hj => ?_⟩⟩
  cases j with
  | zero =>
    have e : L = p := by simpa using hj
    subst e
    refine ⟨[.slice A0 L.length c0], rfl, ⟨A0, c0, rfl, hc, Kd.C_below hC (below_alloc (Below.refl _ _) _)⟩, fun i u hu => ?_⟩
    cases i with
    | zero =>
      have e2 : Value.slice A0 L.length c0 = u := by simpa using hu
      subst e2
      rw [Addr.add_lit]
      exact (blk_cell hb _).trans rfl
    | succ i => simp at hu
  | succ j => simp at hj
set_option maxHeartbeats 8000000 in
set_option maxRecDepth 100000 in
theorem complement_at (A0 : Option Addr) (c0 : Nat) (L : List (List S42)) (M m t : Int) (u v : ByteArray) (w : World) (hG0 : Hand.Gl w) (hr0 : Kd.C (Kd.slice 42 k42) w A0 L.length L) (hc0 : L.length ≤ c0) (hW : ∀ x ∈ L, ∀ t ∈ x, wf42 t) (p1 : 0 ≤ M) (p2 : 0 ≤ m) (p3 : 0 ≤ t) :
    Calls Tryd.prog 17 #[.slice A0 L.length c0, .agg #[.int .u64 M, .int .u64 m, .int .u64 t, .string u, .string v]] w fun e w' => e = .returned (.bool true) ∧ Below w.heap.size w w' := by
  have HG := Aside0.mk hG0
  have HR0 := Aside0.mk hr0
  have HC0 := Aside0.mk hc0
  have HW := Aside0.mk hW
  have HPP := Aside0.mk (And.intro p1 (And.intro p2 p3))
  clear hG0 hr0 hc0 hW p1 p2 p3
  have hu29 := Tryd.underlying29
  obtain ⟨f1, hf1⟩ : ∃ b, b = fits11 L := ⟨_, rfl⟩
  obtain ⟨f2, hf2⟩ : ∃ b, b = decide (u.size ≤ 2147483647 ∧ v.size ≤ 2147483647) := ⟨_, rfl⟩
  have HF1 := Aside0.mk hf1
  have X67 : Aside0 (∀ w1 : World, Below w.heap.size w w1 → Calls Tryd.prog 67 #[.slice A0 L.length c0] w1 fun e w' => e = .returned (.bool f1) ∧ Below w1.heap.size w1 w') :=
    ⟨fun w1 hb => laws_zzFits11.calls (tot L + 1) A0 c0 L f1 w1 (Kd.C_below HR0.out hb) HC0.out (by rw [hf1]; exact zz11_f L _ (by omega))⟩
  have X25 : Aside0 (∀ w1 : World, Calls Tryd.prog 25 #[.agg #[.int .u64 M, .int .u64 m, .int .u64 t, .string u, .string v]] w1 fun e w' => e = .returned (.bool f2) ∧ Below w1.heap.size w1 w') :=
    ⟨fun w1 => laws_zzFits14.calls M m t u v f2 w1 (by rw [hf2]; exact fits_f M m t u v)⟩
  clear hf1 hf2
  have HB := Aside0.mk (Below.refl w.heap.size w)
  go_enter Tryd.func17, Tryd.ntmps17
  go_upto_region 1 with (first | ((with_reducible refine gate_dst (N := 3) rfl ?_); (try (refine gate_guard (by rfl) ?_; dsimp only)); refine box_event ?hg (N := 3) ?hd (cs := #[.int .u64 M, .int .u64 m, .int .u64 t, .string u, .string v]) (t := 29) ?hr ?_; (case hd => rfl); (case hg => rfl); (case hr => first | (go_simp; done) | (go_simp; rfl)); intro g3 hg w5 hbox hb; have n0_ := Aside0.mk (below_step HB.out hb); have n1_ := Aside0.mk hbox; have n2_ : Aside0 (w.heap.size ≤ g3) := ⟨by rw [hg]; exact below_size HB.out⟩; clear HB; have HB := n0_; have BK3 := n1_; have GE3 := n2_; clear n0_ n1_ n2_; clear hb hbox hg))
  (try simp only [Act.put, putA, putZ, putS])
  go_cut [14] (fun v14 wc => v14 = .bool (!(f1 && f2)) ∧ Aside0 (wc.heap[g3]? = some (.cells #[.int .u64 M, .int .u64 m, .int .u64 t, .string u, .string v] 29 (0, 0))) ∧ Aside0 (Below w.heap.size w wc))
  case first =>
    cases f1 <;> cases f2
    all_goals
      go_wp2_with (first
        | (go_at_call 67; (with_reducible refine (X67.out _ (hbl HB.out)).mono ?_); rintro e w9 ⟨rfl, hb⟩; have n0_ := Aside0.mk (below_step (hbl HB.out) hb); have n1_ := Aside0.mk (blk_below (hbk BK3.out) hb); clear HB BK3 hb; have HB := n0_; have BK3 := n1_; clear n0_ n1_; (try clear hc0); (try clear hc1); (try clear hc2); (try clear hc3); (try clear hc4); (try clear hz0); (try clear hz1); (try clear hz2); (try clear hz3); (try clear hz4); have hc0 : w9.cell? ⟨g3, 0, none⟩ = some (.int .u64 M) := (blk_cell BK3.out 0).trans rfl; have hc1 : w9.cell? ⟨g3, 1, none⟩ = some (.int .u64 m) := (blk_cell BK3.out 1).trans rfl; have hc2 : w9.cell? ⟨g3, 2, none⟩ = some (.int .u64 t) := (blk_cell BK3.out 2).trans rfl; have hc3 : w9.cell? ⟨g3, 3, none⟩ = some (.string u) := (blk_cell BK3.out 3).trans rfl; have hc4 : w9.cell? ⟨g3, 4, none⟩ = some (.string v) := (blk_cell BK3.out 4).trans rfl)
        | (go_at_call 25; (with_reducible refine (X25.out _).mono ?_); rintro e w10 ⟨rfl, hb⟩; have n0_ := Aside0.mk (below_step (hbl HB.out) hb); have n1_ := Aside0.mk (blk_below (hbk BK3.out) hb); clear HB BK3 hb; have HB := n0_; have BK3 := n1_; clear n0_ n1_; (try clear hc0); (try clear hc1); (try clear hc2); (try clear hc3); (try clear hc4); (try clear hz0); (try clear hz1); (try clear hz2); (try clear hz3); (try clear hz4); have hc0 : w10.cell? ⟨g3, 0, none⟩ = some (.int .u64 M) := (blk_cell BK3.out 0).trans rfl; have hc1 : w10.cell? ⟨g3, 1, none⟩ = some (.int .u64 m) := (blk_cell BK3.out 1).trans rfl; have hc2 : w10.cell? ⟨g3, 2, none⟩ = some (.int .u64 t) := (blk_cell BK3.out 2).trans rfl; have hc3 : w10.cell? ⟨g3, 3, none⟩ = some (.string u) := (blk_cell BK3.out 3).trans rfl; have hc4 : w10.cell? ⟨g3, 4, none⟩ = some (.string v) := (blk_cell BK3.out 4).trans rfl))
      go_meet
      case rel => exact ⟨rfl, ⟨hbk BK3.out⟩, ⟨hbl HB.out⟩⟩
  case rest =>
  clear BK3 HB
  obtain ⟨rfl, BK3, HB⟩ := hcut
  cases hff : (f1 && f2)
  · go_wp2
    go_ret
    exact ⟨rfl, HB.out⟩
  obtain ⟨e1, e2⟩ : f1 = true ∧ f2 = true := by simpa using hff
  subst e1; subst e2
  have hfl := fits_len HF1.out.symm
  obtain ⟨b3, hb3, hB3⟩ := siGood1 L HF1.out.symm (tot L + 5000000000) (by omega)
  have X68 : Aside0 (∀ (w1 : World) (B : Addr), Kd.C (Kd.slice 73 (Kd.slice 42 k42)) w1 (some B) 1 [L] → Calls Tryd.prog 68 #[.slice (some B) 1 1] w1 fun e w' => e = .returned (.bool b3) ∧ Below w1.heap.size w1 w') :=
    ⟨fun w1 B hC => laws_siGood.calls (tot L + 5000000000 + 2) (some B) 1 [L] b3 w1 hC (Nat.le_refl _) hb3⟩
  have X48 : Aside0 (∀ w1 : World, Calls Tryd.prog 48 #[.agg #[.int .u64 M, .int .u64 m, .int .u64 t, .string u, .string v]] w1 fun e w' => e = .returned (.agg #[.int .u64 M, .int .u64 m, .int .u64 t, .string (⟨#[]⟩ : ByteArray), .string (⟨#[]⟩ : ByteArray)]) ∧ Below w1.heap.size w1 w') :=
    ⟨fun w1 => spec_Bare.calls M m t u v M m t ⟨#[]⟩ ⟨#[]⟩ w1 rfl⟩
  have HB3 := Aside0.mk hB3
  have HFL := Aside0.mk hfl
  clear hb3 hB3 hfl HF1 X67 X25 hff
  have hc0 : wc.cell? ⟨g3, 0, none⟩ = some (.int .u64 M) := (blk_cell BK3.out 0).trans rfl
  have hc1 : wc.cell? ⟨g3, 1, none⟩ = some (.int .u64 m) := (blk_cell BK3.out 1).trans rfl
  have hc2 : wc.cell? ⟨g3, 2, none⟩ = some (.int .u64 t) := (blk_cell BK3.out 2).trans rfl
  have hc3 : wc.cell? ⟨g3, 3, none⟩ = some (.string u) := (blk_cell BK3.out 3).trans rfl
  have hc4 : wc.cell? ⟨g3, 4, none⟩ = some (.string v) := (blk_cell BK3.out 4).trans rfl
  go_upto_region 4 with (first | (go_at_call 48; (with_reducible refine (X48.out _).mono ?_); rintro e w9 ⟨rfl, hb⟩; have n0_ := Aside0.mk (below_step (hbl HB.out) hb); have n1_ := Aside0.mk (blk_below (hbk BK3.out) hb); clear HB BK3 hb; have HB := n0_; have BK3 := n1_; clear n0_ n1_; (try clear hc0); (try clear hc1); (try clear hc2); (try clear hc3); (try clear hc4); (try clear hz0); (try clear hz1); (try clear hz2); (try clear hz3); (try clear hz4); have hc0 : w9.cell? ⟨g3, 0, none⟩ = some (.int .u64 M) := (blk_cell BK3.out 0).trans rfl; have hc1 : w9.cell? ⟨g3, 1, none⟩ = some (.int .u64 m) := (blk_cell BK3.out 1).trans rfl; have hc2 : w9.cell? ⟨g3, 2, none⟩ = some (.int .u64 t) := (blk_cell BK3.out 2).trans rfl; have hc3 : w9.cell? ⟨g3, 3, none⟩ = some (.string u) := (blk_cell BK3.out 3).trans rfl; have hc4 : w9.cell? ⟨g3, 4, none⟩ = some (.string v) := (blk_cell BK3.out 4).trans rfl; have hz0 := blk_frozen BK3.out 0; have hz1 := blk_frozen BK3.out 1; have hz2 := blk_frozen BK3.out 2; have hz3 := blk_frozen BK3.out 3; have hz4 := blk_frozen BK3.out 4))
  (try simp only [Act.put, putA, putZ, putS])
  go_cut [20] (fun v20 wc => v20 = .bool (!b3) ∧ Aside0 (wc.heap[g3]? = some (.cells #[.int .u64 M, .int .u64 m, .int .u64 t, .string (⟨#[]⟩ : ByteArray), .string (⟨#[]⟩ : ByteArray)] 29 (0, 0))) ∧ Aside0 (Below w.heap.size w wc))
  case first =>
    go_wp2_with (first | (go_at_call 68; (with_reducible refine (X68.out _ _ ?hC).mono ?_); (case hC => exact lit_C (by go_simp) (Kd.C_below HR0.out (B_box5 HB.out GE3.out _ _ _ _ _)) HC0.out); rintro e w10 ⟨rfl, hb⟩; have n0_ := Aside0.mk (below_step (below_alloc (B_box5 HB.out GE3.out _ _ _ _ _) _) hb); have n1_ := Aside0.mk (blk_below (blk_alloc (set5' BK3.out _ _ _ _ _) _) hb); clear HB BK3 hb; have HB := n0_; have BK3 := n1_; clear n0_ n1_))
    go_meet
    case rel => exact ⟨rfl, ⟨hbk BK3.out⟩, ⟨hbl HB.out⟩⟩
  case rest =>
  clear BK3 HB
  (try clear hc0); (try clear hc1); (try clear hc2); (try clear hc3); (try clear hc4); (try clear hz0); (try clear hz1); (try clear hz2); (try clear hz3); (try clear hz4)
  obtain ⟨rfl, BK3, HB⟩ := hcut
  cases b3
  · go_wp2
    go_ret
    exact ⟨rfl, HB.out⟩
  obtain ⟨hG, hl10, hl0⟩ := HB3.out rfl
  have hll := lens_ge L (fun x hx => (hG x hx).1)
  have hask := ask_of' HFL.out hG
  rcases Complement_f L (by omega) hl10 (tot L + 5000000000) (by omega) with hF | ⟨hO, hF⟩
  · have X69 : Aside0 (∀ w1 : World, Below w.heap.size w w1 → Calls Tryd.prog 69 #[.slice A0 L.length c0] w1 fun e w' => ∃ v0_ : Value, e = .returned (.tuple #[v0_, .bool false]) ∧ Kd.N (Kd.slice 42 k42) 73 w' w1.heap.size (fun k_ => (w1.heap.size ≤ k_)) v0_ [] ∧ Below w1.heap.size w1 w') :=
      ⟨fun w1 hb => spec_Complement.calls (tot L + 5000000000) A0 c0 L [] false w1 (Kd.C_below HR0.out hb) HC0.out hF⟩
    clear hF hask hll hl0 hl10 hG HB3
    go_wp2_with (first | (go_at_call 69; (with_reducible refine (X69.out _ HB.out).mono ?_); rintro e w9 ⟨v9, rfl, hN, hb⟩; have n0_ := Aside0.mk (below_step HB.out hb); clear HB hb hN; have HB := n0_; clear n0_))
    go_ret
    exact ⟨rfl, HB.out⟩
  · obtain ⟨r1, hr1⟩ : ∃ z, z = compF [[]] L := ⟨_, rfl⟩
    rw [← hr1] at hF
    have X69 : Aside0 (∀ w1 : World, Below w.heap.size w w1 → Calls Tryd.prog 69 #[.slice A0 L.length c0] w1 fun e w' => ∃ (A : Option Addr) (c : Nat), e = .returned (.tuple #[.slice A r1.length c, .bool true]) ∧ Aside0 (Kd.C (Kd.slice 42 k42) w' A r1.length r1) ∧ Below w1.heap.size w1 w') :=
      ⟨fun w1 hb => by
        refine (spec_Complement.calls (tot L + 5000000000) A0 c0 L r1 true w1 (Kd.C_below HR0.out hb) HC0.out hF).mono ?_
        rintro e w' ⟨v0_, rfl, hN, hb⟩
        obtain ⟨A, c, rfl⟩ := Kd.N_slice hN
        exact ⟨A, c, rfl, ⟨(Kd.N_reads' hN).2.2⟩, hb⟩⟩
    have hth : termsHold M m t ⟨#[]⟩ false r1 = !termsHold M m t ⟨#[]⟩ false L := by rw [hr1]; exact comp_holds L hG HW.out hO M m t HPP.out.1 HPP.out.2.1 HPP.out.2.2
    have ha1 : askT r1 := by rw [hr1]; exact comp_ask L hask hl10 (by omega) hO
    obtain ⟨r, hr⟩ : ∃ r, r = termsHold M m t ⟨#[]⟩ false L := ⟨_, rfl⟩
    have X1 : Aside0 (∀ (w0 w1 : World) (A : Option Addr) (c : Nat), Kd.C (Kd.slice 42 k42) w0 A r1.length r1 → Below w0.heap.size w0 w1 → Below w.heap.size w w1 → Calls Tryd.prog 70 #[.slice A r1.length c, .agg #[.int .u64 M, .int .u64 m, .int .u64 t, .string (⟨#[]⟩ : ByteArray), .string (⟨#[]⟩ : ByteArray)], .bool false] w1 fun e w' => e = .returned (.bool (!r)) ∧ Below w1.heap.size w1 w') :=
      ⟨fun w0 w1 A c hC hb hb2 => by rw [hr, ← hth]; exact TermsHold_any A c r1 M m t ⟨#[]⟩ ⟨#[]⟩ false w1 (Kd.C_below hC hb) (HG.out.below hb2) (by decide) ha1⟩
    have X2 : Aside0 (∀ w1 : World, Below w.heap.size w w1 → Calls Tryd.prog 70 #[.slice A0 L.length c0, .agg #[.int .u64 M, .int .u64 m, .int .u64 t, .string (⟨#[]⟩ : ByteArray), .string (⟨#[]⟩ : ByteArray)], .bool false] w1 fun e w' => e = .returned (.bool r) ∧ Below w1.heap.size w1 w') :=
      ⟨fun w1 hb => by rw [hr]; exact TermsHold_any A0 c0 L M m t ⟨#[]⟩ ⟨#[]⟩ false w1 (Kd.C_below HR0.out hb) (HG.out.below hb) (by decide) hask⟩
    clear hF hr1 hth ha1 hr hask hll hl0 hl10 hG HB3 hO X48 X68 HW HFL HPP
    go_upto_region 9 with (first | (go_at_call 69; (with_reducible refine (X69.out _ (hbl HB.out)).mono ?_); rintro e w9 ⟨A9, c9, rfl, HC9, hb⟩; have n0_ := Aside0.mk (below_step (hbl HB.out) hb); have n1_ := Aside0.mk (blk_below (hbk BK3.out) hb); clear HB BK3 hb; have HB := n0_; have BK3 := n1_; clear n0_ n1_; (try clear hc0); (try clear hc1); (try clear hc2); (try clear hc3); (try clear hc4); (try clear hz0); (try clear hz1); (try clear hz2); (try clear hz3); (try clear hz4); have hc0 : w9.cell? ⟨g3, 0, none⟩ = some (.int .u64 M) := (blk_cell BK3.out 0).trans rfl; have hc1 : w9.cell? ⟨g3, 1, none⟩ = some (.int .u64 m) := (blk_cell BK3.out 1).trans rfl; have hc2 : w9.cell? ⟨g3, 2, none⟩ = some (.int .u64 t) := (blk_cell BK3.out 2).trans rfl; have hc3 : w9.cell? ⟨g3, 3, none⟩ = some (.string (⟨#[]⟩ : ByteArray)) := (blk_cell BK3.out 3).trans rfl; have hc4 : w9.cell? ⟨g3, 4, none⟩ = some (.string (⟨#[]⟩ : ByteArray)) := (blk_cell BK3.out 4).trans rfl; have HX := Aside0.mk (Below.refl w9.heap.size w9)))
    (try simp only [Act.put, putA, putZ, putS])
    cases r
    all_goals
      go_wp2_with fail
      go_region_with (first
        | (go_at_call 70; (with_reducible refine (X1.out w9 _ A9 c9 HC9.out ?h1 ?h2).mono ?_); (case h1 => exact hbl HX.out); (case h2 => exact hbl HB.out); rintro e w7 ⟨rfl, hb⟩; have n0_ := Aside0.mk (below_step (hbl HB.out) hb); have n1_ := Aside0.mk (blk_below (hbk BK3.out) hb); have n2_ := Aside0.mk (below_step (hbl HX.out) hb); clear HB BK3 HX hb; have HB := n0_; have BK3 := n1_; have HX := n2_; clear n2_; clear n0_ n1_; (try clear hc0); (try clear hc1); (try clear hc2); (try clear hc3); (try clear hc4); (try clear hz0); (try clear hz1); (try clear hz2); (try clear hz3); (try clear hz4); have hc0 : w7.cell? ⟨g3, 0, none⟩ = some (.int .u64 M) := (blk_cell BK3.out 0).trans rfl; have hc1 : w7.cell? ⟨g3, 1, none⟩ = some (.int .u64 m) := (blk_cell BK3.out 1).trans rfl; have hc2 : w7.cell? ⟨g3, 2, none⟩ = some (.int .u64 t) := (blk_cell BK3.out 2).trans rfl; have hc3 : w7.cell? ⟨g3, 3, none⟩ = some (.string (⟨#[]⟩ : ByteArray)) := (blk_cell BK3.out 3).trans rfl; have hc4 : w7.cell? ⟨g3, 4, none⟩ = some (.string (⟨#[]⟩ : ByteArray)) := (blk_cell BK3.out 4).trans rfl)
        | (go_at_call 70; (with_reducible refine (X2.out _ ?h1).mono ?_); (case h1 => exact hbl HB.out); rintro e w8 ⟨rfl, hb⟩; have n0_ := Aside0.mk (below_step (hbl HB.out) hb); have n1_ := Aside0.mk (blk_below (hbk BK3.out) hb); have n2_ := Aside0.mk (below_step (hbl HX.out) hb); clear HB BK3 HX hb; have HB := n0_; have BK3 := n1_; have HX := n2_; clear n2_; clear n0_ n1_; (try clear hc0); (try clear hc1); (try clear hc2); (try clear hc3); (try clear hc4); (try clear hz0); (try clear hz1); (try clear hz2); (try clear hz3); (try clear hz4); have hc0 : w8.cell? ⟨g3, 0, none⟩ = some (.int .u64 M) := (blk_cell BK3.out 0).trans rfl; have hc1 : w8.cell? ⟨g3, 1, none⟩ = some (.int .u64 m) := (blk_cell BK3.out 1).trans rfl; have hc2 : w8.cell? ⟨g3, 2, none⟩ = some (.int .u64 t) := (blk_cell BK3.out 2).trans rfl; have hc3 : w8.cell? ⟨g3, 3, none⟩ = some (.string (⟨#[]⟩ : ByteArray)) := (blk_cell BK3.out 3).trans rfl; have hc4 : w8.cell? ⟨g3, 4, none⟩ = some (.string (⟨#[]⟩ : ByteArray)) := (blk_cell BK3.out 4).trans rfl))
      all_goals
        go_wp2
        go_ret
        exact ⟨rfl, HB.out⟩
theorem complement_walk (A0 : Option Addr) (c0 : Nat) (L : List (List S42)) (M m t : Int) (u v : ByteArray) (w : World) (hG0 : Hand.Gl w) (hr0 : Kd.C (Kd.slice 42 k42) w A0 L.length L) (hc0 : L.length ≤ c0) (hW : ∀ x ∈ L, (∀ t ∈ x, wf42 t) ∧ x.length ≤ maxLen) (w0 : (Lit.int .u64 M).wf = true) (w1_ : (Lit.int .u64 m).wf = true) (w2 : (Lit.int .u64 t).wf = true) (w3 : u.size ≤ maxLen) (w4 : v.size ≤ maxLen) :
    Calls Tryd.prog 17 #[.slice A0 L.length c0, .agg #[.int .u64 M, .int .u64 m, .int .u64 t, .string u, .string v]] w fun e w' => e = .returned (.bool true) ∧ Below w.heap.size w w' :=
  complement_at A0 c0 L M m t u v w hG0 hr0 hc0 (fun x hx => (hW x hx).1) (u64_pos w0) (u64_pos w1_) (u64_pos w2)
end Go.Proofs.YtalpehfjjidfhaaDoor.MP
