-- Written by a program of this session (wip/tools/myprint.py over the kit's print).
import Derived.Test.YtalpehfjjidfhaaDoorMSx0
import Derived.Test.YtalpehfjjidfhaaDoorMSx2
namespace Go.Proofs.YtalpehfjjidfhaaDoor.MS
open Go.RowKit Go.Proofs.YtalpehfjjidfhaaDoorW.PrintWords Go.Proofs.YtalpehfjjidfhaaDoorW.PrintLast Go.Proofs.YtalpehfjjidfhaaDoorW.PrintMore
attribute [local go_sem] max2_int min2_int max_two min_two max_three min_three max_four min_four   -- for this text's walks alone
set_option linter.unusedVariables false
set_option linter.unusedSimpArgs false

/-! ### spec_tails: function 142 -/
def spec_tails.f (k : Nat) (a0 : ByteArray) : Option (ByteArray × ByteArray × ByteArray × Bool) := (spec_cutAt.f k a0 43).bind fun bt163 => ((spec_cutAt.f k bt163.1 45).bind fun bt166 => (if bt163.2.2 = true then ((spec_ValidMeta.f k bt163.2.1).bind fun t169 => (if t169 = true then (if bt166.2.2 = true then ((spec_ValidPre.f k bt166.2.1).bind fun t170 => (some (bt166.1, bt166.2.1, bt163.2.1, t170))) else (some (bt166.1, bt166.2.1, bt163.2.1, true))) else (some (bt166.1, bt166.2.1, bt163.2.1, false)))) else (if bt166.2.2 = true then ((spec_ValidPre.f k bt166.2.1).bind fun t171 => (some (bt166.1, bt166.2.1, bt163.2.1, t171))) else (some (bt166.1, bt166.2.1, bt163.2.1, true)))))
theorem spec_tails.mono : ∀ a0 k, LeO (spec_tails.f k a0) (spec_tails.f (k + 1) a0) := by
  intro a0 k
  unfold spec_tails.f
  repeat' first
      | (with_reducible exact spec_ValidMeta.mono _ _)
      | (with_reducible exact spec_ValidPre.mono _ _)
      | (with_reducible exact spec_cutAt.mono _ _ _)
      | (with_reducible exact LeO.refl _)
      | (with_reducible exact LeO.none _)
      | (with_reducible refine LeO.ite ?_ ?_)
      | (with_reducible refine LeO.bind ?_ (fun _ => ?_))
      | exact spec_ValidMeta.mono _ _
      | exact spec_ValidPre.mono _ _
      | exact spec_cutAt.mono _ _ _
      | exact LeO.none _
      | refine LeO.ite ?_ ?_
      | refine LeO.bind ?_ (fun _ => ?_)
set_option maxHeartbeats 8000000 in
set_option maxRecDepth 100000 in
theorem spec_tails.calls (k : Nat) (a0 : ByteArray) (r1 : ByteArray) (r2 : ByteArray) (r3 : ByteArray) (r4 : Bool) (w : World) (h : spec_tails.f k a0 = some (r1, r2, r3, r4)) :
    Calls Tryd.prog 142 #[.string a0] w fun e w' => e = .returned (.tuple #[.string r1, .string r2, .string r3, .bool r4]) ∧ Below w.heap.size w w' := by
  have HB := Aside0.mk (Below.refl w.heap.size w)
  have H : ((spec_cutAt.f k a0 43).bind fun bt163 => ((spec_cutAt.f k bt163.1 45).bind fun bt166 => (if bt163.2.2 = true then ((spec_ValidMeta.f k bt163.2.1).bind fun t169 => (if t169 = true then (if bt166.2.2 = true then ((spec_ValidPre.f k bt166.2.1).bind fun t170 => (some (bt166.1, bt166.2.1, bt163.2.1, t170))) else (some (bt166.1, bt166.2.1, bt163.2.1, true))) else (some (bt166.1, bt166.2.1, bt163.2.1, false)))) else (if bt166.2.2 = true then ((spec_ValidPre.f k bt166.2.1).bind fun t171 => (some (bt166.1, bt166.2.1, bt163.2.1, t171))) else (some (bt166.1, bt166.2.1, bt163.2.1, true)))))) = some (r1, r2, r3, r4) := h
  clear h
  replace H := Option.bind_eq_some_iff.mp H
  obtain ⟨⟨t163, t164, t165⟩, A20, H⟩ := H
  replace H : ((spec_cutAt.f k t163 45).bind fun bt166 => (if t165 = true then ((spec_ValidMeta.f k t164).bind fun t169 => (if t169 = true then (if bt166.2.2 = true then ((spec_ValidPre.f k bt166.2.1).bind fun t170 => (some (bt166.1, bt166.2.1, t164, t170))) else (some (bt166.1, bt166.2.1, t164, true))) else (some (bt166.1, bt166.2.1, t164, false)))) else (if bt166.2.2 = true then ((spec_ValidPre.f k bt166.2.1).bind fun t171 => (some (bt166.1, bt166.2.1, t164, t171))) else (some (bt166.1, bt166.2.1, t164, true))))) = some (r1, r2, r3, r4) := H
  have A2 := Aside0.mk A20
  clear A20
  replace H := Option.bind_eq_some_iff.mp H
  obtain ⟨⟨t166, t167, t168⟩, A30, H⟩ := H
  replace H : (if t165 = true then ((spec_ValidMeta.f k t164).bind fun t169 => (if t169 = true then (if t168 = true then ((spec_ValidPre.f k t167).bind fun t170 => (some (t166, t167, t164, t170))) else (some (t166, t167, t164, true))) else (some (t166, t167, t164, false)))) else (if t168 = true then ((spec_ValidPre.f k t167).bind fun t171 => (some (t166, t167, t164, t171))) else (some (t166, t167, t164, true)))) = some (r1, r2, r3, r4) := H
  have A3 := Aside0.mk A30
  clear A30
  by_cases c4 : t165 = true
  · subst c4
    have H1 : ((spec_ValidMeta.f k t164).bind fun t169 => (if t169 = true then (if t168 = true then ((spec_ValidPre.f k t167).bind fun t170 => (some (t166, t167, t164, t170))) else (some (t166, t167, t164, true))) else (some (t166, t167, t164, false)))) = some (r1, r2, r3, r4) := by rw [if_pos rfl] at H; exact H
    clear H
    have H := H1
    clear H1
    replace H := Option.bind_eq_some_iff.mp H
    obtain ⟨t169, A50, H⟩ := H
    replace H : (if t169 = true then (if t168 = true then ((spec_ValidPre.f k t167).bind fun t170 => (some (t166, t167, t164, t170))) else (some (t166, t167, t164, true))) else (some (t166, t167, t164, false))) = some (r1, r2, r3, r4) := H
    have A5 := Aside0.mk A50
    clear A50
    by_cases c6 : t169 = true
    · subst c6
      have H1 : (if t168 = true then ((spec_ValidPre.f k t167).bind fun t170 => (some (t166, t167, t164, t170))) else (some (t166, t167, t164, true))) = some (r1, r2, r3, r4) := by rw [if_pos rfl] at H; exact H
      clear H
      have H := H1
      clear H1
      by_cases c7 : t168 = true
      · subst c7
        have H1 : ((spec_ValidPre.f k t167).bind fun t170 => (some (t166, t167, t164, t170))) = some (r1, r2, r3, r4) := by rw [if_pos rfl] at H; exact H
        clear H
        have H := H1
        clear H1
        replace H := Option.bind_eq_some_iff.mp H
        obtain ⟨t170, A80, H⟩ := H
        replace H : (some (t166, t167, t164, t170)) = some (r1, r2, r3, r4) := H
        have A8 := Aside0.mk A80
        clear A80
        simp only [Option.some.injEq, Prod.mk.injEq] at H
        obtain ⟨rfl, rfl, rfl, rfl⟩ := H
        go_enter Tryd.func142, Tryd.ntmps142
        go_wp2_with (first | ((with_reducible refine gate_callee (f := 169) rfl ?_); refine goesL_ (some 10) rfl rfl Tryd.func169 (by kernel_rfl) rfl #[.string a0, .int .u8 43] rfl (by (try simp only [List.map_toArray, List.map_cons, List.map_nil]); first | done | rfl | (simp only [List.length_drop, List.length_take]; rfl)) ?_; (with_reducible refine (spec_cutAt.calls k a0 43 t163 t164 true _ A2.out).mono ?_); rintro e w' ⟨rfl, ⟨nd, rfl⟩⟩; refine ⟨_, rfl, ?_⟩) | ((with_reducible refine gate_callee (f := 169) rfl ?_); refine goesL_ (some 16) rfl rfl Tryd.func169 (by kernel_rfl) rfl #[.string t163, .int .u8 45] rfl (by (try simp only [List.map_toArray, List.map_cons, List.map_nil]); first | done | rfl | (simp only [List.length_drop, List.length_take]; rfl)) ?_; (with_reducible refine (spec_cutAt.calls k t163 45 t166 t167 true _ A3.out).mono ?_); rintro e w' ⟨rfl, ⟨nd, rfl⟩⟩; refine ⟨_, rfl, ?_⟩) | (go_at_call 129; (with_reducible refine (spec_ValidMeta.calls k t164 true _ A5.out).mono ?_); rintro e w9 ⟨rfl, hb⟩; have n0_ := Aside0.mk (below_step (by repeat (first | (with_reducible first | exact HB.out | apply below_alloc | apply pw_below_drewN | apply below_drew1) | exact HB.out)) hb); clear HB; have HB := n0_; clear n0_; (try clear hb); (try clear hb2); (try clear hk); (try clear hi)) | (go_at_call 79; (with_reducible refine (spec_ValidPre.calls k t167 t170 _ A8.out).mono ?_); rintro e w10 ⟨rfl, hb⟩; have n0_ := Aside0.mk (below_step (by repeat (first | (with_reducible first | exact HB.out | apply below_alloc | apply pw_below_drewN | apply below_drew1) | exact HB.out)) hb); clear HB; have HB := n0_; clear n0_; (try clear hb); (try clear hb2); (try clear hk); (try clear hi)))
        refine bodyPost_ret (results_list (rs := [.tmp 2, .tmp 3, .tmp 4, .tmp 5]) rfl (by simp) (.tmp (.tmp (.tmp (.tmp .nil))))) rfl ?_
        exact ⟨by first | rfl | (simp [errW_none, errW_some] <;> rfl) | (simp [*, errW_none, errW_some] <;> rfl), by repeat (first | (with_reducible first | exact HB.out | apply below_alloc | apply pw_below_drewN | apply below_drew1) | exact HB.out)⟩
      · replace c7 := Bool.eq_false_iff.mpr c7
        subst c7
        have H1 : (some (t166, t167, t164, true)) = some (r1, r2, r3, r4) := by rw [if_neg (show ¬ (false = true) by decide)] at H; exact H
        clear H
        have H := H1
        clear H1
        simp only [Option.some.injEq, Prod.mk.injEq] at H
        obtain ⟨rfl, rfl, rfl, rfl⟩ := H
        go_enter Tryd.func142, Tryd.ntmps142
        go_wp2_with (first | ((with_reducible refine gate_callee (f := 169) rfl ?_); refine goesL_ (some 10) rfl rfl Tryd.func169 (by kernel_rfl) rfl #[.string a0, .int .u8 43] rfl (by (try simp only [List.map_toArray, List.map_cons, List.map_nil]); first | done | rfl | (simp only [List.length_drop, List.length_take]; rfl)) ?_; (with_reducible refine (spec_cutAt.calls k a0 43 t163 t164 true _ A2.out).mono ?_); rintro e w' ⟨rfl, ⟨nd, rfl⟩⟩; refine ⟨_, rfl, ?_⟩) | ((with_reducible refine gate_callee (f := 169) rfl ?_); refine goesL_ (some 16) rfl rfl Tryd.func169 (by kernel_rfl) rfl #[.string t163, .int .u8 45] rfl (by (try simp only [List.map_toArray, List.map_cons, List.map_nil]); first | done | rfl | (simp only [List.length_drop, List.length_take]; rfl)) ?_; (with_reducible refine (spec_cutAt.calls k t163 45 t166 t167 false _ A3.out).mono ?_); rintro e w' ⟨rfl, ⟨nd, rfl⟩⟩; refine ⟨_, rfl, ?_⟩) | (go_at_call 129; (with_reducible refine (spec_ValidMeta.calls k t164 true _ A5.out).mono ?_); rintro e w11 ⟨rfl, hb⟩; have n0_ := Aside0.mk (below_step (by repeat (first | (with_reducible first | exact HB.out | apply below_alloc | apply pw_below_drewN | apply below_drew1) | exact HB.out)) hb); clear HB; have HB := n0_; clear n0_; (try clear hb); (try clear hb2); (try clear hk); (try clear hi)))
        refine bodyPost_ret (results_list (rs := [.tmp 2, .tmp 3, .tmp 4, .tmp 5]) rfl (by simp) (.tmp (.tmp (.tmp (.tmp .nil))))) rfl ?_
        exact ⟨by first | rfl | (simp [errW_none, errW_some] <;> rfl) | (simp [*, errW_none, errW_some] <;> rfl), by repeat (first | (with_reducible first | exact HB.out | apply below_alloc | apply pw_below_drewN | apply below_drew1) | exact HB.out)⟩
    · replace c6 := Bool.eq_false_iff.mpr c6
      subst c6
      have H1 : (some (t166, t167, t164, false)) = some (r1, r2, r3, r4) := by rw [if_neg (show ¬ (false = true) by decide)] at H; exact H
      clear H
      have H := H1
      clear H1
      simp only [Option.some.injEq, Prod.mk.injEq] at H
      obtain ⟨rfl, rfl, rfl, rfl⟩ := H
      go_enter Tryd.func142, Tryd.ntmps142
      go_wp2_with (first | ((with_reducible refine gate_callee (f := 169) rfl ?_); refine goesL_ (some 10) rfl rfl Tryd.func169 (by kernel_rfl) rfl #[.string a0, .int .u8 43] rfl (by (try simp only [List.map_toArray, List.map_cons, List.map_nil]); first | done | rfl | (simp only [List.length_drop, List.length_take]; rfl)) ?_; (with_reducible refine (spec_cutAt.calls k a0 43 t163 t164 true _ A2.out).mono ?_); rintro e w' ⟨rfl, ⟨nd, rfl⟩⟩; refine ⟨_, rfl, ?_⟩) | ((with_reducible refine gate_callee (f := 169) rfl ?_); refine goesL_ (some 16) rfl rfl Tryd.func169 (by kernel_rfl) rfl #[.string t163, .int .u8 45] rfl (by (try simp only [List.map_toArray, List.map_cons, List.map_nil]); first | done | rfl | (simp only [List.length_drop, List.length_take]; rfl)) ?_; (with_reducible refine (spec_cutAt.calls k t163 45 t166 t167 t168 _ A3.out).mono ?_); rintro e w' ⟨rfl, ⟨nd, rfl⟩⟩; refine ⟨_, rfl, ?_⟩) | (go_at_call 129; (with_reducible refine (spec_ValidMeta.calls k t164 false _ A5.out).mono ?_); rintro e w12 ⟨rfl, hb⟩; have n0_ := Aside0.mk (below_step (by repeat (first | (with_reducible first | exact HB.out | apply below_alloc | apply pw_below_drewN | apply below_drew1) | exact HB.out)) hb); clear HB; have HB := n0_; clear n0_; (try clear hb); (try clear hb2); (try clear hk); (try clear hi)))
      refine bodyPost_ret (results_list (rs := [.tmp 2, .tmp 3, .tmp 4, .tmp 5]) rfl (by simp) (.tmp (.tmp (.tmp (.tmp .nil))))) rfl ?_
      exact ⟨by first | rfl | (simp [errW_none, errW_some] <;> rfl) | (simp [*, errW_none, errW_some] <;> rfl), by repeat (first | (with_reducible first | exact HB.out | apply below_alloc | apply pw_below_drewN | apply below_drew1) | exact HB.out)⟩
  · replace c4 := Bool.eq_false_iff.mpr c4
    subst c4
    have H1 : (if t168 = true then ((spec_ValidPre.f k t167).bind fun t171 => (some (t166, t167, t164, t171))) else (some (t166, t167, t164, true))) = some (r1, r2, r3, r4) := by rw [if_neg (show ¬ (false = true) by decide)] at H; exact H
    clear H
    have H := H1
    clear H1
    by_cases c13 : t168 = true
    · subst c13
      have H1 : ((spec_ValidPre.f k t167).bind fun t171 => (some (t166, t167, t164, t171))) = some (r1, r2, r3, r4) := by rw [if_pos rfl] at H; exact H
      clear H
      have H := H1
      clear H1
      replace H := Option.bind_eq_some_iff.mp H
      obtain ⟨t171, A140, H⟩ := H
      replace H : (some (t166, t167, t164, t171)) = some (r1, r2, r3, r4) := H
      have A14 := Aside0.mk A140
      clear A140
      simp only [Option.some.injEq, Prod.mk.injEq] at H
      obtain ⟨rfl, rfl, rfl, rfl⟩ := H
      go_enter Tryd.func142, Tryd.ntmps142
      go_wp2_with (first | ((with_reducible refine gate_callee (f := 169) rfl ?_); refine goesL_ (some 10) rfl rfl Tryd.func169 (by kernel_rfl) rfl #[.string a0, .int .u8 43] rfl (by (try simp only [List.map_toArray, List.map_cons, List.map_nil]); first | done | rfl | (simp only [List.length_drop, List.length_take]; rfl)) ?_; (with_reducible refine (spec_cutAt.calls k a0 43 t163 t164 false _ A2.out).mono ?_); rintro e w' ⟨rfl, ⟨nd, rfl⟩⟩; refine ⟨_, rfl, ?_⟩) | ((with_reducible refine gate_callee (f := 169) rfl ?_); refine goesL_ (some 16) rfl rfl Tryd.func169 (by kernel_rfl) rfl #[.string t163, .int .u8 45] rfl (by (try simp only [List.map_toArray, List.map_cons, List.map_nil]); first | done | rfl | (simp only [List.length_drop, List.length_take]; rfl)) ?_; (with_reducible refine (spec_cutAt.calls k t163 45 t166 t167 true _ A3.out).mono ?_); rintro e w' ⟨rfl, ⟨nd, rfl⟩⟩; refine ⟨_, rfl, ?_⟩) | (go_at_call 79; (with_reducible refine (spec_ValidPre.calls k t167 t171 _ A14.out).mono ?_); rintro e w15 ⟨rfl, hb⟩; have n0_ := Aside0.mk (below_step (by repeat (first | (with_reducible first | exact HB.out | apply below_alloc | apply pw_below_drewN | apply below_drew1) | exact HB.out)) hb); clear HB; have HB := n0_; clear n0_; (try clear hb); (try clear hb2); (try clear hk); (try clear hi)))
      refine bodyPost_ret (results_list (rs := [.tmp 2, .tmp 3, .tmp 4, .tmp 5]) rfl (by simp) (.tmp (.tmp (.tmp (.tmp .nil))))) rfl ?_
      exact ⟨by first | rfl | (simp [errW_none, errW_some] <;> rfl) | (simp [*, errW_none, errW_some] <;> rfl), by repeat (first | (with_reducible first | exact HB.out | apply below_alloc | apply pw_below_drewN | apply below_drew1) | exact HB.out)⟩
    · replace c13 := Bool.eq_false_iff.mpr c13
      subst c13
      have H1 : (some (t166, t167, t164, true)) = some (r1, r2, r3, r4) := by rw [if_neg (show ¬ (false = true) by decide)] at H; exact H
      clear H
      have H := H1
      clear H1
      simp only [Option.some.injEq, Prod.mk.injEq] at H
      obtain ⟨rfl, rfl, rfl, rfl⟩ := H
      go_enter Tryd.func142, Tryd.ntmps142
      go_wp2_with (first | ((with_reducible refine gate_callee (f := 169) rfl ?_); refine goesL_ (some 10) rfl rfl Tryd.func169 (by kernel_rfl) rfl #[.string a0, .int .u8 43] rfl (by (try simp only [List.map_toArray, List.map_cons, List.map_nil]); first | done | rfl | (simp only [List.length_drop, List.length_take]; rfl)) ?_; (with_reducible refine (spec_cutAt.calls k a0 43 t163 t164 false _ A2.out).mono ?_); rintro e w' ⟨rfl, ⟨nd, rfl⟩⟩; refine ⟨_, rfl, ?_⟩) | ((with_reducible refine gate_callee (f := 169) rfl ?_); refine goesL_ (some 16) rfl rfl Tryd.func169 (by kernel_rfl) rfl #[.string t163, .int .u8 45] rfl (by (try simp only [List.map_toArray, List.map_cons, List.map_nil]); first | done | rfl | (simp only [List.length_drop, List.length_take]; rfl)) ?_; (with_reducible refine (spec_cutAt.calls k t163 45 t166 t167 false _ A3.out).mono ?_); rintro e w' ⟨rfl, ⟨nd, rfl⟩⟩; refine ⟨_, rfl, ?_⟩))
      refine bodyPost_ret (results_list (rs := [.tmp 2, .tmp 3, .tmp 4, .tmp 5]) rfl (by simp) (.tmp (.tmp (.tmp (.tmp .nil))))) rfl ?_
      exact ⟨by first | rfl | (simp [errW_none, errW_some] <;> rfl) | (simp [*, errW_none, errW_some] <;> rfl), by repeat (first | (with_reducible first | exact HB.out | apply below_alloc | apply pw_below_drewN | apply below_drew1) | exact HB.out)⟩

-- NOT PRINTED: function 90 (spec_grammar)

-- NOT PRINTED: function 35 (spec_StrictVersion)

-- NOT PRINTED: function 8 (laws_FnSemverStrictReads)

end Go.Proofs.YtalpehfjjidfhaaDoor.MS
