/- What is proved: the kind of strconv's errors, of metadata, of a text that is read strictly, by hand, as plain functions. -/
import Derived.Test.YtalpehfjjidfhaaDoorKindP
namespace Go.Proofs.YtalpehfjjidfhaaDoor.Is
open Go Go.RowKit Sv Hand MS
open Go.Proofs.YtalpehfjjidfhaaDoorW.PrintWords
open Go.Proofs.YtalpehfjjidfhaaDoor.MA (tl)
set_option linter.unusedVariables false
set_option linter.unusedSimpArgs false
theorem wrap_oth {E : Nat → Addr} {S : List Nat} {w : World} {N : Nat} (h : Dst E S w) (i j : Nat) (hi : i ∈ S) (hj : j ∈ S) (hij : i ≠ j) (hc : w.cell? ⟨N, 2, none⟩ = some (.iface 176 (.pointer (some (E i))))) :
    Calls Tryd.prog 125 #[.iface 173 (.pointer (some ⟨N, 0, none⟩)), .iface 176 (.pointer (some (E j)))] w fun e w' => e = .returned (.bool false) ∧ w' = w := by
  obtain ⟨⟨ca, ta, ha⟩, hn⟩ := h i hi
  obtain ⟨⟨cb, tb, hb⟩, _⟩ := h j hj
  exact is_wrap_other N 0 (E j) (E i) ca cb ta tb w hc (hn j hj hij) ha hb
set_option maxHeartbeats 8000000 in
set_option maxRecDepth 100000 in
theorem kind_num (E : Nat → Addr) (S : List Nat) (w : World) (N i : Nat) (hE : Ge E S w) (hD : Dst E S w) (hS : ∀ x ∈ [0, 1, 2, 3, 4, 5, 6, 7, 8], x ∈ S) (hi : i ∈ S) (h9 : 9 ≤ i) (hc : w.cell? ⟨N, 2, none⟩ = some (.iface 176 (.pointer (some (E i))))) :
    Calls Tryd.prog 77 #[.iface 173 (.pointer (some ⟨N, 0, none⟩))] w fun e w' => e = .returned (.int .i64 10) ∧ w' = w := by
  have g0 := (hE 0 (hS 0 (by simp))).1
  have g1 := (hE 1 (hS 1 (by simp))).1
  have g2 := (hE 2 (hS 2 (by simp))).1
  have g3 := (hE 3 (hS 3 (by simp))).1
  have g4 := (hE 4 (hS 4 (by simp))).1
  have g5 := (hE 5 (hS 5 (by simp))).1
  have g6 := (hE 6 (hS 6 (by simp))).1
  have g7 := (hE 7 (hS 7 (by simp))).1
  have g8 := (hE 8 (hS 8 (by simp))).1
  have HD := Aside0.mk hD
  have HS := Aside0.mk hS
  have HI := Aside0.mk hi
  have HC := Aside0.mk hc
  have H9 := Aside0.mk h9
  clear hE hD hS hi hc h9
  go_enter Tryd.func77, Tryd.ntmps77
  go_wp2_with (first | (go_at_call 125; (with_reducible refine (wrap_oth HD.out i 0 HI.out (HS.out _ (by simp)) (by have := H9.out; omega) HC.out).mono ?_); rintro e w1 ⟨rfl, rfl⟩) | (go_at_call 125; (with_reducible refine (wrap_oth HD.out i 1 HI.out (HS.out _ (by simp)) (by have := H9.out; omega) HC.out).mono ?_); rintro e w1 ⟨rfl, rfl⟩) | (go_at_call 125; (with_reducible refine (wrap_oth HD.out i 2 HI.out (HS.out _ (by simp)) (by have := H9.out; omega) HC.out).mono ?_); rintro e w1 ⟨rfl, rfl⟩) | (go_at_call 125; (with_reducible refine (wrap_oth HD.out i 3 HI.out (HS.out _ (by simp)) (by have := H9.out; omega) HC.out).mono ?_); rintro e w1 ⟨rfl, rfl⟩) | (go_at_call 125; (with_reducible refine (wrap_oth HD.out i 4 HI.out (HS.out _ (by simp)) (by have := H9.out; omega) HC.out).mono ?_); rintro e w1 ⟨rfl, rfl⟩) | (go_at_call 125; (with_reducible refine (wrap_oth HD.out i 5 HI.out (HS.out _ (by simp)) (by have := H9.out; omega) HC.out).mono ?_); rintro e w1 ⟨rfl, rfl⟩) | (go_at_call 125; (with_reducible refine (wrap_oth HD.out i 6 HI.out (HS.out _ (by simp)) (by have := H9.out; omega) HC.out).mono ?_); rintro e w1 ⟨rfl, rfl⟩) | (go_at_call 125; (with_reducible refine (wrap_oth HD.out i 7 HI.out (HS.out _ (by simp)) (by have := H9.out; omega) HC.out).mono ?_); rintro e w1 ⟨rfl, rfl⟩) | (go_at_call 125; (with_reducible refine (wrap_oth HD.out i 8 HI.out (HS.out _ (by simp)) (by have := H9.out; omega) HC.out).mono ?_); rintro e w1 ⟨rfl, rfl⟩))
  go_ret
  exact ⟨rfl, rfl⟩
/-- The sentinels of versions and of strconv. -/
def GlN (w : World) : Prop := ∃ E : Nat → Addr, Ge E [0, 1, 2, 3, 4, 5, 6, 7, 8, 9, 10] w ∧ Dst E [0, 1, 2, 3, 4, 5, 6, 7, 8, 9, 10] w
theorem GlN.below {w w' : World} (h : GlN w) (hb : Below w.heap.size w w') : GlN w' := by
  obtain ⟨E, h1, h2⟩ := h
  exact ⟨E, h1.below hb, h2.below hb⟩
theorem GlN.k {w : World} (h : GlN w) : GlK w := by
  obtain ⟨E, h1, h2⟩ := h
  exact ⟨E, h1.sub (by simp), h2.sub (by simp)⟩
/-- The kind of an error's number. -/
def kn (k : Nat) : Nat := if k < 10 then k else 10
def strictK (l : List UInt8) : Nat := match strictR l with
  | .ok _ => 0
  | .er k => kn k
theorem kind_ev (E : Nat → Addr) (S : List Nat) (w : World) (k : Nat) (hk : k ≤ 7) (hE : Ge E S w) (hD : Dst E S w) (hS : ∀ x ∈ [0, 1, 2, 3, 4, 5, 6], x ∈ S) : Calls Tryd.prog 77 #[ev E k] w fun e w' => e = .returned (.int .i64 (k : Nat)) ∧ w' = w := by
  have hk' : k = 0 ∨ k = 1 ∨ k = 2 ∨ k = 3 ∨ k = 4 ∨ k = 5 ∨ k = 6 ∨ k = 7 := by omega
  rcases hk' with rfl | rfl | rfl | rfl | rfl | rfl | rfl | rfl
  · exact kind_0 w
  · exact kind_1 E S w hE hD (fun x hx => hS x (by simp only [List.mem_cons, List.not_mem_nil, or_false] at hx ⊢; omega))
  · exact kind_2 E S w hE hD (fun x hx => hS x (by simp only [List.mem_cons, List.not_mem_nil, or_false] at hx ⊢; omega))
  · exact kind_3 E S w hE hD (fun x hx => hS x (by simp only [List.mem_cons, List.not_mem_nil, or_false] at hx ⊢; omega))
  · exact kind_4 E S w hE hD (fun x hx => hS x (by simp only [List.mem_cons, List.not_mem_nil, or_false] at hx ⊢; omega))
  · exact kind_5 E S w hE hD (fun x hx => hS x (by simp only [List.mem_cons, List.not_mem_nil, or_false] at hx ⊢; omega))
  · exact kind_6 E S w hE hD (fun x hx => hS x (by simp only [List.mem_cons, List.not_mem_nil, or_false] at hx ⊢; omega))
  · exact kind_7 E S w hE hD (fun x hx => hS x (by simp only [List.mem_cons, List.not_mem_nil, or_false] at hx ⊢; omega))
theorem numR_vals (l : List UInt8) : (numR l).2 = 0 ∨ (numR l).2 = 10 ∨ (numR l).2 = 11 := by
  unfold numR
  cases Lib.parseUintB 64 l <;> simp
theorem segK_vals (l : List UInt8) : segK l = 0 ∨ segK l = 3 ∨ segK l = 4 := by
  unfold segK
  split
  · split <;> simp
  · simp
theorem metaK_vals (x : ByteArray) : metaK x = 0 ∨ metaK x = 6 := by
  unfold metaK
  split
  · simp
  · split <;> simp
theorem firstM_vals (l : List ByteArray) : firstK metaK l = 0 ∨ firstK metaK l = 6 := by
  induction l with
  | nil => exact Or.inl rfl
  | cons x r ih =>
    unfold firstK
    split
    · exact ih
    · exact metaK_vals x
def KOk (k : Nat) : Prop := k ≤ 7 ∨ k = 10 ∨ k = 11
theorem numsR_ok {a b c u v : List UInt8} {k : Nat} (h : numsR a b c u v = .er k) : KOk k := by
  have ha := numR_vals a
  have hb := numR_vals b
  have hc := numR_vals c
  unfold numsR at h
  unfold KOk
  split at h
  · injection h with h; omega
  · split at h
    · injection h with h; omega
    · split at h
      · injection h with h; omega
      · cases h
theorem segsR_ok {a b c u v : List UInt8} {k : Nat} (h : segsR a b c u v = .er k) : KOk k := by
  have ha := segK_vals a
  have hb := segK_vals b
  have hc := segK_vals c
  unfold segsR at h
  split at h
  · injection h with h; unfold KOk; omega
  · split at h
    · injection h with h; unfold KOk; omega
    · split at h
      · injection h with h; unfold KOk; omega
      · exact numsR_ok h
theorem preR_ok {a b c v : List UInt8} {k : Nat} (h : preR a b c v = .er k) : KOk k := by
  unfold preR at h
  split at h
  · have hv := firstK_vals (f := preK) (bs (splitD (tail 45 c))) preK_vals
    injection h with h; unfold KOk; omega
  · exact segsR_ok h
theorem metaR_ok {a b c : List UInt8} {k : Nat} (h : metaR a b c = .er k) : KOk k := by
  unfold metaR at h
  split at h
  · have hv := firstM_vals (bs (splitD (tail 43 c)))
    injection h with h; unfold KOk; omega
  · exact preR_ok h
theorem strictR_ok {l : List UInt8} {k : Nat} (h : strictR l = .er k) : KOk k := by
  unfold strictR at h
  split at h
  · injection h with h; unfold KOk; omega
  · split at h
    · injection h with h; unfold KOk; omega
    · split at h
      · injection h with h; unfold KOk; omega
      · split at h
        · injection h with h; unfold KOk; omega
        · exact metaR_ok h
/-- What is wrong with metadata. -/
def metaKind (x : ByteArray) : Nat := firstK metaK (bs (splitD (tl x)))
theorem meta_c2 (E : Nat → Addr) (l : List UInt8) (hl : l.length ≤ 4294967296) (k : Nat) (hk : firstK metaK (bs (splitD l)) = k) (w : World) (hE : Ge E [5] w) :
    Calls Tryd.prog 139 #[.string (B l)] w fun e w' => e = .returned (ev E k) ∧ Below w.heap.size w w' := by
  rw [← hk]
  have := zzSplit_f (B l) ((B l).size + 2) (by omega) (by rw [B_size]; omega)
  rw [tl_B] at this
  exact validateMetadata.calls E (B l) _ _ w hE this (by have := split_len' l 4294967297 (by omega); omega)
theorem zzMeta (E : Nat → Addr) (x : ByteArray) (hx : x.size ≤ 4294967296) (k : Nat) (hk : metaKind x = k) (w : World) (hE : Ge E [5] w) :
    Calls Tryd.prog 97 #[.string x] w fun e w' => e = .returned (ev E k) ∧ Below w.heap.size w w' := by
  have V := Aside0.mk (meta_c2 E (tl x) (by rw [← size_data]; omega) k hk w hE)
  rw [B_tl] at V
  clear hE hk
  go_enter Tryd.func97, Tryd.ntmps97
  go_wp2_with (go_at_call 139; (with_reducible refine V.out.mono ?_); rintro e w1 ⟨rfl, hb1⟩; have HB := Aside0.mk hb1; clear hb1)
  go_ret
  exact ⟨rfl, HB.out⟩
def MetaKind.f (a0 : ByteArray) : Option Int := if a0.size ≤ 4294967296 then some (metaKind a0 : Int) else none
theorem MetaKind.calls (a0 : ByteArray) (r : Int) (w : World) (hG0 : GlN w) (h : MetaKind.f a0 = some r) :
    Calls Tryd.prog 43 #[.string a0] w fun e w' => e = .returned (.int .i64 r) ∧ Below w.heap.size w w' := by
  unfold MetaKind.f at h
  by_cases hc : a0.size ≤ 4294967296
  · rw [if_pos hc] at h
    injection h with h
    subst h
    obtain ⟨E, hE, hD⟩ := hG0
    have hv : metaKind a0 ≤ 7 := by have := firstM_vals (bs (splitD (tl a0))); unfold metaKind; omega
    have V := Aside0.mk (zzMeta E a0 hc _ rfl w (hE.sub (by simp)))
    have K := Aside0.mk (fun w1 h1 h2 => kind_ev E [0, 1, 2, 3, 4, 5, 6, 7, 8, 9, 10] w1 (metaKind a0) hv h1 h2 (by simp))
    have HE := Aside0.mk hE
    have HD := Aside0.mk hD
    clear hE hD hv
    generalize metaKind a0 = k at V K ⊢
    generalize ev E k = vk at V K
    go_enter Tryd.func43, Tryd.ntmps43
    go_wp2_with (first | (go_at_call 97; (with_reducible refine V.out.mono ?_); rintro e w1 ⟨rfl, hb1⟩; have HB := Aside0.mk hb1; clear hb1) | (go_at_call 77; (with_reducible refine (K.out _ (HE.out.below HB.out) (HD.out.below HB.out)).mono ?_); rintro e w2 ⟨rfl, rfl⟩))
    go_ret
    exact ⟨rfl, HB.out⟩
  · rw [if_neg hc] at h; cases h
theorem pre_c3 (E : Nat → Addr) (l : List UInt8) (hl : l.length ≤ 4294967296) (k : Nat) (hk : firstK preK (bs (splitD l)) = k) (w : World) (hE : Ge E [3, 4] w) :
    Calls Tryd.prog 126 #[.string (B l)] w fun e w' => e = .returned (ev E k) ∧ Below w.heap.size w w' := by
  rw [← hk]
  have := zzSplit_f (B l) ((B l).size + 2) (by omega) (by rw [B_size]; omega)
  rw [tl_B] at this
  exact validatePrerelease.calls E (B l) _ _ w hE this (by have := split_len' l 4294967297 (by omega); omega)
theorem zzPre3 (E : Nat → Addr) (x : ByteArray) (hx : x.size ≤ 4294967296) (k : Nat) (hk : preKind x = k) (w : World) (hE : Ge E [3, 4] w) :
    Calls Tryd.prog 78 #[.string x] w fun e w' => e = .returned (ev E k) ∧ Below w.heap.size w w' := by
  have V := Aside0.mk (pre_c3 E (tl x) (by rw [← size_data]; omega) k hk w hE)
  rw [B_tl] at V
  clear hE hk
  go_enter Tryd.func78, Tryd.ntmps78
  go_wp2_with (go_at_call 126; (with_reducible refine V.out.mono ?_); rintro e w1 ⟨rfl, hb1⟩; have HB := Aside0.mk hb1; clear hb1)
  go_ret
  exact ⟨rfl, HB.out⟩
def PreKindL.f (a0 : ByteArray) : Option Int := if a0.size ≤ 4294967296 then some (preKind a0 : Int) else none
theorem PreKindL.calls (a0 : ByteArray) (r : Int) (w : World) (hG0 : GlN w) (h : PreKindL.f a0 = some r) :
    Calls Tryd.prog 22 #[.string a0] w fun e w' => e = .returned (.int .i64 r) ∧ Below w.heap.size w w' := by
  unfold PreKindL.f at h
  by_cases hc : a0.size ≤ 4294967296
  · rw [if_pos hc] at h
    injection h with h
    subst h
    obtain ⟨E, hE, hD⟩ := hG0
    have hv : preKind a0 ≤ 7 := by have := firstK_vals (f := preK) (bs (splitD (tl a0))) preK_vals; unfold preKind; omega
    have V := Aside0.mk (zzPre3 E a0 hc _ rfl w (hE.sub (by simp)))
    have K := Aside0.mk (fun w1 h1 h2 => kind_ev E [0, 1, 2, 3, 4, 5, 6, 7, 8, 9, 10] w1 (preKind a0) hv h1 h2 (by simp))
    have HE := Aside0.mk hE
    have HD := Aside0.mk hD
    clear hE hD hv
    generalize preKind a0 = k at V K ⊢
    generalize ev E k = vk at V K
    go_enter Tryd.func22, Tryd.ntmps22
    go_wp2_with (first | (go_at_call 78; (with_reducible refine V.out.mono ?_); rintro e w1 ⟨rfl, hb1⟩; have HB := Aside0.mk hb1; clear hb1) | (go_at_call 77; (with_reducible refine (K.out _ (HE.out.below HB.out) (HD.out.below HB.out)).mono ?_); rintro e w2 ⟨rfl, rfl⟩))
    go_ret
    exact ⟨rfl, HB.out⟩
  · rw [if_neg hc] at h; cases h
/-- The kind of the error that the strict reading leaves. -/
theorem kind_strict (E : Nat → Addr) (w : World) (k : Nat) (hk : KOk k) (v : Value) (hv : EvK E w k v) (hE : Ge E [0, 1, 2, 3, 4, 5, 6, 7, 8, 9, 10] w) (hD : Dst E [0, 1, 2, 3, 4, 5, 6, 7, 8, 9, 10] w) :
    Calls Tryd.prog 77 #[v] w fun e w' => e = .returned (.int .i64 (kn k : Nat)) ∧ w' = w := by
  rcases hv with ⟨h1, rfl⟩ | ⟨h1, N, a, b, rfl, hN⟩
  · have h7 : k ≤ 7 := by rcases hk with h | h | h <;> omega
    have e : kn k = k := by unfold kn; rw [if_pos h1]
    rw [e]
    exact kind_ev E _ w k h7 hE hD (by simp)
  · have e : kn k = 10 := by unfold kn; rw [if_neg (by omega)]
    rw [e]
    have hi : k - 1 ∈ [0, 1, 2, 3, 4, 5, 6, 7, 8, 9, 10] := by
      rcases hk with h | h | h
      · omega
      · subst h; simp
      · subst h; simp
    exact kind_num E _ w N (k - 1) hE hD (by simp) hi (by omega) ((blk_cell hN 2).trans rfl)
def StrictKind.f (a0 : ByteArray) : Option Int := if a0.size ≤ 100000000000 then some (strictK (tl a0) : Int) else none
set_option maxRecDepth 100000 in
theorem StrictKind.calls (a0 : ByteArray) (r : Int) (w : World) (hG0 : GlN w) (h : StrictKind.f a0 = some r) :
    Calls Tryd.prog 47 #[.string a0] w fun e w' => e = .returned (.int .i64 r) ∧ Below w.heap.size w w' := by
  unfold StrictKind.f at h
  by_cases hc : a0.size ≤ 100000000000
  · rw [if_pos hc] at h
    injection h with h
    subst h
    obtain ⟨E, hE, hD⟩ := hG0
    have V := Aside0.mk (Strict_any E a0 w (hE.sub (by simp)) (by unfold maxLen; omega))
    have HE := Aside0.mk hE
    have HD := Aside0.mk hD
    clear hE hD
    unfold strictK
    cases hr : strictR (tl a0) with
    | ok P =>
      rw [hr] at V
      clear hr
      go_enter Tryd.func47, Tryd.ntmps47
      go_wp2_with (first | (go_at_call 89; (with_reducible refine V.out.mono ?_); rintro e w1 ⟨hb1, N, rfl, hV1⟩; have HB := Aside0.mk hb1; clear hb1 hV1) | (go_at_call 77; (with_reducible refine (kind_0 _).mono ?_); rintro e w2 ⟨rfl, rfl⟩))
      go_ret
      exact ⟨rfl, HB.out⟩
    | er k =>
      rw [hr] at V
      have hk := Aside0.mk (strictR_ok hr)
      clear hr
      go_enter Tryd.func47, Tryd.ntmps47
      go_wp2_with (first | (go_at_call 89; (with_reducible refine V.out.mono ?_); rintro e w1 ⟨hb1, v, rfl, hv1⟩; have HB := Aside0.mk hb1; have HV := Aside0.mk hv1; clear hb1 hv1) | (go_at_call 77; (with_reducible refine (kind_strict E _ k hk.out _ HV.out (HE.out.below HB.out) (HD.out.below HB.out)).mono ?_); rintro e w2 ⟨rfl, rfl⟩))
      go_ret
      exact ⟨rfl, HB.out⟩
  · rw [if_neg hc] at h; cases h
end Go.Proofs.YtalpehfjjidfhaaDoor.Is
