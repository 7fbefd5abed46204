/- What is proved: the kind of what is wrong with a prerelease, by hand, as a plain function for the print. -/
import Derived.Test.YtalpehfjjidfhaaDoorKindV
import Derived.Test.YtalpehfjjidfhaaDoorHandSet
namespace Go.Proofs.YtalpehfjjidfhaaDoor.Is
open Go Go.RowKit Sv Hand MS
open Go.Proofs.YtalpehfjjidfhaaDoorW.PrintWords
open Go.Proofs.YtalpehfjjidfhaaDoor.MA (tl)
set_option linter.unusedVariables false
set_option linter.unusedSimpArgs false
/-- The sentinels of versions. -/
def GlK (w : World) : Prop := ∃ E : Nat → Addr, Ge E [0, 1, 2, 3, 4, 5, 6, 7, 8] w ∧ Dst E [0, 1, 2, 3, 4, 5, 6, 7, 8] w
theorem GlK.below {w w' : World} (h : GlK w) (hb : Below w.heap.size w w') : GlK w' := by
  obtain ⟨E, h1, h2⟩ := h
  exact ⟨E, h1.below hb, h2.below hb⟩
theorem preK_vals (x : ByteArray) : preK x = 0 ∨ preK x = 4 ∨ preK x = 5 := by
  unfold preK
  split
  · simp
  · split
    · split <;> simp
    · split <;> simp
theorem firstK_vals {f : ByteArray → Nat} (l : List ByteArray) (h : ∀ x, f x = 0 ∨ f x = 4 ∨ f x = 5) : firstK f l = 0 ∨ firstK f l = 4 ∨ firstK f l = 5 := by
  induction l with
  | nil => exact Or.inl rfl
  | cons x r ih =>
    unfold firstK
    split
    · exact ih
    · exact h x
/-- What is wrong with a prerelease. -/
def preKind (x : ByteArray) : Nat := firstK preK (bs (splitD (tl x)))
theorem pre_c2 (E : Nat → Addr) (l : List UInt8) (hl : l.length ≤ 65600) (k : Nat) (hk : firstK preK (bs (splitD l)) = k) (w : World) (hE : Ge E [3, 4] w) :
    Calls Tryd.prog 126 #[.string (B l)] w fun e w' => e = .returned (ev E k) ∧ Below w.heap.size w w' := by
  rw [← hk]
  have := zzSplit_f (B l) ((B l).size + 2) (by omega) (by rw [B_size]; omega)
  rw [tl_B] at this
  exact validatePrerelease.calls E (B l) _ _ w hE this (by have := split_len' l 70000 (by omega); omega)
theorem zzPre (E : Nat → Addr) (x : ByteArray) (hx : x.size ≤ 65600) (k : Nat) (hk : preKind x = k) (w : World) (hE : Ge E [3, 4] w) :
    Calls Tryd.prog 78 #[.string x] w fun e w' => e = .returned (ev E k) ∧ Below w.heap.size w w' := by
  have V := Aside0.mk (pre_c2 E (tl x) (by rw [← size_data]; omega) k hk w hE)
  rw [B_tl] at V
  clear hE hk
  go_enter Tryd.func78, Tryd.ntmps78
  go_wp2_with (go_at_call 126; (with_reducible refine V.out.mono ?_); rintro e w1 ⟨rfl, hb1⟩; have HB := Aside0.mk hb1; clear hb1)
  go_ret
  exact ⟨rfl, HB.out⟩
def PreKind.f (a0 : ByteArray) : Option Int := if a0.size ≤ 65600 then some (preKind a0 : Int) else none
theorem PreKind.calls (a0 : ByteArray) (r : Int) (w : World) (hG0 : GlK w) (h : PreKind.f a0 = some r) :
    Calls Tryd.prog 22 #[.string a0] w fun e w' => e = .returned (.int .i64 r) ∧ Below w.heap.size w w' := by
  unfold PreKind.f at h
  by_cases hc : a0.size ≤ 65600
  · rw [if_pos hc] at h
    injection h with h
    subst h
    obtain ⟨E, hE, hD⟩ := hG0
    have hv := firstK_vals (f := preK) (bs (splitD (tl a0))) preK_vals
    have HE := Aside0.mk hE
    have HD := Aside0.mk hD
    clear hE hD
    rcases hv with hv | hv | hv
    · rw [show preKind a0 = 0 from hv]
      have V := Aside0.mk (zzPre E a0 hc 0 hv w (HE.out.sub (by simp)))
      clear hv
      go_enter Tryd.func22, Tryd.ntmps22
      go_wp2_with (first | (go_at_call 78; (with_reducible refine V.out.mono ?_); rintro e w1 ⟨rfl, hb1⟩; have HB := Aside0.mk hb1; clear hb1; simp only [ev]) | (go_at_call 77; (with_reducible refine (kind_0 _).mono ?_); rintro e w2 ⟨rfl, rfl⟩))
      go_ret
      exact ⟨rfl, HB.out⟩
    · rw [show preKind a0 = 4 from hv]
      have V := Aside0.mk (zzPre E a0 hc 4 hv w (HE.out.sub (by simp)))
      clear hv
      go_enter Tryd.func22, Tryd.ntmps22
      go_wp2_with (first | (go_at_call 78; (with_reducible refine V.out.mono ?_); rintro e w1 ⟨rfl, hb1⟩; have HB := Aside0.mk hb1; clear hb1; simp only [ev]) | (go_at_call 77; (with_reducible refine (kind_4 E _ _ (HE.out.below HB.out) (HD.out.below HB.out) (by simp)).mono ?_); rintro e w2 ⟨rfl, rfl⟩))
      go_ret
      exact ⟨rfl, HB.out⟩
    · rw [show preKind a0 = 5 from hv]
      have V := Aside0.mk (zzPre E a0 hc 5 hv w (HE.out.sub (by simp)))
      clear hv
      go_enter Tryd.func22, Tryd.ntmps22
      go_wp2_with (first | (go_at_call 78; (with_reducible refine V.out.mono ?_); rintro e w1 ⟨rfl, hb1⟩; have HB := Aside0.mk hb1; clear hb1; simp only [ev]) | (go_at_call 77; (with_reducible refine (kind_5 E _ _ (HE.out.below HB.out) (HD.out.below HB.out) (by simp)).mono ?_); rintro e w2 ⟨rfl, rfl⟩))
      go_ret
      exact ⟨rfl, HB.out⟩
  · rw [if_neg hc] at h; cases h
end Go.Proofs.YtalpehfjjidfhaaDoor.Is
