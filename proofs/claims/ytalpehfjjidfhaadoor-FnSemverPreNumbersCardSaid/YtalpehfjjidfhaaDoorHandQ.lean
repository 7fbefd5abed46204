/- What is proved: by hand, Equal over versions. -/
import Derived.Test.YtalpehfjjidfhaaDoorHandC
import Derived.LaidEqlPtr
namespace Go.Proofs.YtalpehfjjidfhaaDoor.Hand
set_option linter.unusedVariables false
set_option linter.unusedSimpArgs false
open Go.RowKit Go.Proofs.YtalpehfjjidfhaaDoorW.PrintWords Sv
theorem b2' {w w1 w2 : World} (h1 : Below w.heap.size w w1) (h2 : Below w1.heap.size w1 w2) : Below w.heap.size w w2 := h1.trans (h2.mono h1.size)
/-- Block p is a plain object. -/
def HAt (w : World) (p : Nat) : Prop := ∃ ca ta, w.heap[p]? = some (.cells ca ta (0, 0))
theorem HAt.below {w w' : World} {p : Nat} (h : HAt w p) (hb : Below w.heap.size w w') : HAt w' p := by
  obtain ⟨ca, ta, h⟩ := h
  have hl : p < w.heap.size := (Array.getElem?_eq_some_iff.1 h).1
  exact ⟨ca, ta, (hb.block p hl).trans h⟩
theorem heap_last2 (w : World) (o1 o2 : Obj) : ((w.alloc o1).alloc o2).heap[w.heap.size + 1]? = some o2 := by
  show ((w.heap.push o1).push o2)[w.heap.size + 1]? = some o2
  rw [Array.getElem?_push, if_pos (by simp)]
theorem u79 : Tryd.prog.underlying 79 = some (.pointer 97) := by kernel_rfl
theorem i97 : (Tryd.prog.info? 97).map (·.size) = some 6 := by kernel_rfl
theorem eq79 (w : World) (p q : Nat) (h1 : HAt w p) (h2 : HAt w q) (h3 : (p == q) = false) : (binOp .eql 79 (.pointer (some ⟨p, 0, none⟩)) (.pointer (some ⟨q, 0, none⟩))).run Tryd.prog w = .ok (.bool false) w := by
  obtain ⟨ca, ta, h1⟩ := h1
  obtain ⟨cb, tb, h2⟩ := h2
  have hi := i97
  cases e : Tryd.prog.info? 97 with
  | none => rw [e] at hi; cases hi
  | some j =>
    rw [e] at hi
    have hj : j.size = 6 := by simpa using hi
    exact run_eql_ptr_other w u79 e (by omega) (fun h => by injection h with h; exact (beq_eq_false_iff_ne.1 h3) h) h1 h2
attribute [local go_sem high] eq79
set_option maxHeartbeats 1000000 in
theorem Equal_at (M1 m1 t1 : Int) (u1 v1 : ByteArray) (M2 m2 t2 : Int) (u2 v2 : ByteArray) (p q : Nat) (w : World) (hne : p ≠ q) (a1 : HAt w p) (a2 : HAt w q) (h1 : VAt w p M1 m1 t1 u1 v1) (h2 : VAt w q M2 m2 t2 u2 v2) (hG0 : Gl w) (s1 : u1.size < 8796093022208) (s2 : u2.size < 8796093022208) :
    Calls Tryd.prog 86 #[.pointer (some ⟨p, 0, none⟩), .pointer (some ⟨q, 0, none⟩)] w fun e w' => e = .returned (.bool (decide (cmpVer M1 m1 t1 u1 M2 m2 t2 u2 = 0))) ∧ Below w.heap.size w w' := by
  have C := Compare_at M1 m1 t1 u1 v1 M2 m2 t2 u2 v2 p q w h1 h2 hG0 s1 s2
  generalize cmpVer M1 m1 t1 u1 M2 m2 t2 u2 = c at C ⊢
  have hneb : (p == q) = false := beq_eq_false_iff_ne.2 hne
  clear hne
  go_enter Tryd.func86, Tryd.ntmps86
  go_wp2_with (first | (go_at_call 84; (with_reducible refine C.mono ?_); rintro e w1 ⟨rfl, hb⟩))
  go_ret
  exact ⟨by first | rfl | (congr 3; rw [Bool.eq_iff_iff]; simp), hb⟩
set_option maxHeartbeats 400000 in
theorem version_at (M m t : Int) (u v : ByteArray) (w : World) : Calls Tryd.prog 83 #[.agg #[.int .u64 M, .int .u64 m, .int .u64 t, .string u, .string v]] w fun e w' => ∃ N : Nat, e = .returned (.pointer (some ⟨N, 0, none⟩)) ∧ (VAt w' N M m t u v ∧ HAt w' N) ∧ Below w.heap.size w w' ∧ w.heap.size ≤ N := by
  go_enter Tryd.func83, Tryd.ntmps83
  go_wp2_with (first | (go_at_call 130; (with_reducible refine (ZZVersion_any M m t u v _).mono ?_); rintro e w1 ⟨rfl, rfl⟩))
  go_ret
  refine ⟨w.heap.size + 1, by simp, ⟨⟨by simp, ?_⟩, _, _, heap_last2 _ _ _⟩, ((Below.refl _ _).alloc (Nat.le_refl _) _).alloc (by simp) _, by omega⟩
  refine ⟨?_, ?_, ?_, ?_, ?_, ?_⟩ <;> go_simp
theorem neq_of {w1 : World} {N1 N2 : Nat} {M m t : Int} {u v : ByteArray} (h : VAt w1 N1 M m t u v) (hN : w1.heap.size ≤ N2) : N1 ≠ N2 := by
  have := h.lt
  omega
set_option maxHeartbeats 2000000 in
theorem VersionEqual_any (M1 m1 t1 : Int) (u1 v1 : ByteArray) (M2 m2 t2 : Int) (u2 v2 : ByteArray) (w : World) (hG0 : Gl w) (s1 : u1.size < 8796093022208) (s2 : u2.size < 8796093022208) :
    Calls Tryd.prog 32 #[.agg #[.int .u64 M1, .int .u64 m1, .int .u64 t1, .string u1, .string v1], .agg #[.int .u64 M2, .int .u64 m2, .int .u64 t2, .string u2, .string v2]] w fun e w' => e = .returned (.bool (decide (cmpVer M1 m1 t1 u1 M2 m2 t2 u2 = 0))) ∧ Below w.heap.size w w' := by
  go_enter Tryd.func32, Tryd.ntmps32
  go_wp2_with fail
  go_region_with (first | (go_at_call 83; (with_reducible refine (version_at M1 m1 t1 u1 v1 _).mono ?_); rintro e w1 ⟨N1, rfl, ⟨hV1, hA1⟩, hb1, hz1⟩; obtain ⟨hc1, hf1⟩ := bcell hb1; have hB1 := below2 hb1) | (go_at_call 83; (with_reducible refine (version_at M2 m2 t2 u2 v2 _).mono ?_); rintro e w2 ⟨N2, rfl, ⟨hV2, hA2⟩, hb2, hz2⟩; obtain ⟨hc2, hf2⟩ := bcell hb2; have hB2 := hB1.trans (hb2.mono hB1.size)) | (go_at_call 86; (with_reducible refine (Equal_at M1 m1 t1 u1 v1 M2 m2 t2 u2 v2 N1 N2 _ (neq_of hV1 hz2) (hA1.below hb2) hA2 (hV1.below hb2) hV2 (hG0.below hB2) s1 s2).mono ?_); rintro e w3 ⟨rfl, hb3⟩; have hB3 := hB2.trans (hb3.mono hB2.size)))
  all_goals
    go_wp2
    go_ret
    exact ⟨rfl, hB3⟩
def VersionEqual.f (a0_0 a0_1 a0_2 : Int) (a0_3 a0_4 : ByteArray) (a1_0 a1_1 a1_2 : Int) (a1_3 a1_4 : ByteArray) : Option Bool := if a0_3.size < 8796093022208 ∧ a1_3.size < 8796093022208 then some (decide (cmpVer a0_0 a0_1 a0_2 a0_3 a1_0 a1_1 a1_2 a1_3 = 0)) else none
theorem VersionEqual.calls (a0_0 a0_1 a0_2 : Int) (a0_3 a0_4 : ByteArray) (a1_0 a1_1 a1_2 : Int) (a1_3 a1_4 : ByteArray) (r : Bool) (w : World) (hG0 : Gl w) (h : VersionEqual.f a0_0 a0_1 a0_2 a0_3 a0_4 a1_0 a1_1 a1_2 a1_3 a1_4 = some r) :
    Calls Tryd.prog 32 #[.agg #[.int .u64 a0_0, .int .u64 a0_1, .int .u64 a0_2, .string a0_3, .string a0_4], .agg #[.int .u64 a1_0, .int .u64 a1_1, .int .u64 a1_2, .string a1_3, .string a1_4]] w fun e w' => e = .returned (.bool r) ∧ Below w.heap.size w w' := by
  unfold VersionEqual.f at h
  by_cases hs : a0_3.size < 8796093022208 ∧ a1_3.size < 8796093022208
  · rw [if_pos hs] at h
    injection h with h
    subst h
    exact VersionEqual_any a0_0 a0_1 a0_2 a0_3 a0_4 a1_0 a1_1 a1_2 a1_3 a1_4 w hG0 hs.1 hs.2
  · rw [if_neg hs] at h; cases h
end Go.Proofs.YtalpehfjjidfhaaDoor.Hand
