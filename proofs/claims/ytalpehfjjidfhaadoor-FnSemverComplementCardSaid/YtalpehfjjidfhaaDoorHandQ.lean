/- What is proved: by hand, Equal over versions. -/
import Derived.Test.YtalpehfjjidfhaaDoorHandC
import Derived.LaidEqlPtr
namespace Go.Proofs.YtalpehfjjidfhaaDoor.Hand
set_option linter.unusedVariables false
set_option linter.unusedSimpArgs false
open Go.RowKit Go.Proofs.YtalpehfjjidfhaaDoorW.PrintWords Sv
/-- Block p is a plain object. -/
def HAt (w : World) (p : Nat) : Prop := ∃ ca ta, w.heap[p]? = some (.cells ca ta (0, 0))
theorem HAt.below {w w' : World} {p : Nat} (h : HAt w p) (hb : Below w.heap.size w w') : HAt w' p := by
 obtain ⟨ca, ta, h⟩ := h
 have hl : p < w.heap.size := (Array.getElem?_eq_some_iff.1 h).1
 exact ⟨ca, ta, (hb.block p hl).trans h⟩
theorem heap_last2 (w : World) (o1 o2 : Obj) : ((w.alloc o1).alloc o2).heap[w.heap.size + 1]? = some o2 := by
 show ((w.heap.push o1).push o2)[w.heap.size + 1]? = some o2
 rw [Array.getElem?_push, if_pos (by simp)]
theorem u79 : Tryd.prog.underlying 79 = some (.pointer 97) := by kernel_rfl
theorem i97 : (Tryd.prog.info? 97).map (·.size) = some 6 := by kernel_rfl
theorem eq79 (w : World) (p q : Nat) (h1 : HAt w p) (h2 : HAt w q) (h3 : (p == q) = false) : (binOp .eql 79 (.pointer (some ⟨p, 0, none⟩)) (.pointer (some ⟨q, 0, none⟩))).run Tryd.prog w = .ok (.bool false) w := by
 obtain ⟨ca, ta, h1⟩ := h1
 obtain ⟨cb, tb, h2⟩ := h2
 have hi := i97
 cases e : Tryd.prog.info? 97 with
 | none => rw [e] at hi; cases hi
 | some j =>
  rw [e] at hi
  have hj : j.size = 6 := by simpa using hi
  exact run_eql_ptr_other w u79 e (by omega) (fun h => by injection h with h; exact (beq_eq_false_iff_ne.1 h3) h) h1 h2
attribute [local go_sem high] eq79
set_option maxHeartbeats 1000000 in
theorem Equal_at (M1 m1 t1 : Int) (u1 v1 : ByteArray) (M2 m2 t2 : Int) (u2 v2 : ByteArray) (p q : Nat) (w : World) (hne : p ≠ q) (a1 : HAt w p) (a2 : HAt w q) (h1 : VAt w p M1 m1 t1 u1 v1) (h2 : VAt w q M2 m2 t2 u2 v2) (hG0 : Gl w) (s1 : u1.size < 8796093022208) (s2 : u2.size < 8796093022208) :
  Calls Tryd.prog 86 #[.pointer (some ⟨p, 0, none⟩), .pointer (some ⟨q, 0, none⟩)] w fun e w' => e = .returned (.bool (decide (cmpVer M1 m1 t1 u1 M2 m2 t2 u2 = 0))) ∧ Below w.heap.size w w' := by
 have C := Compare_at M1 m1 t1 u1 v1 M2 m2 t2 u2 v2 p q w h1 h2 hG0 s1 s2
 generalize cmpVer M1 m1 t1 u1 M2 m2 t2 u2 = c at C ⊢
 have hneb : (p == q) = false := beq_eq_false_iff_ne.2 hne
 clear hne
 go_enter Tryd.func86, Tryd.ntmps86
 go_wp2_with (first | (go_at_call 84; (with_reducible refine C.mono ?_); rintro e w1 ⟨rfl, hb⟩))
 go_ret
 exact ⟨by first | rfl | (congr 3; rw [Bool.eq_iff_iff]; simp), hb⟩
set_option maxHeartbeats 400000 in
theorem version_at (M m t : Int) (u v : ByteArray) (w : World) : Calls Tryd.prog 83 #[.agg #[.int .u64 M, .int .u64 m, .int .u64 t, .string u, .string v]] w fun e w' => ∃ N : Nat, e = .returned (.pointer (some ⟨N, 0, none⟩)) ∧ (VAt w' N M m t u v ∧ HAt w' N) ∧ Below w.heap.size w w' ∧ w.heap.size ≤ N := by
 go_enter Tryd.func83, Tryd.ntmps83
 go_wp2_with (first | (go_at_call 130; (with_reducible refine (ZZVersion_any M m t u v _).mono ?_); rintro e w1 ⟨rfl, rfl⟩))
 go_ret
 refine ⟨w.heap.size + 1, by simp, ⟨⟨by simp, ?_⟩, _, _, heap_last2 _ _ _⟩, ((Below.refl _ _).alloc (Nat.le_refl _) _).alloc (by simp) _, by omega⟩
 refine ⟨?_, ?_, ?_, ?_, ?_, ?_⟩ <;> go_simp
end Go.Proofs.YtalpehfjjidfhaaDoor.Hand
