/- What is proved: by hand, terms and constraints as kinds of values, each with the block that it leads to. -/
import Derived.Test.YtalpehfjjidfhaaDoorKinds
import Derived.Test.YtalpehfjjidfhaaDoorHandK
import Derived.Test.YtalpehfjjidfhaaDoorHandQ
namespace Go.Proofs.YtalpehfjjidfhaaDoor.Hand
set_option linter.unusedVariables false
set_option linter.unusedSimpArgs false
open Go.RowKit Go.Proofs.YtalpehfjjidfhaaDoorW.PrintWords Sv
theorem heap_lastT (w : World) (o1 o2 o3 : Obj) : ((((w.alloc o1).alloc o2).alloc o3).drew).heap[w.heap.size + 1 + 1]? = some o3 := by
 show (((w.heap.push o1).push o2).push o3)[w.heap.size + 1 + 1]? = some o3
 rw [Array.getElem?_push, if_pos (by simp)]
/-- Block p is a version of these parts. -/
def PAt (w : World) (p : Nat) (M m t : Int) (u : ByteArray) : Prop := w.heap[p]? = some (.cells #[.int .u64 M, .int .u64 m, .int .u64 t, .string u, .string ⟨#[]⟩, .string ⟨#[]⟩] 97 (0, 0))
theorem PAt.lt {w : World} {p : Nat} {M m t : Int} {u : ByteArray} (h : PAt w p M m t u) : p < w.heap.size := blk_lt h
theorem PAt.below {w w' : World} {p : Nat} {M m t : Int} {u : ByteArray} (h : PAt w p M m t u) (hb : Below w.heap.size w w') : PAt w' p M m t u := blk_below h hb
theorem PAt.v {w : World} {p : Nat} {M m t : Int} {u : ByteArray} (h : PAt w p M m t u) : VAt w p M m t u ⟨#[]⟩ :=
 ⟨blk_lt h, (blk_cell h 0).trans rfl, (blk_cell h 1).trans rfl, (blk_cell h 2).trans rfl, (blk_cell h 3).trans rfl, (blk_cell h 4).trans rfl, (blk_cell h 5).trans rfl⟩
theorem PAt.h {w : World} {p : Nat} {M m t : Int} {u : ByteArray} (h : PAt w p M m t u) : HAt w p := ⟨_, _, h⟩
/-- Block q is a constraint of these parts. -/
def QAt (w : World) (q p : Nat) (s : ByteArray) (d md pd : Bool) : Prop := w.heap[q]? = some (.cells #[.pointer (some ⟨p, 0, none⟩), .string ⟨#[]⟩, .string s, .bool md, .bool d, .bool pd] 155 (0, 0))
theorem QAt.lt {w : World} {q p : Nat} {s : ByteArray} {d md pd : Bool} (h : QAt w q p s d md pd) : q < w.heap.size := blk_lt h
theorem QAt.k {w : World} {q p : Nat} {s : ByteArray} {d md pd : Bool} (h : QAt w q p s d md pd) : KAt w q p s d md pd :=
 ⟨blk_lt h, (blk_cell h 0).trans rfl, (blk_cell h 1).trans rfl, (blk_cell h 2).trans rfl, (blk_cell h 3).trans rfl, (blk_cell h 4).trans rfl, (blk_cell h 5).trans rfl⟩
set_option maxHeartbeats 1000000 in
theorem term_blk (op g M m t : Int) (u : ByteArray) (h0 : 0 ≤ g) (w : World) : Calls Tryd.prog 94 #[.agg #[.int .i64 op, .int .i64 g, .int .u64 M, .int .u64 m, .int .u64 t, .string u]] w fun e w' => ∃ N : Nat, e = .returned (.agg #[.string (opText op), .pointer (some ⟨N, 0, none⟩), .bool (decide (g < 3)), .bool (g == 1), .bool (g == 2)]) ∧ (PAt w' N M m t u ∧ w.heap.size ≤ N) ∧ Below w.heap.size w w' := by
 have h0' : decide (0 ≤ g) = true := decide_eq_true h0
 go_enter Tryd.func94, Tryd.ntmps94
 go_wp2_with fail
 go_region_held3 (fun w' => w'.cell? ⟨w.heap.size, 0, none⟩ = some (.int .i64 op) ∧ w'.cell? ⟨w.heap.size, 1, none⟩ = some (.int .i64 g) ∧ w'.cell? ⟨w.heap.size, 2, none⟩ = some (.int .u64 M) ∧ w'.cell? ⟨w.heap.size, 3, none⟩ = some (.int .u64 m) ∧ w'.cell? ⟨w.heap.size, 4, none⟩ = some (.int .u64 t) ∧ w'.cell? ⟨w.heap.size, 5, none⟩ = some (.string u)) (first | (refine ⟨?_, ?_, ?_, ?_, ?_, ?_⟩ <;> go_simp; done) | go_keep)
  (first | (go_at_call 145; (with_reducible refine (operator_any op _).mono ?_); rintro e w1 ⟨rfl, rfl⟩) | (go_at_call 130; (with_reducible refine (ZZVersion_any M m t u ⟨#[]⟩ _).mono ?_); rintro e w1 ⟨rfl, rfl⟩))
 all_goals
  go_wp2
  refine bodyPost_ret (v := .agg #[.string (opText op), .pointer (some ⟨w.heap.size + 1 + 1, 0, none⟩), .bool (decide (g < 3)), .bool (g == 1), .bool (g == 2)]) (by simp [results, Tryd.results94, go_sem, h0]) rfl ?_
  refine ⟨w.heap.size + 1 + 1, rfl, ⟨heap_lastT _ _ _ _, by omega⟩, ((((Below.refl _ _).alloc (Nat.le_refl _) _).alloc (by simp) _).alloc (by simp; omega) _).drew⟩
set_option maxHeartbeats 400000 in
theorem inner_blk (s : ByteArray) (p : Nat) (d md pd : Bool) (w : World) : Calls Tryd.prog 144 #[.agg #[.string s, .pointer (some ⟨p, 0, none⟩), .bool d, .bool md, .bool pd]] w fun e w' => ∃ N : Nat, e = .returned (.pointer (some ⟨N, 0, none⟩)) ∧ (QAt w' N p s d md pd ∧ w.heap.size ≤ N) ∧ Below w.heap.size w w' := by
 go_enter Tryd.func144, Tryd.ntmps144
 go_wp2
 all_goals
  go_ret
  exact ⟨w.heap.size + 1, by simp, ⟨heap_last2 _ _ _, by omega⟩, ((Below.refl _ _).alloc (Nat.le_refl _) _).alloc (by simp) _⟩
/-- The cells of a term as the package has it; its version is block x.2. -/
def zc (x : S42 × Nat) : List Value := [.string (opText x.1.f0), .pointer (some ⟨x.2, 0, none⟩), .bool (decide (x.1.f1 < 3)), .bool (x.1.f1 == 1), .bool (x.1.f1 == 2)]
def kz : Kd (S42 × Nat) where
 sz := 5
 E := [97]
 K := fun w x cs => cs = zc x ∧ PAt w x.2 x.1.f2 x.1.f3 x.1.f4 x.1.f5
 M := fun w base ok x cs => cs = zc x ∧ PAt w x.2 x.1.f2 x.1.f3 x.1.f4 x.1.f5 ∧ ok x.2 ∧ base ≤ x.2
 K_len := fun h => by rw [h.1]; rfl
 K_one := fun h u hu => by
  rw [h.1] at hu
  simp only [zc, List.mem_cons, List.not_mem_nil, or_false] at hu
  rcases hu with rfl | rfl | rfl | rfl | rfl <;> rfl
 K_below := fun hb h => ⟨h.1, h.2.below hb⟩
 K_of_M := fun h => ⟨h.1, h.2.1⟩
 M_mono := fun ho h => ⟨h.1, h.2.1, ho _ h.2.2.1, h.2.2.2⟩
 M_bound := fun h => ⟨h.1, h.2.1, ⟨h.2.2.1, h.2.2.2, h.2.1.lt, 97, by simp, _, h.2.1⟩, h.2.2.2⟩
 M_move := fun hm h => ⟨h.1, (hm _ h.2.2.1).trans h.2.1, h.2.2.1, h.2.2.2⟩
 M_lower := fun hb h => ⟨h.1, h.2.1, h.2.2.1, Nat.le_trans hb h.2.2.2⟩
/-- A constraint: block x.2.2, its version block x.2.1. -/
def kq : Kd (S42 × Nat × Nat) where
 sz := 1
 E := [155]
 K := fun w x cs => cs = [.pointer (some ⟨x.2.2, 0, none⟩)] ∧ QAt w x.2.2 x.2.1 (opText x.1.f0) (decide (x.1.f1 < 3)) (x.1.f1 == 1) (x.1.f1 == 2)
 M := fun w base ok x cs => cs = [.pointer (some ⟨x.2.2, 0, none⟩)] ∧ QAt w x.2.2 x.2.1 (opText x.1.f0) (decide (x.1.f1 < 3)) (x.1.f1 == 1) (x.1.f1 == 2) ∧ ok x.2.2 ∧ base ≤ x.2.2
 K_len := fun h => by rw [h.1]; rfl
 K_one := fun h u hu => by
  rw [h.1] at hu
  rw [List.mem_singleton.1 hu]
  rfl
 K_below := fun hb h => ⟨h.1, blk_below h.2 hb⟩
 K_of_M := fun h => ⟨h.1, h.2.1⟩
 M_mono := fun ho h => ⟨h.1, h.2.1, ho _ h.2.2.1, h.2.2.2⟩
 M_bound := fun h => ⟨h.1, h.2.1, ⟨h.2.2.1, h.2.2.2, h.2.1.lt, 155, by simp, _, h.2.1⟩, h.2.2.2⟩
 M_move := fun hm h => ⟨h.1, (hm _ h.2.2.1).trans h.2.1, h.2.2.1, h.2.2.2⟩
 M_lower := fun hb h => ⟨h.1, h.2.1, h.2.2.1, Nat.le_trans hb h.2.2.2⟩
end Go.Proofs.YtalpehfjjidfhaaDoor.Hand
