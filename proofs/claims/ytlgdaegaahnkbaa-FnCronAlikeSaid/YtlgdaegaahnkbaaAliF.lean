/- Arrays of arrays of truth values built and indexed whole. -/
import Derived.Test.YtlgdaegaahnkbaaAliE
namespace Go.Proofs.Ytlgdaegaahnkbaa.Tm
open Go Go.RowKit Cal MC
set_option linter.unusedVariables false
set_option linter.unusedSimpArgs false
theorem fold_putAt (off : Nat) : ∀ (l : List Value) (k : Nat) (cur : Array Value), (l.zipIdx k).foldl (fun cs (p : Value × Nat) => cs.setIfInBounds (off + p.2) p.1) cur = putAt cur (off + k) l
  | [], k, cur => rfl
  | v :: r, k, cur => by
    rw [List.zipIdx_cons, List.foldl_cons]
    exact fold_putAt off r (k + 1) _
theorem fill_one (off n m : Nat) (f g : Nat → Bool) : (arrB m g).zipIdx.foldl (fun cs (p : Value × Nat) => cs.setIfInBounds (off + p.2) p.1) (arrB n f) = arrB n (over f off m g) := by
  rw [← Array.foldl_toList, Array.toList_zipIdx, fold_putAt, Nat.add_zero]
  exact putAt_arr n m f off g
/-- Two rows of m, one behind the other. -/
def two (m : Nat) (f g : Nat → Bool) : Nat → Bool := fun i => if i < m then f i else g (i - m)
theorem fill_two (m : Nat) (f g : Nat → Bool) (hm : 0 < m) :
    Instr.fill (fun i => some (i * m, m)) (arrB (m + m) fun _ => false) [(0, .agg (arrB m f)), (1, .agg (arrB m g))] = some (arrB (m + m) (two m f g)) := by
  have s1 : ∀ h, (Value.agg (arrB m h)).cells.size = m := fun h => by show (arrB m h).size = m; exact arrB_size _ _
  unfold Instr.fill
  simp only [s1]
  rw [if_neg (by simp [arrB_size])]
  have e1 := fill_one (0 * m) (m + m) m (fun _ => false) f
  rw [show (Value.agg (arrB m f)).cells = arrB m f from rfl, e1]
  unfold Instr.fill
  simp only [s1]
  rw [if_neg (by simp [arrB_size])]
  have e2 := fill_one (1 * m) (m + m) m (over (fun _ => false) (0 * m) m f) g
  rw [show (Value.agg (arrB m g)).cells = arrB m g from rfl, e2]
  unfold Instr.fill
  congr 1
  refine arrB_congr fun i hi => ?_
  unfold over two
  by_cases c : i < m
  · rw [if_neg (by omega), if_pos (by omega), if_pos c, Nat.zero_mul, Nat.sub_zero]
  · rw [if_pos (by omega), if_neg c, Nat.one_mul]
theorem built_of {P : Program} {t e : TypeId} {m n : Nat} {zc : Array Value} {it ie : TypeInfo} (h1 : P.info? t = some it) (h2 : P.underlying t = some (.array n e)) (hz : it.zero = some (.agg zc)) (h3 : P.info? e = some ie) (hs : ie.size = m) (parts : List (Nat × Value)) :
    P.built t parts = Instr.fill (fun i => some (i * m, m)) zc parts := by
  unfold Program.built
  subst hs
  simp only [h1, h2, hz, h3]
  rfl
theorem zero122 : (Try.prog.info? 122).map (fun i => (i.zero, i.size)) = some (some (.agg (arrB (384 + 384) fun _ => false)), 768) := by kernel_rfl
theorem under122 : Try.prog.underlying 122 = some (.array 2 32) := by kernel_rfl
theorem built122 (f g : Nat → Bool) : Try.prog.built 122 [(0, .agg (arrB 384 f)), (1, .agg (arrB 384 g))] = some (arrB (384 + 384) (two 384 f g)) := by
  obtain ⟨it, h1, z⟩ := Option.map_eq_some_iff.1 zero122
  obtain ⟨ie, h2, s⟩ := Option.map_eq_some_iff.1 size32
  rw [built_of h1 under122 (Prod.mk.inj z).1 h2 s]
  exact fill_two 384 f g (by decide)
end Go.Proofs.Ytlgdaegaahnkbaa.Tm
