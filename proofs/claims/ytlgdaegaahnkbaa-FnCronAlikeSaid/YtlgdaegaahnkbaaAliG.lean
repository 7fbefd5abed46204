/- A second of the day that is in one schedule alone: plain laws; arrays of arrays of truth values taken apart. -/
import Derived.Test.YtlgdaegaahnkbaaAliF
namespace Go.Proofs.Ytlgdaegaahnkbaa.Tm
open Go Go.RowKit Cal MC
set_option linter.unusedVariables false
set_option linter.unusedSimpArgs false
/-- The parts of a second of a day. -/
def part3 (r : Int) : Nat → Int
  | 0 => r % 60
  | 1 => r % 3600 / 60
  | _ => r / 3600
theorem lt3 {k : Nat} (h : k < 3) : k = 0 ∨ k = 1 ∨ k = 2 := by omega
theorem tB_all (b : SB) (r : Int) : tB b r = true ↔ ∀ k, k < 3 → bitOf (fldN b k) (part3 r k) = true := by
  unfold tB
  rw [Bool.and_eq_true, Bool.and_eq_true]
  constructor
  · rintro ⟨h2, h1, h0⟩ k hk
    rcases lt3 hk with rfl | rfl | rfl
    · exact h0
    · exact h1
    · exact h2
  · intro h
    exact ⟨h 2 (by decide), h 1 (by decide), h 0 (by decide)⟩
theorem fitT_tB (b : SB) (r : Int) : fitT b.sch r ↔ tB b r = true := by
  unfold tB
  rw [Bool.and_eq_true, Bool.and_eq_true]
  exact Iff.rfl
/-- No field of the time is empty. -/
def Ful (b : SB) : Prop := ∀ k : Nat, k < 3 → ∃ v : Int, 0 ≤ v ∧ v ≤ highK k ∧ bitOf (fldN b k) v = true
theorem ful_of {b : SB} (h : neverB b = false) : Ful b := by
  unfold neverB at h
  rw [Bool.or_eq_false_iff, Bool.or_eq_false_iff] at h
  have key : ∀ k : Nat, k < 3 → emptyB (setG b k) = false := by
    intro k hk
    rcases lt3 hk with rfl | rfl | rfl
    · exact h.2.2
    · exact h.2.1
    · exact h.1
  intro k hk
  have hl : lowK (k : Int) = 0 := by rcases lt3 hk with rfl | rfl | rfl <;> rfl
  have hh := high_bd (k : Int)
  have he := key k hk
  unfold emptyB at he
  rw [List.all_eq_false] at he
  obtain ⟨i, hi, hne⟩ := he
  rw [List.mem_range] at hi
  have hset : setG b k (1 + i) = true := by
    cases hq : setG b k (1 + i) with
    | true => rfl
    | false => rw [hq] at hne; exact absurd rfl hne
  unfold setG fcell at hset
  have e1 : (64 * k + (1 + i)) / 64 = k := by omega
  have e2 : (64 * k + (1 + i)) % 64 = 1 + i := by omega
  rw [if_pos (by omega), e1, e2] at hset
  unfold setB at hset
  rw [if_neg (by omega), Bool.and_eq_true] at hset
  have h1 := of_decide_eq_true hset.1
  refine ⟨(i : Int), by omega, by omega, ?_⟩
  unfold bitOf
  rw [show ((i : Int)).toNat = 1 + i - 1 by omega]
  exact hset.2
theorem part3_mk (x y z : Int) (x0 : 0 ≤ x) (x1 : x ≤ 59) (y0 : 0 ≤ y) (y1 : y ≤ 59) (z0 : 0 ≤ z) (z1 : z ≤ 23) : part3 (3600 * z + 60 * y + x) 0 = x ∧ part3 (3600 * z + 60 * y + x) 1 = y ∧ part3 (3600 * z + 60 * y + x) 2 = z := by
  refine ⟨?_, ?_, ?_⟩
  · show (3600 * z + 60 * y + x) % 60 = x
    omega
  · show (3600 * z + 60 * y + x) % 3600 / 60 = y
    omega
  · show (3600 * z + 60 * y + x) / 3600 = z
    omega
/-- A schedule with all fields of the time filled has a second of the day. -/
theorem ful_some {b : SB} (h : Ful b) : ∃ r, 0 ≤ r ∧ r < 86400 ∧ tB b r = true := by
  obtain ⟨x, x0, x1, hx⟩ := h 0 (by decide)
  obtain ⟨y, y0, y1, hy⟩ := h 1 (by decide)
  obtain ⟨z, z0, z1, hz⟩ := h 2 (by decide)
  change x ≤ 59 at x1
  change y ≤ 59 at y1
  change z ≤ 23 at z1
  obtain ⟨e0, e1, e2⟩ := part3_mk x y z x0 x1 y0 y1 z0 z1
  refine ⟨3600 * z + 60 * y + x, by omega, by omega, (tB_all b _).2 fun k hk => ?_⟩
  rcases lt3 hk with rfl | rfl | rfl
  · rw [e0]; exact hx
  · rw [e1]; exact hy
  · rw [e2]; exact hz
theorem bit_pow (v : Nat) (x : Int) (h : bitOf (2 ^ v) x = true) : x.toNat = v := by
  unfold bitOf at h
  rw [Nat.testBit_two_pow] at h
  exact (of_decide_eq_true h).symm
theorem ful_put {b : SB} (h : Ful b) (k v : Nat) (hk : k < 3) (hv : (v : Int) ≤ highK k) : Ful (b.put k (2 ^ v)) := by
  intro i hi
  by_cases c : i = k
  · subst c
    refine ⟨(v : Int), by omega, hv, ?_⟩
    rw [fld_put b i _ i hk (by omega), if_pos rfl]
    unfold bitOf
    rw [Nat.testBit_two_pow]
    exact decide_eq_true (by omega)
  · obtain ⟨x, x0, x1, hx⟩ := h i hi
    refine ⟨x, x0, x1, ?_⟩
    rw [fld_put b k _ i hk (by omega), if_neg c]
    exact hx
theorem part3_nn {r : Int} (h0 : 0 ≤ r) (k : Nat) : 0 ≤ part3 r k := by
  unfold part3
  split <;> omega
/-- A value that one schedule alone has in a field of the time: the first second of the day with it is in that schedule alone. -/
theorem time_alone {p q : SB} (hp : Ful p) (k v : Nat) (hk : k < 3) (hv : (v : Int) ≤ highK k) (h1 : bitOf (fldN p k) v = true) (h2 : bitOf (fldN q k) v = false) {r : Int} (h : IsTime (p.put k (2 ^ v)).sch 0 r) :
    0 ≤ r ∧ r < 86400 ∧ tB p r = true ∧ tB q r = false := by
  rcases h with ⟨_, hn⟩ | ⟨r0, r1, hf, _⟩
  · obtain ⟨r', g0, g1, g2⟩ := ful_some (ful_put hp k v hk hv)
    exact absurd ((fitT_tB _ _).2 g2) (hn r' g0 g1)
  · have ha := (tB_all _ r).1 ((fitT_tB _ _).1 hf)
    have hkk := ha k hk
    rw [fld_put p k _ k hk (by omega), if_pos rfl] at hkk
    have hvv := bit_pow v _ hkk
    have hpn := part3_nn r0 k
    have hev : part3 r k = (v : Int) := by omega
    refine ⟨r0, r1, (tB_all _ _).2 fun i hi => ?_, ?_⟩
    · by_cases c : i = k
      · subst c
        rw [hev]
        exact h1
      · have := ha i hi
        rw [fld_put p k _ i hk (by omega), if_neg c] at this
        exact this
    · cases hq : tB q r with
      | false => rfl
      | true =>
        have := (tB_all _ _).1 hq k hk
        rw [hev, h2] at this
        exact absurd this (by decide)
theorem two_left (m : Nat) (f g : Nat → Bool) : (arrB (m + m) (two m f g)).extract 0 m = arrB m f := by
  apply Array.ext_getElem?
  intro i
  rw [Array.getElem?_extract]
  by_cases h : i < m
  · rw [if_pos (by rw [arrB_size]; omega), arrB_get _ _ _ (by omega), arrB_get _ _ _ h]
    unfold two
    rw [if_pos (by omega), Nat.zero_add]
  · rw [if_neg (by rw [arrB_size]; omega)]
    symm
    rw [Array.getElem?_eq_none]
    rw [arrB_size]
    omega
theorem two_right (m : Nat) (f g : Nat → Bool) : (arrB (m + m) (two m f g)).extract m (m + m) = arrB m g := by
  apply Array.ext_getElem?
  intro i
  rw [Array.getElem?_extract]
  by_cases h : i < m
  · rw [if_pos (by rw [arrB_size]; omega), arrB_get _ _ _ (by omega), arrB_get _ _ _ h]
    unfold two
    rw [if_neg (by omega), Nat.add_sub_cancel_left]
  · rw [if_neg (by rw [arrB_size]; omega)]
    symm
    rw [Array.getElem?_eq_none]
    rw [arrB_size]
    omega
theorem two_zero (m : Nat) : arrB (m + m) (fun _ => false) = arrB (m + m) (two m (fun _ => false) fun _ => false) := arrB_congr fun i _ => by
  unfold two
  split <;> rfl
theorem run_index_of {P : Program} {t e : TypeId} {n m : Nat} {cs : Array Value} (w : World) (i : Nat) (hi : i < n) (h : P.underlying t = some (.array n e)) {d : TypeDesc} (he : P.underlying e = some d)
    (hd : (match d with | .struct _ | .array _ _ => true | _ => false) = true) (hs : (P.info? e).map (·.size) = some m) :
    (Instr.index t (.agg cs) (.int .i64 (i : Int))).run P w = .ok (.agg (cs.extract (i * m) (i * m + m))) w := by
  cases hq : P.info? e with
  | none => simp [hq] at hs
  | some ie =>
    have hsz : ie.size = m := by simpa [hq] using hs
    have hagg : (isAgg e).run P w = .ok true w := by
      unfold isAgg
      rw [Sem.run_bind, run_underlying he w]
      cases d <;> simp_all
    have hlt : (i : Int) < (n : Int) := by omega
    simp [Instr.index, part, run_underlying h, asIntOf, hlt, hi, hagg, sizeOf, typeInfo, hq, hsz, go_sem]
theorem under123 : Try.prog.underlying 123 = some (.array 2 122) := by kernel_rfl
theorem size122 : (Try.prog.info? 122).map (·.size) = some (384 + 384) := by kernel_rfl
theorem zero123 : (Try.prog.info? 123).map (fun i => (i.zero, i.size)) = some (some (.agg (arrB (768 + 768) fun _ => false)), 1536) := by kernel_rfl
theorem built123 (f g : Nat → Bool) : Try.prog.built 123 [(0, .agg (arrB (384 + 384) f)), (1, .agg (arrB (384 + 384) g))] = some (arrB (768 + 768) (two 768 f g)) := by
  obtain ⟨it, h1, z⟩ := Option.map_eq_some_iff.1 zero123
  obtain ⟨ie, h2, s⟩ := Option.map_eq_some_iff.1 size122
  rw [built_of h1 under123 (Prod.mk.inj z).1 h2 s]
  exact fill_two 768 f g (by decide)
theorem index123 (f g : Nat → Bool) (i : Nat) (hi : i < 2) (w : World) : (Instr.index 123 (.agg (arrB (768 + 768) (two 768 f g))) (.int .i64 (i : Int))).run Try.prog w = .ok (.agg (arrB (384 + 384) (if i = 0 then f else g))) w := by
  rw [run_index_of w i hi under123 under122 rfl size122]
  have h : i = 0 ∨ i = 1 := by omega
  rcases h with rfl | rfl
  · rw [if_pos rfl]
    have := two_left 768 f g
    simp only [Nat.zero_mul, Nat.zero_add]
    rw [this]
  · rw [if_neg (by decide)]
    have := two_right 768 f g
    simp only [Nat.one_mul]
    rw [this]
theorem wpList_built {P : Program} {ops : Array Oper} {rest : List Oper} {o : Oper} {a : Act} {w : World} {Q : Exit → Act → World → Prop} (hg : o.guard = none) (t : TypeId) (parts : Array (Nat × Operand)) (ho : o.op = .build t parts)
    (l : List (Nat × Value)) (hl : (parts.map fun (i, x) => (i, a.eval x)).toList = l) (cells : Array Value) (hb : P.built t l = some cells)
    (h : wpList P ops Q rest (a.put o.dst (.agg cells)) w) : wpList P ops Q (o :: rest) a w := by
  subst hl
  exact wpList_build hg t parts ho (by rw [hb]; rfl) (by rw [hb]; exact h)
theorem wpList_load_cells {P : Program} {ops : Array Oper} {rest : List Oper} {o : Oper} {a : Act} {w : World} {Q : Exit → Act → World → Prop} (hgd : o.guard = none) (ty : TypeId) (x : Operand) (ho : o.op = .load ty x)
    (g off n m : Nat) (f : Nat → Bool) (hx : a.eval x = .pointer (some ⟨g, off, none⟩)) (t : TypeId) (fr : Nat × Nat) (d : TypeDesc) (hg : w.heap[g]? = some (.cells (arrB n f) t fr)) (hom : off + m ≤ n)
    (hu : P.underlying ty = some d) (hd : (match d with | .struct _ | .array _ _ => true | _ => false) = true) (hi : (P.info? ty).map (·.size) = some m) (cells : Array Value) (hc : (arrB m fun i => f (off + i)) = cells)
    (h : wpList P ops Q rest (a.put o.dst (.agg cells)) w) : wpList P ops Q (o :: rest) a w := by
  subst hc
  exact wpList_load_at hgd ty x ho g off n m f hx t fr d hg hom hu hd hi h
end Go.Proofs.Ytlgdaegaahnkbaa.Tm
