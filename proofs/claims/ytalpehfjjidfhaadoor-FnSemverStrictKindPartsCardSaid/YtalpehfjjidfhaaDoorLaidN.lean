/- What the listed error variables of semver give for errors.Is: their places, all different. -/
import Derived.Test.YtalpehfjjidfhaaDoorLaid
import Derived.Test.YtalpehfjjidfhaaDoorKindN
import Derived.Stop.LaidTwo
namespace Go.Proofs.YtalpehfjjidfhaaDoor.LN
open Go Go.RowKit
set_option linter.unusedVariables false
set_option linter.unusedSimpArgs false
theorem gE10 : Tryd.prog.globalNamed "strconv.ErrRange" = some 10 := by kernel_rfl
theorem gE10t : (Tryd.prog.globals[10]?).map (·.type) = some 77 := by kernel_rfl
theorem gE9 : Tryd.prog.globalNamed "strconv.ErrSyntax" = some 9 := by kernel_rfl
theorem gE9t : (Tryd.prog.globals[9]?).map (·.type) = some 77 := by kernel_rfl
theorem gE7 : Tryd.prog.globalNamed "pub-timebook/pub/semver.ErrConstraintTooLong" = some 7 := by kernel_rfl
theorem gE7t : (Tryd.prog.globals[7]?).map (·.type) = some 77 := by kernel_rfl
theorem gE8 : Tryd.prog.globalNamed "pub-timebook/pub/semver.ErrTooManyConstraintGroups" = some 8 := by kernel_rfl
theorem gE8t : (Tryd.prog.globals[8]?).map (·.type) = some 77 := by kernel_rfl
theorem gE6 : Tryd.prog.globalNamed "pub-timebook/pub/semver.ErrInvalidSemVer" = some 6 := by kernel_rfl
theorem gE6t : (Tryd.prog.globals[6]?).map (·.type) = some 77 := by kernel_rfl
theorem gE0 : Tryd.prog.globalNamed "pub-timebook/pub/semver.ErrEmptyString" = some 0 := by kernel_rfl
theorem gE0t : (Tryd.prog.globals[0]?).map (·.type) = some 77 := by kernel_rfl
theorem gE2 : Tryd.prog.globalNamed "pub-timebook/pub/semver.ErrInvalidCharacters" = some 2 := by kernel_rfl
theorem gE2t : (Tryd.prog.globals[2]?).map (·.type) = some 77 := by kernel_rfl
theorem gE3 : Tryd.prog.globalNamed "pub-timebook/pub/semver.ErrSegmentStartsZero" = some 3 := by kernel_rfl
theorem gE3t : (Tryd.prog.globals[3]?).map (·.type) = some 77 := by kernel_rfl
theorem gE5 : Tryd.prog.globalNamed "pub-timebook/pub/semver.ErrInvalidMetadata" = some 5 := by kernel_rfl
theorem gE5t : (Tryd.prog.globals[5]?).map (·.type) = some 77 := by kernel_rfl
theorem gE4 : Tryd.prog.globalNamed "pub-timebook/pub/semver.ErrInvalidPrerelease" = some 4 := by kernel_rfl
theorem gE4t : (Tryd.prog.globals[4]?).map (·.type) = some 77 := by kernel_rfl
theorem gE1 : Tryd.prog.globalNamed "pub-timebook/pub/semver.ErrVersionTooLong" = some 1 := by kernel_rfl
theorem gE1t : (Tryd.prog.globals[1]?).map (·.type) = some 77 := by kernel_rfl
theorem below_of_cell {w : World} {g : Nat} {v : Value} (h : w.cell? ⟨g, 0, none⟩ = some v) : g < w.heap.size := by
  rcases Nat.lt_or_ge g w.heap.size with h' | h'
  · exact h'
  · exfalso
    have : w.heap[g]? = none := Array.getElem?_eq_none h'
    simp [World.cell?, this] at h
theorem laid_drop {Q : Program} {x y : String × DataW Unit} {r : List (String × DataW Unit)} {W : World} (h : laidMet Q (x :: y :: r) W) : laidMet Q (x :: r) W := by
  obtain ⟨n0, d0⟩ := x
  obtain ⟨n1, d1⟩ := y
  obtain ⟨ps, ⟨g0, t0, cs0, f0, p0, q0, hg0, ht0, hv0, hd0, ⟨g1, t1, cs1, f1, p1, q1, hg1, ht1, hv1, hd1, hr, e1⟩, e0⟩, hnd, hrows⟩ := h
  subst e1
  subst e0
  refine ⟨_, ⟨g0, t0, cs0, f0, p0, q1, hg0, ht0, hv0, hd0, hr, rfl⟩, ?_, fun b off hb => hrows b off ?_⟩
  · simp only [List.cons_append, List.nodup_cons, List.mem_append, List.nodup_append, List.mem_cons] at hnd ⊢
    grind
  · simp only [List.mem_append, List.mem_cons, List.cons_append] at hb ⊢
    grind
/-- Two sentinels of a list, the second right behind the first. -/
theorem two {n0 n1 : String} {t0 t1 : List UInt8} {r : List (String × DataW Unit)} {w : World} {g0 g1 : Nat} {a b : Addr}
    (h : laidMet Tryd.prog ((n0, .iface "*errors.errorString" (.ptr (.agg [.lit (.string t0)]))) :: (n1, .iface "*errors.errorString" (.ptr (.agg [.lit (.string t1)]))) :: r) w)
    (hg0 : Tryd.prog.globalNamed n0 = some g0) (ht0 : (Tryd.prog.globals[g0]?).map (·.type) = some 77) (hg1 : Tryd.prog.globalNamed n1 = some g1) (ht1 : (Tryd.prog.globals[g1]?).map (·.type) = some 77)
    (ha : w.cell? ⟨g0, 0, none⟩ = some (.iface 176 (.pointer (some a)))) (hb : w.cell? ⟨g1, 0, none⟩ = some (.iface 176 (.pointer (some b)))) :
    a ≠ b ∧ (∃ c t, w.heap[a.block]? = some (.cells c t (0, 0))) ∧ ∃ c t, w.heap[b.block]? = some (.cells c t (0, 0)) := by
  obtain ⟨a0, a1, s0, s1, c0, c1, u0, u1, hv0, hv1, -, -, -, -, -, -, hne, hb0, hb1⟩ := laid_sentinels2 h hg0 ht0 hg1 ht1 Tryd.underlying77 row176 Tryd.underlying176 Tryd.underlying178 rfl rfl Tryd.underlying9 cellsOf178 cellsOf9
  have k0 : w.cell? ⟨g0, 0, none⟩ = some (.iface 176 (.pointer (some a0))) := by simpa using World.var?_cell hg0 hv0 0
  have k1 : w.cell? ⟨g1, 0, none⟩ = some (.iface 176 (.pointer (some a1))) := by simpa using World.var?_cell hg1 hv1 0
  rw [ha] at k0
  rw [hb] at k1
  injection k0 with k0
  injection k0 with _ k0
  injection k0 with k0
  injection k0 with k0
  injection k1 with k1
  injection k1 with _ k1
  injection k1 with k1
  injection k1 with k1
  subst k0
  subst k1
  exact ⟨hne, ⟨c0, u0, hb0⟩, c1, u1, hb1⟩
theorem glN_of {w : World} {r : List (String × DataW Unit)} (hL : laidMet Tryd.prog (("strconv.ErrRange", Rows.laid_strconv_ErrRange) :: ("strconv.ErrSyntax", Rows.laid_strconv_ErrSyntax) :: ("pub-timebook/pub/semver.ErrConstraintTooLong", Rows.laid_pub_timebook_pub_semver_ErrConstraintTooLong) :: ("pub-timebook/pub/semver.ErrTooManyConstraintGroups", Rows.laid_pub_timebook_pub_semver_ErrTooManyConstraintGroups) :: ("pub-timebook/pub/semver.ErrInvalidSemVer", Rows.laid_pub_timebook_pub_semver_ErrInvalidSemVer) :: ("pub-timebook/pub/semver.ErrEmptyString", Rows.laid_pub_timebook_pub_semver_ErrEmptyString) :: ("pub-timebook/pub/semver.ErrInvalidCharacters", Rows.laid_pub_timebook_pub_semver_ErrInvalidCharacters) :: ("pub-timebook/pub/semver.ErrSegmentStartsZero", Rows.laid_pub_timebook_pub_semver_ErrSegmentStartsZero) :: ("pub-timebook/pub/semver.ErrInvalidMetadata", Rows.laid_pub_timebook_pub_semver_ErrInvalidMetadata) :: ("pub-timebook/pub/semver.ErrInvalidPrerelease", Rows.laid_pub_timebook_pub_semver_ErrInvalidPrerelease) :: ("pub-timebook/pub/semver.ErrVersionTooLong", Rows.laid_pub_timebook_pub_semver_ErrVersionTooLong) :: r) w) : Is.GlN w := by
  obtain ⟨a10, s10, hv10, -, -, -⟩ := laid_sentinel hL gE10 gE10t Tryd.underlying77 row176 Tryd.underlying176 Tryd.underlying178 rfl rfl Tryd.underlying9 cellsOf178 cellsOf9
  have c10 : w.cell? ⟨10, 0, none⟩ = some (.iface 176 (.pointer (some a10))) := by simpa using World.var?_cell gE10 hv10 0
  obtain ⟨a9, s9, hv9, -, -, -⟩ := laid_sentinel hL.tail gE9 gE9t Tryd.underlying77 row176 Tryd.underlying176 Tryd.underlying178 rfl rfl Tryd.underlying9 cellsOf178 cellsOf9
  have c9 : w.cell? ⟨9, 0, none⟩ = some (.iface 176 (.pointer (some a9))) := by simpa using World.var?_cell gE9 hv9 0
  obtain ⟨a7, s7, hv7, -, -, -⟩ := laid_sentinel hL.tail.tail gE7 gE7t Tryd.underlying77 row176 Tryd.underlying176 Tryd.underlying178 rfl rfl Tryd.underlying9 cellsOf178 cellsOf9
  have c7 : w.cell? ⟨7, 0, none⟩ = some (.iface 176 (.pointer (some a7))) := by simpa using World.var?_cell gE7 hv7 0
  obtain ⟨a8, s8, hv8, -, -, -⟩ := laid_sentinel hL.tail.tail.tail gE8 gE8t Tryd.underlying77 row176 Tryd.underlying176 Tryd.underlying178 rfl rfl Tryd.underlying9 cellsOf178 cellsOf9
  have c8 : w.cell? ⟨8, 0, none⟩ = some (.iface 176 (.pointer (some a8))) := by simpa using World.var?_cell gE8 hv8 0
  obtain ⟨a6, s6, hv6, -, -, -⟩ := laid_sentinel hL.tail.tail.tail.tail gE6 gE6t Tryd.underlying77 row176 Tryd.underlying176 Tryd.underlying178 rfl rfl Tryd.underlying9 cellsOf178 cellsOf9
  have c6 : w.cell? ⟨6, 0, none⟩ = some (.iface 176 (.pointer (some a6))) := by simpa using World.var?_cell gE6 hv6 0
  obtain ⟨a0, s0, hv0, -, -, -⟩ := laid_sentinel hL.tail.tail.tail.tail.tail gE0 gE0t Tryd.underlying77 row176 Tryd.underlying176 Tryd.underlying178 rfl rfl Tryd.underlying9 cellsOf178 cellsOf9
  have c0 : w.cell? ⟨0, 0, none⟩ = some (.iface 176 (.pointer (some a0))) := by simpa using World.var?_cell gE0 hv0 0
  obtain ⟨a2, s2, hv2, -, -, -⟩ := laid_sentinel hL.tail.tail.tail.tail.tail.tail gE2 gE2t Tryd.underlying77 row176 Tryd.underlying176 Tryd.underlying178 rfl rfl Tryd.underlying9 cellsOf178 cellsOf9
  have c2 : w.cell? ⟨2, 0, none⟩ = some (.iface 176 (.pointer (some a2))) := by simpa using World.var?_cell gE2 hv2 0
  obtain ⟨a3, s3, hv3, -, -, -⟩ := laid_sentinel hL.tail.tail.tail.tail.tail.tail.tail gE3 gE3t Tryd.underlying77 row176 Tryd.underlying176 Tryd.underlying178 rfl rfl Tryd.underlying9 cellsOf178 cellsOf9
  have c3 : w.cell? ⟨3, 0, none⟩ = some (.iface 176 (.pointer (some a3))) := by simpa using World.var?_cell gE3 hv3 0
  obtain ⟨a5, s5, hv5, -, -, -⟩ := laid_sentinel hL.tail.tail.tail.tail.tail.tail.tail.tail gE5 gE5t Tryd.underlying77 row176 Tryd.underlying176 Tryd.underlying178 rfl rfl Tryd.underlying9 cellsOf178 cellsOf9
  have c5 : w.cell? ⟨5, 0, none⟩ = some (.iface 176 (.pointer (some a5))) := by simpa using World.var?_cell gE5 hv5 0
  obtain ⟨a4, s4, hv4, -, -, -⟩ := laid_sentinel hL.tail.tail.tail.tail.tail.tail.tail.tail.tail gE4 gE4t Tryd.underlying77 row176 Tryd.underlying176 Tryd.underlying178 rfl rfl Tryd.underlying9 cellsOf178 cellsOf9
  have c4 : w.cell? ⟨4, 0, none⟩ = some (.iface 176 (.pointer (some a4))) := by simpa using World.var?_cell gE4 hv4 0
  obtain ⟨a1, s1, hv1, -, -, -⟩ := laid_sentinel hL.tail.tail.tail.tail.tail.tail.tail.tail.tail.tail gE1 gE1t Tryd.underlying77 row176 Tryd.underlying176 Tryd.underlying178 rfl rfl Tryd.underlying9 cellsOf178 cellsOf9
  have c1 : w.cell? ⟨1, 0, none⟩ = some (.iface 176 (.pointer (some a1))) := by simpa using World.var?_cell gE1 hv1 0
  have d10_9 := two hL gE10 gE10t gE9 gE9t c10 c9
  have d10_7 := two (laid_drop hL) gE10 gE10t gE7 gE7t c10 c7
  have d10_8 := two (laid_drop (laid_drop hL)) gE10 gE10t gE8 gE8t c10 c8
  have d10_6 := two (laid_drop (laid_drop (laid_drop hL))) gE10 gE10t gE6 gE6t c10 c6
  have d10_0 := two (laid_drop (laid_drop (laid_drop (laid_drop hL)))) gE10 gE10t gE0 gE0t c10 c0
  have d10_2 := two (laid_drop (laid_drop (laid_drop (laid_drop (laid_drop hL))))) gE10 gE10t gE2 gE2t c10 c2
  have d10_3 := two (laid_drop (laid_drop (laid_drop (laid_drop (laid_drop (laid_drop hL)))))) gE10 gE10t gE3 gE3t c10 c3
  have d10_5 := two (laid_drop (laid_drop (laid_drop (laid_drop (laid_drop (laid_drop (laid_drop hL))))))) gE10 gE10t gE5 gE5t c10 c5
  have d10_4 := two (laid_drop (laid_drop (laid_drop (laid_drop (laid_drop (laid_drop (laid_drop (laid_drop hL)))))))) gE10 gE10t gE4 gE4t c10 c4
  have d10_1 := two (laid_drop (laid_drop (laid_drop (laid_drop (laid_drop (laid_drop (laid_drop (laid_drop (laid_drop hL))))))))) gE10 gE10t gE1 gE1t c10 c1
  have d9_7 := two hL.tail gE9 gE9t gE7 gE7t c9 c7
  have d9_8 := two (laid_drop hL.tail) gE9 gE9t gE8 gE8t c9 c8
  have d9_6 := two (laid_drop (laid_drop hL.tail)) gE9 gE9t gE6 gE6t c9 c6
  have d9_0 := two (laid_drop (laid_drop (laid_drop hL.tail))) gE9 gE9t gE0 gE0t c9 c0
  have d9_2 := two (laid_drop (laid_drop (laid_drop (laid_drop hL.tail)))) gE9 gE9t gE2 gE2t c9 c2
  have d9_3 := two (laid_drop (laid_drop (laid_drop (laid_drop (laid_drop hL.tail))))) gE9 gE9t gE3 gE3t c9 c3
  have d9_5 := two (laid_drop (laid_drop (laid_drop (laid_drop (laid_drop (laid_drop hL.tail)))))) gE9 gE9t gE5 gE5t c9 c5
  have d9_4 := two (laid_drop (laid_drop (laid_drop (laid_drop (laid_drop (laid_drop (laid_drop hL.tail))))))) gE9 gE9t gE4 gE4t c9 c4
  have d9_1 := two (laid_drop (laid_drop (laid_drop (laid_drop (laid_drop (laid_drop (laid_drop (laid_drop hL.tail)))))))) gE9 gE9t gE1 gE1t c9 c1
  have d7_8 := two hL.tail.tail gE7 gE7t gE8 gE8t c7 c8
  have d7_6 := two (laid_drop hL.tail.tail) gE7 gE7t gE6 gE6t c7 c6
  have d7_0 := two (laid_drop (laid_drop hL.tail.tail)) gE7 gE7t gE0 gE0t c7 c0
  have d7_2 := two (laid_drop (laid_drop (laid_drop hL.tail.tail))) gE7 gE7t gE2 gE2t c7 c2
  have d7_3 := two (laid_drop (laid_drop (laid_drop (laid_drop hL.tail.tail)))) gE7 gE7t gE3 gE3t c7 c3
  have d7_5 := two (laid_drop (laid_drop (laid_drop (laid_drop (laid_drop hL.tail.tail))))) gE7 gE7t gE5 gE5t c7 c5
  have d7_4 := two (laid_drop (laid_drop (laid_drop (laid_drop (laid_drop (laid_drop hL.tail.tail)))))) gE7 gE7t gE4 gE4t c7 c4
  have d7_1 := two (laid_drop (laid_drop (laid_drop (laid_drop (laid_drop (laid_drop (laid_drop hL.tail.tail))))))) gE7 gE7t gE1 gE1t c7 c1
  have d8_6 := two hL.tail.tail.tail gE8 gE8t gE6 gE6t c8 c6
  have d8_0 := two (laid_drop hL.tail.tail.tail) gE8 gE8t gE0 gE0t c8 c0
  have d8_2 := two (laid_drop (laid_drop hL.tail.tail.tail)) gE8 gE8t gE2 gE2t c8 c2
  have d8_3 := two (laid_drop (laid_drop (laid_drop hL.tail.tail.tail))) gE8 gE8t gE3 gE3t c8 c3
  have d8_5 := two (laid_drop (laid_drop (laid_drop (laid_drop hL.tail.tail.tail)))) gE8 gE8t gE5 gE5t c8 c5
  have d8_4 := two (laid_drop (laid_drop (laid_drop (laid_drop (laid_drop hL.tail.tail.tail))))) gE8 gE8t gE4 gE4t c8 c4
  have d8_1 := two (laid_drop (laid_drop (laid_drop (laid_drop (laid_drop (laid_drop hL.tail.tail.tail)))))) gE8 gE8t gE1 gE1t c8 c1
  have d6_0 := two hL.tail.tail.tail.tail gE6 gE6t gE0 gE0t c6 c0
  have d6_2 := two (laid_drop hL.tail.tail.tail.tail) gE6 gE6t gE2 gE2t c6 c2
  have d6_3 := two (laid_drop (laid_drop hL.tail.tail.tail.tail)) gE6 gE6t gE3 gE3t c6 c3
  have d6_5 := two (laid_drop (laid_drop (laid_drop hL.tail.tail.tail.tail))) gE6 gE6t gE5 gE5t c6 c5
  have d6_4 := two (laid_drop (laid_drop (laid_drop (laid_drop hL.tail.tail.tail.tail)))) gE6 gE6t gE4 gE4t c6 c4
  have d6_1 := two (laid_drop (laid_drop (laid_drop (laid_drop (laid_drop hL.tail.tail.tail.tail))))) gE6 gE6t gE1 gE1t c6 c1
  have d0_2 := two hL.tail.tail.tail.tail.tail gE0 gE0t gE2 gE2t c0 c2
  have d0_3 := two (laid_drop hL.tail.tail.tail.tail.tail) gE0 gE0t gE3 gE3t c0 c3
  have d0_5 := two (laid_drop (laid_drop hL.tail.tail.tail.tail.tail)) gE0 gE0t gE5 gE5t c0 c5
  have d0_4 := two (laid_drop (laid_drop (laid_drop hL.tail.tail.tail.tail.tail))) gE0 gE0t gE4 gE4t c0 c4
  have d0_1 := two (laid_drop (laid_drop (laid_drop (laid_drop hL.tail.tail.tail.tail.tail)))) gE0 gE0t gE1 gE1t c0 c1
  have d2_3 := two hL.tail.tail.tail.tail.tail.tail gE2 gE2t gE3 gE3t c2 c3
  have d2_5 := two (laid_drop hL.tail.tail.tail.tail.tail.tail) gE2 gE2t gE5 gE5t c2 c5
  have d2_4 := two (laid_drop (laid_drop hL.tail.tail.tail.tail.tail.tail)) gE2 gE2t gE4 gE4t c2 c4
  have d2_1 := two (laid_drop (laid_drop (laid_drop hL.tail.tail.tail.tail.tail.tail))) gE2 gE2t gE1 gE1t c2 c1
  have d3_5 := two hL.tail.tail.tail.tail.tail.tail.tail gE3 gE3t gE5 gE5t c3 c5
  have d3_4 := two (laid_drop hL.tail.tail.tail.tail.tail.tail.tail) gE3 gE3t gE4 gE4t c3 c4
  have d3_1 := two (laid_drop (laid_drop hL.tail.tail.tail.tail.tail.tail.tail)) gE3 gE3t gE1 gE1t c3 c1
  have d5_4 := two hL.tail.tail.tail.tail.tail.tail.tail.tail gE5 gE5t gE4 gE4t c5 c4
  have d5_1 := two (laid_drop hL.tail.tail.tail.tail.tail.tail.tail.tail) gE5 gE5t gE1 gE1t c5 c1
  have d4_1 := two hL.tail.tail.tail.tail.tail.tail.tail.tail.tail gE4 gE4t gE1 gE1t c4 c1
  refine ⟨fun g => match g with | 0 => a0 | 1 => a1 | 2 => a2 | 3 => a3 | 4 => a4 | 5 => a5 | 6 => a6 | 7 => a7 | 8 => a8 | 9 => a9 | 10 => a10 | _ => a0, ?_, ?_⟩
  · intro g hg
    simp only [List.mem_cons, List.not_mem_nil, or_false] at hg
    rcases hg with rfl | rfl | rfl | rfl | rfl | rfl | rfl | rfl | rfl | rfl | rfl
    · exact ⟨c0, below_of_cell c0⟩
    · exact ⟨c1, below_of_cell c1⟩
    · exact ⟨c2, below_of_cell c2⟩
    · exact ⟨c3, below_of_cell c3⟩
    · exact ⟨c4, below_of_cell c4⟩
    · exact ⟨c5, below_of_cell c5⟩
    · exact ⟨c6, below_of_cell c6⟩
    · exact ⟨c7, below_of_cell c7⟩
    · exact ⟨c8, below_of_cell c8⟩
    · exact ⟨c9, below_of_cell c9⟩
    · exact ⟨c10, below_of_cell c10⟩
  · intro i hi
    simp only [List.mem_cons, List.not_mem_nil, or_false] at hi
    rcases hi with rfl | rfl | rfl | rfl | rfl | rfl | rfl | rfl | rfl | rfl | rfl
    · refine ⟨d0_1.2.1, fun j hj hn => ?_⟩
      simp only [List.mem_cons, List.not_mem_nil, or_false] at hj
      rcases hj with rfl | rfl | rfl | rfl | rfl | rfl | rfl | rfl | rfl | rfl | rfl
      · exact absurd rfl hn
      · exact d0_1.1
      · exact d0_2.1
      · exact d0_3.1
      · exact d0_4.1
      · exact d0_5.1
      · exact d6_0.1.symm
      · exact d7_0.1.symm
      · exact d8_0.1.symm
      · exact d9_0.1.symm
      · exact d10_0.1.symm
    · refine ⟨d0_1.2.2, fun j hj hn => ?_⟩
      simp only [List.mem_cons, List.not_mem_nil, or_false] at hj
      rcases hj with rfl | rfl | rfl | rfl | rfl | rfl | rfl | rfl | rfl | rfl | rfl
      · exact d0_1.1.symm
      · exact absurd rfl hn
      · exact d2_1.1.symm
      · exact d3_1.1.symm
      · exact d4_1.1.symm
      · exact d5_1.1.symm
      · exact d6_1.1.symm
      · exact d7_1.1.symm
      · exact d8_1.1.symm
      · exact d9_1.1.symm
      · exact d10_1.1.symm
    · refine ⟨d0_2.2.2, fun j hj hn => ?_⟩
      simp only [List.mem_cons, List.not_mem_nil, or_false] at hj
      rcases hj with rfl | rfl | rfl | rfl | rfl | rfl | rfl | rfl | rfl | rfl | rfl
      · exact d0_2.1.symm
      · exact d2_1.1
      · exact absurd rfl hn
      · exact d2_3.1
      · exact d2_4.1
      · exact d2_5.1
      · exact d6_2.1.symm
      · exact d7_2.1.symm
      · exact d8_2.1.symm
      · exact d9_2.1.symm
      · exact d10_2.1.symm
    · refine ⟨d0_3.2.2, fun j hj hn => ?_⟩
      simp only [List.mem_cons, List.not_mem_nil, or_false] at hj
      rcases hj with rfl | rfl | rfl | rfl | rfl | rfl | rfl | rfl | rfl | rfl | rfl
      · exact d0_3.1.symm
      · exact d3_1.1
      · exact d2_3.1.symm
      · exact absurd rfl hn
      · exact d3_4.1
      · exact d3_5.1
      · exact d6_3.1.symm
      · exact d7_3.1.symm
      · exact d8_3.1.symm
      · exact d9_3.1.symm
      · exact d10_3.1.symm
    · refine ⟨d0_4.2.2, fun j hj hn => ?_⟩
      simp only [List.mem_cons, List.not_mem_nil, or_false] at hj
      rcases hj with rfl | rfl | rfl | rfl | rfl | rfl | rfl | rfl | rfl | rfl | rfl
      · exact d0_4.1.symm
      · exact d4_1.1
      · exact d2_4.1.symm
      · exact d3_4.1.symm
      · exact absurd rfl hn
      · exact d5_4.1.symm
      · exact d6_4.1.symm
      · exact d7_4.1.symm
      · exact d8_4.1.symm
      · exact d9_4.1.symm
      · exact d10_4.1.symm
    · refine ⟨d0_5.2.2, fun j hj hn => ?_⟩
      simp only [List.mem_cons, List.not_mem_nil, or_false] at hj
      rcases hj with rfl | rfl | rfl | rfl | rfl | rfl | rfl | rfl | rfl | rfl | rfl
      · exact d0_5.1.symm
      · exact d5_1.1
      · exact d2_5.1.symm
      · exact d3_5.1.symm
      · exact d5_4.1
      · exact absurd rfl hn
      · exact d6_5.1.symm
      · exact d7_5.1.symm
      · exact d8_5.1.symm
      · exact d9_5.1.symm
      · exact d10_5.1.symm
    · refine ⟨d6_0.2.1, fun j hj hn => ?_⟩
      simp only [List.mem_cons, List.not_mem_nil, or_false] at hj
      rcases hj with rfl | rfl | rfl | rfl | rfl | rfl | rfl | rfl | rfl | rfl | rfl
      · exact d6_0.1
      · exact d6_1.1
      · exact d6_2.1
      · exact d6_3.1
      · exact d6_4.1
      · exact d6_5.1
      · exact absurd rfl hn
      · exact d7_6.1.symm
      · exact d8_6.1.symm
      · exact d9_6.1.symm
      · exact d10_6.1.symm
    · refine ⟨d7_0.2.1, fun j hj hn => ?_⟩
      simp only [List.mem_cons, List.not_mem_nil, or_false] at hj
      rcases hj with rfl | rfl | rfl | rfl | rfl | rfl | rfl | rfl | rfl | rfl | rfl
      · exact d7_0.1
      · exact d7_1.1
      · exact d7_2.1
      · exact d7_3.1
      · exact d7_4.1
      · exact d7_5.1
      · exact d7_6.1
      · exact absurd rfl hn
      · exact d7_8.1
      · exact d9_7.1.symm
      · exact d10_7.1.symm
    · refine ⟨d8_0.2.1, fun j hj hn => ?_⟩
      simp only [List.mem_cons, List.not_mem_nil, or_false] at hj
      rcases hj with rfl | rfl | rfl | rfl | rfl | rfl | rfl | rfl | rfl | rfl | rfl
      · exact d8_0.1
      · exact d8_1.1
      · exact d8_2.1
      · exact d8_3.1
      · exact d8_4.1
      · exact d8_5.1
      · exact d8_6.1
      · exact d7_8.1.symm
      · exact absurd rfl hn
      · exact d9_8.1.symm
      · exact d10_8.1.symm
    · refine ⟨d9_0.2.1, fun j hj hn => ?_⟩
      simp only [List.mem_cons, List.not_mem_nil, or_false] at hj
      rcases hj with rfl | rfl | rfl | rfl | rfl | rfl | rfl | rfl | rfl | rfl | rfl
      · exact d9_0.1
      · exact d9_1.1
      · exact d9_2.1
      · exact d9_3.1
      · exact d9_4.1
      · exact d9_5.1
      · exact d9_6.1
      · exact d9_7.1
      · exact d9_8.1
      · exact absurd rfl hn
      · exact d10_9.1.symm
    · refine ⟨d10_0.2.1, fun j hj hn => ?_⟩
      simp only [List.mem_cons, List.not_mem_nil, or_false] at hj
      rcases hj with rfl | rfl | rfl | rfl | rfl | rfl | rfl | rfl | rfl | rfl | rfl
      · exact d10_0.1
      · exact d10_1.1
      · exact d10_2.1
      · exact d10_3.1
      · exact d10_4.1
      · exact d10_5.1
      · exact d10_6.1
      · exact d10_7.1
      · exact d10_8.1
      · exact d10_9.1
      · exact absurd rfl hn
end Go.Proofs.YtalpehfjjidfhaaDoor.LN
