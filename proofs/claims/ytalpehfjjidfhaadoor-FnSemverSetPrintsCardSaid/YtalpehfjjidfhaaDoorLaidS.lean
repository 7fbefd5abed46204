/- What the listed error variables of semver and strconv give. -/
import Derived.Test.YtalpehfjjidfhaaDoorLaid
import Derived.Test.YtalpehfjjidfhaaDoorHandSv
namespace Go.Proofs.YtalpehfjjidfhaaDoor
open Go.RowKit
theorem gE6 : Tryd.prog.globalNamed "pub-timebook/pub/semver.ErrInvalidSemVer" = some 6 := by kernel_rfl
theorem gE6t : (Tryd.prog.globals[6]?).map (·.type) = some 77 := by kernel_rfl
theorem gE0 : Tryd.prog.globalNamed "pub-timebook/pub/semver.ErrEmptyString" = some 0 := by kernel_rfl
theorem gE0t : (Tryd.prog.globals[0]?).map (·.type) = some 77 := by kernel_rfl
theorem gE2 : Tryd.prog.globalNamed "pub-timebook/pub/semver.ErrInvalidCharacters" = some 2 := by kernel_rfl
theorem gE2t : (Tryd.prog.globals[2]?).map (·.type) = some 77 := by kernel_rfl
theorem gE3 : Tryd.prog.globalNamed "pub-timebook/pub/semver.ErrSegmentStartsZero" = some 3 := by kernel_rfl
theorem gE3t : (Tryd.prog.globals[3]?).map (·.type) = some 77 := by kernel_rfl
theorem gE5 : Tryd.prog.globalNamed "pub-timebook/pub/semver.ErrInvalidMetadata" = some 5 := by kernel_rfl
theorem gE5t : (Tryd.prog.globals[5]?).map (·.type) = some 77 := by kernel_rfl
theorem gE4 : Tryd.prog.globalNamed "pub-timebook/pub/semver.ErrInvalidPrerelease" = some 4 := by kernel_rfl
theorem gE4t : (Tryd.prog.globals[4]?).map (·.type) = some 77 := by kernel_rfl
theorem gE1 : Tryd.prog.globalNamed "pub-timebook/pub/semver.ErrVersionTooLong" = some 1 := by kernel_rfl
theorem gE1t : (Tryd.prog.globals[1]?).map (·.type) = some 77 := by kernel_rfl
theorem below_of_cell {w : World} {g : Nat} {v : Value} (h : w.cell? ⟨g, 0, none⟩ = some v) : g < w.heap.size := by
  rcases Nat.lt_or_ge g w.heap.size with h' | h'
  · exact h'
  · exfalso
    have : w.heap[g]? = none := Array.getElem?_eq_none h'
    simp [World.cell?, this] at h
theorem glS_of {w : World} {r : List (String × DataW Unit)} (hL : laidMet Tryd.prog (("strconv.ErrRange", Rows.laid_strconv_ErrRange) :: ("strconv.ErrSyntax", Rows.laid_strconv_ErrSyntax) :: ("pub-timebook/pub/semver.ErrInvalidSemVer", Rows.laid_pub_timebook_pub_semver_ErrInvalidSemVer) :: ("pub-timebook/pub/semver.ErrEmptyString", Rows.laid_pub_timebook_pub_semver_ErrEmptyString) :: ("pub-timebook/pub/semver.ErrInvalidCharacters", Rows.laid_pub_timebook_pub_semver_ErrInvalidCharacters) :: ("pub-timebook/pub/semver.ErrSegmentStartsZero", Rows.laid_pub_timebook_pub_semver_ErrSegmentStartsZero) :: ("pub-timebook/pub/semver.ErrInvalidMetadata", Rows.laid_pub_timebook_pub_semver_ErrInvalidMetadata) :: ("pub-timebook/pub/semver.ErrInvalidPrerelease", Rows.laid_pub_timebook_pub_semver_ErrInvalidPrerelease) :: ("pub-timebook/pub/semver.ErrVersionTooLong", Rows.laid_pub_timebook_pub_semver_ErrVersionTooLong) :: r) w) : HandS.GlS w := by
  obtain ⟨a10, s10, hv10, -, -, -⟩ := laid_sentinel hL gER gERt Tryd.underlying77 row176 Tryd.underlying176 Tryd.underlying178 rfl rfl Tryd.underlying9 cellsOf178 cellsOf9
  have c10 : w.cell? ⟨10, 0, none⟩ = some (.iface 176 (.pointer (some a10))) := by simpa using World.var?_cell gER hv10 0
  obtain ⟨a9, s9, hv9, -, -, -⟩ := laid_sentinel hL.tail gES gESt Tryd.underlying77 row176 Tryd.underlying176 Tryd.underlying178 rfl rfl Tryd.underlying9 cellsOf178 cellsOf9
  have c9 : w.cell? ⟨9, 0, none⟩ = some (.iface 176 (.pointer (some a9))) := by simpa using World.var?_cell gES hv9 0
  obtain ⟨a6, s6, hv6, -, -, -⟩ := laid_sentinel hL.tail.tail gE6 gE6t Tryd.underlying77 row176 Tryd.underlying176 Tryd.underlying178 rfl rfl Tryd.underlying9 cellsOf178 cellsOf9
  have c6 : w.cell? ⟨6, 0, none⟩ = some (.iface 176 (.pointer (some a6))) := by simpa using World.var?_cell gE6 hv6 0
  obtain ⟨a0, s0, hv0, -, -, -⟩ := laid_sentinel hL.tail.tail.tail gE0 gE0t Tryd.underlying77 row176 Tryd.underlying176 Tryd.underlying178 rfl rfl Tryd.underlying9 cellsOf178 cellsOf9
  have c0 : w.cell? ⟨0, 0, none⟩ = some (.iface 176 (.pointer (some a0))) := by simpa using World.var?_cell gE0 hv0 0
  obtain ⟨a2, s2, hv2, -, -, -⟩ := laid_sentinel hL.tail.tail.tail.tail gE2 gE2t Tryd.underlying77 row176 Tryd.underlying176 Tryd.underlying178 rfl rfl Tryd.underlying9 cellsOf178 cellsOf9
  have c2 : w.cell? ⟨2, 0, none⟩ = some (.iface 176 (.pointer (some a2))) := by simpa using World.var?_cell gE2 hv2 0
  obtain ⟨a3, s3, hv3, -, -, -⟩ := laid_sentinel hL.tail.tail.tail.tail.tail gE3 gE3t Tryd.underlying77 row176 Tryd.underlying176 Tryd.underlying178 rfl rfl Tryd.underlying9 cellsOf178 cellsOf9
  have c3 : w.cell? ⟨3, 0, none⟩ = some (.iface 176 (.pointer (some a3))) := by simpa using World.var?_cell gE3 hv3 0
  obtain ⟨a5, s5, hv5, -, -, -⟩ := laid_sentinel hL.tail.tail.tail.tail.tail.tail gE5 gE5t Tryd.underlying77 row176 Tryd.underlying176 Tryd.underlying178 rfl rfl Tryd.underlying9 cellsOf178 cellsOf9
  have c5 : w.cell? ⟨5, 0, none⟩ = some (.iface 176 (.pointer (some a5))) := by simpa using World.var?_cell gE5 hv5 0
  obtain ⟨a4, s4, hv4, -, -, -⟩ := laid_sentinel hL.tail.tail.tail.tail.tail.tail.tail gE4 gE4t Tryd.underlying77 row176 Tryd.underlying176 Tryd.underlying178 rfl rfl Tryd.underlying9 cellsOf178 cellsOf9
  have c4 : w.cell? ⟨4, 0, none⟩ = some (.iface 176 (.pointer (some a4))) := by simpa using World.var?_cell gE4 hv4 0
  obtain ⟨a1, s1, hv1, -, -, -⟩ := laid_sentinel hL.tail.tail.tail.tail.tail.tail.tail.tail gE1 gE1t Tryd.underlying77 row176 Tryd.underlying176 Tryd.underlying178 rfl rfl Tryd.underlying9 cellsOf178 cellsOf9
  have c1 : w.cell? ⟨1, 0, none⟩ = some (.iface 176 (.pointer (some a1))) := by simpa using World.var?_cell gE1 hv1 0
  refine ⟨fun g => match g with | 0 => a0 | 1 => a1 | 2 => a2 | 3 => a3 | 4 => a4 | 5 => a5 | 6 => a6 | 9 => a9 | 10 => a10 | _ => a0, ?_⟩
  intro g hg
  simp only [List.mem_cons, List.not_mem_nil, or_false] at hg
  rcases hg with rfl | rfl | rfl | rfl | rfl | rfl | rfl | rfl | rfl
  · exact ⟨c0, below_of_cell c0⟩
  · exact ⟨c1, below_of_cell c1⟩
  · exact ⟨c2, below_of_cell c2⟩
  · exact ⟨c3, below_of_cell c3⟩
  · exact ⟨c4, below_of_cell c4⟩
  · exact ⟨c5, below_of_cell c5⟩
  · exact ⟨c6, below_of_cell c6⟩
  · exact ⟨c9, below_of_cell c9⟩
  · exact ⟨c10, below_of_cell c10⟩
end Go.Proofs.YtalpehfjjidfhaaDoor
