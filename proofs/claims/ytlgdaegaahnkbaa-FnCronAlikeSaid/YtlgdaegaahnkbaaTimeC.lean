/- Package time's Date, AddDate, Truncate and the thin package's moments over UTC, by hand: what each answers; what they lay in memory is new. -/
import Derived.Test.YtlgdaegaahnkbaaTimeB
namespace Go.Proofs.Ytlgdaegaahnkbaa.Tm
open Go Go.RowKit Cal MC
open Go.Proofs.YtlgdaegaahnkbaaW.PrintWords
set_option linter.unusedVariables false
set_option linter.unusedSimpArgs false
/-- A location that is UTC's. -/
structure IsU (w : World) (l : Nat) : Prop where mk ::
  (utc : w.cell? ⟨l, 0, none⟩ = some (.bool true))
  (zone : w.cell? ⟨l, 2, none⟩ = some (.slice none 0 0))
theorem IsU.below {w w' : World} {l : Nat} (h : IsU w l) (hb : Below w.heap.size w w') : IsU w' l := ⟨cell_below hb h.utc, cell_below hb h.zone⟩
theorem IsU.alloc {w : World} {l : Nat} (h : IsU w l) (A : Obj) : IsU (w.alloc A) l := ⟨cell_alloc A h.utc, cell_alloc A h.zone⟩
theorem isU_new (w : World) : IsU (w.alloc U) w.heap.size := by unfold U; exact ⟨by go_simp, by go_simp⟩
set_option maxRecDepth 100000 in
theorem lookup_any (l : Nat) (z : Int) (w : World) (hu : IsU w l) :
    Calls Try.prog 85 #[.pointer (some ⟨l, 0, none⟩), .int .i64 z] w fun e w' => e = .returned (.tuple #[.string ⟨#[85, 84, 67]⟩, .int .i64 0, .int .i64 (-9223372036854775808), .int .i64 9223372036854775807, .bool false]) ∧ w = w' := by
  have hz := hu.zone
  have HU := Aside0.mk hu
  clear hu
  go_enter Try.func85, Try.ntmps85
  go_wp2_with (go_at_call 83; (with_reducible refine (get_some l _).mono ?_); rintro e w' ⟨rfl, rfl⟩)
  refine bodyPost_ret (v := .tuple #[.string ⟨#[85, 84, 67]⟩, .int .i64 0, .int .i64 (-9223372036854775808), .int .i64 9223372036854775807, .bool false]) (by simp [results, Try.results85, go_sem]) rfl ⟨rfl, rfl⟩
theorem unixTime_eq (n u x : Int) (w : World) (hu : u = x) (h0 : 0 ≤ n) (h1 : n < 1000000000) (hx : Dom x) :
    Calls Try.prog 80 #[.int .i64 u, .int .i32 n] w fun e w' => e = .returned (.agg #[.int .u64 n, .int .i64 (sec x), .pointer none]) ∧ Below w.heap.size w w' := by
  subst hu
  have b0 := hx.lo
  have b1 := hx.hi
  go_enter Try.func80, Try.ntmps80
  go_wp2
  refine bodyPost_ret (v := .agg #[.int .u64 n, .int .i64 (sec u), .pointer none]) (by simp [results, Try.results80, go_sem, sec]) rfl ⟨rfl, ?_⟩
  exact (Below.refl _ _).alloc (Nat.le_refl _) _
theorem bcell {W w1 : World} (hb : Below W.heap.size W w1) : (∀ b o, b < W.heap.size → w1.cell? ⟨b, o, none⟩ = W.cell? ⟨b, o, none⟩) ∧ (∀ b o, b < W.heap.size → w1.frozen? ⟨b, o, none⟩ = W.frozen? ⟨b, o, none⟩) :=
  ⟨fun b o h => hb.cell (p := ⟨b, o, none⟩) h, fun b o h => hb.frozen (p := ⟨b, o, none⟩) h⟩
theorem lt_of_alloc {w w1 : World} {X : Obj} (hb : Below (w.alloc X).heap.size (w.alloc X) w1) : w.heap.size < w1.heap.size := by
  have := hb.size
  rw [World.size_alloc] at this
  omega
/-- The world before a result is laid into its own cell. -/
theorem base_of {w w1 : World} {X : Obj} (hb : Below (w.alloc X).heap.size (w.alloc X) w1) : Below w.heap.size w w1 :=
  ((Below.refl _ w).alloc (Nat.le_refl _) X).trans (hb.mono (by simp))
theorem stored {w w1 : World} (hb : Below w.heap.size w w1) (a b c : Value) : Below w.heap.size w (((w1.setCell ⟨w.heap.size, 0, none⟩ a).setCell ⟨w.heap.size, 1, none⟩ b).setCell ⟨w.heap.size, 2, none⟩ c) :=
  ((hb.setCell (Nat.le_refl _) _).setCell (Nat.le_refl _) _).setCell (Nat.le_refl _) _
theorem setLoc_top (n s : Int) (l : Nat) (w : World) (h0 : 0 ≤ n) (h1 : n < 1000000000) (hl : w.cell? ⟨l, 0, none⟩ = some (.bool true)) :
    Calls Try.prog 81 #[.pointer (some ⟨w.heap.size, 0, none⟩), .pointer (some ⟨l, 0, none⟩)] (w.alloc (.cells #[.int .u64 n, .int .i64 s, .pointer none] 70)) fun e w' => e = .returned (.tuple #[]) ∧ w.alloc (.cells #[.int .u64 n, .int .i64 s, .pointer none] 70) = w' := by
  refine (setLoc_any _ l n (.pointer none) _ h0 h1 (by go_simp) (by go_simp) (by go_simp) (cell_alloc _ hl)).mono ?_
  rintro e w' ⟨rfl, rfl⟩
  exact ⟨rfl, by go_simp⟩
set_option maxRecDepth 100000 in
theorem mk_any (y m d h mi se : Int) (l : Nat) (w : World) (hu : IsU w l) (y0 : 1 ≤ y) (y1 : y ≤ 11000) (m0 : 1 ≤ m) (m1 : m ≤ 12) (d0 : 1 ≤ d) (d1 : d ≤ 1000)
    (h0 : 0 ≤ h) (h1 : h < 24) (i0 : 0 ≤ mi) (i1 : mi < 60) (s0 : 0 ≤ se) (s1 : se < 60) (hx : Dom (86400 * num y m d + 3600 * h + 60 * mi + se)) :
    Calls Try.prog 120 #[.int .i64 y, .int .i64 m, .int .i64 d, .int .i64 h, .int .i64 mi, .int .i64 se, .int .i64 0, .pointer (some ⟨l, 0, none⟩)] w fun e w' => e = .returned (.agg #[.int .u64 0, .int .i64 (sec (86400 * num y m d + 3600 * h + 60 * mi + se)), .pointer none]) ∧ Below w.heap.size w w' := by
  have HU := Aside0.mk (hu.alloc (.cells #[.int .u64 0, .int .i64 0, .pointer none] 70))
  have HB := Aside0.mk (Below.refl (w.alloc (.cells #[.int .u64 0, .int .i64 0, .pointer none] 70)).heap.size (w.alloc (.cells #[.int .u64 0, .int .i64 0, .pointer none] 70)))
  have z0 : (0 : Int) ≤ 0 := by decide
  have z1 : (0 : Int) < 1000000000 := by decide
  clear hu
  go_enter Try.func120, Try.ntmps120
  go_wp2_with (first | (go_at_call 127; (with_reducible refine (norm_c _ _ _ _ (by omega) (by omega)).mono ?_); rintro e w' ⟨rfl, hb⟩; have HB := Aside0.mk (HB.out.trans (hb.mono HB.out.size)); have HU := Aside0.mk (HU.out.below hb); clear hb) | (go_at_call 128; (with_reducible refine (abs_c _ _ _ _ (by omega) (by omega) (by omega) (by omega) (by omega) (by omega)).mono ?_); rintro e w' ⟨rfl, hb⟩; have HB := Aside0.mk (HB.out.trans (hb.mono HB.out.size)); have HU := Aside0.mk (HU.out.below hb); clear hb) | (go_at_call 85; (with_reducible refine (lookup_any l _ _ HU.out).mono ?_); rintro e w' ⟨rfl, rfl⟩) | (go_at_call 80; refine (unixTime_eq 0 _ (86400 * num y m d + 3600 * h + 60 * mi + se) _ ?_ (by decide) (by decide) hx).mono ?_; (unfold wrap64; have := hx.lo; have := hx.hi; omega); rintro e w' ⟨rfl, hb⟩; have HB := Aside0.mk (HB.out.trans (hb.mono HB.out.size)); have HU := Aside0.mk (HU.out.below hb); clear hb) | (go_at_call 81; (with_reducible refine (setLoc_top 0 _ l _ z0 z1 HU.out.utc).mono ?_); rintro e w' ⟨rfl, rfl⟩; obtain ⟨hc, hf⟩ := bcell HB.out; have hz := lt_of_alloc HB.out))
  refine bodyPost_ret (v := .agg #[.int .u64 0, .int .i64 (sec (86400 * num y m d + 3600 * h + 60 * mi + se)), .pointer none]) (by simp [results, Try.results120, go_sem, hc, hz]) rfl ⟨rfl, ?_⟩
  exact (stored (base_of HB.out) _ _ _).alloc (stored (base_of HB.out) _ _ _).size _
set_option maxRecDepth 100000 in
theorem mk13_any (y : Int) (l : Nat) (w : World) (hu : IsU w l) (y0 : 1 ≤ y) (y1 : y ≤ 11000) (hx : Dom (86400 * num (y + 1) 1 1)) :
    Calls Try.prog 120 #[.int .i64 y, .int .i64 13, .int .i64 1, .int .i64 0, .int .i64 0, .int .i64 0, .int .i64 0, .pointer (some ⟨l, 0, none⟩)] w fun e w' => e = .returned (.agg #[.int .u64 0, .int .i64 (sec (86400 * num (y + 1) 1 1)), .pointer none]) ∧ Below w.heap.size w w' := by
  have HU := Aside0.mk (hu.alloc (.cells #[.int .u64 0, .int .i64 0, .pointer none] 70))
  have HB := Aside0.mk (Below.refl (w.alloc (.cells #[.int .u64 0, .int .i64 0, .pointer none] 70)).heap.size (w.alloc (.cells #[.int .u64 0, .int .i64 0, .pointer none] 70)))
  have z0 : (0 : Int) ≤ 0 := by decide
  have z1 : (0 : Int) < 1000000000 := by decide
  clear hu
  go_enter Try.func120, Try.ntmps120
  go_wp2_with (first | (go_at_call 127; (with_reducible refine (norm12_c _ _ (by omega) (by omega)).mono ?_); rintro e w' ⟨rfl, hb⟩; have HB := Aside0.mk (HB.out.trans (hb.mono HB.out.size)); have HU := Aside0.mk (HU.out.below hb); clear hb) | (go_at_call 127; (with_reducible refine (norm_c _ _ _ _ (by omega) (by omega)).mono ?_); rintro e w' ⟨rfl, hb⟩; have HB := Aside0.mk (HB.out.trans (hb.mono HB.out.size)); have HU := Aside0.mk (HU.out.below hb); clear hb) | (go_at_call 128; (with_reducible refine (abs_c _ _ _ _ (by omega) (by omega) (by omega) (by omega) (by omega) (by omega)).mono ?_); rintro e w' ⟨rfl, hb⟩; have HB := Aside0.mk (HB.out.trans (hb.mono HB.out.size)); have HU := Aside0.mk (HU.out.below hb); clear hb) | (go_at_call 85; (with_reducible refine (lookup_any l _ _ HU.out).mono ?_); rintro e w' ⟨rfl, rfl⟩) | (go_at_call 80; refine (unixTime_eq 0 _ (86400 * num (y + 1) 1 1) _ ?_ (by decide) (by decide) hx).mono ?_; (unfold wrap64; have := hx.lo; have := hx.hi; omega); rintro e w' ⟨rfl, hb⟩; have HB := Aside0.mk (HB.out.trans (hb.mono HB.out.size)); have HU := Aside0.mk (HU.out.below hb); clear hb) | (go_at_call 81; (with_reducible refine (setLoc_top 0 _ l _ z0 z1 HU.out.utc).mono ?_); rintro e w' ⟨rfl, rfl⟩; obtain ⟨hc, hf⟩ := bcell HB.out; have hz := lt_of_alloc HB.out))
  refine bodyPost_ret (v := .agg #[.int .u64 0, .int .i64 (sec (86400 * num (y + 1) 1 1)), .pointer none]) (by simp [results, Try.results120, go_sem, hc, hz]) rfl ⟨rfl, ?_⟩
  exact (stored (base_of HB.out) _ _ _).alloc (stored (base_of HB.out) _ _ _).size _
end Go.Proofs.Ytlgdaegaahnkbaa.Tm
