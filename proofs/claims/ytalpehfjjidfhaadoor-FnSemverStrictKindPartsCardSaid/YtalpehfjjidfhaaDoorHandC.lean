/- What is proved: by hand, the thin package's comparison of two versions. -/
import Derived.Test.YtalpehfjjidfhaaDoorHandV
namespace Go.Proofs.YtalpehfjjidfhaaDoor.Hand
set_option linter.unusedVariables false
open Go.RowKit Go.Proofs.YtalpehfjjidfhaaDoorW.PrintWords Sv
theorem seg_none {a b : Int} : seg a b = 0 ↔ a = b := by
  unfold seg
  split
  · constructor <;> intro <;> omega
  · split
    · constructor <;> intro <;> omega
    · constructor <;> intro <;> omega
/-- (*Version).Compare over two versions in memory. -/
theorem Compare_any (M1 m1 t1 : Int) (u1 v1 o1 : ByteArray) (M2 m2 t2 : Int) (u2 v2 o2 : ByteArray) (p q : Nat) (w : World) (hp : p < w.heap.size) (hq : q < w.heap.size) (hG0 : Gl w) (s1 : u1.size < 8796093022208) (s2 : u2.size < 8796093022208) (hk : w.cell? ⟨p, 0, none⟩ = some (.int .u64 M1) ∧ w.cell? ⟨p, 1, none⟩ = some (.int .u64 m1) ∧ w.cell? ⟨p, 2, none⟩ = some (.int .u64 t1) ∧ w.cell? ⟨p, 3, none⟩ = some (.string u1) ∧ w.cell? ⟨p, 4, none⟩ = some (.string v1) ∧ w.cell? ⟨p, 5, none⟩ = some (.string o1) ∧ w.cell? ⟨q, 0, none⟩ = some (.int .u64 M2) ∧ w.cell? ⟨q, 1, none⟩ = some (.int .u64 m2) ∧ w.cell? ⟨q, 2, none⟩ = some (.int .u64 t2) ∧ w.cell? ⟨q, 3, none⟩ = some (.string u2) ∧ w.cell? ⟨q, 4, none⟩ = some (.string v2) ∧ w.cell? ⟨q, 5, none⟩ = some (.string o2) ∧ Below w.heap.size w w) :
    Calls Tryd.prog 84 #[.pointer (some ⟨p, 0, none⟩), .pointer (some ⟨q, 0, none⟩)] w fun e w' => e = .returned (.int .i64 (cmpVer M1 m1 t1 u1 M2 m2 t2 u2)) ∧ Below w.heap.size w w' := by
  unfold cmpVer
  by_cases z0 : seg M1 M2 = 0
  · by_cases z1 : seg m1 m2 = 0
    · by_cases z2 : seg t1 t2 = 0
      · rw [if_pos z0, if_pos z1, if_pos z2]
        unfold preCmp
        by_cases e1 : u1.toList = []
        · have h1 : u1.toList.isEmpty = true := by simp [e1]
          by_cases e2 : u2.toList = []
          · have h2 : u2.toList.isEmpty = true := by simp [e2]
            rw [if_pos ⟨e1, e2⟩]
            exact Compare_e0 M1 m1 t1 u1 v1 o1 M2 m2 t2 u2 v2 o2 p q w hp hq hk z0 z1 z2 h1 h2
          · have h2 : u2.toList.isEmpty = false := by simp [e2]
            rw [if_neg (fun h => e2 h.2), if_pos e1]
            exact Compare_e1 M1 m1 t1 u1 v1 o1 M2 m2 t2 u2 v2 o2 p q w hp hq hk z0 z1 z2 h1 h2
        · have h1 : u1.toList.isEmpty = false := by simp [e1]
          by_cases e2 : u2.toList = []
          · have h2 : u2.toList.isEmpty = true := by simp [e2]
            rw [if_neg (fun h => e1 h.1), if_neg e1, if_pos e2]
            exact Compare_e2 M1 m1 t1 u1 v1 o1 M2 m2 t2 u2 v2 o2 p q w hp hq hk z0 z1 z2 h1 h2
          · have h2 : u2.toList.isEmpty = false := by simp [e2]
            rw [if_neg (fun h => e1 h.1), if_neg e1, if_neg e2]
            exact Compare_e3 M1 m1 t1 u1 v1 o1 M2 m2 t2 u2 v2 o2 p q w hp hq hk _ _ hG0 (MA.comparePrerelease_f u1 u2 _ s1 s2 (Nat.le_refl _)) z0 z1 z2 h1 h2
      · rw [if_pos z0, if_pos z1, if_neg z2]
        exact Compare_t M1 m1 t1 u1 v1 o1 M2 m2 t2 u2 v2 o2 p q w hp hq hk _ z0 z1 rfl z2
    · rw [if_pos z0, if_neg z1]
      exact Compare_m M1 m1 t1 u1 v1 o1 M2 m2 t2 u2 v2 o2 p q w hp hq hk _ z0 rfl z1
  · rw [if_neg z0]
    exact Compare_M M1 m1 t1 u1 v1 o1 M2 m2 t2 u2 v2 o2 p q w hp hq hk _ rfl z0
set_option maxHeartbeats 400000 in
theorem ZZVersion_any (M m t : Int) (u v : ByteArray) (w : World) : Calls Tryd.prog 130 #[.int .u64 M, .int .u64 m, .int .u64 t, .string u, .string v] w fun e w' => e = .returned (.pointer (some ⟨w.heap.size, 0, none⟩)) ∧ w' = w.alloc (.cells #[.int .u64 M, .int .u64 m, .int .u64 t, .string u, .string v, .string ⟨#[]⟩] 97) := by
  go_enter Tryd.func130, Tryd.ntmps130
  go_wp2
  go_ret
  exact ⟨rfl, rfl⟩
/-- A version of these parts lies at block p. -/
structure VAt (w : World) (p : Nat) (M m t : Int) (u v : ByteArray) : Prop where mk ::
  (lt : p < w.heap.size)
  (cells : w.cell? ⟨p, 0, none⟩ = some (.int .u64 M) ∧ w.cell? ⟨p, 1, none⟩ = some (.int .u64 m) ∧ w.cell? ⟨p, 2, none⟩ = some (.int .u64 t) ∧ w.cell? ⟨p, 3, none⟩ = some (.string u) ∧ w.cell? ⟨p, 4, none⟩ = some (.string v) ∧ w.cell? ⟨p, 5, none⟩ = some (.string ⟨#[]⟩))
theorem VAt.below {w w' : World} {p : Nat} {M m t : Int} {u v : ByteArray} (h : VAt w p M m t u v) (hb : Below w.heap.size w w') : VAt w' p M m t u v := by
  obtain ⟨hl, ⟨h0, h1, h2, h3, h4, h5⟩⟩ := h
  exact ⟨Nat.lt_of_lt_of_le hl hb.size, ⟨(hb.cell (p := ⟨p, 0, none⟩) hl).trans h0, (hb.cell (p := ⟨p, 1, none⟩) hl).trans h1, (hb.cell (p := ⟨p, 2, none⟩) hl).trans h2, (hb.cell (p := ⟨p, 3, none⟩) hl).trans h3, (hb.cell (p := ⟨p, 4, none⟩) hl).trans h4, (hb.cell (p := ⟨p, 5, none⟩) hl).trans h5⟩⟩
set_option maxHeartbeats 400000 in
theorem version_any (M m t : Int) (u v : ByteArray) (w : World) : Calls Tryd.prog 83 #[.agg #[.int .u64 M, .int .u64 m, .int .u64 t, .string u, .string v]] w fun e w' => ∃ N : Nat, e = .returned (.pointer (some ⟨N, 0, none⟩)) ∧ VAt w' N M m t u v ∧ Below w.heap.size w w' ∧ w.heap.size < w'.heap.size := by
  go_enter Tryd.func83, Tryd.ntmps83
  go_wp2_with (first | (go_at_call 130; (with_reducible refine (ZZVersion_any M m t u v _).mono ?_); rintro e w1 ⟨rfl, rfl⟩))
  go_ret
  refine ⟨w.heap.size + 1, by simp, ⟨by simp, ?_⟩, ((Below.refl _ _).alloc (Nat.le_refl _) _).alloc (by simp) _, by simp; omega⟩
  refine ⟨?_, ?_, ?_, ?_, ?_, ?_⟩ <;> go_simp
/-- Compare over two versions in memory, as cells. -/
theorem Compare_at (M1 m1 t1 : Int) (u1 v1 : ByteArray) (M2 m2 t2 : Int) (u2 v2 : ByteArray) (p q : Nat) (w : World) (h1 : VAt w p M1 m1 t1 u1 v1) (h2 : VAt w q M2 m2 t2 u2 v2) (hG0 : Gl w) (s1 : u1.size < 8796093022208) (s2 : u2.size < 8796093022208) :
    Calls Tryd.prog 84 #[.pointer (some ⟨p, 0, none⟩), .pointer (some ⟨q, 0, none⟩)] w fun e w' => e = .returned (.int .i64 (cmpVer M1 m1 t1 u1 M2 m2 t2 u2)) ∧ Below w.heap.size w w' := by
  obtain ⟨hp, a0, a1, a2, a3, a4, a5⟩ := h1
  obtain ⟨hq, b0, b1, b2, b3, b4, b5⟩ := h2
  exact Compare_any M1 m1 t1 u1 v1 ⟨#[]⟩ M2 m2 t2 u2 v2 ⟨#[]⟩ p q w hp hq hG0 s1 s2 ⟨a0, a1, a2, a3, a4, a5, b0, b1, b2, b3, b4, b5, Below.refl _ _⟩
theorem bcell {W w1 : World} (hb : Below W.heap.size W w1) : (∀ b o, b < W.heap.size → w1.cell? ⟨b, o, none⟩ = W.cell? ⟨b, o, none⟩) ∧ (∀ b o, b < W.heap.size → w1.frozen? ⟨b, o, none⟩ = W.frozen? ⟨b, o, none⟩) :=
  ⟨fun b o h => hb.cell (p := ⟨b, o, none⟩) h, fun b o h => hb.frozen (p := ⟨b, o, none⟩) h⟩
theorem below2 {w w1 : World} {o1 o2 : Obj} (hb : Below (((w.alloc o1).alloc o2).drew).heap.size ((w.alloc o1).alloc o2).drew w1) : Below w.heap.size w w1 :=
  (((Below.refl _ _).alloc (Nat.le_refl _) o1).alloc (by simp) o2).drew.trans (hb.mono (by simp; omega))
set_option maxHeartbeats 2000000 in
theorem VersionCompare_any (M1 m1 t1 : Int) (u1 v1 : ByteArray) (M2 m2 t2 : Int) (u2 v2 : ByteArray) (w : World) (hG0 : Gl w) (s1 : u1.size < 8796093022208) (s2 : u2.size < 8796093022208) :
    Calls Tryd.prog 27 #[.agg #[.int .u64 M1, .int .u64 m1, .int .u64 t1, .string u1, .string v1], .agg #[.int .u64 M2, .int .u64 m2, .int .u64 t2, .string u2, .string v2]] w fun e w' => e = .returned (.int .i64 (cmpVer M1 m1 t1 u1 M2 m2 t2 u2)) ∧ Below w.heap.size w w' := by
  go_enter Tryd.func27, Tryd.ntmps27
  go_wp2_with fail
  go_region_with (first | (go_at_call 83; (with_reducible refine (version_any M1 m1 t1 u1 v1 _).mono ?_); rintro e w1 ⟨N1, rfl, hV1, hb1, hz1⟩; obtain ⟨hc1, hf1⟩ := bcell hb1; have hB1 := below2 hb1) | (go_at_call 83; (with_reducible refine (version_any M2 m2 t2 u2 v2 _).mono ?_); rintro e w2 ⟨N2, rfl, hV2, hb2, hz2⟩; obtain ⟨hc2, hf2⟩ := bcell hb2; have hB2 := hB1.trans (hb2.mono hB1.size)) | (go_at_call 84; (with_reducible refine (Compare_at M1 m1 t1 u1 v1 M2 m2 t2 u2 v2 N1 N2 _ (hV1.below hb2) hV2 (hG0.below hB2) s1 s2).mono ?_); rintro e w3 ⟨rfl, hb3⟩; have hB3 := hB2.trans (hb3.mono hB2.size)))
  all_goals
    go_wp2
    go_ret
    exact ⟨rfl, hB3⟩
def VersionCompare.f (a0_0 a0_1 a0_2 : Int) (a0_3 a0_4 : ByteArray) (a1_0 a1_1 a1_2 : Int) (a1_3 a1_4 : ByteArray) : Option Int := if a0_3.size < 8796093022208 ∧ a1_3.size < 8796093022208 then some (cmpVer a0_0 a0_1 a0_2 a0_3 a1_0 a1_1 a1_2 a1_3) else none
theorem VersionCompare.calls (a0_0 a0_1 a0_2 : Int) (a0_3 a0_4 : ByteArray) (a1_0 a1_1 a1_2 : Int) (a1_3 a1_4 : ByteArray) (r : Int) (w : World) (hG0 : Gl w) (h : VersionCompare.f a0_0 a0_1 a0_2 a0_3 a0_4 a1_0 a1_1 a1_2 a1_3 a1_4 = some r) :
    Calls Tryd.prog 27 #[.agg #[.int .u64 a0_0, .int .u64 a0_1, .int .u64 a0_2, .string a0_3, .string a0_4], .agg #[.int .u64 a1_0, .int .u64 a1_1, .int .u64 a1_2, .string a1_3, .string a1_4]] w fun e w' => e = .returned (.int .i64 r) ∧ Below w.heap.size w w' := by
  unfold VersionCompare.f at h
  by_cases hs : a0_3.size < 8796093022208 ∧ a1_3.size < 8796093022208
  · rw [if_pos hs] at h
    injection h with h
    subst h
    exact VersionCompare_any a0_0 a0_1 a0_2 a0_3 a0_4 a1_0 a1_1 a1_2 a1_3 a1_4 w hG0 hs.1 hs.2
  · rw [if_neg hs] at h; cases h
set_option maxHeartbeats 1000000 in
theorem LessThan_at (M1 m1 t1 : Int) (u1 v1 : ByteArray) (M2 m2 t2 : Int) (u2 v2 : ByteArray) (p q : Nat) (w : World) (h1 : VAt w p M1 m1 t1 u1 v1) (h2 : VAt w q M2 m2 t2 u2 v2) (hG0 : Gl w) (s1 : u1.size < 8796093022208) (s2 : u2.size < 8796093022208) :
    Calls Tryd.prog 85 #[.pointer (some ⟨p, 0, none⟩), .pointer (some ⟨q, 0, none⟩)] w fun e w' => e = .returned (.bool (decide (cmpVer M1 m1 t1 u1 M2 m2 t2 u2 < 0))) ∧ Below w.heap.size w w' := by
  have C := Compare_at M1 m1 t1 u1 v1 M2 m2 t2 u2 v2 p q w h1 h2 hG0 s1 s2
  generalize cmpVer M1 m1 t1 u1 M2 m2 t2 u2 = c at C ⊢
  go_enter Tryd.func85, Tryd.ntmps85
  go_wp2_with (first | (go_at_call 84; (with_reducible refine C.mono ?_); rintro e w1 ⟨rfl, hb⟩))
  go_ret
  exact ⟨by simp, hb⟩
set_option maxHeartbeats 1000000 in
theorem GreaterThanEqual_at (M1 m1 t1 : Int) (u1 v1 : ByteArray) (M2 m2 t2 : Int) (u2 v2 : ByteArray) (p q : Nat) (w : World) (h1 : VAt w p M1 m1 t1 u1 v1) (h2 : VAt w q M2 m2 t2 u2 v2) (hG0 : Gl w) (s1 : u1.size < 8796093022208) (s2 : u2.size < 8796093022208) :
    Calls Tryd.prog 96 #[.pointer (some ⟨p, 0, none⟩), .pointer (some ⟨q, 0, none⟩)] w fun e w' => e = .returned (.bool (decide (cmpVer M1 m1 t1 u1 M2 m2 t2 u2 ≥ 0))) ∧ Below w.heap.size w w' := by
  have C := Compare_at M1 m1 t1 u1 v1 M2 m2 t2 u2 v2 p q w h1 h2 hG0 s1 s2
  generalize cmpVer M1 m1 t1 u1 M2 m2 t2 u2 = c at C ⊢
  go_enter Tryd.func96, Tryd.ntmps96
  go_wp2_with (first | (go_at_call 84; (with_reducible refine C.mono ?_); rintro e w1 ⟨rfl, hb⟩))
  go_ret
  exact ⟨by simp, hb⟩
set_option maxHeartbeats 2000000 in
theorem VersionLess_any (M1 m1 t1 : Int) (u1 v1 : ByteArray) (M2 m2 t2 : Int) (u2 v2 : ByteArray) (w : World) (hG0 : Gl w) (s1 : u1.size < 8796093022208) (s2 : u2.size < 8796093022208) :
    Calls Tryd.prog 31 #[.agg #[.int .u64 M1, .int .u64 m1, .int .u64 t1, .string u1, .string v1], .agg #[.int .u64 M2, .int .u64 m2, .int .u64 t2, .string u2, .string v2]] w fun e w' => e = .returned (.bool (decide (cmpVer M1 m1 t1 u1 M2 m2 t2 u2 < 0))) ∧ Below w.heap.size w w' := by
  go_enter Tryd.func31, Tryd.ntmps31
  go_wp2_with fail
  go_region_with (first | (go_at_call 83; (with_reducible refine (version_any M1 m1 t1 u1 v1 _).mono ?_); rintro e w1 ⟨N1, rfl, hV1, hb1, hz1⟩; obtain ⟨hc1, hf1⟩ := bcell hb1; have hB1 := below2 hb1) | (go_at_call 83; (with_reducible refine (version_any M2 m2 t2 u2 v2 _).mono ?_); rintro e w2 ⟨N2, rfl, hV2, hb2, hz2⟩; obtain ⟨hc2, hf2⟩ := bcell hb2; have hB2 := hB1.trans (hb2.mono hB1.size)) | (go_at_call 85; (with_reducible refine (LessThan_at M1 m1 t1 u1 v1 M2 m2 t2 u2 v2 N1 N2 _ (hV1.below hb2) hV2 (hG0.below hB2) s1 s2).mono ?_); rintro e w3 ⟨rfl, hb3⟩; have hB3 := hB2.trans (hb3.mono hB2.size)))
  all_goals
    go_wp2
    go_ret
    exact ⟨rfl, hB3⟩
set_option maxHeartbeats 2000000 in
theorem VersionGreaterEqual_any (M1 m1 t1 : Int) (u1 v1 : ByteArray) (M2 m2 t2 : Int) (u2 v2 : ByteArray) (w : World) (hG0 : Gl w) (s1 : u1.size < 8796093022208) (s2 : u2.size < 8796093022208) :
    Calls Tryd.prog 41 #[.agg #[.int .u64 M1, .int .u64 m1, .int .u64 t1, .string u1, .string v1], .agg #[.int .u64 M2, .int .u64 m2, .int .u64 t2, .string u2, .string v2]] w fun e w' => e = .returned (.bool (decide (cmpVer M1 m1 t1 u1 M2 m2 t2 u2 ≥ 0))) ∧ Below w.heap.size w w' := by
  go_enter Tryd.func41, Tryd.ntmps41
  go_wp2_with fail
  go_region_with (first | (go_at_call 83; (with_reducible refine (version_any M1 m1 t1 u1 v1 _).mono ?_); rintro e w1 ⟨N1, rfl, hV1, hb1, hz1⟩; obtain ⟨hc1, hf1⟩ := bcell hb1; have hB1 := below2 hb1) | (go_at_call 83; (with_reducible refine (version_any M2 m2 t2 u2 v2 _).mono ?_); rintro e w2 ⟨N2, rfl, hV2, hb2, hz2⟩; obtain ⟨hc2, hf2⟩ := bcell hb2; have hB2 := hB1.trans (hb2.mono hB1.size)) | (go_at_call 96; (with_reducible refine (GreaterThanEqual_at M1 m1 t1 u1 v1 M2 m2 t2 u2 v2 N1 N2 _ (hV1.below hb2) hV2 (hG0.below hB2) s1 s2).mono ?_); rintro e w3 ⟨rfl, hb3⟩; have hB3 := hB2.trans (hb3.mono hB2.size)))
  all_goals
    go_wp2
    go_ret
    exact ⟨rfl, hB3⟩
def VersionLess.f (a0_0 a0_1 a0_2 : Int) (a0_3 a0_4 : ByteArray) (a1_0 a1_1 a1_2 : Int) (a1_3 a1_4 : ByteArray) : Option Bool := if a0_3.size < 8796093022208 ∧ a1_3.size < 8796093022208 then some (decide (cmpVer a0_0 a0_1 a0_2 a0_3 a1_0 a1_1 a1_2 a1_3 < 0)) else none
theorem VersionLess.calls (a0_0 a0_1 a0_2 : Int) (a0_3 a0_4 : ByteArray) (a1_0 a1_1 a1_2 : Int) (a1_3 a1_4 : ByteArray) (r : Bool) (w : World) (hG0 : Gl w) (h : VersionLess.f a0_0 a0_1 a0_2 a0_3 a0_4 a1_0 a1_1 a1_2 a1_3 a1_4 = some r) :
    Calls Tryd.prog 31 #[.agg #[.int .u64 a0_0, .int .u64 a0_1, .int .u64 a0_2, .string a0_3, .string a0_4], .agg #[.int .u64 a1_0, .int .u64 a1_1, .int .u64 a1_2, .string a1_3, .string a1_4]] w fun e w' => e = .returned (.bool r) ∧ Below w.heap.size w w' := by
  unfold VersionLess.f at h
  by_cases hs : a0_3.size < 8796093022208 ∧ a1_3.size < 8796093022208
  · rw [if_pos hs] at h
    injection h with h
    subst h
    exact VersionLess_any a0_0 a0_1 a0_2 a0_3 a0_4 a1_0 a1_1 a1_2 a1_3 a1_4 w hG0 hs.1 hs.2
  · rw [if_neg hs] at h; cases h
def VersionGreaterEqual.f (a0_0 a0_1 a0_2 : Int) (a0_3 a0_4 : ByteArray) (a1_0 a1_1 a1_2 : Int) (a1_3 a1_4 : ByteArray) : Option Bool := if a0_3.size < 8796093022208 ∧ a1_3.size < 8796093022208 then some (decide (cmpVer a0_0 a0_1 a0_2 a0_3 a1_0 a1_1 a1_2 a1_3 ≥ 0)) else none
theorem VersionGreaterEqual.calls (a0_0 a0_1 a0_2 : Int) (a0_3 a0_4 : ByteArray) (a1_0 a1_1 a1_2 : Int) (a1_3 a1_4 : ByteArray) (r : Bool) (w : World) (hG0 : Gl w) (h : VersionGreaterEqual.f a0_0 a0_1 a0_2 a0_3 a0_4 a1_0 a1_1 a1_2 a1_3 a1_4 = some r) :
    Calls Tryd.prog 41 #[.agg #[.int .u64 a0_0, .int .u64 a0_1, .int .u64 a0_2, .string a0_3, .string a0_4], .agg #[.int .u64 a1_0, .int .u64 a1_1, .int .u64 a1_2, .string a1_3, .string a1_4]] w fun e w' => e = .returned (.bool r) ∧ Below w.heap.size w w' := by
  unfold VersionGreaterEqual.f at h
  by_cases hs : a0_3.size < 8796093022208 ∧ a1_3.size < 8796093022208
  · rw [if_pos hs] at h
    injection h with h
    subst h
    exact VersionGreaterEqual_any a0_0 a0_1 a0_2 a0_3 a0_4 a1_0 a1_1 a1_2 a1_3 a1_4 w hG0 hs.1 hs.2
  · rw [if_neg hs] at h; cases h
end Go.Proofs.YtalpehfjjidfhaaDoor.Hand
