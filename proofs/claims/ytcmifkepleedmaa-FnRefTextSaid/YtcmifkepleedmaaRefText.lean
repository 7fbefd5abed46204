/- What is proved: a reference of any four parts (up to 65536 bytes together; no domain without a path) is printed as its name, a colon and its tag, an at sign and its digest, those that it has; one without a path as its digest. No further condition. -/
import Derived.Test.YtcmifkepleedmaaPFnRefTextx1
import Derived.Test.YtcmifkepleedmaaRows
import Derived.WalkKit
import Derived.ProofKit
import Derived.OpenShut
import Derived.ShutString
import Derived.ChangeOld
import Derived.Below
import Derived.SizedLaws
import Derived.WalkSpells
import Derived.WalkLawsBesides
import Derived.Lib.Hide
import Derived.Lib.SmallJoins
import Derived.Deep.Fields
import Derived.Deep.RegionHeld3
namespace Go.Proofs.Ytcmifkepleedmaa.RT
set_option linter.unusedVariables false
open Go.RowKit Go.Proofs.Ytcmifkepleedmaa.PFnRefText
def nameOf (d p : ByteArray) : ByteArray := if d.toList.isEmpty = true then p else d ++ (⟨#[47]⟩ : ByteArray) ++ p
theorem nameOf_size (d p : ByteArray) : (nameOf d p).size ≤ d.size + 1 + p.size := by
  unfold nameOf; split
  · omega
  · simp [ByteArray.size_append]; decide
theorem bcell {W w1 : World} (hb : Below W.heap.size W w1) : (∀ b o, b < W.heap.size → w1.cell? ⟨b, o, none⟩ = W.cell? ⟨b, o, none⟩) ∧ (∀ b o, b < W.heap.size → w1.frozen? ⟨b, o, none⟩ = W.frozen? ⟨b, o, none⟩) :=
  ⟨fun b o h => hb.cell (p := ⟨b, o, none⟩) h, fun b o h => hb.frozen (p := ⟨b, o, none⟩) h⟩
set_option maxHeartbeats 400000 in
theorem Name_any (d p : ByteArray) (w : World) (hs : d.size + p.size ≤ 65536) :
    Calls Try.prog 69 #[.agg #[.string d, .string p]] w fun e w' => e = .returned (.string (nameOf d p)) ∧ Below w.heap.size w w' := by
  by_cases h : d.toList.isEmpty = true
  · have h2 : d.toList = [] := by simpa using h
    have e : nameOf d p = p := if_pos h
    rw [e]
    clear e
    go_enter Try.func69, Try.ntmps69
    go_wp2
    go_ret
    exact ⟨rfl, (Below.refl _ _).alloc (Nat.le_refl _) _⟩
  · have e : nameOf d p = d ++ (⟨#[47]⟩ : ByteArray) ++ p := if_neg h
    rw [e]
    clear e
    have h1 : d.toList.isEmpty = false := by simpa using h
    have h2 : ¬ d.toList = [] := by simpa using h
    clear h
    go_enter Try.func69, Try.ntmps69
    go_wp2
    go_ret
    exact ⟨rfl, (Below.refl _ _).alloc (Nat.le_refl _) _⟩
def repo (d p : ByteArray) : Value := .iface 65 (.agg #[.string d, .string p])
theorem mName (d p : ByteArray) (W : World) : (method 197 65 (.agg #[.string d, .string p]) "Name").run Try.prog W = .ok (69, .agg #[.string d, .string p]) W := by kernel_rfl
set_option maxHeartbeats 400000 in
theorem best_none (d p t g : ByteArray) (w : World) (hs : d.size + p.size ≤ 65536) (hn1 : (nameOf d p).toList.isEmpty = true) (hn2 : (nameOf d p).toList = []) (hg1 : g.toList.isEmpty = true) (hg2 : g.toList = []) :
    Calls Try.prog 47 #[.agg #[.iface 65 (.agg #[.string d, .string p]), .string t, .string g]] w fun e w' => e = .returned (.nilIface) ∧ Below w.heap.size w w' := by
  have hm := mName d p
  go_enter Try.func47, Try.ntmps47
  go_wp2_with (first | (go_at_call 69; (with_reducible refine (Name_any d p _ hs).mono ?_); rintro e w1 ⟨rfl, hb⟩; obtain ⟨hc, hf⟩ := bcell hb; have hz : w.heap.size < w1.heap.size := (by have := hb.size; simp at this; omega)))
  go_ret
  exact ⟨rfl, ((Below.refl _ _).alloc (Nat.le_refl _) _).trans (hb.mono (by simp))⟩
set_option maxHeartbeats 400000 in
theorem best_dig (d p t g : ByteArray) (w : World) (hs : d.size + p.size ≤ 65536) (hn1 : (nameOf d p).toList.isEmpty = true) (hn2 : (nameOf d p).toList = []) (hg1 : g.toList.isEmpty = false) (hg2 : ¬ g.toList = []) :
    Calls Try.prog 47 #[.agg #[.iface 65 (.agg #[.string d, .string p]), .string t, .string g]] w fun e w' => e = .returned (.iface 77 (.string g)) ∧ Below w.heap.size w w' := by
  have hm := mName d p
  go_enter Try.func47, Try.ntmps47
  go_wp2_with (first | (go_at_call 69; (with_reducible refine (Name_any d p _ hs).mono ?_); rintro e w1 ⟨rfl, hb⟩; obtain ⟨hc, hf⟩ := bcell hb; have hz : w.heap.size < w1.heap.size := (by have := hb.size; simp at this; omega)))
  go_ret
  exact ⟨rfl, ((Below.refl _ _).alloc (Nat.le_refl _) _).trans (hb.mono (by simp))⟩
set_option maxHeartbeats 400000 in
theorem best_canon (d p t g : ByteArray) (w : World) (hs : d.size + p.size ≤ 65536) (hn1 : (nameOf d p).toList.isEmpty = false) (hn2 : ¬ (nameOf d p).toList = []) (ht1 : t.toList.isEmpty = true) (ht2 : t.toList = []) (hg1 : g.toList.isEmpty = false) (hg2 : ¬ g.toList = []) :
    Calls Try.prog 47 #[.agg #[.iface 65 (.agg #[.string d, .string p]), .string t, .string g]] w fun e w' => e = .returned (.iface 79 (.agg #[repo d p, .string g])) ∧ Below w.heap.size w w' := by
  have hm := mName d p
  go_enter Try.func47, Try.ntmps47
  go_wp2_with (first | (go_at_call 69; (with_reducible refine (Name_any d p _ hs).mono ?_); rintro e w1 ⟨rfl, hb⟩; obtain ⟨hc, hf⟩ := bcell hb; have hz : w.heap.size < w1.heap.size := (by have := hb.size; simp at this; omega)))
  go_ret
  exact ⟨rfl, ((Below.refl _ _).alloc (Nat.le_refl _) _).trans (hb.mono (by simp))⟩
set_option maxHeartbeats 400000 in
theorem best_named (d p t g : ByteArray) (w : World) (hs : d.size + p.size ≤ 65536) (hn1 : (nameOf d p).toList.isEmpty = false) (hn2 : ¬ (nameOf d p).toList = []) (ht1 : t.toList.isEmpty = true) (ht2 : t.toList = []) (hg1 : g.toList.isEmpty = true) (hg2 : g.toList = []) :
    Calls Try.prog 47 #[.agg #[.iface 65 (.agg #[.string d, .string p]), .string t, .string g]] w fun e w' => e = .returned (repo d p) ∧ Below w.heap.size w w' := by
  have hm := mName d p
  go_enter Try.func47, Try.ntmps47
  go_wp2_with (first | (go_at_call 69; (with_reducible refine (Name_any d p _ hs).mono ?_); rintro e w1 ⟨rfl, hb⟩; obtain ⟨hc, hf⟩ := bcell hb; have hz : w.heap.size < w1.heap.size := (by have := hb.size; simp at this; omega)))
  go_ret
  exact ⟨rfl, ((Below.refl _ _).alloc (Nat.le_refl _) _).trans (hb.mono (by simp))⟩
set_option maxHeartbeats 400000 in
theorem best_tagged (d p t g : ByteArray) (w : World) (hs : d.size + p.size ≤ 65536) (hn1 : (nameOf d p).toList.isEmpty = false) (hn2 : ¬ (nameOf d p).toList = []) (ht1 : t.toList.isEmpty = false) (ht2 : ¬ t.toList = []) (hg1 : g.toList.isEmpty = true) (hg2 : g.toList = []) :
    Calls Try.prog 47 #[.agg #[.iface 65 (.agg #[.string d, .string p]), .string t, .string g]] w fun e w' => e = .returned (.iface 81 (.agg #[repo d p, .string t])) ∧ Below w.heap.size w w' := by
  have hm := mName d p
  go_enter Try.func47, Try.ntmps47
  go_wp2_with (first | (go_at_call 69; (with_reducible refine (Name_any d p _ hs).mono ?_); rintro e w1 ⟨rfl, hb⟩; obtain ⟨hc, hf⟩ := bcell hb; have hz : w.heap.size < w1.heap.size := (by have := hb.size; simp at this; omega)))
  go_ret
  exact ⟨rfl, ((Below.refl _ _).alloc (Nat.le_refl _) _).trans (hb.mono (by simp))⟩
set_option maxHeartbeats 400000 in
theorem best_full (d p t g : ByteArray) (w : World) (hs : d.size + p.size ≤ 65536) (hn1 : (nameOf d p).toList.isEmpty = false) (hn2 : ¬ (nameOf d p).toList = []) (ht1 : t.toList.isEmpty = false) (ht2 : ¬ t.toList = []) (hg1 : g.toList.isEmpty = false) (hg2 : ¬ g.toList = []) :
    Calls Try.prog 47 #[.agg #[.iface 65 (.agg #[.string d, .string p]), .string t, .string g]] w fun e w' => e = .returned (.iface 75 (.agg #[repo d p, .string t, .string g])) ∧ Below w.heap.size w w' := by
  have hm := mName d p
  go_enter Try.func47, Try.ntmps47
  go_wp2_with (first | (go_at_call 69; (with_reducible refine (Name_any d p _ hs).mono ?_); rintro e w1 ⟨rfl, hb⟩; obtain ⟨hc, hf⟩ := bcell hb; have hz : w.heap.size < w1.heap.size := (by have := hb.size; simp at this; omega)))
  go_ret
  exact ⟨rfl, ((Below.refl _ _).alloc (Nat.le_refl _) _).trans (hb.mono (by simp))⟩

/-- What getBestReferenceType makes of the parts. -/
def bestOf (d p t g : ByteArray) : Value :=
  if (nameOf d p).toList.isEmpty = true then (if g.toList.isEmpty = true then .nilIface else .iface 77 (.string g))
  else if t.toList.isEmpty = true then (if g.toList.isEmpty = true then repo d p else .iface 79 (.agg #[repo d p, .string g]))
  else (if g.toList.isEmpty = true then .iface 81 (.agg #[repo d p, .string t]) else .iface 75 (.agg #[repo d p, .string t, .string g]))
theorem emp {s : ByteArray} (h : s.toList.isEmpty = true) : s.toList = [] := by simpa using h
theorem nemp {s : ByteArray} (h : ¬ s.toList.isEmpty = true) : s.toList.isEmpty = false ∧ ¬ s.toList = [] := ⟨by simpa using h, by simpa using h⟩
theorem best_any (d p t g : ByteArray) (w : World) (hs : d.size + p.size ≤ 65536) :
    Calls Try.prog 47 #[.agg #[.iface 65 (.agg #[.string d, .string p]), .string t, .string g]] w fun e w' => e = .returned (bestOf d p t g) ∧ Below w.heap.size w w' := by
  unfold bestOf
  by_cases hn : (nameOf d p).toList.isEmpty = true
  · rw [if_pos hn]
    by_cases hg : g.toList.isEmpty = true
    · rw [if_pos hg]; exact best_none d p t g w hs hn (emp hn) hg (emp hg)
    · rw [if_neg hg]; exact best_dig d p t g w hs hn (emp hn) (nemp hg).1 (nemp hg).2
  · rw [if_neg hn]
    by_cases ht : t.toList.isEmpty = true
    · rw [if_pos ht]
      by_cases hg : g.toList.isEmpty = true
      · rw [if_pos hg]; exact best_named d p t g w hs (nemp hn).1 (nemp hn).2 ht (emp ht) hg (emp hg)
      · rw [if_neg hg]; exact best_canon d p t g w hs (nemp hn).1 (nemp hn).2 ht (emp ht) (nemp hg).1 (nemp hg).2
    · rw [if_neg ht]
      by_cases hg : g.toList.isEmpty = true
      · rw [if_pos hg]; exact best_tagged d p t g w hs (nemp hn).1 (nemp hn).2 (nemp ht).1 (nemp ht).2 hg (emp hg)
      · rw [if_neg hg]; exact best_full d p t g w hs (nemp hn).1 (nemp hn).2 (nemp ht).1 (nemp ht).2 (nemp hg).1 (nemp hg).2
set_option maxHeartbeats 400000 in
theorem ZZRef_any (d p t g : ByteArray) (w : World) (hs : d.size + p.size ≤ 65536) :
    Calls Try.prog 43 #[.string d, .string p, .string t, .string g] w fun e w' => e = .returned (bestOf d p t g) ∧ Below w.heap.size w w' := by
  go_enter Try.func43, Try.ntmps43
  go_wp2_with (first | (go_at_call 47; (with_reducible refine (best_any d p t g _ hs).mono ?_); rintro e w1 ⟨rfl, hb⟩))
  go_ret
  exact ⟨rfl, hb⟩
set_option maxHeartbeats 400000 in
theorem ref_any (d p t g : ByteArray) (w : World) (hs : d.size + p.size ≤ 65536) :
    Calls Try.prog 35 #[.agg #[.string d, .string p, .string t, .string g]] w fun e w' => e = .returned (bestOf d p t g) ∧ Below w.heap.size w w' := by
  go_enter Try.func35, Try.ntmps35
  go_wp2_with (first | (go_at_call 43; (with_reducible refine (ZZRef_any d p t g _ hs).mono ?_); rintro e w1 ⟨rfl, hb⟩))
  go_ret
  exact ⟨rfl, ((Below.refl _ _).alloc (Nat.le_refl _) _).trans (hb.mono (by simp))⟩
theorem mN (d p : ByteArray) (W : World) : (method 197 65 (.agg #[.string d, .string p]) "Name").run Try.prog W = .ok (69, .agg #[.string d, .string p]) W := by kernel_rfl
set_option maxHeartbeats 400000 in
theorem String_repo (d p : ByteArray) (w : World) (hs : d.size + p.size ≤ 65536) :
    Calls Try.prog 71 #[.agg #[.string d, .string p]] w fun e w' => e = .returned (.string (nameOf d p)) ∧ Below w.heap.size w w' := by
  have hm := mName d p
  go_enter Try.func71, Try.ntmps71
  go_wp2_with (first | (go_at_call 69; (with_reducible refine (Name_any d p _ hs).mono ?_); rintro e w1 ⟨rfl, hb⟩))
  go_ret
  exact ⟨rfl, ((Below.refl _ _).alloc (Nat.le_refl _) _).trans (hb.mono (by simp))⟩
set_option maxHeartbeats 400000 in
theorem String_dig (g : ByteArray) (w : World) :
    Calls Try.prog 73 #[.string g] w fun e w' => e = .returned (.string g) ∧ w = w' := by
  go_enter Try.func73, Try.ntmps73
  go_wp2
  go_ret
  exact ⟨rfl, rfl⟩
set_option maxHeartbeats 400000 in
theorem String_digref (g : ByteArray) (w : World) :
    Calls Try.prog 75 #[.string g] w fun e w' => e = .returned (.string g) ∧ w = w' := by
  go_enter Try.func75, Try.ntmps75
  go_wp2_with (first | (go_at_call 73; (with_reducible refine (String_dig g _).mono ?_); rintro e w1 ⟨rfl, rfl⟩))
  go_ret
  exact ⟨rfl, rfl⟩
theorem below_drew {B : Nat} {w W : World} (h : Below B w W) : Below B w W.drew := ⟨h.os, h.tape, h.output, h.size, h.block⟩
theorem keep2 {N : Nat} {w cur w1 : World} {c0 c1 : Value} (h0 : cur.cell? ⟨N, 0, none⟩ = some c0) (h1 : cur.cell? ⟨N, 1, none⟩ = some c1) (hB : Below N w cur) (hz : N < cur.heap.size) (hb : Below cur.heap.size cur w1) :
    w1.cell? ⟨N, 0, none⟩ = some c0 ∧ w1.cell? ⟨N, 1, none⟩ = some c1 ∧ Below N w w1 ∧ N < w1.heap.size :=
  ⟨(hb.cell (p := ⟨N, 0, none⟩) hz).trans h0, (hb.cell (p := ⟨N, 1, none⟩) hz).trans h1, hB.trans (hb.mono (by omega)), by have := hb.size; omega⟩
theorem keep2d {N : Nat} {w cur : World} {c0 c1 : Value} (h0 : cur.cell? ⟨N, 0, none⟩ = some c0) (h1 : cur.cell? ⟨N, 1, none⟩ = some c1) (hB : Below N w cur) (hz : N < cur.heap.size) :
    cur.drew.cell? ⟨N, 0, none⟩ = some c0 ∧ cur.drew.cell? ⟨N, 1, none⟩ = some c1 ∧ Below N w cur.drew ∧ N < cur.drew.heap.size := ⟨h0, h1, below_drew hB, hz⟩
theorem keep2s (w : World) (c0 c1 : Value) (T : TypeId) :
    (w.alloc (.cells #[c0, c1] T)).cell? ⟨w.heap.size, 0, none⟩ = some c0 ∧ (w.alloc (.cells #[c0, c1] T)).cell? ⟨w.heap.size, 1, none⟩ = some c1 ∧ Below w.heap.size w (w.alloc (.cells #[c0, c1] T)) ∧ w.heap.size < (w.alloc (.cells #[c0, c1] T)).heap.size :=
  ⟨by go_simp, by go_simp, (Below.refl _ _).alloc (Nat.le_refl _) _, by simp⟩
theorem keep2c {N : Nat} {w cur w1 : World} {c0 c1 : Value} (h : cur.cell? ⟨N, 0, none⟩ = some c0 ∧ cur.cell? ⟨N, 1, none⟩ = some c1 ∧ Below N w cur ∧ N < cur.heap.size) (hb : Below cur.heap.size cur w1) :
    w1.cell? ⟨N, 0, none⟩ = some c0 ∧ w1.cell? ⟨N, 1, none⟩ = some c1 ∧ Below N w w1 ∧ N < w1.heap.size := keep2 h.1 h.2.1 h.2.2.1 h.2.2.2 hb
theorem keep2sd (w : World) (c0 c1 : Value) (T : TypeId) :
    (w.alloc (.cells #[c0, c1] T)).drew.cell? ⟨w.heap.size, 0, none⟩ = some c0 ∧ (w.alloc (.cells #[c0, c1] T)).drew.cell? ⟨w.heap.size, 1, none⟩ = some c1 ∧ Below w.heap.size w (w.alloc (.cells #[c0, c1] T)).drew ∧ w.heap.size < (w.alloc (.cells #[c0, c1] T)).drew.heap.size :=
  have h := keep2s w c0 c1 T
  keep2d h.1 h.2.1 h.2.2.1 h.2.2.2
theorem keep3c {N : Nat} {w cur w1 : World} {c0 c1 c2 : Value} (h : cur.cell? ⟨N, 0, none⟩ = some c0 ∧ cur.cell? ⟨N, 1, none⟩ = some c1 ∧ cur.cell? ⟨N, 2, none⟩ = some c2 ∧ Below N w cur ∧ N < cur.heap.size) (hb : Below cur.heap.size cur w1) :
    w1.cell? ⟨N, 0, none⟩ = some c0 ∧ w1.cell? ⟨N, 1, none⟩ = some c1 ∧ w1.cell? ⟨N, 2, none⟩ = some c2 ∧ Below N w w1 ∧ N < w1.heap.size := by
  obtain ⟨h0, h1, h2, hB, hz⟩ := h
  exact ⟨(hb.cell (p := ⟨N, 0, none⟩) hz).trans h0, (hb.cell (p := ⟨N, 1, none⟩) hz).trans h1, (hb.cell (p := ⟨N, 2, none⟩) hz).trans h2, hB.trans (hb.mono (by omega)), by have := hb.size; omega⟩
theorem keep3sd (w : World) (c0 c1 c2 : Value) (T : TypeId) :
    (w.alloc (.cells #[c0, c1, c2] T)).drew.cell? ⟨w.heap.size, 0, none⟩ = some c0 ∧ (w.alloc (.cells #[c0, c1, c2] T)).drew.cell? ⟨w.heap.size, 1, none⟩ = some c1 ∧ (w.alloc (.cells #[c0, c1, c2] T)).drew.cell? ⟨w.heap.size, 2, none⟩ = some c2 ∧ Below w.heap.size w (w.alloc (.cells #[c0, c1, c2] T)).drew ∧ w.heap.size < (w.alloc (.cells #[c0, c1, c2] T)).drew.heap.size :=
  ⟨by go_simp, by go_simp, by go_simp, below_drew ((Below.refl _ _).alloc (Nat.le_refl _) _), by simp⟩
theorem keep4c {N : Nat} {w cur w1 : World} {c0 c1 c2 c3 : Value} (h : cur.cell? ⟨N, 0, none⟩ = some c0 ∧ cur.cell? ⟨N, 1, none⟩ = some c1 ∧ cur.cell? ⟨N, 2, none⟩ = some c2 ∧ cur.cell? ⟨N, 3, none⟩ = some c3 ∧ Below N w cur ∧ N < cur.heap.size) (hb : Below cur.heap.size cur w1) :
    w1.cell? ⟨N, 0, none⟩ = some c0 ∧ w1.cell? ⟨N, 1, none⟩ = some c1 ∧ w1.cell? ⟨N, 2, none⟩ = some c2 ∧ w1.cell? ⟨N, 3, none⟩ = some c3 ∧ Below N w w1 ∧ N < w1.heap.size := by
  obtain ⟨h0, h1, h2, h3, hB, hz⟩ := h
  exact ⟨(hb.cell (p := ⟨N, 0, none⟩) hz).trans h0, (hb.cell (p := ⟨N, 1, none⟩) hz).trans h1, (hb.cell (p := ⟨N, 2, none⟩) hz).trans h2, (hb.cell (p := ⟨N, 3, none⟩) hz).trans h3, hB.trans (hb.mono (by omega)), by have := hb.size; omega⟩
theorem keep4sd (w : World) (c0 c1 c2 c3 : Value) (T : TypeId) :
    (w.alloc (.cells #[c0, c1, c2, c3] T)).drew.cell? ⟨w.heap.size, 0, none⟩ = some c0 ∧ (w.alloc (.cells #[c0, c1, c2, c3] T)).drew.cell? ⟨w.heap.size, 1, none⟩ = some c1 ∧ (w.alloc (.cells #[c0, c1, c2, c3] T)).drew.cell? ⟨w.heap.size, 2, none⟩ = some c2 ∧ (w.alloc (.cells #[c0, c1, c2, c3] T)).drew.cell? ⟨w.heap.size, 3, none⟩ = some c3 ∧ Below w.heap.size w (w.alloc (.cells #[c0, c1, c2, c3] T)).drew ∧ w.heap.size < (w.alloc (.cells #[c0, c1, c2, c3] T)).drew.heap.size :=
  ⟨by go_simp, by go_simp, by go_simp, by go_simp, below_drew ((Below.refl _ _).alloc (Nat.le_refl _) _), by simp⟩
theorem held2 {N : Nat} {w cur : World} {c0 c1 : Value} (h : cur.cell? ⟨N, 0, none⟩ = some c0 ∧ cur.cell? ⟨N, 1, none⟩ = some c1 ∧ Below N w cur ∧ N < cur.heap.size) : Below N w cur := h.2.2.1
theorem held3 {N : Nat} {w cur : World} {c0 c1 c2 : Value} (h : cur.cell? ⟨N, 0, none⟩ = some c0 ∧ cur.cell? ⟨N, 1, none⟩ = some c1 ∧ cur.cell? ⟨N, 2, none⟩ = some c2 ∧ Below N w cur ∧ N < cur.heap.size) : Below N w cur := h.2.2.2.1
theorem held4 {N : Nat} {w cur : World} {c0 c1 c2 c3 : Value} (h : cur.cell? ⟨N, 0, none⟩ = some c0 ∧ cur.cell? ⟨N, 1, none⟩ = some c1 ∧ cur.cell? ⟨N, 2, none⟩ = some c2 ∧ cur.cell? ⟨N, 3, none⟩ = some c3 ∧ Below N w cur ∧ N < cur.heap.size) : Below N w cur := h.2.2.2.2.1
set_option maxHeartbeats 1000000 in
theorem String_tagged (d p t : ByteArray) (w : World) (hs : d.size + p.size + t.size ≤ 65536) :
    Calls Try.prog 77 #[.agg #[repo d p, .string t]] w fun e w' => e = .returned (.string (nameOf d p ++ (⟨#[58]⟩ : ByteArray) ++ t)) ∧ Below w.heap.size w w' := by
  have hm := mName d p
  have hn := nameOf_size d p
  have b0 : ¬ 9223372036854775807 < (nameOf d p).size + 1 := by omega
  have b1 : ¬ 9223372036854775807 < (nameOf d p).size + 1 + t.size := by omega
  clear hn
  unfold repo
  go_enter Try.func77, Try.ntmps77
  go_wp2_with fail
  go_region_held3 (fun w' => w'.cell? ⟨w.heap.size, 0, none⟩ = some (.iface 65 (.agg #[.string d, .string p])) ∧ w'.cell? ⟨w.heap.size, 1, none⟩ = some (.string t) ∧ Below w.heap.size w w' ∧ w.heap.size < w'.heap.size) (first | exact keep2sd _ _ _ _ | exact keep2c ‹_› ‹_› | go_keep)
    (first | (go_at_call 69; (with_reducible refine (Name_any d p _ (by omega)).mono ?_); rintro e w1 ⟨rfl, hb⟩) | (go_at_call 73; (with_reducible refine (String_dig _ _).mono ?_); rintro e w1 ⟨rfl, rfl⟩))
  go_wp2
  go_ret
  exact ⟨rfl, held2 ‹_›⟩
set_option maxHeartbeats 1000000 in
theorem String_canon (d p g : ByteArray) (w : World) (hs : d.size + p.size + g.size ≤ 65536) :
    Calls Try.prog 76 #[.agg #[repo d p, .string g]] w fun e w' => e = .returned (.string (nameOf d p ++ (⟨#[64]⟩ : ByteArray) ++ g)) ∧ Below w.heap.size w w' := by
  have hm := mName d p
  have hn := nameOf_size d p
  have b0 : ¬ 9223372036854775807 < (nameOf d p).size + 1 := by omega
  have b1 : ¬ 9223372036854775807 < (nameOf d p).size + 1 + g.size := by omega
  clear hn
  unfold repo
  go_enter Try.func76, Try.ntmps76
  go_wp2_with fail
  go_region_held3 (fun w' => w'.cell? ⟨w.heap.size, 0, none⟩ = some (.iface 65 (.agg #[.string d, .string p])) ∧ w'.cell? ⟨w.heap.size, 1, none⟩ = some (.string g) ∧ Below w.heap.size w w' ∧ w.heap.size < w'.heap.size) (first | exact keep2sd _ _ _ _ | exact keep2c ‹_› ‹_› | go_keep)
    (first | (go_at_call 69; (with_reducible refine (Name_any d p _ (by omega)).mono ?_); rintro e w1 ⟨rfl, hb⟩) | (go_at_call 73; (with_reducible refine (String_dig _ _).mono ?_); rintro e w1 ⟨rfl, rfl⟩))
  go_wp2
  go_ret
  exact ⟨rfl, held2 ‹_›⟩
set_option maxHeartbeats 1000000 in
theorem String_full (d p t g : ByteArray) (w : World) (hs : d.size + p.size + t.size + g.size ≤ 65536) :
    Calls Try.prog 74 #[.agg #[repo d p, .string t, .string g]] w fun e w' => e = .returned (.string (nameOf d p ++ (⟨#[58]⟩ : ByteArray) ++ t ++ (⟨#[64]⟩ : ByteArray) ++ g)) ∧ Below w.heap.size w w' := by
  have hm := mName d p
  have hn := nameOf_size d p
  have b0 : ¬ 9223372036854775807 < (nameOf d p).size + 1 := by omega
  have b1 : ¬ 9223372036854775807 < (nameOf d p).size + 1 + t.size := by omega
  have b2 : ¬ 9223372036854775807 < (nameOf d p).size + 1 + t.size + 1 := by omega
  have b3 : ¬ 9223372036854775807 < (nameOf d p).size + 1 + t.size + 1 + g.size := by omega
  clear hn
  unfold repo
  go_enter Try.func74, Try.ntmps74
  go_wp2_with fail
  go_region_held3 (fun w' => w'.cell? ⟨w.heap.size, 0, none⟩ = some (.iface 65 (.agg #[.string d, .string p])) ∧ w'.cell? ⟨w.heap.size, 1, none⟩ = some (.string t) ∧ w'.cell? ⟨w.heap.size, 2, none⟩ = some (.string g) ∧ Below w.heap.size w w' ∧ w.heap.size < w'.heap.size) (first | exact keep3sd _ _ _ _ _ | exact keep3c ‹_› ‹_› | go_keep)
    (first | (go_at_call 69; (with_reducible refine (Name_any d p _ (by omega)).mono ?_); rintro e w1 ⟨rfl, hb⟩) | (go_at_call 73; (with_reducible refine (String_dig _ _).mono ?_); rintro e w1 ⟨rfl, rfl⟩))
  go_wp2
  go_ret
  exact ⟨rfl, held3 ‹_›⟩

def textOf (d p t g : ByteArray) : ByteArray :=
  if (nameOf d p).toList.isEmpty = true then g
  else if t.toList.isEmpty = true then (if g.toList.isEmpty = true then nameOf d p else nameOf d p ++ (⟨#[64]⟩ : ByteArray) ++ g)
  else (if g.toList.isEmpty = true then nameOf d p ++ (⟨#[58]⟩ : ByteArray) ++ t else nameOf d p ++ (⟨#[58]⟩ : ByteArray) ++ t ++ (⟨#[64]⟩ : ByteArray) ++ g)
theorem mS65 (v : Value) (W : World) : (method 197 65 v "String").run Try.prog W = .ok (71, v) W := by kernel_rfl
theorem mS75 (v : Value) (W : World) : (method 197 75 v "String").run Try.prog W = .ok (74, v) W := by kernel_rfl
theorem mS77 (v : Value) (W : World) : (method 197 77 v "String").run Try.prog W = .ok (75, v) W := by kernel_rfl
theorem mS79 (v : Value) (W : World) : (method 197 79 v "String").run Try.prog W = .ok (76, v) W := by kernel_rfl
theorem mS81 (v : Value) (W : World) : (method 197 81 v "String").run Try.prog W = .ok (77, v) W := by kernel_rfl
theorem empty_of {s : ByteArray} (h : s.toList = []) : s = ⟨#[]⟩ := by
  rw [ByteArray.toList_eq] at h
  apply ByteArray.ext
  exact Array.toList_eq_nil_iff.1 h
set_option maxHeartbeats 1000000 in
theorem RefText_none (d p t g : ByteArray) (w : World) (hs : d.size + p.size + t.size + g.size ≤ 65536) (hb0 : bestOf d p t g = .nilIface) :
    Calls Try.prog 22 #[.agg #[.string d, .string p, .string t, .string g]] w fun e w' => e = .returned (.string (⟨#[]⟩)) ∧ Below w.heap.size w w' := by
  have hr := fun W => ref_any d p t g W (by omega)
  rw [hb0] at hr
  have HR := Lib.hid hr
  clear hr hb0
  skip
  go_enter Try.func22, Try.ntmps22
  go_wp2_with (first | (go_at_call 35; (with_reducible refine (HR.out _).mono ?_); rintro e w1 ⟨rfl, hb⟩))
  go_ret
  exact ⟨rfl, ((Below.refl _ _).alloc (Nat.le_refl _) _).trans (hb.mono (by simp))⟩
set_option maxHeartbeats 1000000 in
theorem RefText_dig (d p t g : ByteArray) (w : World) (hs : d.size + p.size + t.size + g.size ≤ 65536) (hb0 : bestOf d p t g = .iface 77 (.string g)) :
    Calls Try.prog 22 #[.agg #[.string d, .string p, .string t, .string g]] w fun e w' => e = .returned (.string (g)) ∧ Below w.heap.size w w' := by
  have hr := fun W => ref_any d p t g W (by omega)
  rw [hb0] at hr
  have HR := Lib.hid hr
  clear hr hb0
  have hm := mS77
  go_enter Try.func22, Try.ntmps22
  go_wp2_with (first | (go_at_call 35; (with_reducible refine (HR.out _).mono ?_); rintro e w1 ⟨rfl, hb⟩) | (go_at_call 75; (with_reducible refine (String_digref g _).mono ?_); rintro e w2 ⟨rfl, rfl⟩))
  go_ret
  exact ⟨rfl, ((Below.refl _ _).alloc (Nat.le_refl _) _).trans (hb.mono (by simp))⟩
set_option maxHeartbeats 1000000 in
theorem RefText_named (d p t g : ByteArray) (w : World) (hs : d.size + p.size + t.size + g.size ≤ 65536) (hb0 : bestOf d p t g = .iface 65 (.agg #[.string d, .string p])) :
    Calls Try.prog 22 #[.agg #[.string d, .string p, .string t, .string g]] w fun e w' => e = .returned (.string (nameOf d p)) ∧ Below w.heap.size w w' := by
  have hr := fun W => ref_any d p t g W (by omega)
  rw [hb0] at hr
  have HR := Lib.hid hr
  clear hr hb0
  have hm := mS65
  go_enter Try.func22, Try.ntmps22
  go_wp2_with (first | (go_at_call 35; (with_reducible refine (HR.out _).mono ?_); rintro e w1 ⟨rfl, hb⟩) | (go_at_call 71; (with_reducible refine (String_repo d p _ (by omega)).mono ?_); rintro e w2 ⟨rfl, hb2⟩))
  go_ret
  exact ⟨rfl, (((Below.refl _ _).alloc (Nat.le_refl _) _).trans (hb.mono (by simp))).trans (hb2.mono (by have := hb.size; simp at this; omega))⟩
set_option maxHeartbeats 1000000 in
theorem RefText_canon (d p t g : ByteArray) (w : World) (hs : d.size + p.size + t.size + g.size ≤ 65536) (hb0 : bestOf d p t g = .iface 79 (.agg #[repo d p, .string g])) :
    Calls Try.prog 22 #[.agg #[.string d, .string p, .string t, .string g]] w fun e w' => e = .returned (.string (nameOf d p ++ (⟨#[64]⟩ : ByteArray) ++ g)) ∧ Below w.heap.size w w' := by
  have hr := fun W => ref_any d p t g W (by omega)
  rw [hb0] at hr
  have HR := Lib.hid hr
  clear hr hb0
  have hm := mS79
  go_enter Try.func22, Try.ntmps22
  go_wp2_with (first | (go_at_call 35; (with_reducible refine (HR.out _).mono ?_); rintro e w1 ⟨rfl, hb⟩) | (go_at_call 76; (with_reducible refine (String_canon d p g _ (by omega)).mono ?_); rintro e w2 ⟨rfl, hb2⟩))
  go_ret
  exact ⟨rfl, (((Below.refl _ _).alloc (Nat.le_refl _) _).trans (hb.mono (by simp))).trans (hb2.mono (by have := hb.size; simp at this; omega))⟩
set_option maxHeartbeats 1000000 in
theorem RefText_tagged (d p t g : ByteArray) (w : World) (hs : d.size + p.size + t.size + g.size ≤ 65536) (hb0 : bestOf d p t g = .iface 81 (.agg #[repo d p, .string t])) :
    Calls Try.prog 22 #[.agg #[.string d, .string p, .string t, .string g]] w fun e w' => e = .returned (.string (nameOf d p ++ (⟨#[58]⟩ : ByteArray) ++ t)) ∧ Below w.heap.size w w' := by
  have hr := fun W => ref_any d p t g W (by omega)
  rw [hb0] at hr
  have HR := Lib.hid hr
  clear hr hb0
  have hm := mS81
  go_enter Try.func22, Try.ntmps22
  go_wp2_with (first | (go_at_call 35; (with_reducible refine (HR.out _).mono ?_); rintro e w1 ⟨rfl, hb⟩) | (go_at_call 77; (with_reducible refine (String_tagged d p t _ (by omega)).mono ?_); rintro e w2 ⟨rfl, hb2⟩))
  go_ret
  exact ⟨rfl, (((Below.refl _ _).alloc (Nat.le_refl _) _).trans (hb.mono (by simp))).trans (hb2.mono (by have := hb.size; simp at this; omega))⟩
set_option maxHeartbeats 1000000 in
theorem RefText_full (d p t g : ByteArray) (w : World) (hs : d.size + p.size + t.size + g.size ≤ 65536) (hb0 : bestOf d p t g = .iface 75 (.agg #[repo d p, .string t, .string g])) :
    Calls Try.prog 22 #[.agg #[.string d, .string p, .string t, .string g]] w fun e w' => e = .returned (.string (nameOf d p ++ (⟨#[58]⟩ : ByteArray) ++ t ++ (⟨#[64]⟩ : ByteArray) ++ g)) ∧ Below w.heap.size w w' := by
  have hr := fun W => ref_any d p t g W (by omega)
  rw [hb0] at hr
  have HR := Lib.hid hr
  clear hr hb0
  have hm := mS75
  go_enter Try.func22, Try.ntmps22
  go_wp2_with (first | (go_at_call 35; (with_reducible refine (HR.out _).mono ?_); rintro e w1 ⟨rfl, hb⟩) | (go_at_call 74; (with_reducible refine (String_full d p t g _ (by omega)).mono ?_); rintro e w2 ⟨rfl, hb2⟩))
  go_ret
  exact ⟨rfl, (((Below.refl _ _).alloc (Nat.le_refl _) _).trans (hb.mono (by simp))).trans (hb2.mono (by have := hb.size; simp at this; omega))⟩

theorem RefText_any (d p t g : ByteArray) (w : World) (hs : d.size + p.size + t.size + g.size ≤ 65536) :
    Calls Try.prog 22 #[.agg #[.string d, .string p, .string t, .string g]] w fun e w' => e = .returned (.string (textOf d p t g)) ∧ Below w.heap.size w w' := by
  unfold textOf
  by_cases hn : (nameOf d p).toList.isEmpty = true
  · rw [if_pos hn]
    by_cases hg : g.toList.isEmpty = true
    · rw [empty_of (emp hg)]
      exact RefText_none d p t ⟨#[]⟩ w (by rw [empty_of (emp hg)] at hs; exact hs) (by unfold bestOf; rw [if_pos hn, if_pos (by rw [ByteArray.toList_eq]; rfl)])
    · exact RefText_dig d p t g w hs (by unfold bestOf; rw [if_pos hn, if_neg hg])
  · rw [if_neg hn]
    by_cases ht : t.toList.isEmpty = true
    · rw [if_pos ht]
      by_cases hg : g.toList.isEmpty = true
      · rw [if_pos hg]; exact RefText_named d p t g w hs (by unfold bestOf repo; rw [if_neg hn, if_pos ht, if_pos hg])
      · rw [if_neg hg]; exact RefText_canon d p t g w hs (by unfold bestOf; rw [if_neg hn, if_pos ht, if_neg hg])
    · rw [if_neg ht]
      by_cases hg : g.toList.isEmpty = true
      · rw [if_pos hg]; exact RefText_tagged d p t g w hs (by unfold bestOf; rw [if_neg hn, if_neg ht, if_pos hg])
      · rw [if_neg hg]; exact RefText_full d p t g w hs (by unfold bestOf; rw [if_neg hn, if_neg ht, if_neg hg])
theorem keep4d {N : Nat} {w cur : World} {c0 c1 c2 c3 : Value} (h : cur.cell? ⟨N, 0, none⟩ = some c0 ∧ cur.cell? ⟨N, 1, none⟩ = some c1 ∧ cur.cell? ⟨N, 2, none⟩ = some c2 ∧ cur.cell? ⟨N, 3, none⟩ = some c3 ∧ Below N w cur ∧ N < cur.heap.size) :
    cur.drew.cell? ⟨N, 0, none⟩ = some c0 ∧ cur.drew.cell? ⟨N, 1, none⟩ = some c1 ∧ cur.drew.cell? ⟨N, 2, none⟩ = some c2 ∧ cur.drew.cell? ⟨N, 3, none⟩ = some c3 ∧ Below N w cur.drew ∧ N < cur.drew.heap.size := ⟨h.1, h.2.1, h.2.2.1, h.2.2.2.1, below_drew h.2.2.2.2.1, h.2.2.2.2.2⟩
theorem keep4s (w : World) (c0 c1 c2 c3 : Value) (T : TypeId) {w1 : World} (hb : Below (w.alloc (.cells #[c0, c1, c2, c3] T)).heap.size (w.alloc (.cells #[c0, c1, c2, c3] T)) w1) :
    w1.cell? ⟨w.heap.size, 0, none⟩ = some c0 ∧ w1.cell? ⟨w.heap.size, 1, none⟩ = some c1 ∧ w1.cell? ⟨w.heap.size, 2, none⟩ = some c2 ∧ w1.cell? ⟨w.heap.size, 3, none⟩ = some c3 ∧ Below w.heap.size w w1 ∧ w.heap.size < w1.heap.size := by
  have hz : w.heap.size < (w.alloc (.cells #[c0, c1, c2, c3] T)).heap.size := by simp
  exact keep4c (N := w.heap.size) (w := w) ⟨by go_simp, by go_simp, by go_simp, by go_simp, (Below.refl _ _).alloc (Nat.le_refl _) _, hz⟩ hb

theorem short_of (d p t g : ByteArray) (h : laws_refShort.f d p t g = some true) (h1 : laws_zzFits7.f d p t g = some true) : d.size + p.size + t.size + g.size ≤ 65536 ∧ (p.toList = [] → d.toList = []) := by
  have w64 : ∀ x : Int, 0 ≤ x → x ≤ 9223372036854775807 → wrap64 x = x := by intro x h1 h2; unfold wrap64; omega
  unfold laws_zzFits7.f at h1
  by_cases a : (d.size : Int) > 2147483647
  · rw [if_pos a] at h1; cases h1
  rw [if_neg a] at h1
  by_cases b : (p.size : Int) > 2147483647
  · rw [if_pos b] at h1; cases h1
  rw [if_neg b] at h1
  by_cases c : (t.size : Int) > 2147483647
  · rw [if_pos c] at h1; cases h1
  rw [if_neg c] at h1
  by_cases e : (g.size : Int) > 2147483647
  · rw [if_pos e] at h1; cases h1
  unfold laws_refShort.f at h
  rw [w64 (d.size + p.size) (by omega) (by omega), w64 (d.size + p.size + t.size) (by omega) (by omega), w64 (d.size + p.size + t.size + g.size) (by omega) (by omega)] at h
  by_cases f : (d.size : Int) + p.size + t.size + g.size ≤ 65536
  · rw [if_pos f] at h
    refine ⟨by omega, fun hp => ?_⟩
    rw [if_pos hp] at h
    simpa using h
  · rw [if_neg f] at h; cases h
theorem size_app (a b : ByteArray) : (a ++ b).size = a.size + b.size := ByteArray.size_append
theorem spec_name (d p t g : ByteArray) (hs : d.size + p.size + t.size + g.size ≤ 65536) (h : p.toList ≠ []) : spec_RefName.f d p t g = some (nameOf d p) ∧ ¬ (nameOf d p).toList.isEmpty = true := by
  have one : ∀ x : UInt8, (⟨#[x]⟩ : ByteArray).size = 1 := fun _ => rfl
  unfold spec_RefName.f nameOf
  by_cases e : d.toList = []
  · have e2 : d.toList.isEmpty = true := by rw [e]; rfl
    rw [if_pos e, if_pos e2]
    exact ⟨rfl, by simpa using h⟩
  · have e2 : ¬ d.toList.isEmpty = true := by simpa using e
    have e3 : d.size + 1 ≤ 9223372036854775807 := by omega
    have e4 : (d ++ (⟨#[47]⟩ : ByteArray)).size + p.size ≤ 9223372036854775807 := by rw [size_app, one]; omega
    rw [if_neg e, if_neg e2, if_pos e3, if_pos e4]
    refine ⟨rfl, ?_⟩
    rw [ByteArray.toList_eq]
    simp
theorem spec_text (d p t g : ByteArray) (hs : d.size + p.size + t.size + g.size ≤ 65536) (hp : p.toList = [] → d.toList = []) : spec_RefText.f d p t g = some (textOf d p t g) := by
  have one : ∀ x : UInt8, (⟨#[x]⟩ : ByteArray).size = 1 := fun _ => rfl
  have hsz := nameOf_size d p
  unfold spec_RefText.f textOf
  by_cases hpe : p.toList = []
  · have h2 : d.toList.isEmpty = true := by rw [hp hpe]; rfl
    have : (nameOf d p).toList.isEmpty = true := by unfold nameOf; rw [if_pos h2, hpe]; rfl
    rw [if_pos hpe, if_pos this]
  · obtain ⟨h1, h2⟩ := spec_name d p t g hs hpe
    rw [if_neg hpe, h1, if_neg h2]
    simp only [Option.bind_some]
    generalize nameOf d p = n at hsz
    have a1 : 1 + g.size ≤ 9223372036854775807 := by omega
    have a2 : n.size + ((⟨#[64]⟩ : ByteArray) ++ g).size ≤ 9223372036854775807 := by rw [size_app, one]; omega
    have a3 : 1 + t.size ≤ 9223372036854775807 := by omega
    have a4 : n.size + ((⟨#[58]⟩ : ByteArray) ++ t).size ≤ 9223372036854775807 := by rw [size_app, one]; omega
    have a5 : (n ++ ((⟨#[58]⟩ : ByteArray) ++ t)).size + ((⟨#[64]⟩ : ByteArray) ++ g).size ≤ 9223372036854775807 := by rw [size_app, size_app, size_app, one, one]; omega
    simp only [if_pos a1, if_pos a2, if_pos a3, if_pos a4, if_pos a5]
    by_cases ht : t.toList = []
    · have ht2 : t.toList.isEmpty = true := by rw [ht]; rfl
      rw [if_pos ht, if_pos ht2]
      by_cases hg : g.toList = []
      · have hg2 : g.toList.isEmpty = true := by rw [hg]; rfl
        rw [if_pos hg, if_pos hg2]
      · have hg2 : ¬ g.toList.isEmpty = true := by simpa using hg
        rw [if_neg hg, if_neg hg2, ByteArray.append_assoc]
    · have ht2 : ¬ t.toList.isEmpty = true := by simpa using ht
      rw [if_neg ht, if_neg ht2]
      by_cases hg : g.toList = []
      · have hg2 : g.toList.isEmpty = true := by rw [hg]; rfl
        rw [if_pos hg, if_pos hg2, ByteArray.append_assoc]
      · have hg2 : ¬ g.toList.isEmpty = true := by simpa using hg
        rw [if_neg hg, if_neg hg2]
        simp only [ByteArray.append_assoc]
theorem fits_some (d p t g : ByteArray) : ∃ b, laws_zzFits7.f d p t g = some b := by
  unfold laws_zzFits7.f
  repeat' split
  all_goals exact ⟨_, rfl⟩
theorem short_some (d p t g : ByteArray) : ∃ b, laws_refShort.f d p t g = some b := by
  unfold laws_refShort.f
  repeat' split
  all_goals exact ⟨_, rfl⟩
set_option maxHeartbeats 1000000 in
theorem law_out (d p t g : ByteArray) (w : World) (h : laws_zzFits7.f d p t g = some false) :
    Calls Try.prog 8 #[.agg #[.string d, .string p, .string t, .string g]] w fun e w' => e = .returned (.bool true) ∧ Below w.heap.size w w' := by
  have HF := Lib.hid h
  clear h
  go_enter Try.func8, Try.ntmps8
  go_wp2_with (first | (go_at_call 20; (with_reducible refine (laws_zzFits7.calls d p t g false _ HF.out).mono ?_); rintro e w1 ⟨rfl, hb⟩))
  go_ret
  exact ⟨rfl, ((Below.refl _ _).alloc (Nat.le_refl _) _).trans (hb.mono (by simp))⟩
set_option maxHeartbeats 1000000 in
theorem law_long (d p t g : ByteArray) (w : World) (h : laws_zzFits7.f d p t g = some true) (h2 : laws_refShort.f d p t g = some false) :
    Calls Try.prog 8 #[.agg #[.string d, .string p, .string t, .string g]] w fun e w' => e = .returned (.bool true) ∧ Below w.heap.size w w' := by
  have HF := Lib.hid h
  have HS := Lib.hid h2
  clear h h2
  go_enter Try.func8, Try.ntmps8
  go_wp2_with (first | (go_at_call 20; (with_reducible refine (laws_zzFits7.calls d p t g true _ HF.out).mono ?_); rintro e w1 ⟨rfl, hb⟩; have hk := keep4s _ _ _ _ _ _ hb; clear hb))
  go_region_with (first | (go_at_call 21; (with_reducible refine (laws_refShort.calls d p t g false _ HS.out).mono ?_); rintro e w2 ⟨rfl, hb2⟩))
  all_goals
    go_wp2
    go_ret
    exact ⟨rfl, held4 (keep4c (keep4d hk) hb2)⟩
set_option maxHeartbeats 1000000 in
theorem law_in (d p t g : ByteArray) (w : World) (h : laws_zzFits7.f d p t g = some true) (h2 : laws_refShort.f d p t g = some true) :
    Calls Try.prog 8 #[.agg #[.string d, .string p, .string t, .string g]] w fun e w' => e = .returned (.bool true) ∧ Below w.heap.size w w' := by
  obtain ⟨hs, hp⟩ := short_of d p t g h2 h
  have hsp := spec_text d p t g hs hp
  have HF := Lib.hid h
  have HS := Lib.hid h2
  have HP := Lib.hid hsp
  clear h h2 hsp hp
  go_enter Try.func8, Try.ntmps8
  go_wp2_with (first | (go_at_call 20; (with_reducible refine (laws_zzFits7.calls d p t g true _ HF.out).mono ?_); rintro e w1 ⟨rfl, hb⟩; have hk := keep4s _ _ _ _ _ _ hb; clear hb))
  go_region_held3 (fun w' => w'.cell? ⟨w.heap.size, 0, none⟩ = some (.string d) ∧ w'.cell? ⟨w.heap.size, 1, none⟩ = some (.string p) ∧ w'.cell? ⟨w.heap.size, 2, none⟩ = some (.string t) ∧ w'.cell? ⟨w.heap.size, 3, none⟩ = some (.string g) ∧ Below w.heap.size w w' ∧ w.heap.size < w'.heap.size) (first | exact keep4d hk | exact keep4c ‹_› ‹_› | go_keep)
    (first | (go_at_call 21; (with_reducible refine (laws_refShort.calls d p t g true _ HS.out).mono ?_); rintro e w2 ⟨rfl, hb2⟩) | (go_at_call 22; (with_reducible refine (RefText_any d p t g _ hs).mono ?_); rintro e w3 ⟨rfl, hb3⟩) | (go_at_call 23; (with_reducible refine (spec_RefText.calls d p t g (textOf d p t g) _ HP.out).mono ?_); rintro e w4 ⟨rfl, hb4⟩))
  all_goals
    go_wp2
    go_ret
    exact ⟨by simp, held4 ‹_›⟩
theorem law_walk (d p t g : ByteArray) (w : World) (_ : d.size ≤ maxLen) (_ : p.size ≤ maxLen) (_ : t.size ≤ maxLen) (_ : g.size ≤ maxLen) :
    Calls Try.prog 8 #[.agg #[.string d, .string p, .string t, .string g]] w fun e w' => e = .returned (.bool true) ∧ Below w.heap.size w w' := by
  obtain ⟨b, hb⟩ := fits_some d p t g
  obtain ⟨c, hc⟩ := short_some d p t g
  cases b with
  | false => exact law_out d p t g w hb
  | true =>
    cases c with
    | false => exact law_long d p t g w hb hc
    | true => exact law_in d p t g w hb hc
end Go.Proofs.Ytcmifkepleedmaa.RT

namespace Go.Proofs.Ytcmifkepleedmaa.fnRefText
open Go.ChangeShapes Go.WideShapes Go.ChangeAt Go.RowKit Go.Joins Go.Deep
open Go.ChangeMaps (open_string shut_string)
set_option linter.unusedVariables false
theorem own : ownKnob Try.prog.godebug = none := by kernel_rfl
theorem laidOut : laidOutB Try.prog = true := by kernel_rfl

/-- An argument that is a struct of one-cell fields: its cells, each field's own reading. -/
theorem open_aggs {H : Type} {enc : TypeId × Value → H} {P : Program} {w : World} {base : Nat} {spare : Nat → Bool} {held : Bool} {r : Reach} {b0 : Nat} {t : TypeId} {fs : Array Field} {v : Value} {d : DataW H} {p : List MemPlace}
    (hs : P.underlying t = some (.struct fs)) (hone : oneCellFields P fs = true) (hC : P.cellsOf t = fs.size) (hv : Value.okWide P w r b0 t v) (h : DataW.Trod enc P w base spare held t v d p) :
    ∃ (cs : List Value) (ys : List (DataW H × List MemPlace)) (n : Nat), v = .agg cs.toArray ∧ cs.length = fs.size ∧ p = ys.flatMap (·.2) ∧ ys.length = fs.size ∧
      ∀ (j : Nat) (f : Field) (c : Value) (y : DataW H × List MemPlace), fs[j]? = some f → cs[j]? = some c → ys[j]? = some y → DataW.trod enc P w base spare held n f.type [c] = some y := by
  obtain ⟨cs, rfl, hsz⟩ := okWide_struct hs hv
  obtain ⟨fuel, hf⟩ := h
  obtain ⟨ys, n, _, hx, _, hlen, hg⟩ := DataW.trod_struct hs hf
  simp only [Prod.mk.injEq] at hx
  refine ⟨cs.toList, ys, n, by simp, by simpa using hsz.trans hC, hx.2, hlen, fun j f c y hj hc hy => ?_⟩
  obtain ⟨o, k⟩ := hone_of hone j f hj
  have h1 := hg j f hj
  rw [o, k, hy] at h1
  have hl := (List.getElem?_eq_some_iff.1 hc).1
  have hce := (List.getElem?_eq_some_iff.1 hc).2
  have e : (cs.toList.drop j).take 1 = [c] := by
    rw [List.drop_eq_getElem_cons hl, hce]
    rfl
  simpa [Value.cells, e] using h1
theorem openT39 {H : Type} {enc : TypeId × Value → H} {w : World} {base : Nat} {spare : Nat → Bool} {held : Bool} {r : Reach} {b0 : Nat} {v : Value} {d : DataW H} {p : List MemPlace}
    (hv : Value.okWide Try.prog w r b0 39 v) (h : DataW.Trod enc Try.prog w base spare held 39 v d p) :
    ∃ (a0 : ByteArray) (a1 : ByteArray) (a2 : ByteArray) (a3 : ByteArray), v = .agg #[.string a0, .string a1, .string a2, .string a3] ∧ p = [] ∧ a0.size ≤ maxLen ∧ a1.size ≤ maxLen ∧ a2.size ≤ maxLen ∧ a3.size ≤ maxLen := by
  obtain ⟨cs, ys, n, rfl, hl, rfl, hl2, hf⟩ := open_aggs Try.underlying39 (by kernel_rfl) (by kernel_rfl) hv h
  match cs, hl, ys, hl2 with
  | [c0, c1, c2, c3], _, [y0, y1, y2, y3], _ =>
    have h0 := hf 0 _ c0 y0 rfl rfl rfl
    obtain ⟨a0, e0, q0, w0⟩ := DataW.trod_string Try.underlying9 h0
    obtain rfl : c0 = .string a0 := by simpa using e0
    have h1 := hf 1 _ c1 y1 rfl rfl rfl
    obtain ⟨a1, e1, q1, w1⟩ := DataW.trod_string Try.underlying9 h1
    obtain rfl : c1 = .string a1 := by simpa using e1
    have h2 := hf 2 _ c2 y2 rfl rfl rfl
    obtain ⟨a2, e2, q2, w2⟩ := DataW.trod_string Try.underlying9 h2
    obtain rfl : c2 = .string a2 := by simpa using e2
    have h3 := hf 3 _ c3 y3 rfl rfl rfl
    obtain ⟨a3, e3, q3, w3⟩ := DataW.trod_string Try.underlying9 h3
    obtain rfl : c3 = .string a3 := by simpa using e3
    refine ⟨a0, a1, a2, a3, rfl, ?_, w0, w1, w2, w3⟩
    simp [q0, q1, q2, q3]
set_option maxRecDepth 100000 in
theorem lifted (os : Os) (started : os.Started) (H : Type) (enc : TypeId × Value → H) :
    ReturnsInHanded {} Try.checked os 8 .any (Rows.fnRefTextSpec.pre6 enc Try.prog Try.f8 Rows.fnRefTextRow.domain false) (Rows.fnRefTextSpec.post enc Try.prog Try.f8 false true false false) := by
  refine returnsInHanded_of_change_sized (C := Try.checked) own started (by kernel_rfl) Try.func8
    (ChangeSpec.witness6 (enc := enc) (C := Try.checked) false ⟨#[], #[.agg #[.string ByteArray.empty, .string ByteArray.empty, .string ByteArray.empty, .string ByteArray.empty]], []⟩ 8 (by kernel_rfl) (by kernel_rfl) (by kernel_rfl) (by kernel_rfl)) ?_
  intro W base args ds gs before hval0 hW hcnd hsz0 _
  have hsz : (DataW.weightsEach Try.prog (Try.f8.params.toList ++ Rows.fnRefTextSpec.plain.varTypes Try.prog) (ds ++ gs)).all (· ≤ reachBytes) = true := hsz0
  have hval : ∀ (j : Nat) t v, Try.f8.params[j]? = some t → args[j]? = some v → Value.okWide Try.prog W .any base t v := hval0
  have hW' := hW
  obtain ⟨p, q, hA0, hV, rfl, hfz, hnd⟩ := hW
  have hA : DataW.TrodAll enc Try.prog W 0 (fun _ => true) true Try.f8.params.toList args.toList ds p := hA0
  rw [Try.params8] at hA hval hsz
  obtain ⟨v0, vs0, d0, ds0, p0, q0, hargs, rfl, rfl, h0, r0⟩ := trodAll_cons hA
  obtain ⟨rfl, rfl, rfl⟩ := trodAll_nil r0
  obtain rfl : args = #[v0] := by cases args; simp_all
  obtain ⟨rfl, rfl⟩ := trodVars_none hV
  have k0 := h0
  obtain ⟨a0_0, a0_1, a0_2, a0_3, rfl, rfl, w0_0, w0_1, w0_2, w0_3⟩ := openT39 (hval 0 39 v0 rfl rfl) h0
  clear hA0 hval0 hsz0 hsz
  refine (RT.law_walk a0_0 a0_1 a0_2 a0_3 W w0_0 w0_1 w0_2 w0_3).mono fun e W' ⟨he, bel⟩ => ?_
  subst he
  exact ⟨_, rfl, _, _, _, [], _, [], hW', trodAll_mk1 (shut_bool Try.underlying4 _), (trodAll_cons_mk (Below.trod laidOut (by kernel_rfl) (of_decide_eq_true (by kernel_rfl)) k0 bel (fun x hx => by simp at hx)) trodAll_mk0), rfl, bel.frame _, fun h => by cases h⟩
theorem over : Rows.fnRefTextRow.holds Try.pinned (OpenSpec.ofChange Rows.fnRefTextSpec) :=
  OpenClaim.holds_of_wide 8 Try.f8 rfl rfl rfl rfl rfl rfl rfl ⟨rfl, rfl, rfl, rfl, rfl⟩ rfl rfl rfl rfl rfl (by kernel_rfl) Try.func8 (by kernel_rfl)
    (of_decide_eq_true (by kernel_rfl)) (by unfold Func.isWrapper; first | (rw [if_pos (by decide +kernel)]; kernel_rfl) | (rw [if_neg (by decide +kernel)]; exact ⟨rfl, rfl⟩))
    (fun os started H enc _ => lifted os started H enc)
theorem proved : Rows.FnRefTextSaid := over
end Go.Proofs.Ytcmifkepleedmaa.fnRefText
namespace Go.Proofs.Ytcmifkepleedmaa
/-- The row, under a short name, for the claim. -/
theorem fnRefText_holds : Rows.FnRefTextSaid := fnRefText.proved
#print axioms fnRefText_holds
end Go.Proofs.Ytcmifkepleedmaa
