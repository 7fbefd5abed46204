/- What is proved: the inner making of familiar names over any domain and path (up to 65536 bytes together) leaves away the default domain and, with it, the official namespace if no slash stands behind it. No further condition. -/
import Derived.Test.YtcmifkepleedmaaPFnRefFamiliarizex1
import Derived.Test.YtcmifkepleedmaaRows
import Derived.WalkKit
import Derived.ProofKit
import Derived.OpenShut
import Derived.ShutString
import Derived.ChangeOld
import Derived.Below
import Derived.SizedLaws
import Derived.WalkSpells
import Derived.WalkLawsBesides
import Derived.Lib.Hide
import Derived.Laws.RangeString
import Derived.Lib.RuneCount
import Derived.BigQuiet
import Derived.Deep.QuietTactic
namespace Go.Proofs.Ytcmifkepleedmaa.U8
open Go
/-- A rune that begins with a byte from 128 on: it is 128 or more, lies within the text, and all its bytes are 128 or more. -/
theorem decode_far (s : ByteArray) (i : Nat) (h : i < s.size) (hb : 128 ≤ (s.get! i).toNat) :
    128 ≤ (Utf8.decode s i).1 ∧ i + (Utf8.decode s i).2 ≤ s.size ∧ ∀ k, k < (Utf8.decode s i).2 → 128 ≤ (s.get! (i + k)).toNat := by
  unfold Utf8.decode
  simp only [Nat.add_zero]
  rw [if_neg (by omega)]
  split
  · rename_i h1
    simp only [Bool.and_eq_true, decide_eq_true_eq, beq_iff_eq] at h1
    split
    · refine ⟨by omega, by omega, fun k hk => ?_⟩
      match k, hk with
      | 0, _ => simpa using hb
      | 1, _ => omega
    · refine ⟨by decide, by omega, fun k hk => ?_⟩
      match k, hk with
      | 0, _ => simpa using hb
  · split
    · rename_i h1
      simp only [Bool.and_eq_true, decide_eq_true_eq, beq_iff_eq] at h1
      split
      · rename_i h2
        simp only [Bool.and_eq_true, decide_eq_true_eq] at h2
        refine ⟨by omega, by omega, fun k hk => ?_⟩
        match k, hk with
        | 0, _ => simpa using hb
        | 1, _ => omega
        | 2, _ => omega
      · refine ⟨by decide, by omega, fun k hk => ?_⟩
        match k, hk with
        | 0, _ => simpa using hb
    · split
      · rename_i h1
        simp only [Bool.and_eq_true, decide_eq_true_eq, beq_iff_eq] at h1
        split
        · rename_i h2
          simp only [Bool.and_eq_true, decide_eq_true_eq] at h2
          refine ⟨by omega, by omega, fun k hk => ?_⟩
          match k, hk with
          | 0, _ => simpa using hb
          | 1, _ => omega
          | 2, _ => omega
          | 3, _ => omega
        · refine ⟨by decide, by omega, fun k hk => ?_⟩
          match k, hk with
          | 0, _ => simpa using hb
      · refine ⟨by decide, by omega, fun k hk => ?_⟩
        match k, hk with
        | 0, _ => simpa using hb
theorem get!_eq (s : ByteArray) (i : Nat) (h : i < s.size) : s.get! i = s[i] := by
  show s.data[i]! = s.data[i]
  rw [getElem!_pos s.data i h]
end Go.Proofs.Ytcmifkepleedmaa.U8

namespace Go.Proofs.Ytcmifkepleedmaa.RF
set_option linter.unusedVariables false
open Go.RowKit Go.Proofs.Ytcmifkepleedmaa.PFnRefFamiliarize Go.Proofs.YtcmifkepleedmaaW.PrintWords U8
/-- No byte of s is n from place i up to place j. -/
def NoneIn (s : ByteArray) (n i j : Nat) : Prop := ∀ k, i ≤ k → k < j → (s.get! k).toNat ≠ n
structure Seen (s : ByteArray) (n j : Nat) : Prop where mk :: (out : NoneIn s n 0 j)
/-- A byte n stands in s. -/
def HasIn (s : ByteArray) (n : Nat) : Prop := ∃ k, k < s.size ∧ (s.get! k).toNat = n
/-- What zzIndexRune returns: a place at which the byte stands, or -1. -/
def IdxPost (s : ByteArray) (n : Nat) (w : World) (e : Ending) (w' : World) : Prop :=
  ∃ i : Int, e = .returned (.int .i64 i) ∧ ((0 ≤ i ∧ HasIn s n) ∨ (i = -1 ∧ ¬ HasIn s n)) ∧ Below w.heap.size w w'
theorem below_iter (w : World) (s : ByteArray) (pos : Nat) : Below w.heap.size w (w.iter s pos) := (Below.refl _ _).alloc (Nat.le_refl _) _
theorem seen_end {s : ByteArray} {n pos : Nat} (h : Seen s n pos) (hp : ¬ pos < s.size) : ¬ HasIn s n := by
  rintro ⟨k, hk, e⟩
  exact h.out k (by omega) (by omega) e
theorem seen_ascii {s : ByteArray} {n pos : Nat} (h : Seen s n pos) (hp : pos < s.size) (hb : (s.get! pos).toNat ≠ n) : Seen s n (pos + 1) :=
  ⟨fun k h0 hk => by
    by_cases e : k = pos
    · subst e; exact hb
    · exact h.out k h0 (by omega)⟩
theorem seen_far {s : ByteArray} {n pos : Nat} (h : Seen s n pos) (hn : n < 128) (hp : pos < s.size) (hb : 128 ≤ (s.get! pos).toNat) : Seen s n (pos + (Utf8.decode s pos).2) :=
  ⟨fun k h0 hk => by
    by_cases e : k < pos
    · exact h.out k h0 e
    · have := (decode_far s pos hp hb).2.2 (k - pos) (by omega)
      rw [show pos + (k - pos) = k by omega] at this
      omega⟩
set_option maxRecDepth 1000000 in
set_option maxHeartbeats 1000000 in
theorem zzIndexRune_any (s : ByteArray) (w : World) : Calls Try.prog 50 #[.string s, .int .i32 47] w (IdxPost s 47 w) := by
  go_enter Try.func50, Try.ntmps50
  go_wp2
  go_loopw [5, 6] (fun _ _ w' => ∃ pos : Nat, w' = w.iter s pos ∧ Seen s 47 pos) (fun _ _ w' => s.size - w'.iterPos w.heap.size)
  case atStart => exact ⟨0, rfl, ⟨fun k h0 hk => by omega⟩⟩
  case round =>
    obtain ⟨pos, rfl, hS⟩ := hrel
    by_cases hp : pos < s.size
    · have hnx : ∀ ty, (Instr.next (.pointer (some ⟨w.heap.size, 0, none⟩)) true ty).run Try.prog (w.iter s pos) = _ := fun ty => run_next_any w s pos ty hp
      have hwd := Lib.decode_width_pos s pos hp
      by_cases hb : 128 ≤ (s.get! pos).toNat
      · have hf := decode_far s pos hp hb
        have hne : (((Utf8.decode s pos).1 : Int) == 47) = false := by simp only [beq_eq_false_iff_ne]; omega
        clear hf
        go_wp2
        go_roundw
        case rel => exact ⟨_, rfl, seen_far hS (by decide) hp hb⟩
        case measure => simp; omega
      · have e := decode_ascii s pos hp (by rw [← get!_eq s pos hp]; omega)
        by_cases h47 : (s.get! pos).toNat = 47
        · have he : (((Utf8.decode s pos).1 : Int) == 47) = true := by rw [e, ← get!_eq s pos hp, h47]; rfl
          clear e
          go_wp2
          go_ret
          exact ⟨pos, rfl, Or.inl ⟨by omega, ⟨pos, hp, h47⟩⟩, below_iter _ _ _⟩
        · have he : (((Utf8.decode s pos).1 : Int) == 47) = false := by
            rw [e, ← get!_eq s pos hp]; simp only [beq_eq_false_iff_ne]; omega
          have e2 : (Utf8.decode s pos).2 = 1 := by rw [e]
          have E2 := Lib.hid e2
          clear e e2
          go_wp2
          go_roundw
          case rel => exact ⟨_, rfl, by rw [E2.out]; exact seen_ascii hS hp h47⟩
          case measure => simp; omega
    · have hnx : ∀ ty, (Instr.next (.pointer (some ⟨w.heap.size, 0, none⟩)) true ty).run Try.prog (w.iter s pos) = _ := fun ty => run_next_end w s pos ty hp
      go_wp2
      go_ret
      exact ⟨-1, rfl, Or.inr ⟨rfl, seen_end hS hp⟩, below_iter _ _ _⟩

noncomputable def hasB (s : ByteArray) (n : Nat) : Bool := @decide (HasIn s n) (Classical.propDecidable _)
theorem hasB_yes {s : ByteArray} {n : Nat} (h : HasIn s n) : hasB s n = true := @decide_eq_true _ (Classical.propDecidable _) h
theorem hasB_no {s : ByteArray} {n : Nat} (h : ¬ HasIn s n) : hasB s n = false := @decide_eq_false _ (Classical.propDecidable _) h
def BoolPost (b : Bool) (w : World) (e : Ending) (w' : World) : Prop := e = .returned (.bool b) ∧ Below w.heap.size w w'
set_option maxHeartbeats 1000000 in
theorem zzContainsRune_any (s : ByteArray) (w : World) : Calls Try.prog 46 #[.string s, .int .i32 47] w (BoolPost (hasB s 47) w) := by
  go_enter Try.func46, Try.ntmps46
  go_wp2_with fail
  refine (zzIndexRune_any s _).mono ?_
  rintro e w1 ⟨i, rfl, h, hb⟩
  rcases h with ⟨h0, h1⟩ | ⟨h0, h1⟩
  · have hB := Lib.hid (hasB_yes h1)
    go_wp2
    go_ret
    exact ⟨by rw [hB.out]; rfl, hb⟩
  · have hB := Lib.hid (hasB_no h1)
    subst h0
    go_wp2
    go_ret
    exact ⟨by rw [hB.out]; rfl, hb⟩
set_option maxHeartbeats 1000000 in
theorem Domain_any (d p : ByteArray) (w : World) : Calls Try.prog 68 #[.agg #[.string d, .string p]] w fun e w' => e = .returned (.string d) ∧ w' = w.alloc (.cells #[.string d, .string p] 65) := by
  go_enter Try.func68, Try.ntmps68
  go_wp2
  go_ret
  exact ⟨rfl, rfl⟩
set_option maxHeartbeats 1000000 in
theorem Path_any (d p : ByteArray) (w : World) : Calls Try.prog 70 #[.agg #[.string d, .string p]] w fun e w' => e = .returned (.string p) ∧ w' = w.alloc (.cells #[.string d, .string p] 65) := by
  go_enter Try.func70, Try.ntmps70
  go_wp2
  go_ret
  exact ⟨rfl, rfl⟩
theorem mDomain (v : Value) (W : World) : (method 197 65 v "Domain").run Try.prog W = .ok (68, v) W := by kernel_rfl
theorem mPath (v : Value) (W : World) : (method 197 65 v "Path").run Try.prog W = .ok (70, v) W := by kernel_rfl
abbrev hub : ByteArray := ⟨#[100, 111, 99, 107, 101, 114, 46, 105, 111]⟩
abbrev lib : ByteArray := ⟨#[108, 105, 98, 114, 97, 114, 121, 47]⟩
set_option maxHeartbeats 1000000 in
theorem fam_other (d p : ByteArray) (w : World) (h : (d.toList == ([100, 111, 99, 107, 101, 114, 46, 105, 111] : List UInt8)) = false) :
    Calls Try.prog 42 #[.iface 65 (.agg #[.string d, .string p])] w fun e w' => e = .returned (.agg #[.string d, .string p]) ∧ Below w.heap.size w w' := by
  have hm1 := mDomain (.agg #[.string d, .string p])
  have hm2 := mPath (.agg #[.string d, .string p])
  go_enter Try.func42, Try.ntmps42
  go_wp2_with (first | (go_at_call 68; (with_reducible refine (Domain_any d p _).mono ?_); rintro e w1 ⟨rfl, rfl⟩) | (go_at_call 70; (with_reducible refine (Path_any d p _).mono ?_); rintro e w2 ⟨rfl, rfl⟩))
  exact bodyPost_ret (v := .agg #[.string d, .string p]) (by simp [results, Try.results42, go_sem]) rfl ⟨rfl, ((((Below.refl _ _).alloc (Nat.le_refl _) _).alloc (by simp) _).alloc (by simp; omega) _).alloc (by simp; omega) _⟩
theorem bcell {W w1 : World} (hb : Below W.heap.size W w1) : (∀ b o, b < W.heap.size → w1.cell? ⟨b, o, none⟩ = W.cell? ⟨b, o, none⟩) ∧ (∀ b o, b < W.heap.size → w1.frozen? ⟨b, o, none⟩ = W.frozen? ⟨b, o, none⟩) :=
  ⟨fun b o h => hb.cell (p := ⟨b, o, none⟩) h, fun b o h => hb.frozen (p := ⟨b, o, none⟩) h⟩
theorem two_cells (w0 : World) (N : Nat) (c0 c1 : Value) {u0 u1 : Value} (h0 : w0.cell? ⟨N, 0, none⟩ = some u0) (h1 : w0.cell? ⟨N, 1, none⟩ = some u1) :
    ((w0.setCell ⟨N, 0, none⟩ c0).setCell ⟨N, 1, none⟩ c1).cell? ⟨N, 0, none⟩ = some c0 ∧ ((w0.setCell ⟨N, 0, none⟩ c0).setCell ⟨N, 1, none⟩ c1).cell? ⟨N, 1, none⟩ = some c1 := by
  have n1 : (⟨N, 0, none⟩ : Addr) ≠ ⟨N, 1, none⟩ := by simp
  have n2 : (⟨N, 1, none⟩ : Addr) ≠ ⟨N, 0, none⟩ := by simp
  constructor
  · rw [World.cell?_setCell_other _ _ _ _ n2]; exact World.cell?_setCell_same _ _ _ h0
  · exact World.cell?_setCell_same _ _ _ ((World.cell?_setCell_other _ _ _ _ n1).trans h1)
theorem two_other (d : ByteArray) (h : d.toList = ([100, 111, 99, 107, 101, 114, 46, 105, 111] : List UInt8)) : d = hub := by
  rw [ByteArray.toList_eq] at h
  apply ByteArray.ext
  exact Array.toList_inj.1 h
set_option maxHeartbeats 1000000 in
theorem fam_hub (p : ByteArray) (w : World) (h : strings_HasPrefix.f p lib = some false) :
    Calls Try.prog 42 #[.iface 65 (.agg #[.string hub, .string p])] w fun e w' => e = .returned (.agg #[.string ⟨#[]⟩, .string p]) ∧ Below w.heap.size w w' := by
  have hm1 := mDomain (.agg #[.string hub, .string p])
  have hm2 := mPath (.agg #[.string hub, .string p])
  have HP := Lib.hid h
  clear h
  go_enter Try.func42, Try.ntmps42
  go_wp2_with (first | (go_at_call 68; (with_reducible refine (Domain_any hub p _).mono ?_); rintro e w1 ⟨rfl, rfl⟩) | (go_at_call 70; (with_reducible refine (Path_any hub p _).mono ?_); rintro e w2 ⟨rfl, rfl⟩) | (go_at_call 44; (with_reducible refine (strings_HasPrefix.calls p lib false _ HP.out).mono ?_); rintro e w3 ⟨rfl, ⟨nd, rfl⟩⟩))
  have Q := two_cells (((((w.alloc (.cells #[.string ⟨#[]⟩, .string ⟨#[]⟩] 65)).alloc (.cells #[.string hub, .string p] 65)).alloc (.cells #[.string hub, .string p] 65)).alloc (.cells #[.string ⟨#[]⟩, .string p] 65)).drewN nd) w.heap.size (.string ⟨#[]⟩) (.string p) (u0 := .string ⟨#[]⟩) (u1 := .string ⟨#[]⟩) (by go_simp) (by go_simp)
  exact bodyPost_ret (v := .agg #[.string ⟨#[]⟩, .string p]) (by simp [results, Try.results42, go_sem, Q.1, Q.2]) rfl ⟨rfl, ((pw_below_drewN ((((Below.refl _ _).alloc (Nat.le_refl _) _).alloc (by simp) _).alloc (by simp; omega) _ |>.alloc (by simp; omega) _) nd).setCell (by simp) _).setCell (by simp) _⟩
set_option maxHeartbeats 2000000 in
theorem fam_lib0 (p r : ByteArray) (w : World) (h : strings_HasPrefix.f p lib = some true) (h2 : strings_TrimPrefix.f p lib = some r) (h3 : hasB r 47 = false) :
    Calls Try.prog 42 #[.iface 65 (.agg #[.string hub, .string p])] w fun e w' => e = .returned (.agg #[.string ⟨#[]⟩, .string r]) ∧ Below w.heap.size w w' := by
  have hm1 := mDomain (.agg #[.string hub, .string p])
  have hm2 := mPath (.agg #[.string hub, .string p])
  have HP := Lib.hid h
  have HT := Lib.hid h2
  have HC := fun W => zzContainsRune_any r W
  rw [h3] at HC
  have HC := Lib.hid HC
  clear h h2 h3
  go_enter Try.func42, Try.ntmps42
  go_wp2_with (first | (go_at_call 68; (with_reducible refine (Domain_any hub p _).mono ?_); rintro e w1 ⟨rfl, rfl⟩) | (go_at_call 70; (with_reducible refine (Path_any hub p _).mono ?_); rintro e w2 ⟨rfl, rfl⟩) | (go_at_call 44; (with_reducible refine (strings_HasPrefix.calls p lib true _ HP.out).mono ?_); rintro e w3 ⟨rfl, ⟨nd, rfl⟩⟩) | (go_at_call 45; (with_reducible refine (strings_TrimPrefix.calls p lib r _ HT.out).mono ?_); rintro e w4 ⟨rfl, ⟨ne, rfl⟩⟩) | (go_at_call 46; (with_reducible refine (HC.out _).mono ?_); rintro e w5 ⟨rfl, hb⟩; obtain ⟨hc, hf⟩ := bcell hb; have hz : w.heap.size + 3 < w5.heap.size := (by have := hb.size; simp at this; omega)))
  have hzn : w.heap.size < (((((w.alloc (.cells #[.string ⟨#[]⟩, .string ⟨#[]⟩] 65)).alloc (.cells #[.string hub, .string p] 65)).alloc (.cells #[.string hub, .string p] 65)).alloc (.cells #[.string ⟨#[]⟩, .string p] 65)).drewN (nd + ne)).heap.size := by simp; omega
  have h0 : (w5.setCell ⟨w.heap.size + 1 + 1 + 1, 1, none⟩ (.string r)).cell? ⟨w.heap.size, 0, none⟩ = some (.string ⟨#[]⟩) := (World.cell?_setCell_far _ _ _ _ (by simp; omega)).trans ((hc w.heap.size 0 hzn).trans (by go_simp))
  have h1 : (w5.setCell ⟨w.heap.size + 1 + 1 + 1, 1, none⟩ (.string r)).cell? ⟨w.heap.size, 1, none⟩ = some (.string ⟨#[]⟩) := (World.cell?_setCell_far _ _ _ _ (by simp; omega)).trans ((hc w.heap.size 1 hzn).trans (by go_simp))
  have Q := two_cells _ w.heap.size (.string ⟨#[]⟩) (.string r) h0 h1
  exact bodyPost_ret (v := .agg #[.string ⟨#[]⟩, .string r]) (by simp [results, Try.results42, go_sem, Q.1, Q.2]) rfl ⟨rfl, ((((pw_below_drewN ((((Below.refl _ _).alloc (Nat.le_refl _) _).alloc (by simp) _).alloc (by simp; omega) _ |>.alloc (by simp; omega) _) (nd + ne)).trans (hb.mono (by simp; omega))).setCell (by simp; omega) _).setCell (by simp) _).setCell (by simp) _⟩
set_option maxHeartbeats 2000000 in
theorem fam_lib1 (p r : ByteArray) (w : World) (h : strings_HasPrefix.f p lib = some true) (h2 : strings_TrimPrefix.f p lib = some r) (h3 : hasB r 47 = true) :
    Calls Try.prog 42 #[.iface 65 (.agg #[.string hub, .string p])] w fun e w' => e = .returned (.agg #[.string ⟨#[]⟩, .string p]) ∧ Below w.heap.size w w' := by
  have hm1 := mDomain (.agg #[.string hub, .string p])
  have hm2 := mPath (.agg #[.string hub, .string p])
  have HP := Lib.hid h
  have HT := Lib.hid h2
  have HC := fun W => zzContainsRune_any r W
  rw [h3] at HC
  have HC := Lib.hid HC
  clear h h2 h3
  go_enter Try.func42, Try.ntmps42
  go_wp2_with (first | (go_at_call 68; (with_reducible refine (Domain_any hub p _).mono ?_); rintro e w1 ⟨rfl, rfl⟩) | (go_at_call 70; (with_reducible refine (Path_any hub p _).mono ?_); rintro e w2 ⟨rfl, rfl⟩) | (go_at_call 44; (with_reducible refine (strings_HasPrefix.calls p lib true _ HP.out).mono ?_); rintro e w3 ⟨rfl, ⟨nd, rfl⟩⟩) | (go_at_call 45; (with_reducible refine (strings_TrimPrefix.calls p lib r _ HT.out).mono ?_); rintro e w4 ⟨rfl, ⟨ne, rfl⟩⟩) | (go_at_call 46; (with_reducible refine (HC.out _).mono ?_); rintro e w5 ⟨rfl, hb⟩; obtain ⟨hc, hf⟩ := bcell hb; have hz : w.heap.size + 3 < w5.heap.size := (by have := hb.size; simp at this; omega)))
  have hzn : w.heap.size < (((((w.alloc (.cells #[.string ⟨#[]⟩, .string ⟨#[]⟩] 65)).alloc (.cells #[.string hub, .string p] 65)).alloc (.cells #[.string hub, .string p] 65)).alloc (.cells #[.string ⟨#[]⟩, .string p] 65)).drewN (nd + ne)).heap.size := by simp; omega
  have h0 : w5.cell? ⟨w.heap.size, 0, none⟩ = some (.string ⟨#[]⟩) := (hc w.heap.size 0 hzn).trans (by go_simp)
  have h1 : w5.cell? ⟨w.heap.size, 1, none⟩ = some (.string ⟨#[]⟩) := (hc w.heap.size 1 hzn).trans (by go_simp)
  have Q := two_cells _ w.heap.size (.string ⟨#[]⟩) (.string p) h0 h1
  exact bodyPost_ret (v := .agg #[.string ⟨#[]⟩, .string p]) (by simp [results, Try.results42, go_sem, Q.1, Q.2]) rfl ⟨rfl, (((pw_below_drewN ((((Below.refl _ _).alloc (Nat.le_refl _) _).alloc (by simp) _).alloc (by simp; omega) _ |>.alloc (by simp; omega) _) (nd + ne)).trans (hb.mono (by simp; omega))).setCell (by simp) _).setCell (by simp) _⟩

/-- What familiarizeName makes of a domain and a path. -/
noncomputable def famOf (d p : ByteArray) : ByteArray × ByteArray :=
  if d.toList = ([100, 111, 99, 107, 101, 114, 46, 105, 111] : List UInt8) then
    (if strings_HasPrefix.f p lib = some true then (if hasB (p.extract 8 p.size) 47 = true then (⟨#[]⟩, p) else (⟨#[]⟩, p.extract 8 p.size)) else (⟨#[]⟩, p))
  else (d, p)
theorem has_some (p b : ByteArray) : ∃ r, strings_HasPrefix.f p b = some r := by
  unfold strings_HasPrefix.f stringslite_HasPrefix.f
  by_cases h : p.size ≥ b.size
  · rw [if_pos (by omega), if_pos (by omega), if_pos (by omega)]; exact ⟨_, rfl⟩
  · rw [if_neg (by omega)]; exact ⟨_, rfl⟩
theorem trim_of (p : ByteArray) (h : strings_HasPrefix.f p lib = some true) : strings_TrimPrefix.f p lib = some (p.extract 8 p.size) := by
  have h0 : stringslite_HasPrefix.f p lib = some true := by
    unfold strings_HasPrefix.f at h
    cases e : stringslite_HasPrefix.f p lib with
    | none => rw [e] at h; cases h
    | some b => rw [e] at h; simpa using h
  have hl : lib.size = 8 := rfl
  have hs : 8 ≤ p.size := by
    unfold stringslite_HasPrefix.f at h0
    by_cases e : (p.size : Int) ≥ (lib.size : Int)
    · rw [hl] at e; omega
    · rw [if_neg e] at h0; cases h0
  unfold strings_TrimPrefix.f stringslite_TrimPrefix.f
  rw [h0]
  simp only [Option.bind_some, if_true]
  rw [if_pos (by omega), if_pos (by rw [hl]; omega)]
  rfl
theorem fam_any (d p : ByteArray) (w : World) :
    Calls Try.prog 42 #[.iface 65 (.agg #[.string d, .string p])] w fun e w' => e = .returned (.agg #[.string (famOf d p).1, .string (famOf d p).2]) ∧ Below w.heap.size w w' := by
  unfold famOf
  by_cases h : d.toList = ([100, 111, 99, 107, 101, 114, 46, 105, 111] : List UInt8)
  · rw [if_pos h, two_other d h]
    obtain ⟨b, hb⟩ := has_some p lib
    cases b with
    | false =>
      rw [hb, if_neg (by simp)]
      exact fam_hub p w hb
    | true =>
      rw [hb, if_pos rfl]
      cases hB : hasB (p.extract 8 p.size) 47 with
      | false => rw [if_neg (by simp)]; exact fam_lib0 p _ w hb (trim_of p hb) hB
      | true => rw [if_pos rfl]; exact fam_lib1 p _ w hb (trim_of p hb) hB
  · rw [if_neg h]
    exact fam_other d p w (beq_eq_false_iff_ne.2 h)
set_option maxHeartbeats 1000000 in
theorem ZZ_any (d p x y : ByteArray) (w : World) (h : famOf d p = (x, y)) :
    Calls Try.prog 33 #[.string d, .string p] w fun e w' => e = .returned (.tuple #[.string x, .string y]) ∧ Below w.heap.size w w' := by
  have hr := fun W => fam_any d p W
  rw [h] at hr
  have HR := Lib.hid hr
  clear hr h
  go_enter Try.func33, Try.ntmps33
  go_wp2_with (first | (go_at_call 42; (with_reducible refine (HR.out _).mono ?_); rintro e w1 ⟨rfl, hb⟩))
  go_quiet (fail)
  go_wp2
  go_ret2
  exact ⟨rfl, (pw_below_drewN (hb.alloc hb.size _) _)⟩
set_option maxHeartbeats 1000000 in
theorem impl_any (d p x y : ByteArray) (w : World) (h : famOf d p = (x, y)) :
    Calls Try.prog 18 #[.string d, .string p] w fun e w' => e = .returned (.tuple #[.string x, .string y]) ∧ Below w.heap.size w w' := by
  have HR := Lib.hid h
  clear h
  go_enter Try.func18, Try.ntmps18
  go_wp2_with (first | (go_at_call 33; (with_reducible refine (ZZ_any d p x y _ HR.out).mono ?_); rintro e w1 ⟨rfl, hb⟩))
  go_ret2
  exact ⟨rfl, hb⟩

theorem bt_get (s : ByteArray) (i : Nat) (h : i < s.size) : bt s (i : Int) = ((s.get! i).toNat : Int) := by
  unfold bt
  have e : ((i : Int)).toNat = i := by omega
  simp only [e]
  rw [dif_pos h, get!_eq s i h]
theorem first_from (s : ByteArray) (hs : s.size ≤ 9223372036854775806) (m : Nat) : ∀ (k i : Nat), s.size = i + m → m < k → (∀ j, j < i → (s.get! j).toNat ≠ 47) →
    ∃ r : Int, spec_RefFirst.l0 k s 47 (i : Int) = some r ∧ ((0 ≤ r ∧ HasIn s 47) ∨ (r = -1 ∧ ¬ HasIn s 47)) := by
  induction m with
  | zero =>
    intro k i hi hk hn
    obtain ⟨k, rfl⟩ : ∃ q, k = q + 1 := ⟨k - 1, by omega⟩
    refine ⟨-1, ?_, Or.inr ⟨rfl, ?_⟩⟩
    · simp only [spec_RefFirst.l0]
      rw [if_neg (by omega)]
    · rintro ⟨j, hj, e⟩
      exact hn j (by omega) e
  | succ m ih =>
    intro k i hi hk hn
    obtain ⟨k, rfl⟩ : ∃ q, k = q + 1 := ⟨k - 1, by omega⟩
    have hlt : i < s.size := by omega
    simp only [spec_RefFirst.l0]
    rw [if_pos (by omega), if_pos (by omega), bt_get s i hlt]
    by_cases h : (s.get! i).toNat = 47
    · rw [if_pos (by omega)]
      exact ⟨i, rfl, Or.inl ⟨by omega, ⟨i, hlt, h⟩⟩⟩
    · rw [if_neg (by omega)]
      have e : wrap64 ((i : Int) + 1) = ((i + 1 : Nat) : Int) := by unfold wrap64; omega
      rw [e]
      refine ih k (i + 1) (by omega) (by omega) fun j hj => ?_
      by_cases e : j = i
      · subst e; exact h
      · exact hn j (by omega)
theorem spec_first (s : ByteArray) (hs : s.size ≤ 9223372036854775806) : ∃ r : Int, spec_RefFirst.f (s.size + 1) s 47 = some r ∧ (r < 0 ↔ hasB s 47 = false) := by
  obtain ⟨r, h1, h2⟩ := first_from s hs s.size (s.size + 1) 0 (by omega) (by omega) (fun j hj => by omega)
  refine ⟨r, h1, ?_⟩
  rcases h2 with ⟨h2, h3⟩ | ⟨h2, h3⟩
  · rw [hasB_yes h3]; constructor <;> intro h
    · omega
    · cases h
  · rw [hasB_no h3]; constructor <;> intro h
    · rfl
    · omega
theorem has_eq (p : ByteArray) (h : (p.size : Int) ≥ 8) : strings_HasPrefix.f p lib = some ((p.extract 0 8).toList == ([108, 105, 98, 114, 97, 114, 121, 47] : List UInt8)) := by
  have hl : lib.size = 8 := rfl
  have e : lib.toList = ([108, 105, 98, 114, 97, 114, 121, 47] : List UInt8) := by rw [ByteArray.toList_eq]
  unfold strings_HasPrefix.f stringslite_HasPrefix.f
  rw [hl, e, if_pos (by omega), if_pos (by omega), if_pos (by omega)]
  rfl
theorem has_short (p : ByteArray) (h : ¬ (p.size : Int) ≥ 8) : strings_HasPrefix.f p lib = some false := by
  have hl : lib.size = 8 := rfl
  unfold strings_HasPrefix.f stringslite_HasPrefix.f
  rw [hl, if_neg (by omega)]
  rfl
theorem spec_fam (d p : ByteArray) (hs : p.size ≤ 65536) : ∃ k, spec_RefFamiliarize.f k d p = some (famOf d p) := by
  have hsz : (p.extract 8 p.size).size ≤ 9223372036854775806 := by rw [ByteArray.size_extract]; omega
  obtain ⟨r, h1, h2⟩ := spec_first (p.extract 8 p.size) hsz
  refine ⟨(p.extract 8 p.size).size + 1, ?_⟩
  unfold spec_RefFamiliarize.f famOf
  by_cases h : d.toList = ([100, 111, 99, 107, 101, 114, 46, 105, 111] : List UInt8)
  · rw [if_pos h, if_pos h]
    by_cases h8 : (p.size : Int) ≥ 8
    · rw [if_pos h8, has_eq p h8, if_pos (by omega), if_pos (by omega)]
      by_cases hp : (p.extract 0 8).toList = ([108, 105, 98, 114, 97, 114, 121, 47] : List UInt8)
      · rw [if_pos hp, h1, if_pos (by rw [hp]; rfl)]
        simp only [Option.bind_some]
        cases hB : hasB (p.extract 8 p.size) 47 with
        | false => rw [if_pos (h2.2 hB), if_neg (by simp)]
        | true => rw [if_neg (fun e => Bool.noConfusion ((h2.1 e).symm.trans hB)), if_pos rfl]
      · rw [if_neg hp, if_neg (by simpa using hp)]
    · rw [if_neg h8, has_short p h8, if_neg (by simp)]
  · rw [if_neg h, if_neg h]
set_option maxHeartbeats 1000000 in
theorem law_in (d p : ByteArray) (w : World) (hs : d.size + p.size ≤ 65536) :
    Calls Try.prog 7 #[.string d, .string p] w fun e w' => e = .returned (.bool true) ∧ Below w.heap.size w w' := by
  obtain ⟨k, hk⟩ := spec_fam d p (by omega)
  obtain ⟨x, y, hxy⟩ : ∃ x y, famOf d p = (x, y) := ⟨_, _, rfl⟩
  rw [hxy] at hk
  have HK := Lib.hid hk
  have HX := Lib.hid hxy
  clear hk hxy
  go_enter Try.func7, Try.ntmps7
  go_wp2_with (first | (go_at_call 18; (with_reducible refine (impl_any d p x y _ HX.out).mono ?_); rintro e w1 ⟨rfl, hb⟩) | (go_at_call 19; (with_reducible refine (spec_RefFamiliarize.calls k d p x y _ HK.out).mono ?_); rintro e w2 ⟨rfl, ⟨nd, rfl⟩⟩))
  go_ret
  exact ⟨by simp, pw_below_drewN hb _⟩
theorem law_walk (d p : ByteArray) (w : World) (hd : d.size ≤ 140737488351232) (hp : p.size ≤ 140737488351232) :
    Calls Try.prog 7 #[.string d, .string p] w fun e w' => e = .returned (.bool true) ∧ Below w.heap.size w w' := by
  by_cases h1 : d.size ≤ 2147483647
  · by_cases h2 : p.size ≤ 2147483647
    · by_cases h3 : d.size + p.size ≤ 65536
      · exact law_in d p w h3
      · go_enter Try.func7, Try.ntmps7
        go_wp2
        go_ret
        exact ⟨rfl, Below.refl _ _⟩
    · go_enter Try.func7, Try.ntmps7
      go_wp2
      go_ret
      exact ⟨rfl, Below.refl _ _⟩
  · go_enter Try.func7, Try.ntmps7
    go_wp2
    go_ret
    exact ⟨rfl, Below.refl _ _⟩
end Go.Proofs.Ytcmifkepleedmaa.RF

namespace Go.Proofs.Ytcmifkepleedmaa.fnRefFamiliarize
open Go.ChangeShapes Go.WideShapes Go.ChangeAt Go.RowKit
open Go.ChangeMaps (open_string shut_string)
set_option linter.unusedVariables false
theorem own : ownKnob Try.prog.godebug = none := by kernel_rfl
theorem laidOut : laidOutB Try.prog = true := by kernel_rfl
set_option maxRecDepth 100000 in
theorem lifted (os : Os) (started : os.Started) (H : Type) (enc : TypeId × Value → H) :
    ReturnsInHanded {} Try.checked os 7 .any (Rows.fnRefFamiliarizeSpec.pre6 enc Try.prog Try.f7 Rows.fnRefFamiliarizeRow.domain false) (Rows.fnRefFamiliarizeSpec.post enc Try.prog Try.f7 false true false false) := by
  refine returnsInHanded_of_change_sized (C := Try.checked) own started (by kernel_rfl) Try.func7
    (ChangeSpec.witness6 (enc := enc) (C := Try.checked) false ⟨#[], #[.string ByteArray.empty, .string ByteArray.empty], []⟩ 8 (by kernel_rfl) (by kernel_rfl) (by kernel_rfl) (by kernel_rfl)) ?_
  intro W base args ds gs before hval0 hW hcnd hsz0 _
  have hsz : (DataW.weightsEach Try.prog (Try.f7.params.toList ++ Rows.fnRefFamiliarizeSpec.plain.varTypes Try.prog) (ds ++ gs)).all (· ≤ reachBytes) = true := hsz0
  have hval : ∀ (j : Nat) t v, Try.f7.params[j]? = some t → args[j]? = some v → Value.okWide Try.prog W .any base t v := hval0
  have hW' := hW
  obtain ⟨p, q, hA0, hV, rfl, hfz, hnd⟩ := hW
  have hA : DataW.TrodAll enc Try.prog W 0 (fun _ => true) true Try.f7.params.toList args.toList ds p := hA0
  rw [Try.params7] at hA hval hsz
  obtain ⟨v0, vs0, d0, ds0, p0, q0, hargs, rfl, rfl, h0, r0⟩ := trodAll_cons hA
  obtain ⟨v1, vs1, d1, ds1, p1, q1, rfl, rfl, rfl, h1, r1⟩ := trodAll_cons r0
  obtain ⟨rfl, rfl, rfl⟩ := trodAll_nil r1
  obtain rfl : args = #[v0, v1] := by cases args; simp_all
  obtain ⟨rfl, rfl⟩ := trodVars_none hV
  obtain ⟨a0, rfl, rfl, rfl, y0⟩ := open_string Try.underlying9 (hval 0 9 v0 rfl rfl) h0
  have w0 : a0.size ≤ 140737488351232 := by
    have z := sized_string hsz (j := 0) (t := 9) rfl rfl
    rw [Array.length_toList] at z
    exact z
  obtain ⟨a1, rfl, rfl, rfl, y1⟩ := open_string Try.underlying9 (hval 1 9 v1 rfl rfl) h1
  have w1 : a1.size ≤ 140737488351232 := by
    have z := sized_string hsz (j := 1) (t := 9) rfl rfl
    rw [Array.length_toList] at z
    exact z
  clear hA0 hval0 hsz0 hsz
  refine (RF.law_walk a0 a1 W w0 w1).mono fun e W' ⟨he, bel⟩ => ?_
  subst he
  exact ⟨_, rfl, _, _, _, [], _, [], hW', trodAll_mk1 (shut_bool Try.underlying4 _), (trodAll_cons_mk (shut_string Try.underlying9 y0) (trodAll_cons_mk (shut_string Try.underlying9 y1) trodAll_mk0)), rfl, bel.frame _, fun h => by cases h⟩
theorem over : Rows.fnRefFamiliarizeRow.holds Try.pinned (OpenSpec.ofChange Rows.fnRefFamiliarizeSpec) :=
  OpenClaim.holds_of_wide 7 Try.f7 rfl rfl rfl rfl rfl rfl rfl ⟨rfl, rfl, rfl, rfl, rfl⟩ rfl rfl rfl rfl rfl (by kernel_rfl) Try.func7 (by kernel_rfl)
    (of_decide_eq_true (by kernel_rfl)) (by unfold Func.isWrapper; first | (rw [if_pos (by decide +kernel)]; kernel_rfl) | (rw [if_neg (by decide +kernel)]; exact ⟨rfl, rfl⟩))
    (fun os started H enc _ => lifted os started H enc)
theorem proved : Rows.FnRefFamiliarizeSaid := over
end Go.Proofs.Ytcmifkepleedmaa.fnRefFamiliarize
namespace Go.Proofs.Ytcmifkepleedmaa
/-- The row, under a short name, for the claim. -/
theorem fnRefFamiliarize_holds : Rows.FnRefFamiliarizeSaid := fnRefFamiliarize.proved
#print axioms fnRefFamiliarize_holds
end Go.Proofs.Ytcmifkepleedmaa
