/- What is proved: by hand, the rune search of package semver, as a plain function of its arguments. -/
import Derived.Test.YtalpehfjjidfhaaDoorHand
import Derived.Test.YtalpehfjjidfhaaDoorShelfF
import Derived.Laws.RangeAny
namespace Go.Proofs.YtalpehfjjidfhaaDoor.Hand
set_option linter.unusedVariables false
open Go Go.RowKit Sv
/-- The runes that a text of small bytes has; a text of such alone. -/
def hasB (comp : List UInt8) (x : Nat) : Bool := comp.any fun b => b.toNat == x
def onlyB (s comp : List UInt8) : Bool := s.all fun b => hasB comp b.toNat
def ascB (comp : List UInt8) : Bool := comp.all fun b => decide (b.toNat < 128)
theorem at_mem (s : ByteArray) (b : UInt8) : b ∈ s.toList ↔ ∃ i, ∃ h : i < s.size, s[i]'h = b := by
  rw [ByteArray.toList_eq, List.mem_iff_getElem]
  constructor
  · rintro ⟨i, h, e⟩
    exact ⟨i, by simpa using h, e⟩
  · rintro ⟨i, h, e⟩
    exact ⟨i, by simpa using h, e⟩
theorem asc_at {s : ByteArray} (h : ascB s.toList = true) (i : Nat) (hi : i < s.size) : (s[i]'hi).toNat < 128 := by
  have := List.all_eq_true.1 h (s[i]'hi) ((at_mem s _).2 ⟨i, hi, rfl⟩)
  simpa using this
theorem has_iff (s : ByteArray) (x : Nat) : hasB s.toList x = true ↔ ∃ i, ∃ h : i < s.size, (s[i]'h).toNat = x := by
  unfold hasB
  rw [List.any_eq_true]
  constructor
  · rintro ⟨b, hb, e⟩
    obtain ⟨i, h, rfl⟩ := (at_mem s b).1 hb
    exact ⟨i, h, by simpa using e⟩
  · rintro ⟨i, h, e⟩
    exact ⟨_, (at_mem s _).2 ⟨i, h, rfl⟩, by simpa using e⟩
theorem has_asc {s : ByteArray} (h : ascB s.toList = true) {x : Nat} (hx : 128 ≤ x) : hasB s.toList x = false := by
  rw [← Bool.not_eq_true, has_iff]
  rintro ⟨i, hi, e⟩
  have := asc_at h i hi
  omega
theorem idx_has {s : ByteArray} (ha : ascB s.toList = true) (x : Nat) : ∀ (f pos : Nat), s.size ≤ pos + f → (0 ≤ Lib.idxFuncFrom (fun r => r == x) true s f pos ↔ ∃ i, ∃ h : i < s.size, pos ≤ i ∧ (s[i]'h).toNat = x)
  | 0, pos, hf => by
    constructor
    · intro h; exact absurd (show (0 : Int) ≤ -1 from h) (by decide)
    · rintro ⟨i, h, h1, _⟩; omega
  | f + 1, pos, hf => by
    unfold Lib.idxFuncFrom
    by_cases hp : pos < s.size
    · rw [if_pos hp, decode_ascii s pos hp (asc_at ha pos hp)]
      by_cases e : (s[pos]'hp).toNat = x
      · rw [if_pos (by simpa using e)]
        exact ⟨fun _ => ⟨pos, hp, Nat.le_refl _, e⟩, fun _ => by omega⟩
      · rw [if_neg (by simpa using e), idx_has ha x f (pos + 1) (by omega)]
        constructor
        · rintro ⟨i, h, h1, h2⟩; exact ⟨i, h, by omega, h2⟩
        · rintro ⟨i, h, h1, h2⟩
          refine ⟨i, h, ?_, h2⟩
          rcases Nat.lt_or_ge pos i with h3 | h3
          · omega
          · obtain rfl : i = pos := by omega
            exact absurd h2 e
    · rw [if_neg hp]
      constructor
      · intro h; exact absurd h (by decide)
      · rintro ⟨i, h, h1, _⟩; omega
theorem idx_has0 {s : ByteArray} (ha : ascB s.toList = true) (x : Nat) : (decide (0 ≤ Lib.idxFunc (fun r => r == x) true s)) = hasB s.toList x := by
  have h := idx_has ha x s.size 0 (by omega)
  rw [Bool.eq_iff_iff, decide_eq_true_iff, has_iff]
  unfold Lib.idxFunc
  rw [h]
  simp
theorem idx_only {s comp : ByteArray} (ha : ascB comp.toList = true) : ∀ (f pos : Nat), s.size ≤ pos + f → (Lib.idxFuncFrom (fun r => !hasB comp.toList r) true s f pos = -1 ↔ ∀ i, ∀ h : i < s.size, pos ≤ i → hasB comp.toList (s[i]'h).toNat = true)
  | 0, pos, hf => by
    constructor
    · intro _ i h h1; omega
    · intro _; rfl
  | f + 1, pos, hf => by
    unfold Lib.idxFuncFrom
    by_cases hp : pos < s.size
    · rw [if_pos hp]
      rcases Nat.lt_or_ge (s[pos]'hp).toNat 128 with h128 | h128
      · rw [decode_ascii s pos hp h128]
        cases e : hasB comp.toList (s[pos]'hp).toNat with
        | false =>
          rw [if_pos (show (!false) = true from rfl)]
          constructor
          · intro h; omega
          · intro h; have := h pos hp (Nat.le_refl _); rw [e] at this; cases this
        | true =>
          rw [if_neg (show ¬ (!true) = true by decide), idx_only ha f (pos + 1) (by omega)]
          constructor
          · intro h i hi h1
            rcases Nat.lt_or_ge pos i with h3 | h3
            · exact h i hi (by omega)
            · obtain rfl : i = pos := by omega
              exact e
          · intro h i hi h1; exact h i hi (by omega)
      · have hd := (decode_high s pos hp h128).1
        rw [if_pos (by simp [has_asc ha hd])]
        constructor
        · intro h; omega
        · intro h; have := h pos hp (Nat.le_refl _); rw [has_asc ha h128] at this; cases this
    · rw [if_neg hp]
      exact ⟨fun _ i hi h1 => by omega, fun _ => rfl⟩
theorem idx_only0 {s comp : ByteArray} (ha : ascB comp.toList = true) : (decide (Lib.idxFunc (fun r => !hasB comp.toList r) true s = -1)) = onlyB s.toList comp.toList := by
  have h := idx_only (s := s) ha s.size 0 (by omega)
  rw [Bool.eq_iff_iff, decide_eq_true_iff]
  unfold Lib.idxFunc onlyB
  rw [h, List.all_eq_true]
  constructor
  · intro h b hb
    obtain ⟨i, hi, rfl⟩ := (at_mem s b).1 hb
    exact h i hi (Nat.zero_le _)
  · intro h i hi _
    exact h _ ((at_mem s _).2 ⟨i, hi, rfl⟩)
/-- The rune lies outside what a text of ASCII bytes holds. -/
def oddR (x : Nat) : Bool := (x != 65533) && (decide (1114111 < x) || (decide (55296 ≤ x) && decide (x ≤ 57343)))
set_option maxHeartbeats 2000000 in
theorem zzIndexRune.calls (s : ByteArray) (ha : ascB s.toList = true) (x : Nat) (hx : x ≤ 1114111) (w : World) :
    Calls Tryd.prog 178 #[.string s, .int .i32 (x : Int)] w fun e w' => (∃ i : Int, e = .returned (.int .i64 i) ∧ decide (0 ≤ i) = hasB s.toList x) ∧ Below w.heap.size w w' := by
  have hbad : 55296 ≤ x → hasB s.toList x = false := fun h => has_asc ha (by omega)
  have HH := Lib.hid (idx_has0 ha x)
  have z0 : ((x : Int) < 0) ↔ False := ⟨fun h => by omega, fun h => h.elim⟩
  have z1 : ((1114111 : Int) < x) ↔ False := ⟨fun h => by omega, fun h => h.elim⟩
  have z2 : ((55296 : Int) ≤ x) ↔ 55296 ≤ x := by omega
  have z3 : ((x : Int) ≤ 57343) ↔ x ≤ 57343 := by omega
  have z4 : ((x : Int) = 65533) ↔ x = 65533 := by omega
  go_enter Tryd.func178, Tryd.ntmps178
  by_cases b1 : x = 65533 <;> by_cases b2 : 55296 ≤ x <;> by_cases b3 : x ≤ 57343
  all_goals first | (exfalso; omega) | skip
  all_goals go_wp2
  all_goals first
    | (go_ret; exact ⟨⟨-1, rfl, (hbad b2).symm⟩, Below.refl _ _⟩)
    | skip
  all_goals
    go_loopg [5, 6] s.size (fun gf _ _ wx => ∃ pos : Nat, wx.heap[w.heap.size]? = some (.stringIter s pos) ∧ Below w.heap.size w wx ∧ Lib.idxFuncFrom (fun r => r == x) true s gf pos = Lib.idxFunc (fun r => r == x) true s ∧ s.size ≤ pos + gf)
    case atStart => exact ⟨0, World.iter_heap w s 0, (Below.refl _ w).alloc (Nat.le_refl _) _, rfl, by omega⟩
    case round =>
      obtain ⟨pos, hit, hbw, hleft, hfu⟩ := hrel
      by_cases hps : pos < s.size
      · obtain ⟨g', rfl⟩ : ∃ g', gk = g' + 1 := ⟨gk - 1, by omega⟩
        have hnx : ∀ ty, (Instr.next (.pointer (some ⟨w.heap.size, 0, none⟩)) true ty).run Tryd.prog wr = _ := fun ty => Lib.run_next_any_at wr w.heap.size s pos ty hit hps
        have hwd := Lib.width_pos s pos
        obtain ⟨R, hR⟩ : ∃ R, (Utf8.decode s pos).1 = R := ⟨_, rfl⟩
        obtain ⟨K, hK⟩ : ∃ K, (Utf8.decode s pos).2 = K := ⟨_, rfl⟩
        simp only [Lib.idxFuncFrom, hps, if_true, hR, hK] at hleft
        rw [hR, hK] at hnx
        rw [hK] at hwd
        have hit2 := Lib.iterAt_heap wr w.heap.size s pos (pos + K) hit
        have hbw2 := Lib.below_iterAt hbw (k := w.heap.size) (Nat.le_refl _) s (pos + K)
        obtain ⟨W, hWd⟩ : ∃ W, wr.iterAt w.heap.size s (pos + K) = W := ⟨_, rfl⟩
        rw [hWd] at hnx hit2 hbw2
        by_cases e : R = x
        · have e' : ((R : Int) = x) = True := by simp [e]
          rw [if_pos (by simpa using e)] at hleft
          go_wp2
          go_ret
          exact ⟨⟨_, rfl, by first | exact HH.out | (have h9 := HH.out; rw [b1] at h9; rw [b1]; exact h9)⟩, hbw2⟩
        · have e' : ((R : Int) = x) = False := by simp; omega
          rw [if_neg (by simpa using e)] at hleft
          go_wp2
          go_roundg g'
          case measure => omega
          case rel => exact ⟨pos + K, hit2, hbw2, hleft, by omega⟩
      · have hnx : ∀ ty, (Instr.next (.pointer (some ⟨w.heap.size, 0, none⟩)) true ty).run Tryd.prog wr = _ := fun ty => Lib.run_next_end_at wr w.heap.size s pos ty hit hps
        rw [Lib.idxFuncFrom_end _ true s gk pos hps] at hleft
        go_wp2
        go_ret
        exact ⟨⟨_, rfl, by first | exact HH.out | rw [← HH.out, ← hleft]⟩, hbw⟩
/-- Whether a rune is in a text. -/
theorem zzContainsRune.calls (s : ByteArray) (ha : ascB s.toList = true) (x : Nat) (hx : x ≤ 1114111) (w : World) :
    Calls Tryd.prog 166 #[.string s, .int .i32 (x : Int)] w fun e w' => e = .returned (.bool (hasB s.toList x)) ∧ Below w.heap.size w w' := by
  have hC := zzIndexRune.calls s ha x hx w
  go_enter Tryd.func166, Tryd.ntmps166
  go_wp2_with (go_at_call 178; refine hC.mono ?_; rintro e w' ⟨⟨i, rfl, hi⟩, hb⟩)
  go_ret
  exact ⟨by rw [← hi]; rfl, hb⟩
theorem onlyFn (w : World) (B : Nat) (comp : ByteArray) (ha : ascB comp.toList = true) (hB : B < w.heap.size) (hc : w.cell? ⟨B, 0, none⟩ = some (.string comp)) :
    PredGrows Tryd.prog 165 #[.pointer (some ⟨B, 0, none⟩)] (fun r => !hasB comp.toList r) w := fun W r hr hb => by
  have hc' : W.cell? ⟨B, 0, none⟩ = some (.string comp) := (hb.cell (p := ⟨B, 0, none⟩) hB).trans hc
  have hC := zzContainsRune.calls comp ha r hr W
  go_enter Tryd.func165, Tryd.ntmps165
  go_wp2_with (go_at_call 166; refine hC.mono ?_; rintro e w' ⟨rfl, hb⟩)
  go_ret
  exact ⟨rfl, hb⟩
def containsOnly.f (s comp : ByteArray) : Option Bool := if ascB comp.toList = true then some (onlyB s.toList comp.toList) else none
set_option maxHeartbeats 1000000 in
theorem containsOnly.calls (s comp : ByteArray) (r : Bool) (w : World) (h : containsOnly.f s comp = some r) :
    Calls Tryd.prog 140 #[.string s, .string comp] w fun e w' => e = .returned (.bool r) ∧ Below w.heap.size w w' := by
  unfold containsOnly.f at h
  by_cases ha : ascB comp.toList = true
  case neg => rw [if_neg ha] at h; cases h
  rw [if_pos ha] at h
  injection h with h
  have HH := Lib.hid ((idx_only0 (s := s) ha).trans h)
  clear h
  have hC := fun (W : World) (hB : w.heap.size < W.heap.size) (hc : W.cell? ⟨w.heap.size, 0, none⟩ = some (.string comp)) =>
    Tryd.strings_IndexFunc_grows 165 #[.pointer (some ⟨w.heap.size, 0, none⟩)] (enters_of Tryd.func165 (by kernel_rfl) rfl) _ s W (onlyFn W w.heap.size comp ha hB hc)
  go_enter Tryd.func140, Tryd.ntmps140
  go_wp2_with (go_at_call 164; refine (hC _ (by simp) (by simp)).mono ?_; rintro e w' ⟨rfl, hb⟩)
  go_ret
  exact ⟨by rw [← HH.out]; rfl, ((Below.refl _ w).alloc (Nat.le_refl _) _).trans (hb.mono (by simp))⟩
end Go.Proofs.YtalpehfjjidfhaaDoor.Hand
