/- What is proved: by hand, the checks of a prerelease and of metadata of package semver, and which error they answer. -/
import Derived.Test.YtalpehfjjidfhaaDoorMSx3
import Derived.Test.YtalpehfjjidfhaaDoorStrict
namespace Go.Proofs.YtalpehfjjidfhaaDoor.MS
open Go Go.RowKit Sv Hand
open Go.Proofs.YtalpehfjjidfhaaDoorW.PrintWords Go.Proofs.YtalpehfjjidfhaaDoorW.PrintLast Go.Proofs.YtalpehfjjidfhaaDoorW.PrintMore
open Go.Proofs.YtalpehfjjidfhaaDoor.MA (tl identB identL digsL okPre)
set_option linter.unusedVariables false
set_option linter.unusedSimpArgs false
theorem hbl {w v v' : World} (h : Below w.heap.size w v) (e : Below w.heap.size w v → Below w.heap.size w v' := by intro h_; repeat (first | (with_reducible first | exact h_ | apply below_alloc | apply pw_below_drewN | apply below_drew1 | refine below_set ?_ (Aside0.out (by assumption))) | exact h_)) : Below w.heap.size w v' := e h
/-- The value of an error: none, or what the error variable of a number holds. -/
def ev (E : Nat → Addr) : Nat → Value
  | 0 => .nilIface
  | g + 1 => .iface 176 (.pointer (some (E g)))
/-- The error variables hold what they hold. -/
def Ge (E : Nat → Addr) (S : List Nat) (w : World) : Prop := ∀ g ∈ S, w.cell? ⟨g, 0, none⟩ = some (.iface 176 (.pointer (some (E g)))) ∧ g < w.heap.size
theorem Ge.below {E : Nat → Addr} {S : List Nat} {w w' : World} (h : Ge E S w) (hb : Below w.heap.size w w') : Ge E S w' := by
  intro g hg
  obtain ⟨h1, h2⟩ := h g hg
  exact ⟨(hb.cell (p := ⟨g, 0, none⟩) h2).trans h1, Nat.lt_of_lt_of_le h2 hb.size⟩
/-- The first of a list of which something is told. -/
def firstK (f : ByteArray → Nat) : List ByteArray → Nat
  | [] => 0
  | x :: r => if f x = 0 then firstK f r else f x
def alls : List UInt8 := [97, 98, 99, 100, 101, 102, 103, 104, 105, 106, 107, 108, 109, 110, 111, 112, 113, 114, 115, 116, 117, 118, 119, 120, 121, 122, 65, 66, 67, 68, 69, 70, 71, 72, 73, 74, 75, 76, 77, 78, 79, 80, 81, 82, 83, 84, 85, 86, 87, 88, 89, 90, 45, 48, 49, 50, 51, 52, 53, 54, 55, 56, 57]
def nums : List UInt8 := [48, 49, 50, 51, 52, 53, 54, 55, 56, 57]
theorem alls_all : (List.range 256).all (fun n => hasB alls n == (decide (48 ≤ n ∧ n ≤ 57) || decide (65 ≤ n ∧ n ≤ 90) || decide (97 ≤ n ∧ n ≤ 122) || decide (n = 45))) = true := by decide +kernel
theorem nums_all : (List.range 256).all (fun n => hasB nums n == decide (48 ≤ n ∧ n ≤ 57)) = true := by decide +kernel
theorem alls_eq (c : UInt8) : hasB alls c.toNat = identB c := by
  have := List.all_eq_true.1 alls_all c.toNat (List.mem_range.2 c.toNat_lt)
  exact eq_of_beq this
theorem nums_eq (c : UInt8) : hasB nums c.toNat = dig c := by
  have := List.all_eq_true.1 nums_all c.toNat (List.mem_range.2 c.toNat_lt)
  exact eq_of_beq this
theorem only_alls (l : List UInt8) : onlyB l alls = l.all identB := by
  unfold onlyB
  congr 1
  funext c
  exact alls_eq c
theorem only_nums (l : List UInt8) : onlyB l nums = l.all dig := by
  unfold onlyB
  congr 1
  funext c
  exact nums_eq c
theorem calls_alls (x : ByteArray) (w : World) : Calls Tryd.prog 140 #[.string x, .string ⟨#[97, 98, 99, 100, 101, 102, 103, 104, 105, 106, 107, 108, 109, 110, 111, 112, 113, 114, 115, 116, 117, 118, 119, 120, 121, 122, 65, 66, 67, 68, 69, 70, 71, 72, 73, 74, 75, 76, 77, 78, 79, 80, 81, 82, 83, 84, 85, 86, 87, 88, 89, 90, 45, 48, 49, 50, 51, 52, 53, 54, 55, 56, 57]⟩] w fun e w' => e = .returned (.bool ((tl x).all identB)) ∧ Below w.heap.size w w' := by
  refine containsOnly.calls x ⟨#[97, 98, 99, 100, 101, 102, 103, 104, 105, 106, 107, 108, 109, 110, 111, 112, 113, 114, 115, 116, 117, 118, 119, 120, 121, 122, 65, 66, 67, 68, 69, 70, 71, 72, 73, 74, 75, 76, 77, 78, 79, 80, 81, 82, 83, 84, 85, 86, 87, 88, 89, 90, 45, 48, 49, 50, 51, 52, 53, 54, 55, 56, 57]⟩ _ w ?_
  unfold containsOnly.f
  have e : (⟨#[97, 98, 99, 100, 101, 102, 103, 104, 105, 106, 107, 108, 109, 110, 111, 112, 113, 114, 115, 116, 117, 118, 119, 120, 121, 122, 65, 66, 67, 68, 69, 70, 71, 72, 73, 74, 75, 76, 77, 78, 79, 80, 81, 82, 83, 84, 85, 86, 87, 88, 89, 90, 45, 48, 49, 50, 51, 52, 53, 54, 55, 56, 57]⟩ : ByteArray).toList = alls := by rw [ByteArray.toList_eq]; rfl
  rw [e, if_pos (by decide), only_alls, ByteArray.toList_eq]
theorem calls_nums (x : ByteArray) (w : World) : Calls Tryd.prog 140 #[.string x, .string ⟨#[48, 49, 50, 51, 52, 53, 54, 55, 56, 57]⟩] w fun e w' => e = .returned (.bool ((tl x).all dig)) ∧ Below w.heap.size w w' := by
  refine containsOnly.calls x ⟨#[48, 49, 50, 51, 52, 53, 54, 55, 56, 57]⟩ _ w ?_
  unfold containsOnly.f
  have e : (⟨#[48, 49, 50, 51, 52, 53, 54, 55, 56, 57]⟩ : ByteArray).toList = nums := by rw [ByteArray.toList_eq]; rfl
  rw [e, if_pos (by decide), only_nums, ByteArray.toList_eq]
/-- What is told of an identifier of metadata, of a prerelease. -/
def metaK (x : ByteArray) : Nat := if (tl x).isEmpty = true then 6 else if (tl x).all identB = true then 0 else 6
def zeroL (l : List UInt8) : Bool := decide (1 < l.length) && decide (l.head? = some 48)
def preK (x : ByteArray) : Nat := if (tl x).isEmpty = true then 5 else if (tl x).all dig = true then (if zeroL (tl x) = true then 4 else 0) else if (tl x).all identB = true then 0 else 5
set_option maxHeartbeats 4000000 in
theorem validateMetadata.calls (E : Nat → Addr) (a0 : ByteArray) (xs : List ByteArray) (k : Nat) (w : World) (hE : Ge E [5] w) (hx : semver_zzSplit.f k a0 ⟨#[46]⟩ = some xs) (hl : xs.length < 4611686018427387904) :
    Calls Tryd.prog 139 #[.string a0] w fun e w' => e = .returned (ev E (firstK metaK xs)) ∧ Below w.heap.size w w' := by
  have HB := Aside0.mk (Below.refl w.heap.size w)
  have A2 := Aside0.mk hx
  have HE := Aside0.mk hE
  have HL := Aside0.mk hl
  clear hx hE hl
  go_enter Tryd.func139, Tryd.ntmps139
  go_wp2_with (first | (go_at_call 161; (with_reducible refine (semver_zzSplit.calls k a0 ⟨#[46]⟩ xs _ A2.out).mono ?_); rintro e w3 ⟨v159, rfl, ho0, hb⟩; have n0_ := Aside0.mk (Kd.R_lower ho0 (below_size (hbl HB.out))); have n1_ := Aside0.mk (below_step (hbl HB.out) hb); clear HB; have HO := n0_; have HB := n1_; clear n0_ n1_; (try clear hb); (try clear ho0); obtain ⟨Ao4, co4, eo4⟩ := Kd.R_slice HO.out; subst eo4))
  go_loopg [10] xs.length (fun gf v10 w' => ∃ i : Nat, v10 = .int .i64 i ∧ Aside0 (firstK metaK (xs.drop i) = firstK metaK xs) ∧ Aside0 (xs.length ≤ i + gf) ∧ Aside0 (Kd.R Kd.string 9 w' w.heap.size (fun _ => True) (.slice Ao4 xs.length co4) xs) ∧ Aside0 (Below w.heap.size w w'))
  case atStart => exact ⟨0, rfl, ⟨rfl⟩, ⟨by omega⟩, HO, ⟨hbl HB.out⟩⟩
  case round =>
    obtain ⟨i, rfl, HF, HK, HO, HB⟩ := hrel
    clear A2
    have h5 : wr.cell? ⟨5, 0, none⟩ = some (.iface 176 (.pointer (some (E 5)))) := ((HE.out.below HB.out) 5 (by simp)).1
    cases hd : xs.drop i with
    | nil =>
      have hge := drop_nil hd
      have c1 : decide ((i : Int) < (xs.length : Int)) = false := decide_eq_false (by omega)
      have hz : firstK metaK xs = 0 := by rw [← HF.out, hd]; rfl
      clear hd
      go_wp2
      go_ret
      exact ⟨by rw [hz]; rfl, HB.out⟩
    | cons x r =>
      have hlt := drop_lt hd
      have hr : rdOf ByteArray.empty xs (i : Int) = x := rdOf_drop hd
      have HF2 := Aside0.mk (HF.out.symm.trans (congrArg (firstK metaK) hd))
      have HD := Aside0.mk (drop_succ hd)
      clear HF hd
      have p161 : 0 ≤ (i : Int) := by omega
      have q161 : (i : Int) < (xs.length : Int) := by omega
      obtain ⟨ad161, e161, hx161⟩ := Kd.at_string (Kd.R_reads' HO.out).2.2 i p161 q161
      rw [hr, Int.toNat_natCast] at hx161
      cases e161
      replace p161 := eq_true p161
      replace q161 := eq_true q161
      cases hb1 : (tl x).isEmpty with
      | true =>
        have hz : firstK metaK xs = 6 := by rw [HF2.out]; unfold firstK; rw [show metaK x = 6 from by unfold metaK; rw [if_pos hb1]]; rfl
        have b1 : x.toList.isEmpty = true := by rw [ByteArray.toList_eq]; exact hb1
        go_wp2
        go_ret
        exact ⟨by rw [hz]; rfl, HB.out⟩
      | false =>
        have b1 : x.toList.isEmpty = false := by rw [ByteArray.toList_eq]; exact hb1
        obtain ⟨c2, hc2⟩ : ∃ c, c = (tl x).all identB := ⟨_, rfl⟩
        have X := Aside0.mk (fun w1 => calls_alls x w1)
        rw [← hc2] at X
        cases c2 with
        | true =>
          have hz : firstK metaK xs = firstK metaK r := by exact HF2.out.trans (if_pos (show metaK x = 0 from by unfold metaK; rw [hb1, ← hc2]; rfl))
          clear hc2
          go_wp2_with (first | (go_at_call 140; (with_reducible refine (X.out _).mono ?_); rintro e w9 ⟨rfl, hb⟩; have n0_ := Aside0.mk (below_step (hbl HB.out) hb); have n1_ := Aside0.mk (Kd.R_below HO.out hb); clear HB HO; have HB := n0_; have HO := n1_; clear n0_ n1_ hb))
          go_roundg (gk - 1)
          case measure => have := HK.out; omega
          case rel => exact ⟨i + 1, by rw [w1 i (by have := HL.out; omega)], ⟨by rw [HD.out]; exact hz.symm⟩, ⟨by have := HK.out; omega⟩, ⟨HO.out⟩, ⟨hbl HB.out⟩⟩
        | false =>
          have hz : firstK metaK xs = 6 := by rw [HF2.out]; unfold firstK; rw [show metaK x = 6 by unfold metaK; rw [hb1, ← hc2]; rfl]; rfl
          clear hc2
          go_wp2_with (first | (go_at_call 140; (with_reducible refine (X.out _).mono ?_); rintro e w9 ⟨rfl, hb⟩; have h5 : w9.cell? ⟨5, 0, none⟩ = some (.iface 176 (.pointer (some (E 5)))) := ((HE.out.below (below_step (hbl HB.out) hb)) 5 (by simp)).1; have n0_ := Aside0.mk (below_step (hbl HB.out) hb); clear HB; have HB := n0_; clear n0_ hb))
          go_ret
          exact ⟨by rw [hz]; rfl, hbl HB.out⟩
theorem zero_bt (x : ByteArray) (h : 0 < x.size) : bt x 0 = 48 ↔ (tl x).head? = some 48 := by
  cases e : tl x with
  | nil => rw [size_data, show x.data.toList = [] from e] at h; exact absurd h (by decide)
  | cons c r =>
    have := bt_drop (a := x) (i := 0) (c := c) (r := r) (by simpa using e)
    rw [show ((0 : Nat) : Int) = 0 from rfl] at this
    rw [this]
    simp only [List.head?_cons, Option.some.injEq]
    constructor
    · intro h; apply UInt8.toNat_inj.1; have h9 : (48 : UInt8).toNat = 48 := rfl; omega
    · intro h; subst h; rfl
set_option maxHeartbeats 8000000 in
theorem validatePrerelease.calls (E : Nat → Addr) (a0 : ByteArray) (xs : List ByteArray) (k : Nat) (w : World) (hE : Ge E [3, 4] w) (hx : semver_zzSplit.f k a0 ⟨#[46]⟩ = some xs) (hl : xs.length < 4611686018427387904) :
    Calls Tryd.prog 126 #[.string a0] w fun e w' => e = .returned (ev E (firstK preK xs)) ∧ Below w.heap.size w w' := by
  have HB := Aside0.mk (Below.refl w.heap.size w)
  have A2 := Aside0.mk hx
  have HE := Aside0.mk hE
  have HL := Aside0.mk hl
  clear hx hE hl
  go_enter Tryd.func126, Tryd.ntmps126
  go_wp2_with (first | (go_at_call 161; (with_reducible refine (semver_zzSplit.calls k a0 ⟨#[46]⟩ xs _ A2.out).mono ?_); rintro e w3 ⟨v159, rfl, ho0, hb⟩; have n0_ := Aside0.mk (Kd.R_lower ho0 (below_size (hbl HB.out))); have n1_ := Aside0.mk (below_step (hbl HB.out) hb); clear HB; have HO := n0_; have HB := n1_; clear n0_ n1_; (try clear hb); (try clear ho0); obtain ⟨Ao4, co4, eo4⟩ := Kd.R_slice HO.out; subst eo4))
  go_loopg [10] xs.length (fun gf v10 w' => ∃ i : Nat, v10 = .int .i64 i ∧ Aside0 (firstK preK (xs.drop i) = firstK preK xs) ∧ Aside0 (xs.length ≤ i + gf) ∧ Aside0 (Kd.R Kd.string 9 w' w.heap.size (fun _ => True) (.slice Ao4 xs.length co4) xs) ∧ Aside0 (Below w.heap.size w w'))
  case atStart => exact ⟨0, rfl, ⟨rfl⟩, ⟨by omega⟩, HO, ⟨hbl HB.out⟩⟩
  case round =>
    obtain ⟨i, rfl, HF, HK, HO, HB⟩ := hrel
    clear A2
    have h3 : wr.cell? ⟨3, 0, none⟩ = some (.iface 176 (.pointer (some (E 3)))) := ((HE.out.below HB.out) 3 (by simp)).1
    have h4 : wr.cell? ⟨4, 0, none⟩ = some (.iface 176 (.pointer (some (E 4)))) := ((HE.out.below HB.out) 4 (by simp)).1
    cases hd : xs.drop i with
    | nil =>
      have hge := drop_nil hd
      have c1 : decide ((i : Int) < (xs.length : Int)) = false := decide_eq_false (by omega)
      have hz : firstK preK xs = 0 := by rw [← HF.out, hd]; rfl
      clear hd
      go_wp2
      go_ret
      exact ⟨by rw [hz]; rfl, HB.out⟩
    | cons x r =>
      have hlt := drop_lt hd
      have hr : rdOf ByteArray.empty xs (i : Int) = x := rdOf_drop hd
      have HF2 := Aside0.mk (HF.out.symm.trans (congrArg (firstK preK) hd))
      have HD := Aside0.mk (drop_succ hd)
      clear HF hd
      have p161 : 0 ≤ (i : Int) := by omega
      have q161 : (i : Int) < (xs.length : Int) := by omega
      obtain ⟨ad161, e161, hx161⟩ := Kd.at_string (Kd.R_reads' HO.out).2.2 i p161 q161
      rw [hr, Int.toNat_natCast] at hx161
      cases e161
      replace p161 := eq_true p161
      replace q161 := eq_true q161
      have go : ∀ n, preK x = n → n ≠ 0 → firstK preK xs = n := by
        intro n hn h0
        rw [HF2.out]; unfold firstK; rw [hn, if_neg h0]
      have on : preK x = 0 → firstK preK r = firstK preK xs := by
        intro hn
        rw [HF2.out]; conv => rhs; unfold firstK; rw [hn, if_pos rfl]
      have GO := Aside0.mk go
      have ON := Aside0.mk on
      clear go on
      cases hb1 : (tl x).isEmpty with
      | true =>
        have hz : firstK preK xs = 5 := GO.out 5 (by unfold preK; rw [if_pos hb1]) (by decide)
        have b1 : x.toList.isEmpty = true := by rw [ByteArray.toList_eq]; exact hb1
        go_wp2
        go_ret
        exact ⟨by rw [hz]; rfl, HB.out⟩
      | false =>
        have b1 : x.toList.isEmpty = false := by rw [ByteArray.toList_eq]; exact hb1
        have XA := Aside0.mk (fun w1 => calls_alls x w1)
        have XN := Aside0.mk (fun w1 => calls_nums x w1)
        cases hn : (tl x).all dig with
        | true =>
          rw [hn] at XN
          by_cases c12 : 1 < x.size
          · have c12b0 : decide (1 < (x.size : Int)) = true := decide_eq_true (by omega)
            have c12b1 : decide (1 < x.size) = true := decide_eq_true c12
            have c13b0 : decide (0 < (x.size : Int)) = true := decide_eq_true (by omega)
            have c13b1 : decide (0 < x.size) = true := decide_eq_true (by omega)
            have zz := zero_bt x (by omega)
            by_cases c15 : bt x 0 = 48
            · have hz : firstK preK xs = 4 := GO.out 4 (by unfold preK; rw [hb1, hn]; have : zeroL (tl x) = true := by { unfold zeroL; rw [← size_data, decide_eq_true c12, decide_eq_true (zz.1 c15)]; rfl }; rw [this]; rfl) (by decide)
              have hz0 : 0 < x.size := by omega
              have c15b0 : (((x[0]'hz0).toNat : Int) == 48) = true := by rw [beq_iff_eq, ← c15]; exact bt_at x 0 hz0
              clear c15 zz c12
              go_wp2_with (first | (go_at_call 140; (with_reducible refine (XN.out _).mono ?_); rintro e w9 ⟨rfl, hb⟩; have h3 : w9.cell? ⟨3, 0, none⟩ = some (.iface 176 (.pointer (some (E 3)))) := ((HE.out.below (below_step (hbl HB.out) hb)) 3 (by simp)).1; have h4 : w9.cell? ⟨4, 0, none⟩ = some (.iface 176 (.pointer (some (E 4)))) := ((HE.out.below (below_step (hbl HB.out) hb)) 4 (by simp)).1; have n0_ := Aside0.mk (below_step (hbl HB.out) hb); have n1_ := Aside0.mk (Kd.R_below HO.out hb); clear HB HO; have HB := n0_; have HO := n1_; clear n0_ n1_ hb))
              go_ret
              exact ⟨by rw [hz]; rfl, hbl HB.out⟩
            · have hz := ON.out (by unfold preK; rw [hb1, hn]; have : zeroL (tl x) = false := by { unfold zeroL; rw [decide_eq_false (fun h => c15 (zz.2 h)), Bool.and_false] }; rw [this]; rfl)
              have hz0 : 0 < x.size := by omega
              have c15b0 : (((x[0]'hz0).toNat : Int) == 48) = false := by rw [beq_eq_false_iff_ne]; intro h9; exact c15 ((bt_at x 0 hz0).symm.trans h9)
              clear c15 zz c12
              go_wp2_with (first | (go_at_call 140; (with_reducible refine (XN.out _).mono ?_); rintro e w9 ⟨rfl, hb⟩; have h3 : w9.cell? ⟨3, 0, none⟩ = some (.iface 176 (.pointer (some (E 3)))) := ((HE.out.below (below_step (hbl HB.out) hb)) 3 (by simp)).1; have h4 : w9.cell? ⟨4, 0, none⟩ = some (.iface 176 (.pointer (some (E 4)))) := ((HE.out.below (below_step (hbl HB.out) hb)) 4 (by simp)).1; have n0_ := Aside0.mk (below_step (hbl HB.out) hb); have n1_ := Aside0.mk (Kd.R_below HO.out hb); clear HB HO; have HB := n0_; have HO := n1_; clear n0_ n1_ hb))
              go_roundg (gk - 1)
              case measure => have := HK.out; omega
              case rel => exact ⟨i + 1, by rw [w1 i (by have := HL.out; omega)], ⟨by rw [HD.out]; exact hz⟩, ⟨by have := HK.out; omega⟩, ⟨HO.out⟩, ⟨hbl HB.out⟩⟩
          · have hz := ON.out (by unfold preK; rw [hb1, hn]; have : zeroL (tl x) = false := by { unfold zeroL; rw [← size_data, decide_eq_false c12, Bool.false_and] }; rw [this]; rfl)
            have c12b0 : decide (1 < (x.size : Int)) = false := decide_eq_false (by omega)
            have c12b1 : decide (1 < x.size) = false := decide_eq_false c12
            clear c12
            go_wp2_with (first | (go_at_call 140; (with_reducible refine (XN.out _).mono ?_); rintro e w9 ⟨rfl, hb⟩; have h3 : w9.cell? ⟨3, 0, none⟩ = some (.iface 176 (.pointer (some (E 3)))) := ((HE.out.below (below_step (hbl HB.out) hb)) 3 (by simp)).1; have h4 : w9.cell? ⟨4, 0, none⟩ = some (.iface 176 (.pointer (some (E 4)))) := ((HE.out.below (below_step (hbl HB.out) hb)) 4 (by simp)).1; have n0_ := Aside0.mk (below_step (hbl HB.out) hb); have n1_ := Aside0.mk (Kd.R_below HO.out hb); clear HB HO; have HB := n0_; have HO := n1_; clear n0_ n1_ hb))
            go_roundg (gk - 1)
            case measure => have := HK.out; omega
            case rel => exact ⟨i + 1, by rw [w1 i (by have := HL.out; omega)], ⟨by rw [HD.out]; exact hz⟩, ⟨by have := HK.out; omega⟩, ⟨HO.out⟩, ⟨hbl HB.out⟩⟩
        | false =>
          rw [hn] at XN
          cases hc2 : (tl x).all identB with
          | true =>
            rw [hc2] at XA
            have hz := ON.out (by unfold preK; rw [hb1, hn, hc2]; rfl)
            go_wp2_with (first | (go_at_call 140; (with_reducible refine (XN.out _).mono ?_); rintro e w9 ⟨rfl, hb⟩; have h3 : w9.cell? ⟨3, 0, none⟩ = some (.iface 176 (.pointer (some (E 3)))) := ((HE.out.below (below_step (hbl HB.out) hb)) 3 (by simp)).1; have h4 : w9.cell? ⟨4, 0, none⟩ = some (.iface 176 (.pointer (some (E 4)))) := ((HE.out.below (below_step (hbl HB.out) hb)) 4 (by simp)).1; have n0_ := Aside0.mk (below_step (hbl HB.out) hb); have n1_ := Aside0.mk (Kd.R_below HO.out hb); clear HB HO; have HB := n0_; have HO := n1_; clear n0_ n1_ hb) | (go_at_call 140; (with_reducible refine (XA.out _).mono ?_); rintro e w9 ⟨rfl, hb⟩; have h3 : w9.cell? ⟨3, 0, none⟩ = some (.iface 176 (.pointer (some (E 3)))) := ((HE.out.below (below_step (hbl HB.out) hb)) 3 (by simp)).1; have h4 : w9.cell? ⟨4, 0, none⟩ = some (.iface 176 (.pointer (some (E 4)))) := ((HE.out.below (below_step (hbl HB.out) hb)) 4 (by simp)).1; have n0_ := Aside0.mk (below_step (hbl HB.out) hb); have n1_ := Aside0.mk (Kd.R_below HO.out hb); clear HB HO; have HB := n0_; have HO := n1_; clear n0_ n1_ hb))
            go_roundg (gk - 1)
            case measure => have := HK.out; omega
            case rel => exact ⟨i + 1, by rw [w1 i (by have := HL.out; omega)], ⟨by rw [HD.out]; exact hz⟩, ⟨by have := HK.out; omega⟩, ⟨HO.out⟩, ⟨hbl HB.out⟩⟩
          | false =>
            rw [hc2] at XA
            have hz : firstK preK xs = 5 := GO.out 5 (by unfold preK; rw [hb1, hn, hc2]; rfl) (by decide)
            go_wp2_with (first | (go_at_call 140; (with_reducible refine (XN.out _).mono ?_); rintro e w9 ⟨rfl, hb⟩; have h3 : w9.cell? ⟨3, 0, none⟩ = some (.iface 176 (.pointer (some (E 3)))) := ((HE.out.below (below_step (hbl HB.out) hb)) 3 (by simp)).1; have h4 : w9.cell? ⟨4, 0, none⟩ = some (.iface 176 (.pointer (some (E 4)))) := ((HE.out.below (below_step (hbl HB.out) hb)) 4 (by simp)).1; have n0_ := Aside0.mk (below_step (hbl HB.out) hb); have n1_ := Aside0.mk (Kd.R_below HO.out hb); clear HB HO; have HB := n0_; have HO := n1_; clear n0_ n1_ hb) | (go_at_call 140; (with_reducible refine (XA.out _).mono ?_); rintro e w9 ⟨rfl, hb⟩; have h3 : w9.cell? ⟨3, 0, none⟩ = some (.iface 176 (.pointer (some (E 3)))) := ((HE.out.below (below_step (hbl HB.out) hb)) 3 (by simp)).1; have h4 : w9.cell? ⟨4, 0, none⟩ = some (.iface 176 (.pointer (some (E 4)))) := ((HE.out.below (below_step (hbl HB.out) hb)) 4 (by simp)).1; have n0_ := Aside0.mk (below_step (hbl HB.out) hb); have n1_ := Aside0.mk (Kd.R_below HO.out hb); clear HB HO; have HB := n0_; have HO := n1_; clear n0_ n1_ hb))
            go_ret
            exact ⟨by rw [hz]; rfl, hbl HB.out⟩
end Go.Proofs.YtalpehfjjidfhaaDoor.MS
