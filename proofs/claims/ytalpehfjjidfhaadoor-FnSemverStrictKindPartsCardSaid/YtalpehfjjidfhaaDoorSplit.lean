/- Plain law: splitting at dots, over lists of bytes. -/
import Derived.Test.YtalpehfjjidfhaaDoorSv
import Derived.IntWalk
import Derived.Test.YtalpehfjjidfhaaDoorWWords
namespace Go.Proofs.YtalpehfjjidfhaaDoor.Sv
open Go Go.RowKit Go.Proofs.YtalpehfjjidfhaaDoorW.PrintWords

def conS (c : UInt8) : List (List UInt8) → List (List UInt8)
  | h :: t => (c :: h) :: t
  | [] => [[c]]
def splitD : List UInt8 → List (List UInt8)
  | [] => [[]]
  | c :: r => if c = 46 then [] :: splitD r else conS c (splitD r)
theorem splitD_cons (c : UInt8) (r : List UInt8) : splitD (c :: r) = if c = 46 then [] :: splitD r else conS c (splitD r) := rfl
theorem splitD_nil : splitD [] = [[]] := rfl
def firstDot : List UInt8 → Option Nat
  | [] => none
  | c :: r => if c = 46 then some 0 else (firstDot r).map (· + 1)
theorem splitD_first : ∀ l : List UInt8, match firstDot l with
    | none => splitD l = [l] ∧ (46 : UInt8) ∉ l
    | some m => splitD l = l.take m :: splitD (l.drop (m + 1)) ∧ m < l.length ∧ l = l.take m ++ 46 :: l.drop (m + 1) ∧ (46 : UInt8) ∉ l.take m
  | [] => by simp [firstDot, splitD]
  | c :: r => by
    have ih := splitD_first r
    unfold firstDot
    rw [splitD_cons]
    by_cases h : c = 46
    · simp [h]
    · rw [if_neg h, if_neg h]
      cases e : firstDot r with
      | none =>
        rw [e] at ih
        simp only [Option.map_none]
        rw [ih.1]
        exact ⟨rfl, by simp [ih.2]; exact fun h' => h h'.symm⟩
      | some m =>
        rw [e] at ih
        simp only [Option.map_some]
        obtain ⟨h1, h2, h3, h4⟩ := ih
        rw [h1]
        refine ⟨rfl, by simp; omega, ?_, by simp [h4]; exact fun h' => h h'.symm⟩
        simp only [List.take_succ_cons, List.drop_succ_cons, List.cons_append]
        rw [← h3]
theorem splitD_none {l : List UInt8} (h : (46 : UInt8) ∉ l) : splitD l = [l] := by
  have := splitD_first l
  split at this
  · exact this.1
  · exact absurd (by rw [this.2.2.1]; simp) h
theorem splitD_app (l r : List UInt8) : splitD (l ++ 46 :: r) = splitD l ++ splitD r := by
  induction l with
  | nil => simp [splitD]
  | cons c l ih =>
    rw [List.cons_append, splitD_cons, splitD_cons]
    by_cases h : c = 46
    · rw [if_pos h, if_pos h, ih]; rfl
    · rw [if_neg h, if_neg h, ih]
      have : splitD l ≠ [] := by
        cases l with
        | nil => simp [splitD]
        | cons d l =>
          rw [splitD_cons]; split
          · simp
          · cases splitD l <;> simp [conS]
      cases e : splitD l with
      | nil => exact absurd e this
      | cons x t => rfl
theorem splitD_at {p : List UInt8} (h : (46 : UInt8) ∉ p) (r : List UInt8) : splitD (p ++ 46 :: r) = p :: splitD r := by
  rw [splitD_app, splitD_none h]; rfl
theorem splitD_ne (l : List UInt8) : splitD l ≠ [] := by
  have := splitD_first l
  split at this <;> rw [this.1] <;> simp
theorem splitD_length (l : List UInt8) : (splitD l).length ≤ l.length + 1 := by
  induction l with
  | nil => simp [splitD]
  | cons c l ih =>
    rw [splitD_cons]
    split
    · simp; omega
    · cases e : splitD l with
      | nil => simp [conS]
      | cons x t => rw [e] at ih; simp [conS] at *; omega
theorem splitD_mem (l : List UInt8) : ∀ x ∈ splitD l, x.length ≤ l.length := by
  induction l with
  | nil => simp [splitD]
  | cons c l ih =>
    rw [splitD_cons]
    split
    · intro x hx
      simp only [List.mem_cons] at hx
      rcases hx with rfl | hx
      · simp
      · have := ih x hx; simp; omega
    · cases e : splitD l with
      | nil => simp [conS]
      | cons y t =>
        rw [e] at ih
        intro x hx
        simp only [conS, List.mem_cons] at hx
        rcases hx with rfl | hx
        · have := ih y (by simp); simp; omega
        · have := ih x (by simp [hx]); simp; omega

/-! ### Bytes of the program -/
def bs (l : List (List UInt8)) : List ByteArray := l.map fun x => ⟨x.toArray⟩
theorem bs_toList (l : List (List UInt8)) : (bs l).map (fun x => x.data.toList) = l := by
  unfold bs
  rw [List.map_map]
  conv => rhs; rw [← List.map_id l]
  refine List.map_congr_left fun x _ => ?_
  show (x.toArray).toList = x
  simp
theorem bs_length (l : List (List UInt8)) : (bs l).length = l.length := by simp [bs]
theorem mk_toList (a : ByteArray) : (⟨a.data.toList.toArray⟩ : ByteArray) = a := by cases a; simp
theorem bytes_ext {a b : ByteArray} (h : a.data.toList = b.data.toList) : a = b := by
  rw [← mk_toList a, ← mk_toList b, h]
theorem extract_data (a : ByteArray) (i j : Nat) : (a.extract i j).data.toList = (a.data.toList.drop i).take (j - i) := by
  rw [ByteArray.data_extract, Array.toList_extract, List.extract_eq_take_drop]
theorem size_data (a : ByteArray) : a.size = a.data.toList.length := by rw [Array.length_toList]; rfl
theorem bt_drop {a : ByteArray} {i : Nat} {c : UInt8} {r : List UInt8} (h : a.data.toList.drop i = c :: r) : bt a (i : Int) = (c.toNat : Int) := by
  have hi : i < a.size := by
    rw [size_data]
    rcases Nat.lt_or_ge i a.data.toList.length with h' | h'
    · exact h'
    · rw [List.drop_eq_nil_of_le h'] at h; cases h
  rw [← bt_at a i (by simpa using hi)]
  have h2 : a.data.toList[i]'(by rw [← size_data]; exact hi) = c := by
    rw [List.drop_eq_getElem_cons (by rw [← size_data]; exact hi)] at h
    exact (List.cons.inj h).1
  have : a[i]'hi = c := by rw [← h2]; rfl
  simp only [Int.toNat_natCast, this]
theorem drop_succ {α : Type} {l : List α} {i : Nat} {c : α} {r : List α} (h : l.drop i = c :: r) : l.drop (i + 1) = r := by
  rw [← List.tail_drop, h]; rfl
theorem drop_lt {α : Type} {l : List α} {i : Nat} {c : α} {r : List α} (h : l.drop i = c :: r) : i < l.length := by
  rcases Nat.lt_or_ge i l.length with h' | h'
  · exact h'
  · rw [List.drop_eq_nil_of_le h'] at h; cases h
theorem drop_nil {α : Type} {l : List α} {i : Nat} (h : l.drop i = []) : l.length ≤ i := by
  rcases Nat.lt_or_ge i l.length with h' | h'
  · have := congrArg List.length h; simp at this; omega
  · exact h'
theorem rdOf_drop {α : Type} {d : α} {l : List α} {i : Nat} {c : α} {r : List α} (h : l.drop i = c :: r) : rdOf d l (i : Int) = c := by
  have hi := drop_lt h
  unfold rdOf
  rw [List.drop_eq_getElem_cons hi] at h
  simp only [Int.toNat_natCast, List.getD_eq_getElem?_getD, List.getElem?_eq_getElem hi, Option.getD_some]
  exact (List.cons.inj h).1
theorem w1 (i : Nat) (h : i < 4611686018427387904) : wrap64 ((i : Int) + 1) = ((i + 1 : Nat) : Int) := by
  unfold wrap64; omega
end Go.Proofs.YtalpehfjjidfhaaDoor.Sv
