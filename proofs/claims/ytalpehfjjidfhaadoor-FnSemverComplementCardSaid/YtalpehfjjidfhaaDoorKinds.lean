/- What is proved: terms, and lists of terms, as kinds of values (written by the print, put into the seat's own namespace). -/
import Derived.Test.YtalpehfjjidfhaaDoorProg
import Derived.Below
import Derived.KernelRfl
import Derived.Test.YtalpehfjjidfhaaDoorWWords
namespace Go.Proofs.YtalpehfjjidfhaaDoor
open Go.RowKit Go.Proofs.YtalpehfjjidfhaaDoorW.PrintWords
set_option linter.unusedVariables false
/-! #### struct type 42 -/
structure S42 where
  f0 : Int
  f1 : Int
  f2 : Int
  f3 : Int
  f4 : Int
  f5 : ByteArray
def z42 : S42 := ⟨(0 : Int), (0 : Int), (0 : Int), (0 : Int), (0 : Int), (⟨#[]⟩ : ByteArray)⟩
def k42 : Kd S42 := Kd.iso (Kd.pair (Kd.int .i64) (Kd.pair (Kd.int .i64) (Kd.pair (Kd.int .u64) (Kd.pair (Kd.int .u64) (Kd.pair (Kd.int .u64) Kd.string))))) (fun x : S42 => (x.f0, x.f1, x.f2, x.f3, x.f4, x.f5))
theorem k42_open {w : World} {x : S42} {cs : List Value} (h : k42.K w x cs) : cs = [.int .i64 x.f0, .int .i64 x.f1, .int .u64 x.f2, .int .u64 x.f3, .int .u64 x.f4, .string x.f5] := by
  obtain ⟨_, _, rfl, rfl, ⟨_, _, rfl, rfl, ⟨_, _, rfl, rfl, ⟨_, _, rfl, rfl, ⟨_, _, rfl, rfl, rfl⟩⟩⟩⟩⟩ := h
  exact rfl
theorem k42_mk (w : World) (x : S42)  : k42.K w x [.int .i64 x.f0, .int .i64 x.f1, .int .u64 x.f2, .int .u64 x.f3, .int .u64 x.f4, .string x.f5] := ⟨[.int .i64 x.f0], [.int .i64 x.f1, .int .u64 x.f2, .int .u64 x.f3, .int .u64 x.f4, .string x.f5], rfl, rfl, ⟨[.int .i64 x.f1], [.int .u64 x.f2, .int .u64 x.f3, .int .u64 x.f4, .string x.f5], rfl, rfl, ⟨[.int .u64 x.f2], [.int .u64 x.f3, .int .u64 x.f4, .string x.f5], rfl, rfl, ⟨[.int .u64 x.f3], [.int .u64 x.f4, .string x.f5], rfl, rfl, ⟨[.int .u64 x.f4], [.string x.f5], rfl, rfl, rfl⟩⟩⟩⟩⟩
def rd_T42 (xs : List S42) (i : Int) : S42 := xs.getD i.toNat z42
theorem at_T42 {w : World} {A : Option Addr} {n : Nat} {xs : List S42} (h : Kd.C k42 w A n xs) (i : Int) (h0 : 0 ≤ i) (h1 : i < n) : ∃ ad , A = some ad ∧ w.cell? (ad.add (i.toNat * 6)) = some (.int .i64 (rd_T42 xs i).f0) ∧ w.cell? ⟨(ad.add (i.toNat * 6)).block, (ad.add (i.toNat * 6)).off + 1, none⟩ = some (.int .i64 (rd_T42 xs i).f1) ∧ w.cell? ⟨(ad.add (i.toNat * 6)).block, (ad.add (i.toNat * 6)).off + 2, none⟩ = some (.int .u64 (rd_T42 xs i).f2) ∧ w.cell? ⟨(ad.add (i.toNat * 6)).block, (ad.add (i.toNat * 6)).off + 3, none⟩ = some (.int .u64 (rd_T42 xs i).f3) ∧ w.cell? ⟨(ad.add (i.toNat * 6)).block, (ad.add (i.toNat * 6)).off + 4, none⟩ = some (.int .u64 (rd_T42 xs i).f4) ∧ w.cell? ⟨(ad.add (i.toNat * 6)).block, (ad.add (i.toNat * 6)).off + 5, none⟩ = some (.string (rd_T42 xs i).f5) := by
  obtain ⟨ad, c, e, _, hK, hc0⟩ := Kd.C_get h z42 i h0 h1
  have hc : ∀ j u, c[j]? = some u → w.cell? (ad.add (i.toNat * 6 + j)) = some u := hc0
  obtain rfl := k42_open hK
  exact ⟨ad, e, hc 0 _ rfl, by rw [← add_field _ _ 1 (by omega)]; exact hc 1 _ rfl, by rw [← add_field _ _ 2 (by omega)]; exact hc 2 _ rfl, by rw [← add_field _ _ 3 (by omega)]; exact hc 3 _ rfl, by rw [← add_field _ _ 4 (by omega)]; exact hc 4 _ rfl, by rw [← add_field _ _ 5 (by omega)]; exact hc 5 _ rfl⟩

def rd_L5 (xs : List (List S42)) (i : Int) : (List S42) := xs.getD i.toNat ([] : List S42)
theorem at_L5 {w : World} {A : Option Addr} {n : Nat} {xs : List (List S42)} (h : Kd.C (Kd.slice 42 k42) w A n xs) (i : Int) (h0 : 0 ≤ i) (h1 : i < n) : ∃ ad A0 c0, A = some ad ∧ w.cell? (ad.add i.toNat) = some (.slice A0 (rd_L5 xs i).length c0) ∧ (rd_L5 xs i).length ≤ c0 ∧ k42.C w A0 (rd_L5 xs i).length (rd_L5 xs i) := by
  obtain ⟨ad, c, e, _, hK, hc0⟩ := Kd.C_get h ([] : List S42) i h0 h1
  have hc : ∀ j u, c[j]? = some u → w.cell? (ad.add (i.toNat * 1 + j)) = some u := hc0
  obtain ⟨A0, c0, rfl, l0, g0⟩ := hK
  exact ⟨ad, A0, c0, e, by have hq := hc 0 _ rfl; rwa [Nat.mul_one, Nat.add_zero] at hq, l0, g0⟩
end Go.Proofs.YtalpehfjjidfhaaDoor
