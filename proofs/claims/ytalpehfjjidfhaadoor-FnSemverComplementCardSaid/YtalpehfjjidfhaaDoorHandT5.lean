/- What is proved: by hand, lists of terms as data, checked: impl.TermsHold. -/
import Derived.Test.YtalpehfjjidfhaaDoorHandT4
namespace Go.Proofs.YtalpehfjjidfhaaDoor.Hand
set_option linter.unusedVariables false
set_option linter.unusedSimpArgs false
open Go.RowKit Go.Proofs.YtalpehfjjidfhaaDoorW.PrintWords Go.Proofs.YtalpehfjjidfhaaDoorW.PrintLast Go.Proofs.YtalpehfjjidfhaaDoorW.PrintMore Sv
/-- Lists of terms that may be asked. -/
def askT (l : List (List S42)) : Prop := l.length ≤ 2147483647 ∧ ∀ x ∈ l, x.length ≤ 2147483647 ∧ ∀ t ∈ x, 0 ≤ t.f0 ∧ t.f0 < 8 ∧ 0 ≤ t.f1 ∧ t.f5.size < 8796093022208
theorem C_mem {α : Type} {d : Kd α} {w : World} {A : Option Addr} {n : Nat} {xs : List α} (h : d.C w A n xs) (x : α) (hx : x ∈ xs) : ∃ cs, d.K w x cs := by
 obtain ⟨j, hj⟩ := List.getElem?_of_mem hx
 obtain ⟨h0, _, h2⟩ := h
 have hl := (List.getElem?_eq_some_iff.1 hj).1
 obtain ⟨ad, _, hc⟩ := h2 (by omega)
 obtain ⟨c, _, hK, _⟩ := hc j x hj
 exact ⟨c, hK⟩
theorem len_of_map {α β : Type} {f : α → β} {L : List (List α)} {l : List (List β)} {n : Nat} (h : L.map (List.map f) = l) (hl : ∀ x ∈ l, x.length ≤ n) : ∀ x ∈ L, x.length ≤ n := by
 intro x hx
 have : x.map f ∈ l := h ▸ List.mem_map_of_mem hx
 have := hl _ this
 rwa [List.length_map] at this
theorem hasZ_unq (x : List (S42 × Nat × Nat)) : hasZ (x.map unq) = hasP (x.map fun y => y.1) := by
 rw [hasZ, hasP, List.any_map, List.any_map]
 rfl
theorem check_at (M m t : Int) (u v : ByteArray) (b : Bool) {l0 : List (List S42)} {L : List (List (S42 × Nat))} {Q : List (List (S42 × Nat × Nat))} (hL : L.map (List.map Prod.fst) = l0) (hQ : Q.map (List.map unq) = L) (hq : askT l0) {fs : List Bool} (hf0 : fs = L.map hasZ) (w1 w2 w3 : World) {A B1 B2 : Option Addr} (d1 d2 : Nat)
  (hC : Kd.C (Kd.slice 92 kz) w1 A L.length L) (hC1 : Kd.C (Kd.slice 133 kq) w2 B1 Q.length Q) (hC2 : Kd.C Kd.bool w2 B2 fs.length fs) (hb2 : Below w1.heap.size w1 w2) (hb3 : Below w2.heap.size w2 w3) (N : Nat) (hN : w2.heap.size ≤ N) (hV : VAt w3 N M m t u v) (hA : HAt w3 N) (hG : Gl w3) (su : u.size < 8796093022208) :
  Calls Tryd.prog 120 #[.agg #[.slice B1 Q.length d1, .slice B2 fs.length d2, .bool b], .pointer (some ⟨N, 0, none⟩)] w3 fun e w' => e = .returned (.bool (termsHold M m t u b l0)) ∧ Below w3.heap.size w3 w' := by
 have hfs : fs = Q.map (fun x => hasP (x.map fun y => y.1)) := by
  rw [hf0, ← hQ, List.map_map]
  exact List.map_congr_left (fun x _ => hasZ_unq x)
 have hlen : Q.length = l0.length := by rw [← hL, ← hQ, List.length_map, List.length_map]
 refine (Check_any M m t u v N b B1 B2 d1 d2 Q fs w3 hG su hV hA (Kd.C_below hC1 hb3) (Kd.C_below hC2 hb3) hfs ?_ (by rw [hlen]; exact hq.1)).mono ?_
 ·
  intro x hx
  have hxL : x.map unq ∈ L := hQ ▸ List.mem_map_of_mem hx
  have hx0 : (x.map unq).map Prod.fst ∈ l0 := hL ▸ List.mem_map_of_mem hxL
  obtain ⟨hlx, hterm⟩ := hq.2 _ hx0
  refine ⟨by simpa using hlx, fun y hy => ?_⟩
  have hy1 : unq y ∈ x.map unq := List.mem_map_of_mem hy
  obtain ⟨cs, A', c', _, _, hC'⟩ := C_mem hC _ hxL
  obtain ⟨cs', hcs', hP⟩ := C_mem hC' _ hy1
  have hy0 : y.1 ∈ (x.map unq).map Prod.fst := List.mem_map.2 ⟨unq y, hy1, rfl⟩
  obtain ⟨a0, a1, a2, a3⟩ := hterm _ hy0
  have hP' : PAt w1 y.2.1 y.1.f2 y.1.f3 y.1.f4 y.1.f5 := hP
  exact ⟨a0, a1, a3, by have := hP'.lt; have := hb2.size; omega, (hP'.below hb2).below hb3⟩
 ·
  rintro e w' ⟨rfl, hb⟩
  refine ⟨?_, hb⟩
  rw [termsHold, ← hL, ← hQ, List.any_map, List.any_map]
  congr 3
  funext x
  simp only [Function.comp, List.map_map]
  rfl
theorem below1d {w w1 : World} {o1 : Obj} (hb : Below ((w.alloc o1).drew).heap.size (w.alloc o1).drew w1) : Below w.heap.size w w1 :=
 ((Below.refl _ _).alloc (Nat.le_refl _) o1).drew.trans (hb.mono (by simp))
set_option maxHeartbeats 8000000 in
set_option maxRecDepth 100000 in
theorem TermsHold_any (A0 : Option Addr) (c0 : Nat) (l0 : List (List S42)) (M m t : Int) (u v : ByteArray) (b : Bool) (w : World) (hr0 : Kd.C (Kd.slice 42 k42) w A0 l0.length l0) (hG0 : Gl w) (su : u.size < 8796093022208) (hq : askT l0) :
  Calls Tryd.prog 70 #[.slice A0 l0.length c0, .agg #[.int .u64 M, .int .u64 m, .int .u64 t, .string u, .string v], .bool b] w fun e w' => e = .returned (.bool (termsHold M m t u b l0)) ∧ Below w.heap.size w w' := by
 have HR0 := Aside0.mk hr0
 have HG := Aside0.mk hG0
 have HQ := Aside0.mk hq
 have T119 : ∀ w1 : World, Below w.heap.size w w1 → Calls Tryd.prog 119 #[.slice A0 l0.length c0] w1 fun e w' => ∃ (A : Option Addr) (c : Nat) (L : List (List (S42 × Nat))), e = .returned (.slice A L.length c) ∧ (L.map (List.map Prod.fst) = l0 ∧ Kd.C (Kd.slice 92 kz) w' A L.length L) ∧ Below w1.heap.size w1 w' := by
  intro w1 hb
  refine (terms_any A0 c0 l0 w1 (Kd.C_below hr0 hb) hq.1 (fun x hx => ⟨(hq.2 x hx).1, fun t ht => ((hq.2 x hx).2 t ht).2.2.1⟩)).mono ?_
  rintro e w' ⟨v1, L, rfl, hL, hR, hb1⟩
  obtain ⟨A, c, rfl, _, hC⟩ := Kd.R_reads hR
  exact ⟨A, c, L, rfl, ⟨hL, hC⟩, hb1⟩
 have T118 : ∀ (w1 : World) (A : Option Addr) (c : Nat) (L : List (List (S42 × Nat))), L.map (List.map Prod.fst) = l0 → Kd.C (Kd.slice 92 kz) w1 A L.length L → Calls Tryd.prog 118 #[.slice A L.length c, .bool b] w1 fun e w' => ∃ (B1 B2 : Option Addr) (d1 d2 : Nat) (Q : List (List (S42 × Nat × Nat))) (fs : List Bool), e = .returned (.agg #[.slice B1 Q.length d1, .slice B2 fs.length d2, .bool b]) ∧ (Q.map (List.map unq) = L ∧ Aside0 (fs = L.map hasZ) ∧ Kd.C (Kd.slice 133 kq) w' B1 Q.length Q ∧ Kd.C Kd.bool w' B2 fs.length fs) ∧ Below w1.heap.size w1 w' := by
  intro w1 A c L hL hC
  have hlen : L.length = l0.length := by rw [← hL, List.length_map]
  refine (ZZC_any A c L b w1 hC (by rw [hlen]; exact hq.1) (len_of_map hL (fun x hx => (hq.2 x hx).1))).mono ?_
  rintro e w' ⟨v1, v2, Q, rfl, hQ, hR1, hR2, hb1⟩
  obtain ⟨B1, d1, rfl, _, hC1⟩ := Kd.R_reads hR1
  obtain ⟨B2, d2, rfl, _, hC2⟩ := Kd.R_reads hR2
  exact ⟨B1, B2, d1, d2, Q, _, rfl, ⟨hQ, ⟨rfl⟩, hC1, hC2⟩, hb1⟩
 clear hr0 hG0 hq
 go_enter Tryd.func70, Tryd.ntmps70
 go_wp2_with fail
 go_region_with (first
  | (go_at_call 119; (with_reducible refine (T119 _ (((Below.refl _ _).alloc (Nat.le_refl _) _).drew)).mono ?_); rintro e w1 ⟨A, c, L, rfl, ⟨hL, hC⟩, hb1⟩; obtain ⟨hc1, hf1⟩ := bcell hb1; have hB1 := below1d hb1; have hz1 : w.heap.size < w1.heap.size := Nat.lt_of_lt_of_le (by simp) hb1.size)
  | (go_at_call 118; (with_reducible refine (T118 _ A c L hL hC).mono ?_); rintro e w2 ⟨B1, B2, d1, d2, Q, fs, rfl, ⟨hQ, hfs, hC1, hC2⟩, hb2⟩; obtain ⟨hc2, hf2⟩ := bcell hb2; have hB2 := b2 hB1 hb2; have hz2 : w.heap.size < w2.heap.size := Nat.lt_of_lt_of_le hz1 hb2.size)
  | (go_at_call 83; (with_reducible refine (version_at M m t u v _).mono ?_); rintro e w3 ⟨N, rfl, ⟨hV3, hA3⟩, hb3, hN3⟩; obtain ⟨hc3, hf3⟩ := bcell hb3; have hB3 := b2 hB2 hb3; have hz3 : w.heap.size < w3.heap.size := Nat.lt_of_lt_of_le hz2 hb3.size)
  | (go_at_call 120; (with_reducible refine (check_at M m t u v b hL hQ HQ.out hfs.out w1 w2 w3 d1 d2 hC hC1 hC2 hb2 hb3 N hN3 hV3 hA3 (HG.out.below hB3) su).mono ?_); rintro e w4 ⟨rfl, hb4⟩; have hB4 := b2 hB3 hb4))
 all_goals
  go_wp2
  go_ret
  exact ⟨rfl, hB4⟩
instance (l : List (List S42)) : Decidable (askT l) := by unfold askT; infer_instance
def TermsHold.f (l0 : List (List S42)) (M m t : Int) (u v : ByteArray) (b : Bool) : Option Bool := if askT l0 ∧ u.size < 8796093022208 then some (termsHold M m t u b l0) else none
theorem TermsHold.calls (A0 : Option Addr) (c0 : Nat) (l0 : List (List S42)) (M m t : Int) (u v : ByteArray) (b : Bool) (r : Bool) (w : World) (hr0 : Kd.C (Kd.slice 42 k42) w A0 l0.length l0) (hc0 : l0.length ≤ c0) (hG0 : Gl w) (h : TermsHold.f l0 M m t u v b = some r) :
  Calls Tryd.prog 70 #[.slice A0 l0.length c0, .agg #[.int .u64 M, .int .u64 m, .int .u64 t, .string u, .string v], .bool b] w fun e w' => e = .returned (.bool r) ∧ Below w.heap.size w w' := by
 unfold TermsHold.f at h
 by_cases hs : askT l0 ∧ u.size < 8796093022208
 ·
  rw [if_pos hs] at h
  injection h with h
  subst h
  exact TermsHold_any A0 c0 l0 M m t u v b w hr0 hG0 hs.2 hs.1
 ·
  rw [if_neg hs] at h
  cases h
end Go.Proofs.YtalpehfjjidfhaaDoor.Hand
