/- What is proved: by hand, what the strict reading of a version's text rests on: errors, rows of three texts, a version in memory. -/
import Derived.Test.YtalpehfjjidfhaaDoorGramS
import Derived.Test.YtalpehfjjidfhaaDoorHandC
namespace Go.Proofs.YtalpehfjjidfhaaDoor.MS
open Go Go.RowKit Sv Hand
open Go.Proofs.YtalpehfjjidfhaaDoorW.PrintWords Go.Proofs.YtalpehfjjidfhaaDoorW.PrintLast Go.Proofs.YtalpehfjjidfhaaDoorW.PrintMore
open Go.Proofs.YtalpehfjjidfhaaDoor.MA (tl identB identL digsL okPre)
set_option linter.unusedVariables false
set_option linter.unusedSimpArgs false
/-- The value of an error by its kind: none, a package's own, or strconv's. -/
def EvK (E : Nat → Addr) (w : World) (k : Nat) (v : Value) : Prop :=
  (k < 10 ∧ v = ev E k) ∨ (10 ≤ k ∧ ∃ N a b, v = .iface 173 (.pointer (some ⟨N, 0, none⟩)) ∧ w.heap[N]? = some (.cells #[.string a, .string b, .iface 176 (.pointer (some (E (k - 1))))] 186 (0, 0)))
/-- What strconv.ParseUint tells of a text: the number, and 0, 10 (a wrong form) or 11 (out of range). -/
def numR (l : List UInt8) : Nat × Nat := match Lib.parseUintB 64 l with
  | .ok u => (u, 0)
  | .range => (18446744073709551615, 11)
  | _ => (0, 10)
theorem numR_ok {l : List UInt8} : (numR l).2 = 0 ↔ ∃ u, num? l = some u ∧ (numR l).1 = u := by
  unfold numR num?
  cases h : Lib.parseUintB 64 l <;> simp
theorem numR_two (l : List UInt8) : (numR l).2 = 0 ∨ (numR l).2 = 10 ∨ (numR l).2 = 11 := by
  unfold numR
  cases Lib.parseUintB 64 l <;> simp
theorem Ge.sub {E : Nat → Addr} {S S' : List Nat} {w : World} (h : Ge E S w) (hs : ∀ g ∈ S', g ∈ S) : Ge E S' w := fun g hg => h g (hs g hg)
theorem ParseUint_K (E : Nat → Addr) (s : ByteArray) (hs : s.size ≤ 281474976710656) (w : World) (hE : Ge E [9, 10] w) :
    Calls Tryd.prog 141 #[.string s, .int .i64 10, .int .i64 64] w fun e w' => (∃ v, e = .returned (.tuple #[.int .u64 ((numR (tl s)).1 : Nat), v]) ∧ EvK E w' (numR (tl s)).2 v) ∧ Below w.heap.size w w' := by
  have h9 := (hE 9 (by simp)).1
  have h10 := (hE 10 (by simp)).1
  unfold numR
  cases h : Lib.parseUintB 64 (tl s)
  case ok u =>
    refine (Tryd.strconv_ParseUint_10_at64_ok s (by omega) u h w).mono ?_
    rintro e w' ⟨rfl, hw⟩
    refine ⟨⟨.nilIface, rfl, Or.inl ⟨Nat.zero_lt_succ _, rfl⟩⟩, ?_⟩
    rcases hw with rfl | rfl
    · exact Below.refl _ _
    · exact Go.Joins.below_bytesWorld _ _ _ _ (Nat.le_refl _)
  case range =>
    refine (Tryd.strconv_ParseUint_10_at64_range s hs h _ w h10 (Or.inr ⟨_, _, rfl⟩)).mono ?_
    rintro e w' ⟨N, rfl, _, hN, hb⟩
    exact ⟨⟨_, rfl, Or.inr ⟨by decide, N, _, _, rfl, hN⟩⟩, hb⟩
  · refine (Tryd.strconv_ParseUint_10_at64_syntax s hs h _ w h9 (Or.inr ⟨_, _, rfl⟩)).mono ?_
    rintro e w' ⟨N, rfl, _, hN, hb⟩
    exact ⟨⟨_, rfl, Or.inr ⟨by decide, N, _, _, rfl, hN⟩⟩, hb⟩
/-- A row of texts of the call's own, cell by cell. -/
theorem R_row {w : World} {base : Nat} {ok : Nat → Prop} {v : Value} {xs : List ByteArray} (h : Kd.R Kd.string 9 w base ok v xs) (hn : 0 < xs.length) :
    ∃ g c, v = .slice (some ⟨g, 0, none⟩) xs.length c ∧ xs.length ≤ c ∧ base ≤ g ∧ g < w.heap.size ∧ (∀ j, w.frozen? ⟨g, j, none⟩ = false) ∧ ∀ j, j < xs.length → w.cell? ⟨g, j, none⟩ = some (.string (xs.getD j ByteArray.empty)) := by
  have hC := Kd.R_reads h
  obtain ⟨_, inner, ho, hr⟩ := h
  rcases ho.2 with ⟨_, h0⟩ | ⟨g, cap, cur, rfl, hg, hh, hc, hm, hs, ht⟩
  · omega
  · have hgl : g < w.heap.size := by
      rcases Nat.lt_or_ge g w.heap.size with h' | h'
      · exact h'
      · rw [Array.getElem?_eq_none h'] at hh; cases hh
    refine ⟨g, cap, rfl, hc, hg, hgl, fun j => by simp [World.frozen?, hh], fun j hj => ?_⟩
    obtain ⟨A, c, he, _, hcc⟩ := hC
    injection he with he1 he2 he3
    subst he1
    obtain ⟨ad, e1, e2⟩ := Kd.at_string hcc (j : Int) (by omega) (by omega)
    injection e1 with e1
    subst e1
    have e3 : (⟨g, 0, none⟩ : Addr).add ((j : Int)).toNat = ⟨g, j, none⟩ := by
      simp only [Addr.add, Int.toNat_natCast, Nat.zero_add]
      split
      · rename_i h0; rw [h0]
      · rfl
    rw [e3] at e2
    rw [e2]
    unfold rdOf
    rw [Int.toNat_natCast]
/-- A version of these parts, read out of this text, lies at block p. -/
structure VO (w : World) (p : Nat) (M m t : Int) (u v o : ByteArray) : Prop where mk ::
  (lt : p < w.heap.size)
  (free : ∀ j, w.frozen? ⟨p, j, none⟩ = false)
  (cells : w.cell? ⟨p, 0, none⟩ = some (.int .u64 M) ∧ w.cell? ⟨p, 1, none⟩ = some (.int .u64 m) ∧ w.cell? ⟨p, 2, none⟩ = some (.int .u64 t) ∧ w.cell? ⟨p, 3, none⟩ = some (.string u) ∧ w.cell? ⟨p, 4, none⟩ = some (.string v) ∧ w.cell? ⟨p, 5, none⟩ = some (.string o))
theorem VO.below {w w' : World} {p : Nat} {M m t : Int} {u v o : ByteArray} (h : VO w p M m t u v o) (hb : Below w.heap.size w w') : VO w' p M m t u v o := by
  obtain ⟨hl, hf, ⟨h0, h1, h2, h3, h4, h5⟩⟩ := h
  exact ⟨Nat.lt_of_lt_of_le hl hb.size, fun j => (hb.frozen (p := ⟨p, j, none⟩) hl).trans (hf j), ⟨(hb.cell (p := ⟨p, 0, none⟩) hl).trans h0, (hb.cell (p := ⟨p, 1, none⟩) hl).trans h1, (hb.cell (p := ⟨p, 2, none⟩) hl).trans h2, (hb.cell (p := ⟨p, 3, none⟩) hl).trans h3, (hb.cell (p := ⟨p, 4, none⟩) hl).trans h4, (hb.cell (p := ⟨p, 5, none⟩) hl).trans h5⟩⟩
/-- A row of three texts at block g. -/
structure Row3 (w : World) (g : Nat) (a b c : ByteArray) : Prop where mk ::
  (lt : g < w.heap.size)
  (free : ∀ j, w.frozen? ⟨g, j, none⟩ = false)
  (cells : w.cell? ⟨g, 0, none⟩ = some (.string a) ∧ w.cell? ⟨g, 1, none⟩ = some (.string b) ∧ w.cell? ⟨g, 2, none⟩ = some (.string c))
theorem Row3.below {w w' : World} {p : Nat} {a b c : ByteArray} (h : Row3 w p a b c) (hb : Below w.heap.size w w') : Row3 w' p a b c := by
  obtain ⟨hl, hf, ⟨h0, h1, h2⟩⟩ := h
  exact ⟨Nat.lt_of_lt_of_le hl hb.size, fun j => (hb.frozen (p := ⟨p, j, none⟩) hl).trans (hf j), ⟨(hb.cell (p := ⟨p, 0, none⟩) hl).trans h0, (hb.cell (p := ⟨p, 1, none⟩) hl).trans h1, (hb.cell (p := ⟨p, 2, none⟩) hl).trans h2⟩⟩
/-- The parts of a text as they lie while it is read: W is the world that the call began in. -/
structure At (W w : World) (g N : Nat) (a b c u v o : ByteArray) (M m t : Int) : Prop where mk ::
  (row : Row3 w g a b c)
  (ver : VO w N M m t u v o)
  (ne : g ≠ N)
  (gb : W.heap.size ≤ g)
  (Nb : W.heap.size ≤ N)
  (B : Below W.heap.size W w)
theorem At.below {W w w' : World} {g N : Nat} {a b c u v o : ByteArray} {M m t : Int} (h : At W w g N a b c u v o M m t) (hb : Below w.heap.size w w') : At W w' g N a b c u v o M m t :=
  ⟨h.row.below hb, h.ver.below hb, h.ne, h.gb, h.Nb, h.B.trans (hb.mono h.B.size)⟩
theorem At.setRow {W w : World} {g N : Nat} {a b c u v o : ByteArray} {M m t : Int} (h : At W w g N a b c u v o M m t) (c' : ByteArray) : At W (w.setCell ⟨g, 2, none⟩ (.string c')) g N a b c' u v o M m t := by
  obtain ⟨⟨l1, f1, c0, c1, c2⟩, ⟨l2, f2, d0, d1, d2, d3, d4, d5⟩, ne, gb, Nb, B⟩ := h
  have hne := ne.symm
  refine ⟨⟨by simpa using l1, fun j => by simpa using f1 j, ?_, ?_, ?_⟩, ⟨by simpa using l2, fun j => by simpa using f2 j, ?_, ?_, ?_, ?_, ?_, ?_⟩, ne, gb, Nb, B.setCell gb _⟩ <;> go_simp
theorem At.set_M {W w : World} {g N : Nat} {a b c u v o : ByteArray} {M m t : Int} (h : At W w g N a b c u v o M m t) (x : Int) : At W (w.setCell ⟨N, 0, none⟩ (.int .u64 x)) g N a b c u v o x m t := by
  obtain ⟨⟨l1, f1, c0, c1, c2⟩, ⟨l2, f2, d0, d1, d2, d3, d4, d5⟩, ne, gb, Nb, B⟩ := h
  have hne := ne.symm
  refine ⟨⟨by simpa using l1, fun j => by simpa using f1 j, ?_, ?_, ?_⟩, ⟨by simpa using l2, fun j => by simpa using f2 j, ?_, ?_, ?_, ?_, ?_, ?_⟩, ne, gb, Nb, B.setCell Nb _⟩ <;> go_simp
theorem At.set_m {W w : World} {g N : Nat} {a b c u v o : ByteArray} {M m t : Int} (h : At W w g N a b c u v o M m t) (x : Int) : At W (w.setCell ⟨N, 1, none⟩ (.int .u64 x)) g N a b c u v o M x t := by
  obtain ⟨⟨l1, f1, c0, c1, c2⟩, ⟨l2, f2, d0, d1, d2, d3, d4, d5⟩, ne, gb, Nb, B⟩ := h
  have hne := ne.symm
  refine ⟨⟨by simpa using l1, fun j => by simpa using f1 j, ?_, ?_, ?_⟩, ⟨by simpa using l2, fun j => by simpa using f2 j, ?_, ?_, ?_, ?_, ?_, ?_⟩, ne, gb, Nb, B.setCell Nb _⟩ <;> go_simp
theorem At.set_t {W w : World} {g N : Nat} {a b c u v o : ByteArray} {M m t : Int} (h : At W w g N a b c u v o M m t) (x : Int) : At W (w.setCell ⟨N, 2, none⟩ (.int .u64 x)) g N a b c u v o M m x := by
  obtain ⟨⟨l1, f1, c0, c1, c2⟩, ⟨l2, f2, d0, d1, d2, d3, d4, d5⟩, ne, gb, Nb, B⟩ := h
  have hne := ne.symm
  refine ⟨⟨by simpa using l1, fun j => by simpa using f1 j, ?_, ?_, ?_⟩, ⟨by simpa using l2, fun j => by simpa using f2 j, ?_, ?_, ?_, ?_, ?_, ?_⟩, ne, gb, Nb, B.setCell Nb _⟩ <;> go_simp
theorem At.set_u {W w : World} {g N : Nat} {a b c u v o : ByteArray} {M m t : Int} (h : At W w g N a b c u v o M m t) (x : ByteArray) : At W (w.setCell ⟨N, 3, none⟩ (.string x)) g N a b c x v o M m t := by
  obtain ⟨⟨l1, f1, c0, c1, c2⟩, ⟨l2, f2, d0, d1, d2, d3, d4, d5⟩, ne, gb, Nb, B⟩ := h
  have hne := ne.symm
  refine ⟨⟨by simpa using l1, fun j => by simpa using f1 j, ?_, ?_, ?_⟩, ⟨by simpa using l2, fun j => by simpa using f2 j, ?_, ?_, ?_, ?_, ?_, ?_⟩, ne, gb, Nb, B.setCell Nb _⟩ <;> go_simp
theorem At.set_v {W w : World} {g N : Nat} {a b c u v o : ByteArray} {M m t : Int} (h : At W w g N a b c u v o M m t) (x : ByteArray) : At W (w.setCell ⟨N, 4, none⟩ (.string x)) g N a b c u x o M m t := by
  obtain ⟨⟨l1, f1, c0, c1, c2⟩, ⟨l2, f2, d0, d1, d2, d3, d4, d5⟩, ne, gb, Nb, B⟩ := h
  have hne := ne.symm
  refine ⟨⟨by simpa using l1, fun j => by simpa using f1 j, ?_, ?_, ?_⟩, ⟨by simpa using l2, fun j => by simpa using f2 j, ?_, ?_, ?_, ?_, ?_, ?_⟩, ne, gb, Nb, B.setCell Nb _⟩ <;> go_simp
/-- What the strict reading of a text gives: its parts, or the kind of what is wrong. -/
inductive RR where
  | ok (P : Parts)
  | er (k : Nat)
def segK (l : List UInt8) : Nat := if l.all dig = true then (if zeroL l = true then 4 else 0) else 3
def numsR (a b c : List UInt8) (u v : List UInt8) : RR :=
  if (numR a).2 ≠ 0 then .er (numR a).2 else if (numR b).2 ≠ 0 then .er (numR b).2 else if (numR c).2 ≠ 0 then .er (numR c).2
  else .ok ⟨(numR a).1, (numR b).1, (numR c).1, u, v⟩
def segsR (a b c : List UInt8) (u v : List UInt8) : RR :=
  if segK a ≠ 0 then .er (segK a) else if segK b ≠ 0 then .er (segK b) else if segK c ≠ 0 then .er (segK c) else numsR a b c u v
def preR (a b c v : List UInt8) : RR :=
  if has 45 c = true ∧ firstK preK (bs (splitD (tail 45 c))) ≠ 0 then .er (firstK preK (bs (splitD (tail 45 c)))) else segsR a b (core 45 c) (tail 45 c) v
def metaR (a b c : List UInt8) : RR :=
  if has 43 c = true ∧ firstK metaK (bs (splitD (tail 43 c))) ≠ 0 then .er (firstK metaK (bs (splitD (tail 43 c)))) else preR a b (core 43 c) (tail 43 c)
def strictR (l : List UInt8) : RR :=
  if l = [] then .er 1 else if 256 < l.length then .er 2
  else match cut 46 l with
    | none => .er 7
    | some (p, r) => match cut 46 r with
      | none => .er 7
      | some (q, s) => metaR p q s
/-- What StrictNewVersion leaves. -/
def StrictPost (E : Nat → Addr) (W : World) (o : ByteArray) (r : RR) (e : Ending) (w' : World) : Prop :=
  Below W.heap.size W w' ∧ match r with
    | .ok P => ∃ N, e = .returned (.tuple #[.pointer (some ⟨N, 0, none⟩), .nilIface]) ∧ VO w' N P.M P.m P.t (B P.u) (B P.v) o
    | .er k => ∃ v, e = .returned (.tuple #[.pointer none, v]) ∧ EvK E w' k v
theorem strict_er {E : Nat → Addr} {W : World} {o : ByteArray} {k : Nat} (hk : k < 10) {e : Ending} {w' : World} (he : e = .returned (.tuple #[.pointer none, ev E k])) (hb : Below W.heap.size W w') : StrictPost E W o (.er k) e w' :=
  ⟨hb, _, he, Or.inl ⟨hk, rfl⟩⟩
set_option maxHeartbeats 1000000 in
theorem strict_empty (E : Nat → Addr) (o : ByteArray) (w : World) (hE : Ge E [0] w) (ho : o.size = 0) : Calls Tryd.prog 89 #[.string o] w (StrictPost E w o (.er 1)) := by
  have h0 := (hE 0 (by simp)).1
  have c1 : decide ((o.size : Int) = 0) = true := decide_eq_true (by omega)
  clear hE
  go_enter Tryd.func89, Tryd.ntmps89
  go_wp2
  go_region
  all_goals
    go_wp2
    go_ret2
    exact strict_er (by decide) rfl (below_drew1 (Below.refl _ _))
set_option maxHeartbeats 1000000 in
theorem strict_long (E : Nat → Addr) (o : ByteArray) (w : World) (hE : Ge E [1] w) (hm : o.size ≤ maxLen) (ho : 256 < o.size) : Calls Tryd.prog 89 #[.string o] w (StrictPost E w o (.er 2)) := by
  have h0 := (hE 1 (by simp)).1
  have c1 : decide ((o.size : Int) = 0) = false := decide_eq_false (by omega)
  have c2 : decide (256 < o.size) = true := decide_eq_true ho
  clear hE
  go_enter Tryd.func89, Tryd.ntmps89
  go_wp2
  go_region
  all_goals
    go_wp2
    go_ret2
    exact strict_er (by decide) rfl (below_drew1 (Below.refl _ _))
theorem contains_c (c0 : UInt8) (a : ByteArray) (ha : a.size < 4611686018427387900) (w : World) :
    Calls Tryd.prog 138 #[.string a, .string ⟨#[c0]⟩] w fun e w' => e = .returned (.bool (has c0 (tl a))) ∧ Below w.heap.size w w' :=
  (semver_zzContains.calls (a.size + 1) a ⟨#[c0]⟩ _ w (contains_f c0 a ha _ (Nat.lt_succ_self _))).mono fun e w' ⟨he, hd⟩ => ⟨he, hd.below⟩
theorem split2_c (c0 : UInt8) (a : ByteArray) (ha : a.size < 8796093022208) {p q : List UInt8} (hc : cut c0 (tl a) = some (p, q)) (w : World) :
    Calls Tryd.prog 137 #[.string a, .string ⟨#[c0]⟩, .int .i64 2] w fun e w' => (∃ g c, e = .returned (.slice (some ⟨g, 0, none⟩) 2 c) ∧ 2 ≤ c ∧ g < w'.heap.size ∧ w.heap.size ≤ g ∧ w'.cell? ⟨g, 0, none⟩ = some (.string (B p)) ∧ w'.cell? ⟨g, 1, none⟩ = some (.string (B q))) ∧ Below w.heap.size w w' := by
  refine (semver_zzSplitN.calls (a.size + 2) a ⟨#[c0]⟩ 2 _ w (split2 c0 a ha _ (by omega) hc)).mono ?_
  rintro e w' ⟨v, rfl, hR, hb⟩
  obtain ⟨g, c, rfl, hc, hg, hl, hf, hcell⟩ := R_row hR (by simp)
  exact ⟨⟨g, c, rfl, hc, hl, hg, hcell 0 (by simp), hcell 1 (by simp)⟩, hb⟩
theorem split3_c (a : ByteArray) (ha : a.size < 8796093022208) {p q r s : List UInt8} (hc : cut 46 (tl a) = some (p, r)) (hc2 : cut 46 r = some (q, s)) (w : World) :
    Calls Tryd.prog 137 #[.string a, .string ⟨#[46]⟩, .int .i64 3] w fun e w' => (∃ g c, e = .returned (.slice (some ⟨g, 0, none⟩) 3 c) ∧ 3 ≤ c ∧ w.heap.size ≤ g ∧ Row3 w' g (B p) (B q) (B s)) ∧ Below w.heap.size w w' := by
  refine (semver_zzSplitN.calls (a.size + 3) a ⟨#[46]⟩ 3 [B p, B q, B s] w (by rw [split3 a ha _ (by omega)]; unfold dots; rw [hc]; dsimp only; rw [hc2])).mono ?_
  rintro e w' ⟨v, rfl, hR, hb⟩
  obtain ⟨g, c, rfl, hc, hg, hl, hf, hcell⟩ := R_row hR (by simp)
  exact ⟨⟨g, c, rfl, hc, hg, hl, hf, hcell 0 (by simp), hcell 1 (by simp), hcell 2 (by simp)⟩, hb⟩
theorem split_few (a : ByteArray) (ha : a.size < 8796093022208) (hc : ∀ p r, cut 46 (tl a) = some (p, r) → cut 46 r = none) (w : World) :
    Calls Tryd.prog 137 #[.string a, .string ⟨#[46]⟩, .int .i64 3] w fun e w' => (∃ A n c, e = .returned (.slice A n c) ∧ n < 3) ∧ Below w.heap.size w w' := by
  have hd : (dots (tl a)).length < 3 := by
    unfold dots
    cases h : cut 46 (tl a) with
    | none => simp
    | some q => obtain ⟨p, r⟩ := q; dsimp only; rw [hc p r h]; simp
  refine (semver_zzSplitN.calls (a.size + 3) a ⟨#[46]⟩ 3 _ w (split3 a ha _ (by omega))).mono ?_
  rintro e w' ⟨v, rfl, hR, hb⟩
  obtain ⟨A, c, rfl⟩ := Kd.R_slice hR
  exact ⟨⟨A, _, c, rfl, hd⟩, hb⟩
set_option maxHeartbeats 1000000 in
theorem strict_few (E : Nat → Addr) (o : ByteArray) (w : World) (hE : Ge E [6] w) (h0 : o.size ≠ 0) (ho : o.size ≤ 256) (hc : ∀ p r, cut 46 (tl o) = some (p, r) → cut 46 r = none) : Calls Tryd.prog 89 #[.string o] w (StrictPost E w o (.er 7)) := by
  have c1 : decide ((o.size : Int) = 0) = false := decide_eq_false (by omega)
  have c2 : decide (256 < o.size) = false := decide_eq_false (by omega)
  have hE' := Aside0.mk hE
  clear hE
  go_enter Tryd.func89, Tryd.ntmps89
  go_wp2_with (first | (go_at_call 137; (with_reducible refine (split_few o (by omega) hc _).mono ?_); rintro e w1 ⟨⟨A, n, c, rfl, hn⟩, hb⟩; have h6 := ((hE'.out.below hb) 6 (by simp)).1; have c3 : ((n : Int) == 3) = false := by simpa using (by omega : ¬ (n : Int) = 3)))
  go_region
  all_goals
    go_wp2
    go_ret2
    exact strict_er (by decide) rfl (below_drew1 hb)
theorem has_some {c : UInt8} {l : List UInt8} (h : has c l = true) : cut c l = some (core c l, tail c l) := by
  unfold has at h
  unfold core tail
  cases e : cut c l with
  | none => rw [e] at h; cases h
  | some p => rfl
theorem has_none {c : UInt8} {l : List UInt8} (h : has c l = false) : core c l = l ∧ tail c l = [] := by
  unfold has at h
  unfold core tail
  cases e : cut c l with
  | none => exact ⟨rfl, rfl⟩
  | some p => rw [e] at h; cases h
theorem tail_le {c : UInt8} {l : List UInt8} : (tail c l).length ≤ l.length ∧ (core c l).length ≤ l.length := by
  cases h : has c l with
  | false => rw [(has_none h).1, (has_none h).2]; simp
  | true =>
    have := (cut_some (has_some h)).1
    have h2 : l.length = (core c l ++ c :: tail c l).length := congrArg List.length this
    simp at h2
    omega
theorem At.ge {E : Nat → Addr} {S : List Nat} {W w : World} {g N : Nat} {a b c u v o : ByteArray} {M m t : Int} (h : At W w g N a b c u v o M m t) (hE : Ge E S W) : Ge E S w := hE.below h.B
theorem split_len' (l : List UInt8) (n : Nat) (h : l.length < n) : (bs (splitD l)).length < n + 1 := by
  have : (splitD l).length = l.count 46 + 1 := split_len l
  have h2 : l.count 46 ≤ l.length := List.count_le_length
  simp only [bs, List.length_map]
  omega
theorem meta_c (E : Nat → Addr) (l : List UInt8) (hl : l.length < 300) (k : Nat) (hk : firstK metaK (bs (splitD l)) = k) (w : World) (hE : Ge E [5] w) :
    Calls Tryd.prog 139 #[.string (B l)] w fun e w' => e = .returned (ev E k) ∧ Below w.heap.size w w' := by
  rw [← hk]
  have := zzSplit_f (B l) ((B l).size + 2) (by omega) (by rw [B_size]; omega)
  rw [tl_B] at this
  exact validateMetadata.calls E (B l) _ _ w hE this (by have := split_len' l 300 hl; omega)
theorem pre_c (E : Nat → Addr) (l : List UInt8) (hl : l.length < 300) (k : Nat) (hk : firstK preK (bs (splitD l)) = k) (w : World) (hE : Ge E [3, 4] w) :
    Calls Tryd.prog 126 #[.string (B l)] w fun e w' => e = .returned (ev E k) ∧ Below w.heap.size w w' := by
  rw [← hk]
  have := zzSplit_f (B l) ((B l).size + 2) (by omega) (by rw [B_size]; omega)
  rw [tl_B] at this
  exact validatePrerelease.calls E (B l) _ _ w hE this (by have := split_len' l 300 hl; omega)
theorem metaK_le (x : ByteArray) : metaK x < 10 := by unfold metaK; split <;> (try split) <;> decide
theorem preK_le (x : ByteArray) : preK x < 10 := by
  unfold preK
  repeat' split
  all_goals decide
theorem firstK_le {f : ByteArray → Nat} (hf : ∀ x, f x < 10) (l : List ByteArray) : firstK f l < 10 := by
  induction l with
  | nil => exact Nat.zero_lt_succ _
  | cons x r ih => unfold firstK; split; exact ih; exact hf x
theorem PU_ok (E : Nat → Addr) (l : List UInt8) (hl : l.length < 300) (hk : (numR l).2 = 0) (w : World) (hE : Ge E [9, 10] w) :
    Calls Tryd.prog 141 #[.string (B l), .int .i64 10, .int .i64 64] w fun e w' => e = .returned (.tuple #[.int .u64 ((numR l).1 : Nat), .nilIface]) ∧ Below w.heap.size w w' := by
  refine (ParseUint_K E (B l) (by rw [B_size]; omega) w hE).mono ?_
  rintro e w' ⟨⟨v, rfl, hv⟩, hb⟩
  rw [tl_B] at hv ⊢
  rcases hv with ⟨_, rfl⟩ | ⟨h, _⟩
  · rw [hk]; exact ⟨rfl, hb⟩
  · omega
theorem PU_er (E : Nat → Addr) (l : List UInt8) (hl : l.length < 300) (hk : (numR l).2 ≠ 0) (w : World) (hE : Ge E [9, 10] w) :
    Calls Tryd.prog 141 #[.string (B l), .int .i64 10, .int .i64 64] w fun e w' => (∃ N : Nat, ∃ v : Int, e = .returned (.tuple #[.int .u64 v, .iface 173 (.pointer (some ⟨N, 0, none⟩))]) ∧ w.heap.size ≤ N ∧ EvK E w' (numR l).2 (.iface 173 (.pointer (some ⟨N, 0, none⟩)))) ∧ Below w.heap.size w w' := by
  have h9 := (hE 9 (by simp)).1
  have h10 := (hE 10 (by simp)).1
  have hs : (B l).size ≤ 281474976710656 := by rw [B_size]; omega
  unfold numR at hk ⊢
  have e0 : (B l).data.toList = l := tl_B l
  cases h : Lib.parseUintB 64 l
  case ok u => rw [h] at hk; exact absurd rfl hk
  case range =>
    refine (Tryd.strconv_ParseUint_10_at64_range (B l) hs (by rw [e0]; exact h) _ w h10 (Or.inr ⟨_, _, rfl⟩)).mono ?_
    rintro e w' ⟨N, rfl, hN0, hN, hb⟩
    exact ⟨⟨N, _, rfl, hN0, Or.inr ⟨by decide, N, _, _, rfl, hN⟩⟩, hb⟩
  · refine (Tryd.strconv_ParseUint_10_at64_syntax (B l) hs (by rw [e0]; exact h) _ w h9 (Or.inr ⟨_, _, rfl⟩)).mono ?_
    rintro e w' ⟨N, rfl, hN0, hN, hb⟩
    exact ⟨⟨N, _, rfl, hN0, Or.inr ⟨by decide, N, _, _, rfl, hN⟩⟩, hb⟩
theorem EvK.setCell {E : Nat → Addr} {w : World} {k : Nat} {N : Nat} (h : EvK E w k (.iface 173 (.pointer (some ⟨N, 0, none⟩)))) {p : Addr} (hp : p.block < N) (u : Value) : EvK E (w.setCell p u) k (.iface 173 (.pointer (some ⟨N, 0, none⟩))) := by
  rcases h with ⟨h1, h2⟩ | ⟨h1, N', a, b, h2, h3⟩
  · exact .inl ⟨h1, h2⟩
  · refine .inr ⟨h1, N', a, b, h2, ?_⟩
    injection h2 with _ h2
    injection h2 with h2
    injection h2 with h2
    injection h2 with h2
    subst h2
    rw [Below.heap_setCell w p u N (by omega)]
    exact h3
theorem segs_er (p q s u v : List UInt8) (i : Nat) (hi : i < 3) (hz : ∀ j, j < i → segK ([p, q, s].getD j []) = 0) (h : segK ([p, q, s].getD i []) ≠ 0) : segsR p q s u v = .er (segK ([p, q, s].getD i [])) := by
  unfold segsR
  rcases i with _ | _ | _ | i
  · exact if_pos (show segK p ≠ 0 from h)
  · have h0 : segK p = 0 := hz 0 (by decide)
    rw [if_neg (fun h' => h' h0)]
    exact if_pos (show segK q ≠ 0 from h)
  · have h0 : segK p = 0 := hz 0 (by decide)
    have h1 : segK q = 0 := hz 1 (by decide)
    rw [if_neg (fun h' => h' h0), if_neg (fun h' => h' h1)]
    exact if_pos (show segK s ≠ 0 from h)
  · omega
theorem segs_ok (p q s u v : List UInt8) (h0 : segK p = 0) (h1 : segK q = 0) (h2 : segK s = 0) : segsR p q s u v = numsR p q s u v := by
  unfold segsR
  rw [if_neg (fun h' => h' h0), if_neg (fun h' => h' h1), if_neg (fun h' => h' h2)]
set_option maxHeartbeats 4000000 in
set_option maxRecDepth 100000 in
theorem strict_three (E : Nat → Addr) (o : ByteArray) (w : World) (hE : Ge E [2, 3, 4, 5, 9, 10] w) (h0 : o.size ≠ 0) (ho : o.size ≤ 256) {p q r s : List UInt8} (hc : cut 46 (tl o) = some (p, r)) (hc2 : cut 46 r = some (q, s)) : Calls Tryd.prog 89 #[.string o] w (StrictPost E w o (metaR p q s)) := by
  have c1 : decide ((o.size : Int) = 0) = false := decide_eq_false (by omega)
  have c2 : decide (256 < o.size) = false := decide_eq_false (by omega)
  have hE' := Aside0.mk hE
  have hss : s.length < 300 := by
    have := (cut_some hc).1
    have h2 := (cut_some hc2).1
    rw [size_data, show o.data.toList = _ from this, h2] at ho
    simp at ho
    omega
  have hss2 := B_size s
  have hpl : p.length < 300 := by
    have := (cut_some hc).1
    rw [size_data, show o.data.toList = _ from this] at ho
    simp at ho
    omega
  have hql : q.length < 300 := by
    have := (cut_some hc).1
    have h2 := (cut_some hc2).1
    rw [size_data, show o.data.toList = _ from this, h2] at ho
    simp at ho
    omega
  clear hE
  obtain ⟨RV, hRV⟩ : ∃ RV, metaR p q s = RV := ⟨_, rfl⟩
  rw [hRV]
  replace hRV := Aside0.mk hRV
  go_enter Tryd.func89, Tryd.ntmps89
  go_upto_if 33 with (first | (go_at_call 137; (with_reducible refine (split3_c o (by omega) hc hc2 _).mono ?_); rintro e w1 ⟨⟨g, c, rfl, hc3, hgb, hR⟩, hb⟩; have hRl := hR.lt; have k2 := hR.cells.2.2) | (go_at_call 138; (with_reducible refine (contains_c 43 (B s) (by omega) _).mono ?_); rintro e w2 ⟨rfl, hb2⟩))
  have HA0 : At w (w1.alloc (.cells #[.int .u64 0, .int .u64 0, .int .u64 0, .string ⟨#[]⟩, .string ⟨#[]⟩, .string o] 97)) g w1.heap.size (B p) (B q) (B s) ⟨#[]⟩ ⟨#[]⟩ o 0 0 0 := by
    have hR' := hR.below ((Below.refl _ w1).alloc (Nat.le_refl _) (.cells #[.int .u64 0, .int .u64 0, .int .u64 0, .string ⟨#[]⟩, .string ⟨#[]⟩, .string o] 97))
    have hlast : (w1.alloc (.cells #[.int .u64 0, .int .u64 0, .int .u64 0, .string ⟨#[]⟩, .string ⟨#[]⟩, .string o] 97)).heap[w1.heap.size]? = some (.cells #[.int .u64 0, .int .u64 0, .int .u64 0, .string ⟨#[]⟩, .string ⟨#[]⟩, .string o] 97) := by
      show (w1.heap.push _)[w1.heap.size]? = _
      rw [Array.getElem?_push, if_pos rfl]
    refine ⟨hR', ⟨by simp, fun j => by simp only [World.frozen?, hlast]; simp, ?_⟩, by omega, hgb, hb.size, hb.alloc hb.size _⟩
    refine ⟨?_, ?_, ?_, ?_, ?_, ?_⟩ <;> go_simp
  have HA := Aside0.mk (HA0.below hb2)
  clear HA0 hb2 k2 hRl hR hb hgb
  generalize w1.heap.size = N at HA ⊢
  clear w1
  rw [tl_B]
  go_cut [] (fun wc => Aside0 (At w wc g N (B p) (B q) (B (core 43 s)) ⟨#[]⟩ (B (tail 43 s)) o 0 0 0) ∧ Aside0 (preR p q (core 43 s) (tail 43 s) = RV))
  case first =>
    cases hh : has 43 s with
    | false =>
      obtain ⟨x1, x2⟩ := has_none hh
      go_wp2
      go_meet
      case rel => exact ⟨⟨by rw [x1, x2]; exact HA.out⟩, ⟨by rw [← hRV.out]; unfold metaR; rw [hh]; rfl⟩⟩
    | true =>
      have hcut := Aside0.mk (show cut 43 (tl (B s)) = some (core 43 s, tail 43 s) by rw [tl_B]; exact has_some hh)
      have htl := Aside0.mk (show (tail 43 s).length < 300 by have := (@tail_le 43 s).1; omega)
      obtain ⟨k, hk⟩ : ∃ k, firstK metaK (bs (splitD (tail 43 s))) = k := ⟨_, rfl⟩
      have hkl := firstK_le metaK_le (bs (splitD (tail 43 s)))
      rw [hk] at hkl
      have X0 := fun w1 h => meta_c E (tail 43 s) htl.out k hk w1 h
      have hfin : metaR p q s = if k ≠ 0 then .er k else preR p q (core 43 s) (tail 43 s) := by
        unfold metaR
        rw [hk]
        by_cases h : k = 0
        · rw [if_neg (fun h' => h'.2 h), if_neg (fun h' => h' h)]
        · rw [if_pos ⟨hh, h⟩, if_pos h]
      rw [hRV.out] at hfin
      clear hk
      cases k with
      | zero =>
        rw [if_neg (by decide)] at hfin
        have hfin' := Aside0.mk hfin.symm
        clear hfin
        dsimp only [ev] at X0
        have X := Aside0.mk X0
        clear X0
        obtain ⟨⟨l1, f1, e0, e1, e2⟩, ⟨l2, f2, d0, d1, d2, d3, d4, d5⟩, ne, gb, Nb, BB⟩ := HA.out
        go_wp2_with fail
        refine (split2_c 43 (B s) (by omega) hcut.out _).mono ?_
        rintro e w3 ⟨⟨g2, c2, rfl, hc2, hg2, hgb2, q0, q1⟩, hb3⟩
        clear l1 f1 e0 e1 e2 l2 f2 d0 d1 d2 d3 d4 d5 gb Nb BB
        have HA3 := Aside0.mk (HA.out.below hb3)
        clear HA hb3
        obtain ⟨⟨l1, f1, e0, e1, e2⟩, ⟨l2, f2, d0, d1, d2, d3, d4, d5⟩, ne, gb, Nb, BB⟩ := HA3.out
        go_wp2_with fail
        have HA5 := Aside0.mk ((HA3.out.set_v (B (tail 43 s))).setRow (B (core 43 s)))
        clear l1 f1 e0 e1 e2 l2 f2 d0 d1 d2 d3 d4 d5 gb Nb BB HA3
        refine (X.out _ (Ge.sub (HA5.out.ge hE'.out) (by simp))).mono ?_
        rintro e w4 ⟨rfl, hb4⟩
        have HA := Aside0.mk (HA5.out.below hb4)
        clear HA5 hb4 q0 q1
        go_wp2_with fail
        go_meet
        case rel => exact ⟨HA, hfin'⟩
      | succ k =>
        rw [if_pos (Nat.succ_ne_zero k)] at hfin
        subst hfin
        have X := Aside0.mk X0
        clear X0
        obtain ⟨⟨l1, f1, e0, e1, e2⟩, ⟨l2, f2, d0, d1, d2, d3, d4, d5⟩, ne, gb, Nb, BB⟩ := HA.out
        go_wp2_with fail
        refine (split2_c 43 (B s) (by omega) hcut.out _).mono ?_
        rintro e w3 ⟨⟨g2, c2, rfl, hc2, hg2, hgb2, q0, q1⟩, hb3⟩
        clear l1 f1 e0 e1 e2 l2 f2 d0 d1 d2 d3 d4 d5 gb Nb BB
        have HA3 := Aside0.mk (HA.out.below hb3)
        clear HA hb3
        obtain ⟨⟨l1, f1, e0, e1, e2⟩, ⟨l2, f2, d0, d1, d2, d3, d4, d5⟩, ne, gb, Nb, BB⟩ := HA3.out
        go_wp2_with fail
        have HA5 := Aside0.mk ((HA3.out.set_v (B (tail 43 s))).setRow (B (core 43 s)))
        clear l1 f1 e0 e1 e2 l2 f2 d0 d1 d2 d3 d4 d5 gb Nb BB HA3
        refine (X.out _ (Ge.sub (HA5.out.ge hE'.out) (by simp))).mono ?_
        rintro e w4 ⟨rfl, hb4⟩
        have HA := Aside0.mk (HA5.out.below hb4)
        clear HA5 hb4 q0 q1
        rw [show ev E (k + 1) = .iface 176 (.pointer (some (E k))) from rfl]
        go_wp2_with fail
        go_ret2
        exact strict_er hkl rfl HA.out.B
  case rest =>
    obtain ⟨HA, hRV2⟩ := hcut
    clear hRV
    have hRV := hRV2
    clear hRV2
    have hs1 : (core 43 s).length < 300 := by have := (@tail_le 43 s).2; omega
    clear hc hc2 hss hss2
    generalize core 43 s = s1 at HA hRV hs1
    generalize tail 43 s = v1 at HA hRV
    have hss2 := B_size s1
    have k2 := HA.out.row.cells.2.2
    have k3 := HA.out.row.lt
    go_upto_if 60 with (first | (go_at_call 138; (with_reducible refine (contains_c 45 (B s1) (by omega) _).mono ?_); rintro e w2 ⟨rfl, hb2⟩))
    have HA1 := Aside0.mk (HA.out.below hb2)
    clear HA hb2 k2 k3
    have HA := HA1
    clear HA1
    rw [tl_B]
    go_cut [] (fun wc => Aside0 (At w wc g N (B p) (B q) (B (core 45 s1)) (B (tail 45 s1)) (B v1) o 0 0 0) ∧ Aside0 (segsR p q (core 45 s1) (tail 45 s1) v1 = RV))
    case first =>
      cases hh : has 45 s1 with
      | false =>
        obtain ⟨x1, x2⟩ := has_none hh
        go_wp2
        go_meet
        case rel => exact ⟨⟨by rw [x1, x2]; exact HA.out⟩, ⟨by rw [← hRV.out]; unfold preR; rw [hh]; rfl⟩⟩
      | true =>
        have hcut := Aside0.mk (show cut 45 (tl (B s1)) = some (core 45 s1, tail 45 s1) by rw [tl_B]; exact has_some hh)
        have htl := Aside0.mk (show (tail 45 s1).length < 300 by have := (@tail_le 45 s1).1; omega)
        obtain ⟨k, hk⟩ : ∃ k, firstK preK (bs (splitD (tail 45 s1))) = k := ⟨_, rfl⟩
        have hkl := firstK_le preK_le (bs (splitD (tail 45 s1)))
        rw [hk] at hkl
        have X0 := fun w1 h => pre_c E (tail 45 s1) htl.out k hk w1 h
        have hfin : preR p q s1 v1 = if k ≠ 0 then .er k else segsR p q (core 45 s1) (tail 45 s1) v1 := by
          unfold preR
          rw [hk]
          by_cases h : k = 0
          · rw [if_neg (fun h' => h'.2 h), if_neg (fun h' => h' h)]
          · rw [if_pos ⟨hh, h⟩, if_pos h]
        rw [hRV.out] at hfin
        clear hk
        cases k with
        | zero =>
          rw [if_neg (by decide)] at hfin
          have hfin' := Aside0.mk hfin.symm
          clear hfin
          dsimp only [ev] at X0
          have X := Aside0.mk X0
          clear X0
          obtain ⟨⟨l1, f1, e0, e1, e2⟩, ⟨l2, f2, d0, d1, d2, d3, d4, d5⟩, ne, gb, Nb, BB⟩ := HA.out
          go_wp2_with fail
          refine (split2_c 45 (B s1) (by omega) hcut.out _).mono ?_
          rintro e w3 ⟨⟨g2, c2, rfl, hc2, hg2, hgb2, q0, q1⟩, hb3⟩
          clear l1 f1 e0 e1 e2 l2 f2 d0 d1 d2 d3 d4 d5 gb Nb BB
          have HA3 := Aside0.mk (HA.out.below hb3)
          clear HA hb3
          obtain ⟨⟨l1, f1, e0, e1, e2⟩, ⟨l2, f2, d0, d1, d2, d3, d4, d5⟩, ne, gb, Nb, BB⟩ := HA3.out
          go_wp2_with fail
          have HA5 := Aside0.mk ((HA3.out.set_u (B (tail 45 s1))).setRow (B (core 45 s1)))
          clear l1 f1 e0 e1 e2 l2 f2 d0 d1 d2 d3 d4 d5 gb Nb BB HA3
          refine (X.out _ (Ge.sub (HA5.out.ge hE'.out) (by simp))).mono ?_
          rintro e w4 ⟨rfl, hb4⟩
          have HA := Aside0.mk (HA5.out.below hb4)
          clear HA5 hb4 q0 q1
          go_wp2_with fail
          go_meet
          case rel => exact ⟨HA, hfin'⟩
        | succ k =>
          rw [if_pos (Nat.succ_ne_zero k)] at hfin
          subst hfin
          have X := Aside0.mk X0
          clear X0
          obtain ⟨⟨l1, f1, e0, e1, e2⟩, ⟨l2, f2, d0, d1, d2, d3, d4, d5⟩, ne, gb, Nb, BB⟩ := HA.out
          go_wp2_with fail
          refine (split2_c 45 (B s1) (by omega) hcut.out _).mono ?_
          rintro e w3 ⟨⟨g2, c2, rfl, hc2, hg2, hgb2, q0, q1⟩, hb3⟩
          clear l1 f1 e0 e1 e2 l2 f2 d0 d1 d2 d3 d4 d5 gb Nb BB
          have HA3 := Aside0.mk (HA.out.below hb3)
          clear HA hb3
          obtain ⟨⟨l1, f1, e0, e1, e2⟩, ⟨l2, f2, d0, d1, d2, d3, d4, d5⟩, ne, gb, Nb, BB⟩ := HA3.out
          go_wp2_with fail
          have HA5 := Aside0.mk ((HA3.out.set_u (B (tail 45 s1))).setRow (B (core 45 s1)))
          clear l1 f1 e0 e1 e2 l2 f2 d0 d1 d2 d3 d4 d5 gb Nb BB HA3
          refine (X.out _ (Ge.sub (HA5.out.ge hE'.out) (by simp))).mono ?_
          rintro e w4 ⟨rfl, hb4⟩
          have HA := Aside0.mk (HA5.out.below hb4)
          clear HA5 hb4 q0 q1
          rw [show ev E (k + 1) = .iface 176 (.pointer (some (E k))) from rfl]
          go_wp2_with fail
          go_ret2
          exact strict_er hkl rfl HA.out.B
    case rest =>
      obtain ⟨HA, hRV2⟩ := hcut
      clear hRV
      have hRV := hRV2
      clear hRV2
      have hs2 : (core 45 s1).length < 300 := by have := (@tail_le 45 s1).2; omega
      clear hss2 hs1
      generalize core 45 s1 = s2 at HA hRV hs2
      generalize tail 45 s1 = u1 at HA hRV
      obtain ⟨xs, hxs⟩ : ∃ xs : List (List UInt8), xs = [p, q, s2] := ⟨_, rfl⟩
      have hlen : ∀ i, (B (xs.getD i [])).size < 300 := by
        intro i
        rw [B_size]
        subst hxs
        rcases i with _ | _ | _ | i
        · exact hpl
        · exact hql
        · exact hs2
        · simp
      have hlen' := Aside0.mk hlen
      have hxs' := Aside0.mk hxs
      have hl0 := Aside0.mk hpl
      have hl1 := Aside0.mk hql
      have hl2 := Aside0.mk hs2
      clear hlen hxs hpl hql hs2
      go_wp2_with fail
      go_loopg [86] 3 (fun gf v86 wr => ∃ i : Nat, v86 = .int .i64 i ∧ Aside0 (i + gf = 3) ∧ Aside0 (∀ j, j < i → segK (xs.getD j []) = 0) ∧ Aside0 (At w wr g N (B p) (B q) (B s2) (B u1) (B v1) o 0 0 0))
      case atStart => exact ⟨0, rfl, ⟨rfl⟩, ⟨fun j hj => by omega⟩, HA⟩
      case round =>
        obtain ⟨i, rfl, hi, hz, HA⟩ := hrel
        by_cases hlt : i < 3
        · have hcell : wr.cell? ⟨g, i, none⟩ = some (.string (B (xs.getD i []))) := by
            obtain ⟨c0, c1, c2⟩ := HA.out.row.cells
            rw [hxs'.out]
            rcases i with _ | _ | _ | i
            · exact c0
            · exact c1
            · exact c2
            · omega
          have hgl := HA.out.row.lt
          have herr : segK (xs.getD i []) ≠ 0 → RV = .er (segK (xs.getD i [])) := fun h => by rw [← hRV.out]; rw [hxs'.out] at h ⊢; exact segs_er p q s2 u1 v1 i hlt (by have := hz.out; rw [hxs'.out] at this; exact this) h
          have hnext : segK (xs.getD i []) = 0 → ∀ j, j < i + 1 → segK (xs.getD j []) = 0 := fun h j hj => by
            rcases Nat.lt_or_ge j i with h' | h'
            · exact hz.out j h'
            · obtain rfl : j = i := by omega
              exact h
          have hsz := hlen'.out i
          have ON := Aside0.mk hnext
          have GO := Aside0.mk herr
          clear hnext herr
          have htl : tl (B (xs.getD i [])) = xs.getD i [] := tl_B _
          generalize xs.getD i [] = l at hcell ON GO hsz htl
          generalize B l = x at hcell hsz htl
          subst htl
          have XN := Aside0.mk (fun w1 => calls_nums x w1)
          have c0 : decide ((i : Int) < 3) = true := decide_eq_true (by omega)
          cases hn : (tl x).all dig with
          | false =>
            rw [hn] at XN
            have hR := GO.out (by unfold segK; rw [hn]; exact Nat.succ_ne_zero 2)
            rw [show segK (tl x) = 3 from by unfold segK; rw [hn]; rfl] at hR
            subst hR
            clear hn
            go_wp2_with (first | (go_at_call 140; (with_reducible refine (XN.out _).mono ?_); rintro e w9 ⟨rfl, hb⟩; have HA9 := Aside0.mk (HA.out.below hb); have h2 := ((HA9.out.ge hE'.out) 2 (by simp)).1))
            go_region
            all_goals
              go_wp2
              go_ret2
              exact strict_er (by decide) rfl (below_drew1 HA9.out.B)
          | true =>
            rw [hn] at XN
            have nextK : zeroL (tl x) = false → segK (tl x) = 0 := fun h => by unfold segK; rw [hn, h]; rfl
            by_cases c12 : 1 < x.size
            · have c12b0 : decide (1 < (x.size : Int)) = true := decide_eq_true (by omega)
              have c12b1 : decide (1 < x.size) = true := decide_eq_true c12
              have c13b0 : decide (0 < (x.size : Int)) = true := decide_eq_true (by omega)
              have c13b1 : decide (0 < x.size) = true := decide_eq_true (by omega)
              have zz := zero_bt x (by omega)
              have hz0 : 0 < x.size := by omega
              by_cases c15 : bt x 0 = 48
              · have zl : zeroL (tl x) = true := by unfold zeroL; rw [← size_data, decide_eq_true c12, decide_eq_true (zz.1 c15)]; rfl
                have hk4 : segK (tl x) = 4 := by unfold segK; rw [hn, zl]; rfl
                have hR := GO.out (by rw [hk4]; decide)
                rw [hk4] at hR
                subst hR
                have c15b0 : (((x[0]'hz0).toNat : Int) == 48) = true := by rw [beq_iff_eq, ← c15]; exact bt_at x 0 hz0
                clear c15 zz c12 hn nextK zl hk4
                go_wp2_with (first | (go_at_call 140; (with_reducible refine (XN.out _).mono ?_); rintro e w9 ⟨rfl, hb⟩; have HA9 := Aside0.mk (HA.out.below hb); have h3 := ((HA9.out.ge hE'.out) 3 (by simp)).1))
                go_region
                all_goals
                  go_wp2
                  go_ret2
                  exact strict_er (by decide) rfl (below_drew1 HA9.out.B)
              · have zl := nextK (by unfold zeroL; rw [decide_eq_false (fun h => c15 (zz.2 h)), Bool.and_false])
                have hz2 := Aside0.mk (ON.out zl)
                have c15b0 : (((x[0]'hz0).toNat : Int) == 48) = false := by rw [beq_eq_false_iff_ne]; intro h9; exact c15 ((bt_at x 0 hz0).symm.trans h9)
                clear c15 zz c12 hn nextK zl
                go_wp2_with (first | (go_at_call 140; (with_reducible refine (XN.out _).mono ?_); rintro e w9 ⟨rfl, hb⟩; have HA9 := Aside0.mk (HA.out.below hb)))
                go_roundg (gk - 1)
                case measure => have := hi.out; omega
                case rel => exact ⟨i + 1, by go_num, ⟨by have := hi.out; omega⟩, hz2, HA9⟩
            · have zl := nextK (by unfold zeroL; rw [← size_data, decide_eq_false c12, Bool.false_and])
              have hz2 := Aside0.mk (ON.out zl)
              have c12b0 : decide (1 < (x.size : Int)) = false := decide_eq_false (by omega)
              have c12b1 : decide (1 < x.size) = false := decide_eq_false c12
              clear c12 hn nextK zl
              go_wp2_with (first | (go_at_call 140; (with_reducible refine (XN.out _).mono ?_); rintro e w9 ⟨rfl, hb⟩; have HA9 := Aside0.mk (HA.out.below hb)))
              go_roundg (gk - 1)
              case measure => have := hi.out; omega
              case rel => exact ⟨i + 1, by go_num, ⟨by have := hi.out; omega⟩, hz2, HA9⟩
        · obtain rfl : i = 3 := by have := hi.out; omega
          have hRV2 : numsR p q s2 u1 v1 = RV := by
            rw [← hRV.out]
            have := hz.out
            rw [hxs'.out] at this
            exact (segs_ok p q s2 u1 v1 (this 0 (by decide)) (this 1 (by decide)) (this 2 (by decide))).symm
          clear hRV hz hi hlen' hxs' hlt
          have hRV := Aside0.mk hRV2
          clear hRV2
          unfold numsR at hRV
          by_cases hk : (numR p).2 = 0
          · have hRV3 := hRV.out
            rw [if_neg (fun h => h hk)] at hRV3
            replace hRV := Aside0.mk hRV3
            clear hRV3
            have X := Aside0.mk (fun w1 h => PU_ok E p hl0.out hk w1 h)
            clear hk
            obtain ⟨⟨l1, f1, e0, e1, e2⟩, ⟨l2, f2, d0, d1, d2, d3, d4, d5⟩, ne, gb, Nb, BB⟩ := HA.out
            go_wp2_with (first | (go_at_call 141; (with_reducible refine (X.out _ (Ge.sub (HA.out.ge hE'.out) (by simp))).mono ?_); rintro e w5 ⟨rfl, hb⟩; clear l1 f1 e0 e1 e2 l2 f2 d0 d1 d2 d3 d4 d5 gb Nb BB; have HA9 := Aside0.mk (HA.out.below hb); clear HA hb; obtain ⟨⟨l1, f1, e0, e1, e2⟩, ⟨l2, f2, d0, d1, d2, d3, d4, d5⟩, ne, gb, Nb, BB⟩ := HA9.out))
            have HA := Aside0.mk (HA9.out.set_M ((numR p).1 : Nat))
            clear l1 f1 e0 e1 e2 l2 f2 d0 d1 d2 d3 d4 d5 gb Nb BB HA9 X
            by_cases hk : (numR q).2 = 0
            · have hRV3 := hRV.out
              rw [if_neg (fun h => h hk)] at hRV3
              replace hRV := Aside0.mk hRV3
              clear hRV3
              have X := Aside0.mk (fun w1 h => PU_ok E q hl1.out hk w1 h)
              clear hk
              obtain ⟨⟨l1, f1, e0, e1, e2⟩, ⟨l2, f2, d0, d1, d2, d3, d4, d5⟩, ne, gb, Nb, BB⟩ := HA.out
              go_wp2_with (first | (go_at_call 141; (with_reducible refine (X.out _ (Ge.sub (HA.out.ge hE'.out) (by simp))).mono ?_); rintro e w5 ⟨rfl, hb⟩; clear l1 f1 e0 e1 e2 l2 f2 d0 d1 d2 d3 d4 d5 gb Nb BB; have HA9 := Aside0.mk (HA.out.below hb); clear HA hb; obtain ⟨⟨l1, f1, e0, e1, e2⟩, ⟨l2, f2, d0, d1, d2, d3, d4, d5⟩, ne, gb, Nb, BB⟩ := HA9.out))
              have HA := Aside0.mk (HA9.out.set_m ((numR q).1 : Nat))
              clear l1 f1 e0 e1 e2 l2 f2 d0 d1 d2 d3 d4 d5 gb Nb BB HA9 X
              by_cases hk : (numR s2).2 = 0
              · have hRV3 := hRV.out
                rw [if_neg (fun h => h hk)] at hRV3
                replace hRV := Aside0.mk hRV3
                clear hRV3
                have X := Aside0.mk (fun w1 h => PU_ok E s2 hl2.out hk w1 h)
                clear hk
                obtain ⟨⟨l1, f1, e0, e1, e2⟩, ⟨l2, f2, d0, d1, d2, d3, d4, d5⟩, ne, gb, Nb, BB⟩ := HA.out
                go_wp2_with (first | (go_at_call 141; (with_reducible refine (X.out _ (Ge.sub (HA.out.ge hE'.out) (by simp))).mono ?_); rintro e w5 ⟨rfl, hb⟩; clear l1 f1 e0 e1 e2 l2 f2 d0 d1 d2 d3 d4 d5 gb Nb BB; have HA9 := Aside0.mk (HA.out.below hb); clear HA hb; obtain ⟨⟨l1, f1, e0, e1, e2⟩, ⟨l2, f2, d0, d1, d2, d3, d4, d5⟩, ne, gb, Nb, BB⟩ := HA9.out))
                have HA := Aside0.mk (HA9.out.set_t ((numR s2).1 : Nat))
                clear l1 f1 e0 e1 e2 l2 f2 d0 d1 d2 d3 d4 d5 gb Nb BB HA9 X
                go_ret2
                have hR := hRV.out
                subst hR
                exact ⟨HA.out.B, N, rfl, HA.out.ver⟩
              · have hRV3 := hRV.out
                rw [if_pos hk] at hRV3
                subst hRV3
                have X := Aside0.mk (fun w1 h => PU_er E s2 hl2.out hk w1 h)
                clear hk
                obtain ⟨⟨l1, f1, e0, e1, e2⟩, ⟨l2, f2, d0, d1, d2, d3, d4, d5⟩, ne, gb, Nb, BB⟩ := HA.out
                go_wp2_with (first | (go_at_call 141; (with_reducible refine (X.out _ (Ge.sub (HA.out.ge hE'.out) (by simp))).mono ?_); rintro e w5 ⟨⟨N5, v5, rfl, hv5, hE5⟩, hb⟩; have hv6 := Nat.lt_of_lt_of_le HA.out.ver.lt hv5; clear l1 f1 e0 e1 e2 l2 f2 d0 d1 d2 d3 d4 d5 gb Nb BB; have HA9 := Aside0.mk (HA.out.below hb); clear HA hb; obtain ⟨⟨l1, f1, e0, e1, e2⟩, ⟨l2, f2, d0, d1, d2, d3, d4, d5⟩, ne, gb, Nb, BB⟩ := HA9.out))
                go_ret2
                have HA := HA9.out.set_t v5
                exact ⟨HA.B, _, rfl, hE5.setCell hv6 _⟩
            · have hRV3 := hRV.out
              rw [if_pos hk] at hRV3
              subst hRV3
              have X := Aside0.mk (fun w1 h => PU_er E q hl1.out hk w1 h)
              clear hk
              obtain ⟨⟨l1, f1, e0, e1, e2⟩, ⟨l2, f2, d0, d1, d2, d3, d4, d5⟩, ne, gb, Nb, BB⟩ := HA.out
              go_wp2_with (first | (go_at_call 141; (with_reducible refine (X.out _ (Ge.sub (HA.out.ge hE'.out) (by simp))).mono ?_); rintro e w5 ⟨⟨N5, v5, rfl, hv5, hE5⟩, hb⟩; have hv6 := Nat.lt_of_lt_of_le HA.out.ver.lt hv5; clear l1 f1 e0 e1 e2 l2 f2 d0 d1 d2 d3 d4 d5 gb Nb BB; have HA9 := Aside0.mk (HA.out.below hb); clear HA hb; obtain ⟨⟨l1, f1, e0, e1, e2⟩, ⟨l2, f2, d0, d1, d2, d3, d4, d5⟩, ne, gb, Nb, BB⟩ := HA9.out))
              go_ret2
              have HA := HA9.out.set_m v5
              exact ⟨HA.B, _, rfl, hE5.setCell hv6 _⟩
          · have hRV3 := hRV.out
            rw [if_pos hk] at hRV3
            subst hRV3
            have X := Aside0.mk (fun w1 h => PU_er E p hl0.out hk w1 h)
            clear hk
            obtain ⟨⟨l1, f1, e0, e1, e2⟩, ⟨l2, f2, d0, d1, d2, d3, d4, d5⟩, ne, gb, Nb, BB⟩ := HA.out
            go_wp2_with (first | (go_at_call 141; (with_reducible refine (X.out _ (Ge.sub (HA.out.ge hE'.out) (by simp))).mono ?_); rintro e w5 ⟨⟨N5, v5, rfl, hv5, hE5⟩, hb⟩; have hv6 := Nat.lt_of_lt_of_le HA.out.ver.lt hv5; clear l1 f1 e0 e1 e2 l2 f2 d0 d1 d2 d3 d4 d5 gb Nb BB; have HA9 := Aside0.mk (HA.out.below hb); clear HA hb; obtain ⟨⟨l1, f1, e0, e1, e2⟩, ⟨l2, f2, d0, d1, d2, d3, d4, d5⟩, ne, gb, Nb, BB⟩ := HA9.out))
            go_ret2
            have HA := HA9.out.set_M v5
            exact ⟨HA.B, _, rfl, hE5.setCell hv6 _⟩
end Go.Proofs.YtalpehfjjidfhaaDoor.MS
