import PyProof.Rows.All
import Wide.All
import OpenK.AllK
import Wide.FinOn
import PySem.Challenge.RW_oc0166_01
set_option Elab.async false

/-! part Top -/
section
open PySem PySem.W PyProof.Rows
set_option maxRecDepth 100000
set_option maxHeartbeats 8000000
namespace Mine
open_top hd for PySem.Challenge.rw_oc0166_01
end Mine
end

/-! part Ar -/
section
namespace Mine
theorem ar1 {N n : Nat} (h : n ≤ N) (h0 : ¬ n = 0) : N - (n - 1) = N - n + 1 := by
  cases n with
  | zero => exact absurd rfl h0
  | succ k => show N - k = N - (k + 1) + 1; rw [Nat.sub_add_eq, Nat.sub_add_cancel (Nat.sub_pos_of_lt h)]
theorem ar2 {N n : Nat} (h : n ≤ N) (h0 : ¬ n = 0) : N - n + 1 = N - (n - 1) := (ar1 h h0).symm
theorem ar3 {n : Nat} (h0 : ¬ n = 0) : n - 1 < n := Nat.sub_lt (Nat.pos_of_ne_zero h0) Nat.one_pos
theorem ar4 {N n : Nat} (h : n ≤ N) : n - 1 ≤ N := Nat.le_trans (Nat.sub_le _ _) h
theorem ar5 {N n : Nat} (h : n ≤ N) (h0 : ¬ n = 0) : N - n < N := Nat.sub_lt (Nat.lt_of_lt_of_le (Nat.pos_of_ne_zero h0) h) (Nat.pos_of_ne_zero h0)
theorem ar6 {N : Nat} : N ≤ N - 0 := Nat.le_refl _
theorem ar6b {N M : Nat} (h : N = M) : N ≤ M - 0 := Nat.le_of_eq h
theorem ar8 {x y c d : Nat} (h1 : x = y) (h2 : y ≤ c) (hc : c ≤ d) : x ≤ d := h1 ▸ Nat.le_trans h2 hc
theorem ar10 {x N n c d : Nat} (h1 : x = min (N - n) N) (h2 : N ≤ c) (hc : c ≤ d) : x ≤ d := h1 ▸ Nat.le_trans (Nat.min_le_right _ _) (Nat.le_trans h2 hc)
theorem ar10b {x N n c d : Nat} (h1 : x = N - n) (h2 : N ≤ c) (hc : c ≤ d) : x ≤ d := h1 ▸ Nat.le_trans (Nat.sub_le _ _) (Nat.le_trans h2 hc)
theorem ar11 {n i N : Nat} (h : n + i = N) (h0 : i < N) : n - 1 + (i + 1) = N := by
  cases n with
  | zero => rw [Nat.zero_add] at h; exact absurd (h ▸ h0) (Nat.lt_irrefl _)
  | succ k => rw [← h]; show k + (i + 1) = k + 1 + i; rw [Nat.add_right_comm]; rfl
theorem ar3c {n i N : Nat} (h : n + i = N) (h0 : i < N) : n - 1 < n := ar3 fun e => by rw [e, Nat.zero_add] at h; exact Nat.lt_irrefl _ (h ▸ h0)
theorem ar14 {x y z c d : Nat} (h1 : x = y) (h2 : y ≤ z) (h3 : z ≤ c) (hc : c ≤ d) : x ≤ d := h1 ▸ Nat.le_trans h2 (Nat.le_trans h3 hc)
theorem ar15 {x y c d : Nat} (h1 : x ≤ y) (h2 : y ≤ c) (hc : c ≤ d) : x ≤ d := Nat.le_trans h1 (Nat.le_trans h2 hc)
theorem ar16 {x c d : Nat} (h : x ≤ c) (hc : c < d) : x < d := Nat.lt_of_le_of_lt h hc
theorem ar17 {k N n : Nat} (h : n ≤ N) (h1 : k = N - n) (h0 : ¬ n = 0) : k + 1 = N - (n - 1) := h1 ▸ ar2 h h0
theorem ar18 {i N : Nat} (h : ¬ i < N) : N ≤ i := Nat.le_of_not_lt h
theorem ar18b {i N M : Nat} (h : M = N) (h1 : ¬ i < N) : M ≤ i := h ▸ Nat.le_of_not_lt h1
theorem ar19 {x y N c d : Nat} (h : x + y ≤ N) (h1 : N ≤ c) (hc : c ≤ d) : x ≤ d := Nat.le_trans (Nat.le_trans (Nat.le_add_right _ _) h) (Nat.le_trans h1 hc)
theorem ar21 {x y z u c d : Nat} (h1 : x = min y z) (h2 : z ≤ u) (h3 : u ≤ c) (hc : c ≤ d) : x ≤ d := h1 ▸ Nat.le_trans (Nat.min_le_right _ _) (Nat.le_trans h2 (Nat.le_trans h3 hc))
theorem ar23 {x z y c d : Nat} (h1 : x = z) (h2 : y + z < c) (hc : c ≤ d) : x ≤ d := h1 ▸ Nat.le_trans (Nat.le_trans (Nat.le_add_left _ _) (Nat.le_of_lt h2)) hc
theorem ar12 {k : Nat} : (0 : Int) ≤ (k : Int) := Int.natCast_nonneg k
theorem arX {s p : Nat} (h : p < s) : s - p = s - (p + 1) + 1 := by rw [Nat.sub_add_eq, Nat.sub_add_cancel (Nat.sub_pos_of_lt h)]
theorem arA {N U s p R : Nat} (h : p < s) (h1 : N = U + (s - p + R)) : N - 1 = U + (s - (p + 1) + R) := by rw [h1, arX h, Nat.add_right_comm]; rfl
theorem arB {N U s p R : Nat} (h : p < s) (h1 : N = U + (s - p + R)) : N - 1 < N := by rw [h1, arX h, Nat.add_right_comm]; exact Nat.lt_succ_self _
theorem arC {N U s p R : Nat} (h : s ≤ p) (h1 : N = U + (s - p + R)) : N = U + R := by rw [h1, Nat.sub_eq_zero_of_le h, Nat.zero_add]
theorem arD {P o r : Nat} (h : o + r ≤ P) (h0 : 0 < r) : P - (o + r) < P - o := Nat.sub_lt_sub_left (Nat.lt_of_lt_of_le (Nat.lt_add_of_pos_right h0) h) (Nat.lt_add_of_pos_right h0)
theorem arE {a P n T S U X : Nat} (h : n ≤ P) (h0 : ¬ n = 0) (h1 : T ≤ S + 1 + (P - n)) (h2 : U = X) (h3 : X ≤ T + 1) (h4 : U = a) : a ≤ S + 1 + (P - (n - 1)) := by rw [ar1 h h0, ← h4, h2]; exact Nat.le_trans h3 (Nat.succ_le_succ h1)
theorem arF {a b : Int} {c : Prop} (h1 : 0 ≤ a ∧ a < 18) (h2 : 0 ≤ b ∧ b < 18) (h : a < b ∧ c) : 1000 - b.toNat < 1000 - a.toNat :=
  have e : a.toNat < b.toNat := (Int.toNat_lt_toNat (Int.lt_of_le_of_lt h1.1 h.1)).mpr h.1
  Nat.sub_lt_sub_left (Nat.lt_trans ((Int.toNat_lt h1.1).mpr h1.2) (by decide)) e
theorem arG {N n x : Nat} (h : x = min (N - n) N) : N - n = x := h ▸ (Nat.min_eq_left (Nat.sub_le N n)).symm
theorem arH {u x o r P c d : Nat} (h1 : u = o) (h2 : x = min (r - 0) r) (h3 : o + r ≤ P) (h4 : P ≤ c) (hc : c ≤ d) : u + x ≤ d := by rw [h1, h2]; exact Nat.le_trans (Nat.add_le_add_left (Nat.min_le_right _ _) _) (Nat.le_trans h3 (Nat.le_trans h4 hc))
theorem arI {i r P c : Nat} (h1 : r ≤ P) (h2 : P ≤ c) : min i r ≤ c := Nat.le_trans (Nat.min_le_right _ _) (Nat.le_trans h1 h2)
theorem arI2 {i N c : Nat} (h1 : N ≤ c) : min i N ≤ c := Nat.le_trans (Nat.min_le_right _ _) h1
theorem arJ {x y i N c d : Nat} (h1 : x = y) (h2 : y ≤ min i N) (h3 : N ≤ c) (hc : c ≤ d) : x ≤ d := h1 ▸ Nat.le_trans h2 (Nat.le_trans (Nat.min_le_right _ _) (Nat.le_trans h3 hc))
theorem arL {n i N x c d : Nat} (h : n + i = N) (h1 : N ≤ c) (h2 : x ≤ i) (hc : c ≤ d) : x ≤ d := Nat.le_trans h2 (Nat.le_trans (h ▸ Nat.le_add_left i n) (Nat.le_trans h1 hc))
theorem arL2 {n i N x y c d : Nat} (h : n + i = N) (h1 : N ≤ c) (h2 : x = y) (h3 : y ≤ i) (hc : c ≤ d) : x ≤ d := h2 ▸ arL h h1 h3 hc
theorem arM {k x : Nat} (h : k = x + 1) : k - 1 = x := by rw [h]; rfl
theorem arM2 {k x : Nat} (h : k = x + 1) : k - 1 < k := by rw [h]; exact Nat.lt_succ_self _
theorem arK5 {d : Nat} (h : d < 64) : (d + 64) % 64 = d := by rw [Nat.add_mod_right]; exact Nat.mod_eq_of_lt h
theorem arK6 {d : Nat} (h : d < 64) : (d + 0) % 64 = d := Nat.mod_eq_of_lt h
theorem arK7 {d : Nat} (h : d < 64) : (d + 128 + 64) % 64 = d := by rw [Nat.add_mod_right]; show (d + 2 * 64) % 64 = d; rw [Nat.add_mul_mod_self_right]; exact Nat.mod_eq_of_lt h
theorem arK8 {d : Nat} (h : d < 64) : (d + 128 + 0) % 64 = d := by show (d + 2 * 64) % 64 = d; rw [Nat.add_mul_mod_self_right]; exact Nat.mod_eq_of_lt h
theorem arK1 {d : Nat} (h : d < 64) : (d + 64) / 64 % 2 = 1 := by rw [Nat.add_div_right _ (by decide), Nat.div_eq_of_lt h]
theorem arK2 {d : Nat} (h : d < 64) : (d + 0) / 64 % 2 = 0 := by rw [Nat.add_zero, Nat.div_eq_of_lt h]
theorem arK3 {d : Nat} (h : d < 64) : (d + 128 + 64) / 64 % 2 = 1 := by show (d + 3 * 64) / 64 % 2 = 1; rw [Nat.add_mul_div_right _ _ (by decide), Nat.div_eq_of_lt h]
theorem arK4 {d : Nat} (h : d < 64) : (d + 128 + 0) / 64 % 2 = 0 := by show (d + 2 * 64) / 64 % 2 = 0; rw [Nat.add_mul_div_right _ _ (by decide), Nat.div_eq_of_lt h]
theorem arP {d : Nat} (h : d < 64) : d + 128 + 0 < 256 := Nat.lt_trans (Nat.add_lt_add_right h 128) (by decide)
theorem arP2 {d : Nat} (h : d < 64) : d + 128 + 64 < 256 := Nat.add_lt_add_right (Nat.add_lt_add_right h 128) 64
theorem arP3 {d : Nat} (h : d < 64) : d + 0 < 256 := Nat.lt_trans h (by decide)
theorem arP4 {d : Nat} (h : d < 64) : d + 64 < 256 := Nat.lt_trans (Nat.add_lt_add_right h 64) (by decide)
theorem arQ {x y B a P S : Nat} (h1 : x = y) (h2 : y ≤ B + 0 + min a P) (h3 : B ≤ 1000) (h4 : S + P < 800) : x ≤ 16777216 := h1 ▸ Nat.le_trans h2 (Nat.le_trans (Nat.add_le_add h3 (Nat.le_trans (Nat.min_le_right _ _) (Nat.le_trans (Nat.le_add_left P S) (Nat.le_of_lt h4)))) (by decide))
theorem arR2 {x l i N : Nat} (h : x = l) (h1 : l ≤ i + 1) (h2 : i < N) (h3 : N ≤ 1000) : x ≤ 16777216 := h ▸ Nat.le_trans h1 (Nat.le_trans h2 (Nat.le_trans h3 (by decide)))
theorem arS {i N : Nat} (h : i < N) (h1 : N ≤ 1000) : (i : Int) < 2 ^ 63 := Int.lt_trans (Int.ofNat_lt.mpr (Nat.lt_of_lt_of_le h h1)) (by decide)
theorem arR {b l i N : Nat} (h : b < l) (h1 : l ≤ i + 1) (h2 : i < N) (h3 : N ≤ 1000) : (b : Int) < 2 ^ 63 := arS (Nat.lt_of_lt_of_le h (Nat.le_trans h1 h2)) h3
theorem arT {x p q r c d : Nat} (h : x = p + q + r) (h1 : p ≤ 24 * c) (h2 : 24 * c ≤ 24 * 18) (h3 : q ≤ 6 * d) (h4 : d ≤ 4) (h5 : r ≤ 6) : x ≤ 16777216 :=
  h ▸ Nat.le_trans (Nat.add_le_add (Nat.add_le_add (Nat.le_trans h1 h2) (Nat.le_trans h3 (Nat.mul_le_mul_left 6 h4))) h5) (by decide)
theorem arU {x y m l s : Nat} (h : x ≤ 0 + 400 * m) (h1 : s ≤ 400) (h2 : 400 * m ≤ 400 * 20) (hy : y = min l s) : x + y ≤ 1000000 :=
  hy ▸ Nat.le_trans (Nat.add_le_add (Nat.le_trans h (Nat.le_trans (Nat.le_of_eq (Nat.zero_add _)) h2)) (Nat.le_trans (Nat.min_le_right _ _) h1)) (by decide)
theorem len4 {α : Type} {l : List α} (h : l.length = 4) : ∃ a b c d, l = [a, b, c, d] := by
  match l, h with
  | [a, b, c, d], _ => exact ⟨a, b, c, d, rfl⟩
/-! the tactics of default arguments, each written once -/
def aT (xs : Array Lean.Syntax) : Lean.Syntax := .node .none `Lean.Parser.Tactic.tacticSeq #[.node .none `Lean.Parser.Tactic.tacticSeq1Indented #[.node .none `null xs]]
def aRfl : Lean.Syntax := aT #[.node .none `Lean.Parser.Tactic.tacticRfl #[.atom .none "rfl"]]
def aKer : Lean.Syntax := aT #[.node .none `tacticKernel_rfl #[.atom .none "kernel_rfl"]]
def aInt : Lean.Syntax := aT #[.node .none `Lean.Parser.Tactic.intros #[.atom .none "intros", .node .none `null #[]], .atom .none ";", .node .none `Lean.Parser.Tactic.tacticRfl #[.atom .none "rfl"]]
end Mine
end

/-! part Base -/
section
open PySem PySem.W PyProof.Rows PySem.Calls
set_option maxRecDepth 100000
namespace Mine

noncomputable abbrev Mp := Str → Option Value
noncomputable abbrev KK := Mine.hd.heap_39

/-- what stands at the law's start -/
structure Gr (w : World) (h₀ : Heap) : Prop where
  kin : (KK w.params).In h₀
  lim : h₀.NoLimit
  glob : ∃ mg, h₀.Ns mainGlobals mg
  boot : ∃ mb, h₀.Ns builtinsNs mb ∧ ∀ x : Str, x ≠ "__name__" → mb x = bootBuiltins x

/-- room on the stack -/
structure Rm (A : Around) (k : Nat) : Prop where
  handled : A.handled = none
  depth : A.depth + k ≤ 990
  units : A.units + 4 * k ≤ 9000

theorem Rm.deeper {A : Around} {k : Nat} (r : Rm A (k + 1)) (env : Env) : Rm (A.deeper env) k :=
  ⟨r.handled, by have := r.depth; show A.depth + 1 + k ≤ 990; omega, by have := r.units; show A.units + 3 + 4 * k ≤ 9000; omega⟩
theorem Rm.le {A : Around} {k j : Nat} (r : Rm A k) (h : j ≤ k) : Rm A j :=
  ⟨r.handled, by have := r.depth; omega, by have := r.units; omega⟩
theorem Rm.room {A : Around} {k : Nat} (r : Rm A k) : A.depth < recursionLimit := by have := r.depth; show A.depth < 1000; omega

/-- the state: old objects kept, frames' names, the ledger -/
structure At (h₀ : Heap) (s₀ : Shared) (frs : List (Addr × Mp)) (led : List (Addr × Obj)) (s : Shared) : Prop where
  gens : s.gens = s₀.gens
  os : s.os = s₀.os
  keep : ∀ b o, h₀.get? b = some o → s.heap.get? b = some o
  ns : ∀ f ∈ frs, s.heap.Ns f.1 f.2
  get : ∀ p ∈ led, s.heap.get? p.1 = some p.2
  nd : (frs.map (·.1) ++ led.map (·.1)).Nodup
  new : ∀ a ∈ frs.map (·.1) ++ led.map (·.1), h₀.get? a = none

/-- one place of the ledger turned -/
inductive Rep (D : Addr) (o o' : Obj) : List (Addr × Obj) → List (Addr × Obj) → Prop
  | head {r} : Rep D o o' ((D, o) :: r) ((D, o') :: r)
  | tail {p r r'} : Rep D o o' r r' → Rep D o o' (p :: r) (p :: r')
theorem Rep.left {D : Addr} {o o' : Obj} {a a' : List (Addr × Obj)} (x : Rep D o o' a a') (b : List (Addr × Obj)) : Rep D o o' (a ++ b) (a' ++ b) := by
  induction x with
  | head => exact .head
  | tail _ ih => exact .tail ih
theorem Rep.right {D : Addr} {o o' : Obj} {b b' : List (Addr × Obj)} (a : List (Addr × Obj)) (x : Rep D o o' b b') : Rep D o o' (a ++ b) (a ++ b') := by
  induction a with
  | nil => exact x
  | cons p a ih => exact .tail ih
theorem Rep.keys {D : Addr} {o o' : Obj} {a a' : List (Addr × Obj)} (x : Rep D o o' a a') : a'.map (·.1) = a.map (·.1) := by
  induction x with
  | head => rfl
  | tail _ ih => rw [List.map_cons, List.map_cons, ih]
theorem Rep.mem {D : Addr} {o o' : Obj} {a a' : List (Addr × Obj)} (x : Rep D o o' a a') : (D, o) ∈ a := by
  induction x with
  | head => exact .head _
  | tail _ ih => exact .tail _ ih
theorem Rep.old {D : Addr} {o o' : Obj} {a a' : List (Addr × Obj)} (x : Rep D o o' a a') (nd : (a.map (·.1)).Nodup) : ∀ p ∈ a', p = (D, o') ∨ (p ∈ a ∧ p.1 ≠ D) := by
  induction x with
  | @head r =>
    intro p hp
    rcases List.mem_cons.mp hp with rfl | hp
    · exact .inl rfl
    · refine .inr ⟨.tail _ hp, fun e => ?_⟩
      rw [List.map_cons, List.nodup_cons] at nd
      exact nd.1 (e ▸ List.mem_map_of_mem (f := (·.1)) hp)
  | @tail q r r' x ih =>
    intro p hp
    rw [List.map_cons, List.nodup_cons] at nd
    rcases List.mem_cons.mp hp with rfl | hp
    · refine .inr ⟨.head _, fun e => nd.1 ?_⟩
      rw [e]
      exact List.mem_map_of_mem (f := (·.1)) x.mem
    · rcases ih nd.2 p hp with e | ⟨h1, h2⟩
      · exact .inl e
      · exact .inr ⟨.tail _ h1, h2⟩

section
variable {h₀ : Heap} {s₀ s : Shared} {frs : List (Addr × Mp)} {led led' : List (Addr × Obj)}

theorem At.lt (h : At h₀ s₀ frs led s) {a : Addr} (ha : a ∈ frs.map (·.1) ++ led.map (·.1)) : a < s.heap.objs.size := by
  rcases List.mem_append.mp ha with ha | ha
  · obtain ⟨f, hf, rfl⟩ := List.mem_map.mp ha
    exact (h.ns f hf).lt
  · obtain ⟨p, hp, rfl⟩ := List.mem_map.mp ha
    exact Heap.lt_size (h.get p hp)
theorem At.old_lt (h : At h₀ s₀ frs led s) {a : Addr} {o : Obj} (e : h₀.get? a = some o) {b : Addr} (hb : b ∈ frs.map (·.1) ++ led.map (·.1)) : a ≠ b :=
  fun q => by subst q; rw [h.new _ hb] at e; cases e
theorem At.fresh (h : At h₀ s₀ frs led s) {a : Addr} (hn : s.heap.objs.size ≤ a) : h₀.get? a = none := by
  cases q : h₀.get? a with
  | none => rfl
  | some o => exact absurd (Nat.lt_of_lt_of_le (Heap.lt_size (h.keep _ _ q)) hn) (Nat.lt_irrefl _)
/-- toks do not matter -/
theorem At.toks (h : At h₀ s₀ frs led s) (t : Nat) : At h₀ s₀ frs led { s with toks := t } := ⟨h.gens, h.os, h.keep, h.ns, h.get, h.nd, h.new⟩
/-- whatever keeps all keeps this -/
theorem At.grow (h : At h₀ s₀ frs led s) {h' : Heap} {t : Nat} (k : ∀ b o, s.heap.get? b = some o → h'.get? b = some o) : At h₀ s₀ frs led { s with heap := h', toks := t } :=
  ⟨h.gens, h.os, fun b o e => k b o (h.keep b o e), fun f hf => (h.ns f hf).at' fun o e => k _ o e, fun p hp => k _ _ (h.get p hp), h.nd, h.new⟩
/-- a new object -/
theorem At.add (h : At h₀ s₀ frs led s) {h' : Heap} {t : Nat} {a : Addr} {o : Obj} (k : ∀ b o, s.heap.get? b = some o → h'.get? b = some o) (ha : h'.get? a = some o) (hn : s.heap.objs.size ≤ a) :
    At h₀ s₀ frs ((a, o) :: led) { s with heap := h', toks := t } := by
  refine ⟨h.gens, h.os, fun b o e => k b o (h.keep b o e), fun f hf => (h.ns f hf).at' fun o e => k _ o e, fun p hp => ?_, ?_, fun b hb => ?_⟩
  · rcases List.mem_cons.mp hp with rfl | hp
    · exact ha
    · exact k _ _ (h.get p hp)
  · have hx : a ∉ frs.map (·.1) ++ led.map (·.1) := fun q => Nat.lt_irrefl _ (Nat.lt_of_lt_of_le (h.lt q) hn)
    have := List.nodup_cons.mpr ⟨hx, h.nd⟩
    exact (List.perm_middle (a := a) (l₁ := frs.map (·.1)) (l₂ := led.map (·.1))).nodup_iff.mpr this
  · rcases List.mem_append.mp hb with hb | hb
    · exact h.new b (List.mem_append_left _ hb)
    · rcases List.mem_cons.mp hb with rfl | hb
      · exact h.fresh hn
      · exact h.new b (List.mem_append_right _ hb)
theorem At.push (h : At h₀ s₀ frs led s) (o : Obj) (hf : autoParam (o.isFreed = false) Mine.aRfl) (t : Nat) : At h₀ s₀ frs ((s.heap.objs.size, o) :: led) { s with heap := s.heap.push o, toks := t } :=
  h.add (fun _ _ e => Heap.get?_push_of_some _ e) (Heap.get?_push_size _ hf) (Nat.le_refl _)
/-- a new frame -/
theorem At.frame (h : At h₀ s₀ frs led s) {h' : Heap} {t : Nat} {a : Addr} {m : Mp} (k : ∀ b o, s.heap.get? b = some o → h'.get? b = some o) (ha : h'.Ns a m) (hn : s.heap.objs.size ≤ a) :
    At h₀ s₀ ((a, m) :: frs) led { s with heap := h', toks := t } := by
  refine ⟨h.gens, h.os, fun b o e => k b o (h.keep b o e), fun f hf => ?_, fun p hp => k _ _ (h.get p hp), ?_, fun b hb => ?_⟩
  · rcases List.mem_cons.mp hf with rfl | hf
    · exact ha
    · exact (h.ns f hf).at' fun o e => k _ o e
  · have hx : a ∉ frs.map (·.1) ++ led.map (·.1) := fun q => Nat.lt_irrefl _ (Nat.lt_of_lt_of_le (h.lt q) hn)
    exact List.nodup_cons.mpr ⟨hx, h.nd⟩
  · rcases List.mem_cons.mp hb with rfl | hb
    · exact h.fresh hn
    · exact h.new b hb
/-- the frame's end -/
theorem At.pop {f : Addr × Mp} (h : At h₀ s₀ (f :: frs) led s) : At h₀ s₀ frs led s :=
  ⟨h.gens, h.os, h.keep, fun g hg => h.ns g (.tail _ hg), h.get, (List.nodup_cons.mp h.nd).2, fun a ha => h.new a (.tail _ ha)⟩
/-- names of the frame at hand turned -/
theorem At.set {L : Addr} {m m' : Mp} (h : At h₀ s₀ ((L, m) :: frs) led s) {h' : Heap} {t : Nat} (hn : h'.Ns L m') (hs : Heap.SameBut L s.heap h') : At h₀ s₀ ((L, m') :: frs) led { s with heap := h', toks := t } := by
  have hL := (List.nodup_cons.mp h.nd).1
  have ne : ∀ {a : Addr}, a ∈ frs.map (·.1) ++ led.map (·.1) → a ≠ L := fun ha e => hL (e ▸ ha)
  refine ⟨h.gens, h.os, fun b o e => (hs.2 b (h.old_lt e (.head _))).trans (h.keep b o e), fun f hf => ?_, fun p hp => ?_, h.nd, h.new⟩
  · rcases List.mem_cons.mp hf with rfl | hf
    · exact hn
    · exact (h.ns f (.tail _ hf)).at' fun o e => (hs.2 _ (ne (List.mem_append_left _ (List.mem_map_of_mem hf)))).trans e
  · exact (hs.2 _ (ne (List.mem_append_right _ (List.mem_map_of_mem hp)))).trans (h.get p hp)
/-- an object of the ledger turned -/
theorem At.upd (h : At h₀ s₀ frs led s) {D : Addr} {o o' : Obj} {f : Obj → Obj} {t : Nat} (r : Rep D o o' led led') (e : f o = o') (hf : autoParam (o'.isFreed = false) Mine.aRfl) : At h₀ s₀ frs led' { s with heap := s.heap.update D f, toks := t } := by
  have hD : D ∈ led.map (·.1) := List.mem_map_of_mem (f := (·.1)) r.mem
  have hs : Heap.SameBut D s.heap (s.heap.update D f) := Heap.SameBut.update ..
  have nd := List.nodup_append.mp h.nd
  refine ⟨h.gens, h.os, fun b o e => (hs.2 b (h.old_lt e (List.mem_append_right _ hD))).trans (h.keep b o e), fun g hg => ?_, fun p hp => ?_, by rw [r.keys]; exact h.nd, by rw [r.keys]; exact h.new⟩
  · exact (h.ns g hg).at' fun o e => (hs.2 _ (nd.2.2 _ (List.mem_map_of_mem hg) _ hD)).trans e
  · rcases r.old nd.2.1 p hp with rfl | ⟨h1, h2⟩
    · show (s.heap.update D f).get? D = some o'
      have := Heap.get?_update_self f (h.get _ r.mem) (by rw [e]; exact hf)
      rw [this, e]
    · exact (hs.2 _ h2).trans (h.get p h1)
/-- the ledger's order, and what is dropped -/
theorem At.sub (h : At h₀ s₀ frs led s) (k : led'.Sublist led) : At h₀ s₀ frs led' s :=
  ⟨h.gens, h.os, h.keep, h.ns, fun p hp => h.get p (k.subset hp), h.nd.sublist ((List.Sublist.refl _).append (k.map _)), fun a ha => h.new a (((List.Sublist.refl (frs.map (·.1))).append (k.map (·.1))).subset ha)⟩
theorem At.drop (n : Nat) (h : At h₀ s₀ frs led s) : At h₀ s₀ frs (led.drop n) s := h.sub (List.drop_sublist n _)
theorem At.keep1 (n : Nat) {p : Addr × Obj} (h : At h₀ s₀ frs (p :: led) s) : At h₀ s₀ frs (p :: led.drop n) s := h.sub (List.Sublist.cons_cons _ (List.drop_sublist n _))
theorem At.perm (h : At h₀ s₀ frs led s) (k : led'.Perm led) : At h₀ s₀ frs led' s :=
  ⟨h.gens, h.os, h.keep, h.ns, fun p hp => h.get p (k.subset hp), ((List.Perm.refl _).append (k.map _)).nodup_iff.mpr h.nd, fun a ha => h.new a (((List.Perm.refl (frs.map (·.1))).append (k.map (·.1))).subset ha)⟩
end
end Mine
end

/-! part Rules -/
section
open PySem PySem.W PyProof.Rows PySem.Calls
set_option maxRecDepth 100000
set_option linter.unusedVariables false
namespace Mine

/-- wpAny, shut: what is whnf'd stops here -/
structure W (prog : Program) (w : World) (A : Around) {α : Type} (t : Sem α) (Q : α → Shared → Prop) (E : Value → Shared → Prop) (s : Shared) : Prop where
  w : wpAny (model prog w) A t Q E s
structure C (prog : Program) (w : World) (A : Around) (c : Code) (R : Result → Shared → Prop) (s : Shared) : Prop where
  c : codeAny (model prog w) A c R s
structure BT (fd : FuncData) (args : Args) (binds : List (Str × Value)) : Prop where
  b : ∀ s, BindsTo s fd args binds
theorem BT.of_eq {fd : FuncData} {args : Args} {binds : List (Str × Value)} (e : bindArgs fd args = pure binds) : BT fd args binds := ⟨fun _ => BindsTo.of_eq e⟩
noncomputable abbrev tupOf (its : Array Value) (n : Nat) : Obj := { cls := .type "tuple", data := .seq its n }

theorem iteT {c : Prop} [Decidable c] {a b : Prop} (hc : c) (h : a) : if c then a else b := by rw [if_pos hc]; exact h
theorem iteF {c : Prop} [Decidable c] {a b : Prop} (hc : ¬ c) (h : b) : if c then a else b := by rw [if_neg hc]; exact h
theorem ifF {b : Bool} {P R : Prop} (hb : b = false) (h : R) : if b = true then P else R := by subst hb; exact h
/-! what comes next, by name -/
/-- then f of it -/
noncomputable def kO (prog : Program) (w : World) (A : Around) (E : Value → Shared → Prop) {α β : Type} (f : α → Sem β) (Q : β → Shared → Prop) (a : α) (s : Shared) : Prop := W prog w A (f a) Q E s
/-- then r, then f of both -/
noncomputable def kR (prog : Program) (w : World) (A : Around) (E : Value → Shared → Prop) (env : Env) (r : Expr) {β : Type} (f : Value → Value → Sem β) (Q : β → Shared → Prop) (a : Value) (s : Shared) : Prop := W prog w A (eval r env) (kO prog w A E (f a) Q) E s
/-- then the rest of the block -/
noncomputable def kSeq (prog : Program) (w : World) (A : Around) (E : Value → Shared → Prop) (env : Env) (rest : List Stmt) (Q : Flow → Shared → Prop) (f : Flow) (s : Shared) : Prop := match f with | .next => W prog w A (execs rest env) Q E s | f => Q f s
noncomputable def kNx {α : Type} (Q : Flow → Shared → Prop) (_ : α) (s : Shared) : Prop := Q .next s
noncomputable def kC (Q : List Value → Shared → Prop) (v : Value) (vs : List Value) (s : Shared) : Prop := Q (v :: vs) s
noncomputable def kIt (prog : Program) (w : World) (A : Around) (E : Value → Shared → Prop) (env : Env) (pos : Pos) (rest : List Expr) (Q : List Value → Shared → Prop) (v : Value) (s : Shared) : Prop := W prog w A (spliced (backTo pos (starEach rest env))) (kC Q v) E s
noncomputable def kRes (Q : Value → Shared → Prop) (E : Value → Shared → Prop) (r : Result) (s' : Shared) : Prop := match r with | .ok (.ret v) => Q v s' | .ok _ => False | .error e => E e s'
noncomputable def kCall (prog : Program) (w : World) (A : Around) (E : Value → Shared → Prop) (h₀ : Heap) (f : Addr) (Q : Value → Shared → Prop) (vs : List Value) (s : Shared) : Prop := (∀ b o, h₀.get? b = some o → s.heap.get? b = some o) ∧ C prog w A (.call (.ref f) ⟨vs, []⟩) (kRes Q E) s
noncomputable def kFl (R : Result → Shared → Prop) (fl : Flow) (s' : Shared) : Prop := R (.ok (.ret (match fl with | .ret v => v | _ => .none))) s'
noncomputable def kRet (Q : Flow → Shared → Prop) (v : Value) (s : Shared) : Prop := Q (.ret v) s
/-- a smaller turn -/
inductive Less (I : Nat → Shared → Prop) (n : Nat) (s : Shared) : Prop
  | mk (m : Nat) (lt : m < n) (h : I m s) : Less I n s
noncomputable def kLoop (Q : Flow → Shared → Prop) (I : Nat → Shared → Prop) (n : Nat) (f : Flow) (s : Shared) : Prop := match f with | .next | .cont => Less I n s | .brk => Q .next s | .ret v => Q (.ret v) s
theorem less_ex {I : Nat → Shared → Prop} {n : Nat} {s : Shared} (h : Less I n s) : ∃ m, m < n ∧ I m s := by obtain ⟨m, a, b⟩ := h; exact ⟨m, a, b⟩
inductive LsK (Q : Value → Shared → Prop) (vs : List Value) (s : Shared) : Prop
  | mk (hz : vs.length ≤ sizeLine) (h₀ : Heap) (s₀ : Shared) (frs : List (Addr × Mp)) (led : List (Addr × Obj)) (h : At h₀ s₀ frs led s) (k : ∀ l s', At h₀ s₀ frs ((l, listOf vs.toArray 0) :: led) s' → Q (.ref l) s') : LsK Q vs s
inductive TpK (Q : Value → Shared → Prop) (vs : List Value) (s : Shared) : Prop
  | mk (hz : vs.length ≤ sizeLine) (h₀ : Heap) (s₀ : Shared) (frs : List (Addr × Mp)) (led : List (Addr × Obj)) (h : At h₀ s₀ frs led s) (k : ∀ l s', At h₀ s₀ frs ((l, tupOf vs.toArray 0) :: led) s' → Q (.ref l) s') : TpK Q vs s
/-- a slice of the list at l, asked for in three parts -/
inductive SlK (Q : Value → Shared → Prop) (l : Addr) (vl vu vk : Value) (s : Shared) : Prop
  | mk (h₀ : Heap) (s₀ : Shared) (frs : List (Addr × Mp)) (led : List (Addr × Obj)) (vs : List Value) (n : Nat) (lo hi st : Option Int) (h : At h₀ s₀ frs led s) (hl : (l, listOf vs.toArray n) ∈ led) (hz : vs.length ≤ sizeLine) (pl : IsPart vl lo) (pu : IsPart vu hi) (pk : IsPart vk st) (h0 : st ≠ some 0)
      (k : ∀ d s', At h₀ s₀ frs ((d, listOf (slicePick vs.toArray lo hi st) 0) :: led) s' → Q (.ref d) s') : SlK Q l vl vu vk s
noncomputable def kP2 (prog : Program) (w : World) (A : Around) (E : Value → Shared → Prop) (env : Env) (step : Option Expr) (K : Value → Value → Value → Shared → Prop) (vl vu : Value) (s : Shared) : Prop := W prog w A (evalPart step env) (K vl vu) E s
noncomputable def kP1 (prog : Program) (w : World) (A : Around) (E : Value → Shared → Prop) (env : Env) (upper step : Option Expr) (K : Value → Value → Value → Shared → Prop) (vl : Value) (s : Shared) : Prop := W prog w A (evalPart upper env) (kP2 prog w A E env step K vl) E s

noncomputable def objAt (P : Params) (a : Addr) : Obj := ((KK P).lookup a).getD default
noncomputable def funcOf (o : Obj) : FuncData := match o.data with | .func fd => fd | _ => default
/-- the text's function at a -/
noncomputable def fdAt (P : Params) (a : Addr) : FuncData := funcOf (objAt P a)
noncomputable def stmtsOf (fd : FuncData) : List Stmt := match fd.body with | .stmts b => b | _ => []
noncomputable def envAt (P : Params) (f L : Addr) : Env := callEnv (fdAt P f) L f
structure Fn (w : World) (f : Addr) : Prop where
  hK : (KK w.params).lookup f = some { cls := .type "function", data := .func (fdAt w.params f) }
  hbody : (fdAt w.params f).body = .stmts (stmtsOf (fdAt w.params f))
  hcode : codeIn (KK w.params) (fdAt w.params f).code (fdAt w.params f).qualname = true
  hcell : ((fdAt w.params f).scope.names.all fun x => decide (x.2 ≠ .cell)) = true
  hco : (fdAt w.params f).scope.isCoroutine = false
  hgen : (fdAt w.params f).scope.isGenerator = false
  hk : (fdAt w.params f).scope.kind = .function

section
variable {prog : Program} {w : World} {A : Around} {E : Value → Shared → Prop} {s : Shared} {h₀ : Heap} {s₀ : Shared} {frs : List (Addr × Mp)} {led led' : List (Addr × Obj)} {env : Env} {L : Addr} {m : Mp}

theorem up {α : Type} {t : Sem α} {Q Q' : α → Shared → Prop} (h : W prog w A t Q E s) (k : ∀ a s, Q a s → Q' a s) : wpAny (model prog w) A t Q' E s := wpAny_mono h.w k fun _ _ e => e
theorem W.mono {α : Type} {t : Sem α} {Q Q' : α → Shared → Prop} (h : W prog w A t Q E s) (k : ∀ a s, Q a s → Q' a s) : W prog w A t Q' E s := ⟨up h k⟩
/-! statements -/
theorem xNil {Q : Flow → Shared → Prop} (h : Q .next s) : W prog w A (execs [] env) Q E s := ⟨wpAny_execs_nil h⟩
theorem xCons {st : Stmt} {rest : List Stmt} {Q : Flow → Shared → Prop} (h : W prog w A (exec st env) (kSeq prog w A E env rest Q) E s) : W prog w A (execs (st :: rest) env) Q E s :=
  ⟨wpAny_execs_cons (up h fun f s h => by cases f <;> first | exact h.w | exact h)⟩
theorem xRet {e : Expr} {pos : Pos} {Q : Flow → Shared → Prop} (h : W prog w A (eval e env) (kRet Q) E s) : W prog w A (exec (.Return (some e) pos) env) Q E s := ⟨wpAny_Return_some h.w⟩
theorem xIf {test : Expr} {body orelse : List Stmt} {pos : Pos} {Q : Flow → Shared → Prop} (h : W prog w A (isTrue test env (eval test env)) (fun b s₂ => if b then W prog w A (execs body env) Q E s₂ else W prog w A (execs orelse env) Q E s₂) E s) : W prog w A (exec (.If test body orelse pos) env) Q E s :=
  ⟨wpAny_If (up h fun b s h => by cases b <;> exact h.w)⟩
theorem xAsg {x : Str} {pos' pos : Pos} {value : Expr} {Q : Flow → Shared → Prop} (h : W prog w A (eval value env) (kO prog w A E (storeName env x) (kNx Q)) E s) (hs : autoParam (swapsWith value (some (.Name x pos')) pos.line env = Pure.pure false) Mine.aRfl) : W prog w A (exec (.Assign [.Name x pos'] value pos) env) Q E s :=
  ⟨wpAny_Assign_Name (up h fun _ _ h => h.w) hs⟩
theorem xAug {x : Str} {pos' pos : Pos} {op : Operator} {value : Expr} {Q : Flow → Shared → Prop} (h : W prog w A (loadName env x) (kR prog w A E env value (inplaceOp op) (kO prog w A E (storeName env x) (kNx Q))) E s) : W prog w A (exec (.AugAssign (.Name x pos') op value pos) env) Q E s :=
  ⟨wpAny_AugAssign_Name (up h fun _ _ h => up h fun _ _ h => up h fun _ _ h => h.w)⟩
theorem xSwap {elts : List Expr} {k : Nat} {tpos pos : Pos} {value : Expr} (names : List Str) {Q : Flow → Shared → Prop} (h : W prog w A (eval value env) (fun v s₁ => W prog w A (unpackItems v names.length none) (fun items s₂ => W prog w A (assignInOrder (names.reverse.map fun n => bindName env n) items.reverse) (fun _ => Q .next) E s₂) E s₁) E s)
    (hs : autoParam (swapsWithSole [.Tuple elts k tpos] value pos.line env = Pure.pure false) Mine.aRfl) (hw : autoParam (swappedStores [.Tuple elts k tpos] value env = Pure.pure (some names)) Mine.aKer) : W prog w A (exec (.Assign [.Tuple elts k tpos] value pos) env) Q E s :=
  ⟨Assign_Tuple_swapped (up h fun _ _ h => up h fun _ _ h => h.w) hs hw⟩
theorem xWhile {test : Expr} {body orelse : List Stmt} {pos : Pos} {Q : Flow → Shared → Prop} (I : Nat → Shared → Prop)
    (turn : ∀ n s, I n s → W prog w A (isTrue test env (eval test env)) (fun b s₂ => if b then W prog w A (execs body env) (kLoop Q I n) (fun _ _ => False) s₂
      else W prog w A (execs orelse env) Q (fun _ _ => False) s₂) (fun _ _ => False) s) (n : Nat) (h : I n s) : W prog w A (exec (.While test body orelse pos) env) Q E s := by
  refine ⟨wpAny_While (codeAny_whileLoop I (fun n s hi => ?_) n h)⟩
  refine wpAny_mono (turn n s hi).w (fun b s₂ hb => ?_) fun _ _ e => e.elim
  cases b with
  | true => exact wpAny_mono (hb : W prog w A (execs body env) _ _ s₂).w (fun f s₃ hf => by cases f <;> first | exact hf | exact less_ex hf) fun _ _ e => e.elim
  | false => exact wpAny_mono (hb : W prog w A (execs orelse env) _ _ s₂).w (fun f s₃ hf => by cases f <;> exact hf) fun _ _ e => e.elim

/-! tests -/
theorem tCmp {l r : Expr} {op : CmpOp} {pos : Pos} {whole : Sem Value} {Q : Bool → Shared → Prop} (h : W prog w A (eval l env) (kR prog w A E env r (compareOp op) (kO prog w A E truthy Q)) E s)
    (hm : autoParam (behindInMarks op r = false) Mine.aRfl) : W prog w A (isTrue (.Compare l [op] [r] pos) env whole) Q E s := ⟨wpAny_isTrue_Compare1 (up h fun _ _ h => up h fun _ _ h => up h fun _ _ h => h.w) hm⟩
theorem tVal {e : Expr} {whole : Sem Value} {Q : Bool → Shared → Prop} (h : W prog w A whole (kO prog w A E truthy Q) E s) (he : autoParam (isTrue e env whole = (do let v ← whole; standAt e.pos; holding [v] (truthy v))) Mine.aRfl) : W prog w A (isTrue e env whole) Q E s := ⟨wpAny_isTrue_value (up h fun _ _ h => h.w) he⟩
theorem tBool {b : Bool} {Q : Bool → Shared → Prop} (h : Q b s) : W prog w A (truthy (.bool b)) Q E s := ⟨wpAny_truthy_bool h⟩
theorem tInt {a : Int} {t : Tok} {Q : Bool → Shared → Prop} (h : Q (a != 0) s) : W prog w A (truthy (.int a t)) Q E s := ⟨truthy_int h⟩

/-! expressions -/
theorem eBin {l r : Expr} {op : Operator} {pos : Pos} {Q : Value → Shared → Prop} (h : W prog w A (eval l env) (kR prog w A E env r (binaryOp op) Q) E s) : W prog w A (eval (.BinOp l op r pos) env) Q E s :=
  ⟨wpAny_BinOp (up h fun _ _ h => up h fun _ _ h => h.w)⟩
theorem eCmp {l r : Expr} {op : CmpOp} {pos : Pos} {Q : Value → Shared → Prop} (h : W prog w A (eval l env) (kR prog w A E env r (compareOp op) Q) E s) (hm : autoParam (behindInMarks op r = false) Mine.aRfl) : W prog w A (eval (.Compare l [op] [r] pos) env) Q E s :=
  ⟨wpAny_Compare1 (up h fun _ _ h => up h fun _ _ h => h.w) hm⟩
theorem eSub {value slice : Expr} {pos : Pos} {Q : Value → Shared → Prop} (h : W prog w A (eval value env) (kR prog w A E env slice (subscriptTail value slice) Q) E s) : W prog w A (eval (.Subscript value slice pos) env) Q E s :=
  ⟨Subscript_ (up h fun _ _ h => up h fun _ _ h => h.w)⟩
theorem eAnd {x y : Expr} {pos : Pos} {Q : Value → Shared → Prop} (h : W prog w A (eval x env) (fun v s₁ => W prog w A (truthy v) (fun t s₂ => if t then W prog w A (eval y env) Q E s₂ else Q v s₂) E s₁) E s) : W prog w A (eval (.BoolOp .And [x, y] pos) env) Q E s :=
  ⟨wpAny_And2 (up h fun _ _ h => up h fun t _ h => by cases t <;> first | exact h.w | exact h)⟩
theorem eOr {x y : Expr} {pos : Pos} {Q : Value → Shared → Prop} (h : W prog w A (eval x env) (fun v s₁ => W prog w A (truthy v) (fun t s₂ => if t then Q v s₂ else W prog w A (eval y env) Q E s₂) E s₁) E s) : W prog w A (eval (.BoolOp .Or [x, y] pos) env) Q E s :=
  ⟨wpAny_Or2 (up h fun _ _ h => up h fun t _ h => by cases t <;> first | exact h.w | exact h)⟩
theorem iNil {pos : Pos} {Q : List Value → Shared → Prop} (h : Q [] s) : W prog w A (spliced (backTo pos (starEach [] env))) Q E s := ⟨wpAny_items_nil h⟩
theorem iCons {pos : Pos} {e : Expr} {rest : List Expr} {Q : List Value → Shared → Prop} (h : W prog w A (eval e env) (kIt prog w A E env pos rest Q) E s) (he : autoParam (starEach (e :: rest) env = (false, eval e env) :: starEach rest env) Mine.aRfl) : W prog w A (spliced (backTo pos (starEach (e :: rest) env))) Q E s :=
  ⟨wpAny_items_cons (up h fun _ _ h => h.w) he⟩

/-! names -/
theorem ldL {x : Str} {pos : Pos} {v : Value} {Q : Value → Shared → Prop} (h : At h₀ s₀ ((L, m) :: frs) led s) (hv : m x = some v) (k : Q v s)
    (hL : autoParam (env.locals = L) Mine.aRfl) (hk : autoParam (env.scope.kind = .function) Mine.aRfl) (hl : autoParam (env.kindOf x = some .local) Mine.aRfl) (hd : autoParam ((x == ("__debug__" : Str)) = false) Mine.aRfl) :
    W prog w A (eval (.Name x pos) env) Q E s := by
  subst hL
  exact ⟨wpAny_Name (wpAny_loadName_local hk hl (h.ns _ (.head _)) hv k) hd⟩
theorem ldLn {x : Str} {v : Value} {Q : Value → Shared → Prop} (h : At h₀ s₀ ((L, m) :: frs) led s) (hv : m x = some v) (k : Q v s)
    (hL : autoParam (env.locals = L) Mine.aRfl) (hk : autoParam (env.scope.kind = .function) Mine.aRfl) (hl : autoParam (env.kindOf x = some .local) Mine.aRfl) :
    W prog w A (loadName env x) Q E s := by
  subst hL
  exact ⟨wpAny_loadName_local hk hl (h.ns _ (.head _)) hv k⟩
theorem stL {x : Str} {v : Value} {Q : Unit → Shared → Prop} (h : At h₀ s₀ ((L, m) :: frs) led s) (k : ∀ s', At h₀ s₀ ((L, fun y => if y = x then some v else m y) :: frs) led s' → Q () s')
    (hL : autoParam (env.locals = L) Mine.aRfl) (hl : autoParam (env.kindOf x = some .local) Mine.aRfl) (hp : autoParam ((env.scope.kind == .class || (env.scope.kind == .module && env.locals != env.globals)) = false) Mine.aRfl) :
    W prog w A (storeName env x v) Q E s := by
  subst hL
  exact ⟨wpAny_storeName_local hl (h.ns _ (.head _)) (fun h' hn hs => k _ (h.set hn hs)) hp⟩
theorem ldG (G : Gr w h₀) {x : Str} {pos : Pos} {v : Value} {Q : Value → Shared → Prop} (h : At h₀ s₀ frs led s) (e : nsIn (KK w.params) mainGlobals x = some (some v)) (k : Q v s)
    (hg : autoParam (env.globals = mainGlobals) Mine.aRfl) (hk : autoParam (env.scope.kind = .function) Mine.aRfl) (hl : autoParam (env.kindOf x = some .globalImplicit) Mine.aRfl) (hd : autoParam ((x == ("__debug__" : Str)) = false) Mine.aRfl) :
    W prog w A (eval (.Name x pos) env) Q E s := by
  obtain ⟨mg, hm⟩ := G.glob
  exact ⟨Name_function_global hk hl (loadGlobal_global (mg := mg) (by rw [hg]; exact hm.at' fun o e => h.keep _ o e) (mg_of G.kin hm e) k) hd⟩
theorem ldB (G : Gr w h₀) {x : Str} {pos : Pos} {v : Value} {Q : Value → Shared → Prop} (h : At h₀ s₀ frs led s) (e : nsIn (KK w.params) mainGlobals x = some none) (hv : bootBuiltins x = some v) (k : Q v s)
    (hg : autoParam (env.globals = mainGlobals) Mine.aRfl) (hb : autoParam (env.builtins = builtinsNs) Mine.aRfl) (hn : x ≠ "__name__" := by decide) (hk : autoParam (env.scope.kind = .function) Mine.aRfl) (hl : autoParam (env.kindOf x = some .globalImplicit) Mine.aRfl) (hd : autoParam ((x == ("__debug__" : Str)) = false) Mine.aRfl) :
    W prog w A (eval (.Name x pos) env) Q E s := by
  obtain ⟨mg, hm⟩ := G.glob
  obtain ⟨mb, hB, hbx⟩ := G.boot
  exact ⟨Name_function_global hk hl (loadGlobal_builtin (mg := mg) (mb := mb) (by rw [hg]; exact hm.at' fun o e => h.keep _ o e) (mg_none_of G.kin hm e) (by rw [hb]; exact hB.at' fun o e => h.keep _ o e) ((hbx x hn).trans hv) k) hd⟩

/-! ints -/
theorem cI {i : Int} {n : Nat} {pos : Pos} {Q : Value → Shared → Prop} (h : At h₀ s₀ frs led s) (k : ∀ t s', At h₀ s₀ frs led s' → Q (.int i t) s') : W prog w A (eval (.Constant (.int i) n pos) env) Q E s :=
  ⟨wpAny_Constant_int (k _ _ (h.toks _))⟩
section
variable {a b : Int} {t u : Tok} {Q : Value → Shared → Prop}
theorem iAdd (h : At h₀ s₀ frs led s) (k : ∀ t s', At h₀ s₀ frs led s' → Q (.int (a + b) t) s') : W prog w A (binaryOp .Add (.int a t) (.int b u)) Q E s := ⟨wpAny_add_int (k _ _ (h.toks _))⟩
theorem iSub (h : At h₀ s₀ frs led s) (k : ∀ t s', At h₀ s₀ frs led s' → Q (.int (a - b) t) s') : W prog w A (binaryOp .Sub (.int a t) (.int b u)) Q E s := ⟨sub_int' (k _ _ (h.toks _))⟩
theorem iMod (h : At h₀ s₀ frs led s) (hb : b ≠ 0) (k : ∀ t s', At h₀ s₀ frs led s' → Q (.int (a.fmod b) t) s') : W prog w A (binaryOp .Mod (.int a t) (.int b u)) Q E s := ⟨mod_int' hb (k _ _ (h.toks _))⟩
theorem iDiv (h : At h₀ s₀ frs led s) (hb : b ≠ 0) (hs : b.natAbs < 1073741824) (k : ∀ t s', At h₀ s₀ frs led s' → Q (.int (a.fdiv b) t) s') : W prog w A (binaryOp .FloorDiv (.int a t) (.int b u)) Q E s :=
  ⟨floordiv_int hb (k _ _ (h.toks _)) (.inl (PyProof.noPylong_small hs))⟩
theorem iAnd (h : At h₀ s₀ frs led s) (k : ∀ t s', At h₀ s₀ frs led s' → Q (.int (Builtin.bitAnd a b) t) s') : W prog w A (binaryOp .BitAnd (.int a t) (.int b u)) Q E s := ⟨and_int (k _ _ (h.toks _))⟩
theorem iPow (h : At h₀ s₀ frs led s) (hn : 0 ≤ b) (hn2 : b ≤ 1000000) (ha : a.natAbs < 2 ^ 64) (k : ∀ t s', At h₀ s₀ frs led s' → Q (.int (a ^ b.toNat) t) s') : W prog w A (binaryOp .Pow (.int a t) (.int b u)) Q E s := ⟨pow_int_small hn hn2 ha (k _ _ (h.toks _))⟩
theorem jAdd (h : At h₀ s₀ frs led s) (k : ∀ t s', At h₀ s₀ frs led s' → Q (.int (a + b) t) s') : W prog w A (inplaceOp .Add (.int a t) (.int b u)) Q E s := ⟨wpAny_iadd_int (k _ _ (h.toks _))⟩
theorem jSub (h : At h₀ s₀ frs led s) (k : ∀ t s', At h₀ s₀ frs led s' → Q (.int (a - b) t) s') : W prog w A (inplaceOp .Sub (.int a t) (.int b u)) Q E s := ⟨isub_int (k _ _ (h.toks _))⟩
theorem jOr (h : At h₀ s₀ frs led s) (k : ∀ t s', At h₀ s₀ frs led s' → Q (.int (Builtin.bitOr a b) t) s') : W prog w A (inplaceOp .BitOr (.int a t) (.int b u)) Q E s := ⟨ior_int (k _ _ (h.toks _))⟩
theorem jShl (h : At h₀ s₀ frs led s) (hn : 0 ≤ b) (hn2 : b ≤ 1000000) (ha : a.natAbs < 2 ^ 64) (k : ∀ t s', At h₀ s₀ frs led s' → Q (.int (a * 2 ^ b.toNat) t) s') : W prog w A (inplaceOp .LShift (.int a t) (.int b u)) Q E s := ⟨ilshift_int_small hn hn2 ha (k _ _ (h.toks _))⟩
theorem fdN (a b : Nat) : Int.fdiv (a : Int) (b : Int) = ((a / b : Nat) : Int) := by rw [Int.fdiv_eq_ediv_of_nonneg _ (by with_reducible exact ar12)]; rfl
theorem fmN (a b : Nat) : Int.fmod (a : Int) (b : Int) = ((a % b : Nat) : Int) := by rw [Int.fmod_eq_emod_of_nonneg _ (by with_reducible exact ar12)]; rfl
theorem iModN {a : Nat} (c : Nat) (h : At h₀ s₀ frs led s) (k : ∀ t s', At h₀ s₀ frs led s' → Q (.int ((a % c : Nat) : Int) t) s') (e : autoParam (b = (c : Int)) Mine.aRfl) (hc : c ≠ 0 := by decide) : W prog w A (binaryOp .Mod (.int (a : Int) t) (.int b u)) Q E s := by
  subst e
  exact iMod h (by omega) fun t s' h' => by rw [fmN]; exact k t s' h'
theorem iDivN {a : Nat} (c : Nat) (h : At h₀ s₀ frs led s) (k : ∀ t s', At h₀ s₀ frs led s' → Q (.int ((a / c : Nat) : Int) t) s') (e : autoParam (b = (c : Int)) Mine.aRfl) (hc : c ≠ 0 := by decide) (hs : c < 1073741824 := by decide) : W prog w A (binaryOp .FloorDiv (.int (a : Int) t) (.int b u)) Q E s := by
  subst e
  exact iDiv h (by omega) (by omega) fun t s' h' => by rw [fdN]; exact k t s' h'
theorem kLt (k : Q (.bool (decide (a < b))) s) : W prog w A (compareOp .Lt (.int a t) (.int b u)) Q E s := ⟨wpAny_lt_int k⟩
theorem kLe (k : Q (.bool (decide (a ≤ b))) s) : W prog w A (compareOp .LtE (.int a t) (.int b u)) Q E s := ⟨le_int k⟩
theorem kGt (k : Q (.bool (decide (b < a))) s) : W prog w A (compareOp .Gt (.int a t) (.int b u)) Q E s := ⟨PyProof.Rows.gt_int k⟩
theorem kEq (k : Q (.bool (a == b)) s) : W prog w A (compareOp .Eq (.int a t) (.int b u)) Q E s := ⟨PyProof.Rows.eq_int k⟩
theorem kNe (k : Q (.bool (a != b)) s) : W prog w A (compareOp .NotEq (.int a t) (.int b u)) Q E s := ⟨PyProof.Rows.ne_int k⟩
end

/-! made objects -/
theorem dList {elts : List Expr} {pos : Pos} {Q : Value → Shared → Prop}
    (h : W prog w A (spliced (backTo pos (starEach elts env))) (LsK Q) E s) : W prog w A (eval (.List elts pos) env) Q E s :=
  ⟨wpAny_List (up h fun vs s₁ ⟨h1, h₀, s₀, frs, led, h2, k⟩ => ⟨h1, k _ _ (h2.push _ rfl _)⟩)⟩
theorem dTup {elts : List Expr} {n : Nat} {pos : Pos} {Q : Value → Shared → Prop}
    (h : W prog w A (spliced (backTo pos (starEach elts env))) (TpK Q) E s) : W prog w A (eval (.Tuple elts n pos) env) Q E s :=
  ⟨wpAny_Tuple (up h fun vs s₁ ⟨h1, h₀, s₀, frs, led, h2, k⟩ => ⟨h1, k _ _ (h2.push _ rfl _)⟩)⟩
/-! lists -/
theorem At.isList {l : Addr} {vs : List Value} {n : Nat} (h : At h₀ s₀ frs led s) (hm : (l, listOf vs.toArray n) ∈ led) : s.heap.IsList l vs.toArray := ⟨_, h.get _ hm, rfl, _, rfl⟩
theorem At.isTup {l : Addr} {vs : List Value} {n : Nat} (h : At h₀ s₀ frs led s) (hm : (l, tupOf vs.toArray n) ∈ led) : IsTup s.heap l vs.toArray := ⟨_, h.get _ hm, rfl, _, rfl⟩
theorem lAdd {l b : Addr} {vs ws : List Value} {n n2 : Nat} {Q : Value → Shared → Prop} (h : At h₀ s₀ frs led s) (hl : (l, listOf vs.toArray n) ∈ led) (hb : (b, listOf ws.toArray n2) ∈ led) (hz : vs.length + ws.length ≤ sizeLine)
    (k : ∀ d s', At h₀ s₀ frs ((d, listOf (vs ++ ws).toArray 0) :: led) s' → Q (.ref d) s') : W prog w A (binaryOp .Add (.ref l) (.ref b)) Q E s := by
  refine ⟨P.add_list (h.get _ hl) (h.get _ hb) ?_ (by simpa using hz)⟩
  have := h.push (listOf (vs ++ ws).toArray 0) rfl s.toks
  exact k _ _ (by simpa using this)
theorem foldl_rep (vs : List Value) (n : Nat) (acc : Array Value) : List.foldl (fun x1 x2 => x1 ++ x2) acc (List.replicate n vs.toArray) = acc ++ (List.replicate n vs).flatten.toArray := by
  induction n generalizing acc with
  | zero => simp
  | succ n ih => rw [List.replicate_succ, List.foldl_cons, ih, List.replicate_succ, List.flatten_cons]; simp
theorem lMul {l : Addr} {vs : List Value} {n : Nat} {x : Int} {u : Tok} {Q : Value → Shared → Prop} (h : At h₀ s₀ frs led s) (hl : (l, listOf vs.toArray n) ∈ led) (hne : vs ≠ []) (h0 : 0 ≤ x) (h1 : x < 1000) (hz : vs.length * x.toNat ≤ 256)
    (k : ∀ d s', At h₀ s₀ frs ((d, listOf ((List.replicate x.toNat vs).flatten).toArray 0) :: led) s' → Q (.ref d) s') : W prog w A (binaryOp .Mult (.ref l) (.int x u)) Q E s := by
  have hg := h.get _ hl
  have hg' : s.heap.get? l = some { cls := .type "list", dict := none, data := .seq vs.toArray n, slots := #[] } := hg
  have hemp : vs.toArray.isEmpty = false := by cases vs with | nil => exact absurd rfl hne | cons a b => rfl
  refine ⟨wpAny_binaryOp_repeat_ref (T := "list") (U := "int") (by decide) ⟨_, hg, rfl⟩ (fun s' => typeIs_int s' x u) noFill_list_mul F.fills_int_mul F.slot_int_rmul repeat_list F.slot_int_index.lookup
    (call_meets F.slot_int_rmul (typeIs_int s x u) F.entry_int_rmul (F.args_int_rmul_2 _ _) (int___rmul___int_list x u l vs.toArray n)
      ⟨hg', rfl, ⟨_, hg, rfl⟩, call_meets F.slot_list_mul ⟨_, hg, rfl⟩ F.entry_list_mul (F.args_list_mul_2 _ _)
        (AutoListH.list___mul___list_int_3 l vs.toArray n x u (by simp [Builtin.List.listFitsIndex]; omega) (by simp; with_reducible exact Nat.le_trans ‹_› (by decide)) (by simp [Builtin.List.listTooLong, sizeLine]; with_reducible exact Nat.le_trans ‹_› (by decide)))
        ⟨hg', ?_⟩⟩)⟩
  rw [hemp, if_neg (by decide), foldl_rep]
  have := h.push (listOf ((List.replicate x.toNat vs).flatten).toArray 0) rfl s.toks
  exact k _ _ (by simpa using this)
/-- an item of a list -/
theorem lTail {value slice : Expr} {l : Addr} {vs : List Value} {n : Nat} {i : Int} {u : Tok} {v : Value} {Q : Value → Shared → Prop} (h : At h₀ s₀ frs led s) (hl : (l, listOf vs.toArray n) ∈ led) (h0 : 0 ≤ i) (h1 : i < 2 ^ 63) (hx : vs[i.toNat]? = some v) (k : Q v s)
    (hs : autoParam (subscripted slice false (.ref l) (.int i u) = operate [.ref l, .int i u] (getItem (.ref l) (.int i u))) Mine.aRfl) : W prog w A (subscriptTail value slice (.ref l) (.int i u)) Q E s :=
  ⟨tail_any (h.isList hl).typeIs list_getitem_lookup (wpAny_getItem_list (h.isList hl) h0 h1 (by simpa using hx) k) hs⟩
/-- the last item -/
theorem lLast {value slice : Expr} {l : Addr} {vs : List Value} {n : Nat} {u : Tok} {v : Value} {Q : Value → Shared → Prop} (h : At h₀ s₀ frs led s) (hl : (l, listOf (vs ++ [v]).toArray n) ∈ led) (k : Q v s)
    (hs : autoParam (subscripted slice false (.ref l) (.int (-1) u) = operate [.ref l, .int (-1) u] (getItem (.ref l) (.int (-1) u))) Mine.aRfl) : W prog w A (subscriptTail value slice (.ref l) (.int (-1) u)) Q E s := by
  refine ⟨tail_any (h.isList hl).typeIs list_getitem_lookup (wpAny_getItem_list_neg (h.isList hl) (by decide) (by simp; omega) (by decide) (x := v) ?_ k) hs⟩
  have : (-1 + (((vs ++ [v]).toArray.size : Nat) : Int)).toNat = vs.length := by simp; omega
  rw [this]; simp
/-- a slice of a list -/
theorem slc {value : Expr} {lower upper step : Option Expr} {p : Pos} {l : Addr} {Q : Value → Shared → Prop}
    (h : W prog w A (evalPart lower env) (kP1 prog w A E env upper step (SlK Q l)) E s) :
    W prog w A (eval (.Slice lower upper step p) env) (kO prog w A E (subscriptTail value (.Slice lower upper step p) (.ref l)) Q) E s := by
  refine ⟨wpAny_Slice (up h fun vl s₁ h₁ => up h₁ fun vu s₂ h₂ => up h₂ fun vk s₃ h₃ => ⟨?_⟩)⟩
  obtain ⟨h₀, s₀, frs, led, vs, n, lo, hi, st, a, hl, hz, pl, pu, pk, h0, k⟩ := h₃
  have a' := a.push { cls := .type "slice", data := .fields #[vl, vu, vk] } rfl s₃.toks
  have hl' := a'.isList (.tail _ hl)
  have hops : ∃ ops, subscripted (.Slice lower upper step p) false (.ref l) (.ref s₃.heap.objs.size) = operate ops (getItem (.ref l) (.ref s₃.heap.objs.size)) := by cases step <;> exact ⟨_, rfl⟩
  obtain ⟨ops, hops⟩ := hops
  refine tail_any hl'.typeIs list_getitem_lookup (wpAny_getItem_list_slice hl' (Heap.IsSliceOf.new ..) pl pu pk h0 ?_ (by simpa using hz)) hops
  refine k _ _ (At.sub (a'.push (listOf (slicePick vs.toArray lo hi st) 0) rfl s₃.toks) ?_)
  exact List.Sublist.cons_cons _ (List.sublist_cons_self _ _)
theorem pNone {Q : Value → Shared → Prop} (h : Q .none s) : W prog w A (evalPart none env) Q E s := ⟨evalPart_none_step h⟩
theorem pSome {e : Expr} {Q : Value → Shared → Prop} (h : W prog w A (eval e env) Q E s) : W prog w A (evalPart (some e) env) Q E s := ⟨evalPart_some_step h.w⟩

/-! tuples -/
theorem At.extBut (h : At h₀ s₀ frs led s) {h' : Heap} {t : Nat} (k : Heap.ExtBut s.heap.objs.size s.heap h') : At h₀ s₀ frs led { s with heap := h', toks := t } :=
  h.grow fun b o e => k b o (Nat.ne_of_lt (Heap.lt_size e)) e
theorem unp {t : Addr} {vs : List Value} {n j : Nat} {Q : List Value → Shared → Prop} (h : At h₀ s₀ frs led s) (hh : A.handled = none) (ht : (t, tupOf vs.toArray n) ∈ led) (hj : j = vs.length) (k : ∀ s', At h₀ s₀ frs led s' → Q vs s') :
    W prog w A (unpackItems (.ref t) j none) Q E s := by
  subst hj
  have := unpackItems_tuple (prog := prog) (w := w) (E := E) (Q := Q) hh (h.isTup ht) fun h' he => k _ (h.extBut (t := s.toks) he)
  exact ⟨by simpa using this⟩
/-- two names stored from a written pair -/
theorem two {x y : Str} {va vb : Value} {Q : Unit → Shared → Prop} (h : At h₀ s₀ ((L, m) :: frs) led s) (k : ∀ s', At h₀ s₀ ((L, fun z => if z = x then some va else (if z = y then some vb else m z)) :: frs) led s' → Q () s')
    (hL : autoParam (env.locals = L) Mine.aRfl) (hlx : autoParam (env.kindOf x = some .local) Mine.aRfl) (hly : autoParam (env.kindOf y = some .local) Mine.aRfl) (hp : autoParam ((env.scope.kind == .class || (env.scope.kind == .module && env.locals != env.globals)) = false) Mine.aRfl) :
    W prog w A (assignInOrder (([x, y] : List Str).reverse.map fun n => bindName env n) ([va, vb] : List Value).reverse) Q E s :=
  ⟨wpAny_bind (wpAny_holding (bindName_ (stL h (fun s₁ h₁ => wpAny_bind (wpAny_holding (bindName_ (stL h₁ (fun s₂ h₂ => wpAny_pure (k _ h₂)) hL hlx hp).w))) hL hly hp).w))⟩

/-! calls -/
/-- a call of the text's own function: its body from a new frame -/
theorem callIn {R : Result → Shared → Prop} {n : Nat} {f : Addr} {args : Args} {binds : List (Str × Value)} (G : Gr w h₀) (F : Fn w f) (h : At h₀ s₀ frs led s) (r : Rm A (n + 1))
    (hbind : BT (fdAt w.params f) args binds) (hloc : (binds.all fun x => decide ((fdAt w.params f).scope.names.lookup x.1 = some .local)) = true)
    (k : ∀ L s₁, At h₀ s₀ ((L, fun x => binds.reverse.lookup x) :: frs) led s₁ → Rm (A.deeper (envAt w.params f L)) n → W prog w (A.deeper (envAt w.params f L)) (execs (stmtsOf (fdAt w.params f)) (envAt w.params f L))
      (kFl R) (fun _ _ => False) s₁) : C prog w A (.call (.ref f) args) R s := by
  have X : (KK w.params).In s.heap := G.kin.keeps h.keep
  refine ⟨codeAny_call_def r.room (X _ _ F.hK) rfl (G.lim.keeps h.keep) (codeRec_of X F.hcode) F.hbody (hbind.b s) (fun x hx => of_decide_eq_true (List.all_eq_true.mp F.hcell x hx)) (fun x hx => of_decide_eq_true (List.all_eq_true.mp hloc x hx)) (fun h₁ hns hk₁ => ?_) F.hco F.hgen F.hk⟩
  exact wpAny_mono (k _ _ (h.frame hk₁ hns (Nat.le_refl _)) (r.deeper _)).w (fun _ _ x => x) fun _ _ x => x.elim
theorem evalArgs_items {f : Value} {pos : Pos} {e : Expr} {rest : List Expr} {Q : Args → Shared → Prop} (h : W prog w A (spliced (backTo pos (starEach (e :: rest) env))) (fun vs s' => Q ⟨vs, []⟩ s') E s)
    (he : starEach (e :: rest) env = (false, eval e env) :: starEach rest env) : W prog w A (evalArgs f true (backTo pos (starEach (e :: rest) env)) []) Q E s := by
  rw [he] at h ⊢
  exact ⟨evalArgs_plain h.w⟩
/-- a written call of a global def with plain arguments -/
theorem cFn (G : Gr w h₀) {x : Str} {p pos : Pos} {e : Expr} {rest : List Expr} {f : Addr} {Q : Value → Shared → Prop} (F : Fn w f) (h : At h₀ s₀ frs led s)
    (ex : nsIn (KK w.params) mainGlobals x = some (some (.ref f)))
    (k : W prog w A (spliced (backTo pos (starEach (e :: rest) env))) (kCall prog w A E h₀ f Q) E s)
    (he : autoParam (starEach (e :: rest) env = (false, eval e env) :: starEach rest env) Mine.aRfl)
    (hg : autoParam (env.globals = mainGlobals) Mine.aRfl) (hk : autoParam (env.scope.kind = .function) Mine.aRfl) (hl : autoParam (env.kindOf x = some .globalImplicit) Mine.aRfl) (hd : autoParam ((x == ("__debug__" : Str)) = false) Mine.aRfl) :
    W prog w A (eval (.Call (.Name x p) (e :: rest) [] pos) env) Q E s := by
  refine ⟨Call_ (ldG G h ex ?_ hg hk hl hd).w⟩
  refine callWith_function (fd := fdAt w.params f) (o := { cls := .type "function", data := .func (fdAt w.params f) }) (evalArgs_items (W.mono k fun vs s₁ ⟨h1, h2⟩ => ?_) he).w
  exact ⟨⟨h1 _ _ (G.kin _ _ F.hK), rfl⟩, wpAny_call h2.c⟩
end
end Mine
end

/-! part Oct -/
section
open PySem PySem.W PyProof.Rows PySem.Calls
set_option maxRecDepth 100000
set_option linter.unusedVariables false
namespace Mine
noncomputable def octF : Nat → List Int → Nat → List Int
  | 0, acc, _ => acc
  | f + 1, acc, rest => if rest = 0 then acc else octF f (((rest % 64 + 64 : Nat) : Int) :: acc) (rest / 64)
theorem octF_more : ∀ (f g : Nat) (acc : List Int) (rest : Nat), rest ≤ f → rest ≤ g → octF f acc rest = octF g acc rest
  | 0, 0, _, _, _, _ => rfl
  | 0, g + 1, acc, rest, h, _ => by rw [Nat.le_zero.mp h]; rfl
  | f + 1, 0, acc, rest, _, h => by rw [Nat.le_zero.mp h]; rfl
  | f + 1, g + 1, acc, rest, h1, h2 => by
    unfold octF
    by_cases h : rest = 0
    · rw [if_pos h, if_pos h]
    · have := Nat.div_lt_self (Nat.pos_of_ne_zero h) (show 1 < 64 by decide)
      rw [if_neg h, if_neg h]
      exact octF_more f g _ _ (Nat.le_of_lt_succ (Nat.lt_of_lt_of_le this h1)) (Nat.le_of_lt_succ (Nat.lt_of_lt_of_le this h2))
noncomputable def octLoop (acc : List Int) (rest : Nat) : List Int := octF rest acc rest
theorem octLoop_eq (acc : List Int) (rest : Nat) : octLoop acc rest = if rest = 0 then acc else octLoop (((rest % 64 + 64 : Nat) : Int) :: acc) (rest / 64) := by
  cases rest with
  | zero => rfl
  | succ n =>
    rw [if_neg (Nat.succ_ne_zero n)]
    show octF (n + 1) acc (n + 1) = _
    unfold octF
    rw [if_neg (Nat.succ_ne_zero n)]
    exact octF_more _ _ _ _ (Nat.le_of_lt_succ (Nat.div_lt_self (Nat.succ_pos n) (by decide))) (Nat.le_refl _)
/-- what _law_octets gives -/
noncomputable def octs (n : Nat) : List Int :=
  match List.replicate (n % 3) 64 ++ octLoop [((n % 64 : Nat) : Int)] (n / 64) with
  | [] => []
  | x :: r => (x + 128) :: r

theorem f169 (w : World) : Fn w 169 := ⟨rfl, rfl, rfl, rfl, rfl, rfl, rfl⟩
theorem n169 (P : Params) (a : Value) : BT (fdAt P 169) ⟨[a], []⟩ [(Str.ofString "number", a)] := .of_eq (by kernel_rfl)

section
variable {prog : Program} {w : World} {A : Around} {s : Shared} {h₀ : Heap} {s₀ : Shared} {frs : List (Addr × Mp)} {led : List (Addr × Obj)}
set_option maxHeartbeats 1000000
inductive octI (h₀ : Heap) (s₀ : Shared) (L : Addr) (frs : List (Addr × Mp)) (led : List (Addr × Obj)) (N : Nat) (t : Tok) (n : Nat) (s : Shared) : Prop
  | mk (m : _) (a : _) (vs : _) (acc : _) (u : _) (q1 : At h₀ s₀ ((L, m) :: frs) ((a, listOf (List.toArray vs) 0) :: led) s) (q2 : IntsAre vs acc) (q3 : (0 < acc.length ∧ acc.length + n ≤ 2 ^ 20)) (q4 : m (Str.ofString "octets") = some (.ref a)) (q5 : m (Str.ofString "rest") = some (.int (n : Int) u)) (q6 : m (Str.ofString "number") = some (.int (N : Int) t)) (q7 : octLoop acc n = octLoop [((N % 64 : Nat) : Int)] (N / 64))
theorem octets_spec {R : Result → Shared → Prop} {j : Nat} (G : Gr w h₀) (h : At h₀ s₀ frs led s) (r : Rm A (j + 3)) {N : Nat} {t : Tok} (hN : N < 2 ^ 20)
    (k : ∀ d vs s', At h₀ s₀ frs ((d, listOf (List.toArray vs) 0) :: led) s' → IntsAre vs (octs N) → R (.ok (.ret (.ref d))) s') :
    C prog w A (.call (.ref 169) ⟨[.int (N : Int) t], []⟩) R s := by
  refine callIn G (f169 w) h r (n169 w.params _) (by kernel_rfl) fun L s₁ h₁ r₁ => ?_
  refine xCons (xSwap [Str.ofString "octets", Str.ofString "rest"] (dTup (iCons (dList (iCons (eBin (ldL h₁ rfl (cI h₁ fun t₂ s₂ h₂ => iModN 64 h₂ fun t₃ s₃ h₃ => iNil ⟨Nat.le_of_ble_eq_true rfl, _, _, _, _, h₃, fun l s₄ h₄ => ?_⟩))))))))
  refine iCons (eBin (ldL h₄ rfl (cI h₄ fun t₅ s₅ h₅ => iDivN 64 h₅ fun t₆ s₆ h₆ => iNil ⟨Nat.le_of_ble_eq_true rfl, _, _, _, _, h₆, fun p s₇ h₇ => ?_⟩)))
  refine unp h₇ r₁.handled (.head _) rfl fun s₈ h₈ => two h₈ fun s₉ h₉ => ?_
  refine xCons (xWhile (octI h₀ s₀ L frs led N t) (fun n s hi => ?_) (N / 64) ⟨_, l, _, _, t₆, h₉.sub (List.sublist_cons_self _ _), .cons _ _ .nil, ⟨by simp, by simp; omega⟩, rfl, rfl, rfl, rfl⟩)
  obtain ⟨m, a, vs, acc, u, h, hi, hz, m1, m2, m3, ho⟩ := hi
  refine tCmp (ldL h m2 (cI h fun t₁ s₁ h => kGt (tBool ?_)))
  have hlen := hi.length
  by_cases hn : n = 0
  · refine ifF (decide_eq_false (by omega)) ?_
    subst hn
    refine xNil ?_
    have hacc : acc = octLoop [((N % 64 : Nat) : Int)] (N / 64) := by rw [← ho, octLoop_eq]; simp
    refine xCons (xAsg (eBin (eBin (dList (iCons (cI h fun t₂ s₂ h => iNil ⟨Nat.le_of_ble_eq_true rfl, _, _, _, _, h, fun d s₃ h => ?_⟩)))))) 
    refine eBin (ldL h m3 (cI h fun t₄ s₄ h => iModN 3 h fun t₅ s₅ h => ?_))
    have h3 : N % 3 < 3 := Nat.mod_lt _ (by decide)
    refine lMul h (.head _) (by simp) (by with_reducible exact ar12) (by omega) (by simp; omega) fun e s₆ h => ldL h m1 (lAdd h (.head _) (.tail _ (.tail _ (.head _))) ?_ fun g s₇ h => stL h fun s₈ h => ?_)
    · have : ∀ n : Nat, ((List.replicate n [Value.int 64 t₂]).flatten).length = n := fun n => by induction n with
        | zero => rfl
        | succ n ih => simp
      rw [this]; simp only [Int.toNat_natCast, sizeLine]; omega
    have hws : IntsAre ((List.replicate ((N % 3 : Nat) : Int).toNat [Value.int 64 t₂]).flatten ++ vs) (List.replicate (N % 3) 64 ++ acc) := by
      rw [Int.toNat_natCast]
      refine IntsAre.append ?_ hi
      induction N % 3 with
      | zero => exact .nil
      | succ n ih => exact .cons _ _ ih
    generalize (List.replicate ((N % 3 : Nat) : Int).toNat [Value.int 64 t₂]).flatten ++ vs = ws at h hws
    have hoct : octs N = match List.replicate (N % 3) 64 ++ acc with | [] => [] | x :: r => (x + 128) :: r := by rw [hacc]; rfl
    have hl1 := hws.length
    have hlr : (List.replicate (N % 3) (64 : Int) ++ acc).length = N % 3 + acc.length := by simp
    generalize List.replicate (N % 3) (64 : Int) ++ acc = ns at hws hoct hlr hl1
    cases hws with
    | nil => simp at hlr; omega
    | @cons x tx ws' ns' hw' =>
      refine xCons (xRet (eBin (dList (iCons (eBin (eSub (ldL h rfl (cI h fun t₁ s₁ h => lTail h (.head _) (by decide) (by decide) rfl (cI h fun t₂ s₂ h => iAdd h fun t₃ s₃ h => iNil ⟨Nat.le_of_ble_eq_true rfl, _, _, _, _, h, fun d₁ s₄ h => ?_⟩)))))))))
      refine eSub (ldL h rfl (slc (pSome (cI h fun t₅ s₅ h => pNone (pNone ⟨_, _, _, _, _, _, _, _, _, h, .tail _ (.head _), ?_, .int _ _, .none, .none, by simp, fun d₂ s₆ h => ?_⟩)))))
      · simp only [List.length_cons] at hl1 hlr ⊢; simp only [sizeLine]; omega
      have hpick : slicePick (Value.int x tx :: ws').toArray (some 1) none none = ws'.toArray := by
        have := slicePick_from (Value.int x tx :: ws').toArray 1 (by simp)
        rw [show ((1 : Nat) : Int) = 1 from rfl] at this
        rw [this]; simp
      rw [hpick] at h
      refine lAdd h (.tail _ (.head _)) (.head _) ?_ fun d₃ s₇ h => ?_
      · simp only [List.length_cons] at hl1 hlr ⊢; simp only [sizeLine, List.length_nil]; omega
      refine k _ ([Value.int (x + 128) t₃] ++ ws') _ (h.pop.keep1 6) ?_
      rw [hoct]; exact .cons _ _ hw'
  · refine iteT (decide_eq_true (by omega)) ?_
    refine xCons (xSwap [Str.ofString "octets", Str.ofString "rest"] (dTup (iCons (eBin (dList (iCons (eBin (eBin (ldL h m2 (cI h fun t₂ s₂ h => iModN 64 h fun t₃ s₃ h => cI h fun t₄ s₄ h => iAdd h fun t₅ s₅ h => iNil ⟨Nat.le_of_ble_eq_true rfl, _, _, _, _, h, fun d s₆ h => ?_⟩))))))))))
    refine ldL h m1 (lAdd h (.head _) (.tail _ (.head _)) ?_ fun e s₇ h => iCons (eBin (ldL h m2 (cI h fun t₆ s₈ h => iDivN 64 h fun t₇ s₉ h => iNil ⟨Nat.le_of_ble_eq_true rfl, _, _, _, _, h, fun p s₁₀ h => ?_⟩))))
    · simp only [List.length_cons, List.length_nil, sizeLine]; omega
    refine unp h r₁.handled (.head _) rfl fun s₁₁ h => two h fun s₁₂ h => xNil ?_
    refine ⟨n / 64, by omega, _, e, _, ((n % 64 + 64 : Nat) : Int) :: acc, t₇, (h.drop 1).keep1 2, ?_, ⟨by simp, by simp only [List.length_cons]; omega⟩, rfl, rfl, m3, ?_⟩
    · exact .cons _ _ hi
    · rw [← ho]; conv => rhs; rw [octLoop_eq]
      rw [if_neg hn]
end
end Mine
end

/-! part Within -/
section
open PySem PySem.W PyProof.Rows PySem.Calls
set_option maxRecDepth 100000
set_option linter.unusedVariables false
namespace Mine
theorem f188 (w : World) : Fn w 188 := ⟨rfl, rfl, rfl, rfl, rfl, rfl, rfl⟩
theorem n188 (P : Params) (a b : Value) : BT (fdAt P 188) ⟨[a, b], []⟩ [(Str.ofString "one", a), (Str.ofString "two", b)] := .of_eq (by kernel_rfl)
section
variable {prog : Program} {w : World} {A : Around} {s : Shared} {h₀ : Heap} {s₀ : Shared} {frs : List (Addr × Mp)} {led : List (Addr × Obj)}
theorem within_spec {R : Result → Shared → Prop} {j : Nat} (G : Gr w h₀) (h : At h₀ s₀ frs led s) (r : Rm A (j + 3)) {p q : Addr} {vs ws : List Value} {n n' : Nat} {a b c d : Int} {x y : List Int}
    (h1 : (p, listOf vs.toArray n) ∈ led) (h2 : (q, listOf ws.toArray n') ∈ led) (hv : IntsAre vs (a :: b :: x)) (hw : IntsAre ws (c :: d :: y))
    (k : ∀ s', At h₀ s₀ frs led s' → R (.ok (.ret (.bool (decide (c < a) && decide (a + b ≤ c + d))))) s') : C prog w A (.call (.ref 188) ⟨[.ref p, .ref q], []⟩) R s := by
  obtain ⟨ta, vs', rfl, hv1⟩ := hv.cons_inv
  obtain ⟨tb, vs'', rfl, hv2⟩ := hv1.cons_inv
  obtain ⟨tc, ws', rfl, hw1⟩ := hw.cons_inv
  obtain ⟨td, ws'', rfl, hw2⟩ := hw1.cons_inv
  refine callIn G (f188 w) h r (n188 w.params _ _) (by kernel_rfl) fun L s₁ h r₁ => ?_
  refine xCons (xRet (eAnd (eCmp (eSub (ldL h rfl (cI h fun _ _ h => lTail h h2 (by decide) (by decide) rfl (eSub (ldL h rfl (cI h fun _ _ h => lTail h h1 (by decide) (by decide) rfl (kLt (tBool ?_)))))))))))
  by_cases e : c < a
  · rw [decide_eq_true e, if_pos rfl]
    refine eCmp (eBin (eSub (ldL h rfl (cI h fun _ _ h => lTail h h1 (by decide) (by decide) rfl (eSub (ldL h rfl (cI h fun _ _ h => lTail h h1 (by decide) (by decide) rfl (iAdd h fun _ _ h => ?_))))))))
    refine eBin (eSub (ldL h rfl (cI h fun _ _ h => lTail h h2 (by decide) (by decide) rfl (eSub (ldL h rfl (cI h fun _ _ h => lTail h h2 (by decide) (by decide) rfl (iAdd h fun _ _ h => kLe ?_)))))))
    have := k _ h.pop
    rw [decide_eq_true e, Bool.true_and] at this
    exact this
  · rw [decide_eq_false e, if_neg (by decide)]
    have := k _ h.pop
    rw [decide_eq_false e, Bool.false_and] at this
    exact this
end
end Mine
end

/-! part RulesB -/
section
open PySem PySem.W PyProof.Rows PySem.Calls
set_option maxRecDepth 100000
set_option linter.unusedVariables false
namespace Mine
section
variable {prog : Program} {w : World} {A : Around} {E : Value → Shared → Prop} {s : Shared} {h₀ : Heap} {s₀ : Shared} {frs : List (Addr × Mp)} {led led' : List (Addr × Obj)} {env : Env} {L : Addr} {m : Mp}

/-- one object turned, told by SameBut -/
theorem At.same (h : At h₀ s₀ frs led s) {D : Addr} {o o' : Obj} {h' : Heap} {t : Nat} (r : Rep D o o' led led') (hs : Heap.SameBut D s.heap h') (ho : h'.get? D = some o') : At h₀ s₀ frs led' { s with heap := h', toks := t } := by
  have hD : D ∈ led.map (·.1) := List.mem_map_of_mem (f := (·.1)) r.mem
  have nd := List.nodup_append.mp h.nd
  refine ⟨h.gens, h.os, fun b o e => (hs.2 b (h.old_lt e (List.mem_append_right _ hD))).trans (h.keep b o e), fun g hg => ?_, fun p hp => ?_, by rw [r.keys]; exact h.nd, by rw [r.keys]; exact h.new⟩
  · exact (h.ns g hg).at' fun o e => (hs.2 _ (nd.2.2 _ (List.mem_map_of_mem hg) _ hD)).trans e
  · rcases r.old nd.2.1 p hp with rfl | ⟨h1, h2⟩
    · exact ho
    · exact (hs.2 _ h2).trans (h.get p h1)
/-- all but the head kept -/
theorem At.lose {p : Addr × Obj} (h : At h₀ s₀ frs (p :: led) s) {h' : Heap} {t : Nat} (k : Heap.ExtBut p.1 s.heap h') : At h₀ s₀ frs led { s with heap := h', toks := t } := by
  have nd := List.nodup_append.mp h.nd
  have nh := List.nodup_cons.mp nd.2.1
  refine ⟨h.gens, h.os, fun b o e => k b o (h.old_lt e (List.mem_append_right _ (.head _))) (h.keep b o e), fun g hg => ?_, fun q hq => ?_, ?_, fun a ha => h.new a ?_⟩
  · exact (h.ns g hg).at' fun o e => k _ _ (nd.2.2 _ (List.mem_map_of_mem hg) _ (.head _)) e
  · exact k _ _ (fun e => nh.1 (by have := List.mem_map_of_mem (f := fun x : Addr × Obj => x.1) hq; rw [e] at this; exact this)) (h.get q (.tail _ hq))
  · exact h.nd.sublist ((List.Sublist.refl _).append (List.sublist_cons_self _ _))
  · rcases List.mem_append.mp ha with ha | ha
    · exact List.mem_append_left _ ha
    · exact List.mem_append_right _ (.tail _ ha)

/-! built-in calls -/
noncomputable def kM (prog : Program) (w : World) (A : Around) (E : Value → Shared → Prop) (env : Env) (T id : String) (pos : Pos) (es : List Expr) (Q : Value → Shared → Prop) (ov : Value) (s : Shared) : Prop := (s.TypeIs ov T ∧ ∀ a, ov = .ref a → ∃ ob, s.heap.get? a = some ob ∧ ob.dict = none) ∧ W prog w A (spliced (backTo pos (starEach es env))) (kO prog w A E (fun vs => call (.builtin id) (ov :: vs)) Q) E s
noncomputable def kM0 (prog : Program) (w : World) (A : Around) (E : Value → Shared → Prop) (T id : String) (Q : Value → Shared → Prop) (ov : Value) (s : Shared) : Prop := (s.TypeIs ov T ∧ ∀ a, ov = .ref a → ∃ ob, s.heap.get? a = some ob ∧ ob.dict = none) ∧ W prog w A (call (.builtin id) [ov]) Q E s
noncomputable def kEx (Q : Flow → Shared → Prop) (v : Value) (s : Shared) : Prop := v = .none ∧ Q .next s
/-- a built-in function by its name -/
theorem cB (G : Gr w h₀) {x : Str} {p pos : Pos} {e : Expr} {rest : List Expr} {id : String} {Q : Value → Shared → Prop} (h : At h₀ s₀ frs led s) (ex : nsIn (KK w.params) mainGlobals x = some none) (hv : bootBuiltins x = some (.builtin id))
    (k : W prog w A (spliced (backTo pos (starEach (e :: rest) env))) (kO prog w A E (fun vs => call (.builtin id) vs) Q) E s)
    (he : autoParam (starEach (e :: rest) env = (false, eval e env) :: starEach rest env) Mine.aRfl) (hpl : autoParam ((backTo pos (starEach (e :: rest) env)).any (·.1) = false) Mine.aRfl)
    (hg : autoParam (env.globals = mainGlobals) Mine.aRfl) (hb : autoParam (env.builtins = builtinsNs) Mine.aRfl) (hn : x ≠ "__name__" := by decide) (hk : autoParam (env.scope.kind = .function) Mine.aRfl) (hl : autoParam (env.kindOf x = some .globalImplicit) Mine.aRfl) (hd : autoParam ((x == ("__debug__" : Str)) = false) Mine.aRfl) :
    W prog w A (eval (.Call (.Name x p) (e :: rest) [] pos) env) Q E s :=
  ⟨Call_ (ldB G h ex hv (callWith_builtin hpl (evalArgs_items (W.mono k fun vs s₁ h => h.w) he).w) hg hb hn hk hl hd).w⟩
/-- a built-in type called by its name -/
theorem cT (G : Gr w h₀) {x : Str} {p pos : Pos} {e : Expr} {rest : List Expr} {T : String} {Q : Value → Shared → Prop} (h : At h₀ s₀ frs led s) (ex : nsIn (KK w.params) mainGlobals x = some none) (hv : bootBuiltins x = some (.type T))
    (k : W prog w A (spliced (backTo pos (starEach (e :: rest) env))) (kO prog w A E (fun vs => call (.type T) vs) Q) E s)
    (he : autoParam (starEach (e :: rest) env = (false, eval e env) :: starEach rest env) Mine.aRfl) (hpl : autoParam ((backTo pos (starEach (e :: rest) env)).any (·.1) = false) Mine.aRfl)
    (hg : autoParam (env.globals = mainGlobals) Mine.aRfl) (hb : autoParam (env.builtins = builtinsNs) Mine.aRfl) (hn : x ≠ "__name__" := by decide) (hk : autoParam (env.scope.kind = .function) Mine.aRfl) (hl : autoParam (env.kindOf x = some .globalImplicit) Mine.aRfl) (hd : autoParam ((x == ("__debug__" : Str)) = false) Mine.aRfl) :
    W prog w A (eval (.Call (.Name x p) (e :: rest) [] pos) env) Q E s :=
  ⟨Call_ (ldB G h ex hv (PySem.callWith_type hpl (evalArgs_items (W.mono k fun vs s₁ h => h.w) he).w) hg hb hn hk hl hd).w⟩
theorem fLen {l : Addr} {vs : List Value} {n : Nat} {Q : Value → Shared → Prop} (h : At h₀ s₀ frs led s) (hl : (l, listOf vs.toArray n) ∈ led) (hz : vs.length ≤ 2 ^ 40) (k : ∀ t s', At h₀ s₀ frs led s' → Q (.int (vs.length : Int) t) s') : W prog w A (call (.builtin "len") [.ref l]) Q E s :=
  ⟨call_len_list (h.isList hl) (by simp; omega) (by have := k (s.toks + 1) _ (h.toks (s.toks + 1 + 1)); simpa using this)⟩
/-- range(n) -/
noncomputable abbrev rangeOf (n : Int) (t u v : Tok) : Obj := { cls := .type "range", data := .fields #[.int 0 t, .int n u, .int 1 v] }
theorem fRange {n : Int} {t : Tok} {Q : Value → Shared → Prop} (h : At h₀ s₀ frs led s) (k : ∀ d t u v s', At h₀ s₀ frs ((d, rangeOf n t u v) :: led) s' → Q (.ref d) s') : W prog w A (call (.type "range") [.int n t]) Q E s :=
  ⟨call_range_1 (k _ _ _ _ _ (h.push _ rfl _))⟩

/-! methods -/
theorem cMeth {o : Expr} {name : Str} {apos pos : Pos} {e : Expr} {rest : List Expr} {T id : String} {Q : Value → Shared → Prop} (pa : PlainAttrs T) (slot : Slot T name id) (hty : typeOf (.builtin id) = pure (.type "method_descriptor"))
    (h : W prog w A (eval o env) (kM prog w A E env T id pos (e :: rest) Q) E s)
    (he : autoParam (starEach (e :: rest) env = (false, eval e env) :: starEach rest env) Mine.aRfl) (hpl : autoParam ((backTo pos (starEach (e :: rest) env)).any (·.1) = false) Mine.aRfl)
    (hbase : autoParam (attributeBase o name env (eval o env) = eval o env) Mine.aRfl)
    (hfew : autoParam (((backTo pos (starEach (e :: rest) env)).all (fun x => !x.1) && (backToKw pos (keywordEach [] env)).all (fun x => x.1.isSome) && decide ((e :: rest).length + ([] : List Keyword).length + (if ([] : List Keyword).isEmpty then 0 else 1) < 30)) = true) Mine.aRfl)
    (hline : autoParam ((apos.endLine == pos.line) = true) Mine.aRfl) : W prog w A (eval (.Call (.Attribute o name apos) (e :: rest) [] pos) env) Q E s :=
  ⟨wpAny_Call_method hbase hfew hline pa slot hty (up h fun ov s₁ ⟨⟨h1, h2⟩, h3⟩ => ⟨h1, h2, callWith_builtin hpl (evalArgs_items (W.mono h3 fun vs s₂ h => h.w) he).w⟩)⟩
theorem cMeth0 {o : Expr} {name : Str} {apos pos : Pos} {T id : String} {Q : Value → Shared → Prop} (pa : PlainAttrs T) (slot : Slot T name id) (hty : typeOf (.builtin id) = pure (.type "method_descriptor"))
    (h : W prog w A (eval o env) (kM0 prog w A E T id Q) E s)
    (hbase : autoParam (attributeBase o name env (eval o env) = eval o env) Mine.aRfl)
    (hline : autoParam ((apos.endLine == pos.line) = true) Mine.aRfl) : W prog w A (eval (.Call (.Attribute o name apos) [] [] pos) env) Q E s :=
  ⟨wpAny_Call_method hbase rfl hline pa slot hty (up h fun ov s₁ ⟨⟨h1, h2⟩, h3⟩ => ⟨h1, h2, callWith_builtin rfl (by rw [show evalArgs (.builtin id) true (backTo pos (starEach [] env)) [] = Pure.pure ⟨[], []⟩ from rfl]; exact wpAny_pure h3.w)⟩)⟩
theorem At.plainList {l : Addr} {vs : List Value} {n : Nat} (h : At h₀ s₀ frs led s) (hm : (l, listOf vs.toArray n) ∈ led) : s.TypeIs (.ref l) "list" ∧ ∀ a, Value.ref l = .ref a → ∃ ob, s.heap.get? a = some ob ∧ ob.dict = none :=
  ⟨⟨_, h.get _ hm, rfl⟩, fun a e => by cases e; exact ⟨_, h.get _ hm, rfl⟩⟩
theorem fAppend {D : Addr} {vs : List Value} {n : Nat} {x : Value} {Q : Value → Shared → Prop} (h : At h₀ s₀ frs led s) (r : Rep D (listOf vs.toArray n) (listOf (vs ++ [x]).toArray (n + 1)) led led') (hz : vs.length ≤ sizeLine) (k : ∀ s', At h₀ s₀ frs led' s' → Q .none s') :
    W prog w A (call (.builtin "list.append") [.ref D, x]) Q E s :=
  ⟨append_at (h.get _ r.mem) (fun h' hs ho => k _ (h.same r hs (by simpa using ho))) (by simpa using hz)⟩
noncomputable def insAt {α : Type} (i : Nat) (x : α) (l : List α) : List α := l.take i ++ x :: l.drop i
theorem insAt_arr (vs : List Value) (x : Value) (i : Nat) (hi : i ≤ vs.length) : (vs.toArray.extract 0 i).push x ++ vs.toArray.extract i = (insAt i x vs).toArray := by
  apply Array.ext'
  simp only [insAt, Array.toList_append, Array.toList_push, Array.toList_extract, List.toList_toArray, List.extract_eq_take_drop, List.drop_zero, Nat.sub_zero, List.size_toArray]
  rw [List.take_of_length_le (l := vs.drop i) (by simp)]
  simp
theorem insert_raw {D : Addr} {vs : List Value} {n : Nat} {xi : Int} {u : Tok} {x : Value} {Q : Value → Shared → Prop} (hg : s.heap.get? D = some { cls := .type "list", dict := none, data := .seq vs.toArray n, slots := #[] }) (h0 : 0 ≤ xi) (h1 : xi ≤ vs.length) (hz : vs.length ≤ sizeLine)
    (k : ∀ f : Obj → Obj, f (listOf vs.toArray n) = listOf (insAt xi.toNat x vs).toArray (n + 1) → Q .none { s with heap := s.heap.update D f }) : wpAny (model prog w) A (call (.builtin "list.insert") [.ref D, .int xi u, x]) Q E s := by
  have hf : Builtin.List.listFitsIndex xi = true := by
    rw [sizeLine_eq] at hz
    simp [Builtin.List.listFitsIndex]; omega
  refine call_meets PySem.F.slot_list_insert ⟨_, hg, rfl⟩ PySem.F.entry_list_insert (PySem.F.args_list_insert_3 _ _ _) (PySem.AutoSeq1.list_insert_list_int_val_1 D _ n xi u x (by simp [hf]) (by rw [List.size_toArray]; exact hz)) ⟨hg, k _ ?_⟩
  have hif : (if xi < 0 then (xi + (vs.toArray.size : Int)).toNat else min xi.toNat vs.toArray.size) = xi.toNat := by rw [if_neg (Int.not_lt.mpr h0)]; exact Nat.min_eq_left (Int.toNat_le.mpr h1)
  simp only [Obj.mapSeq, hif]
  rw [insAt_arr vs x xi.toNat (by omega)]
  have e2 : ((insAt xi.toNat x vs).toArray.size == vs.toArray.size) = false := by simp [insAt]; omega
  rw [e2]; rfl
theorem fInsert {D : Addr} {vs : List Value} {n i : Nat} {u : Tok} {x : Value} {Q : Value → Shared → Prop} (h : At h₀ s₀ frs led s) (r : Rep D (listOf vs.toArray n) (listOf (insAt i x vs).toArray (n + 1)) led led') (hi : i ≤ vs.length) (hz : vs.length ≤ sizeLine) (k : ∀ s', At h₀ s₀ frs led' s' → Q .none s') :
    W prog w A (call (.builtin "list.insert") [.ref D, .int (i : Int) u, x]) Q E s :=
  ⟨insert_raw (h.get _ r.mem) (by with_reducible exact ar12) (by omega) hz (fun f hf => k _ (h.upd (t := s.toks) r (by rw [hf, Int.toNat_natCast])))⟩

/-! for -/
theorem xExpr {e : Expr} {pos : Pos} {Q : Flow → Shared → Prop} (h : W prog w A (eval e env) (kEx Q) E s) (hi : autoParam (interactive env = false) Mine.aRfl) (hs : autoParam (swapsWith e none pos.line env = Pure.pure false) Mine.aRfl) : W prog w A (exec (.Expr e pos) env) Q E s :=
  ⟨wpAny_Expr (up h fun v s' ⟨h1, h2⟩ => by subst h1; exact h2) hi hs⟩
noncomputable def noE (_ : Value) (_ : Shared) : Prop := False
noncomputable def kBody (prog : Program) (w : World) (A : Around) (env : Env) (body : List Stmt) (Q : Flow → Shared → Prop) (I : Nat → Shared → Prop) (n : Nat) (_ : Unit) (s : Shared) : Prop := W prog w A (execs body env) (kLoop Q I n) noE s
noncomputable def kTurn (prog : Program) (w : World) (A : Around) (env : Env) (target : Expr) (body orelse : List Stmt) (Q : Flow → Shared → Prop) (I : Nat → Shared → Prop) (n : Nat) (r : Option Value) (s : Shared) : Prop := match r with
    | none => W prog w A (execs orelse env) Q noE s
    | some v => W prog w A (assign target env v) (kBody prog w A env body Q I n) noE s
/-- what a turn of a for must do -/
noncomputable def Turn (prog : Program) (w : World) (A : Around) (env : Env) (target : Expr) (it : Value) (body orelse : List Stmt) (Q : Flow → Shared → Prop) (I : Nat → Shared → Prop) (n : Nat) (s : Shared) : Prop :=
  W prog w A (pyNext it) (kTurn prog w A env target body orelse Q I n) noE s
inductive FrK (prog : Program) (w : World) (A : Around) (env : Env) (target : Expr) (body orelse : List Stmt) (Q : Flow → Shared → Prop) (it : Value) (s : Shared) : Prop
  | mk (I : Nat → Shared → Prop) (n : Nat) (h : I n s) (t : ∀ n s, I n s → Turn prog w A env target it body orelse Q I n s) : FrK prog w A env target body orelse Q it s
theorem xFor {target iter : Expr} {body orelse : List Stmt} {pos : Pos} {Q : Flow → Shared → Prop}
    (h : W prog w A (eval iter env) (kO prog w A E pyIter (FrK prog w A env target body orelse Q)) E s)
    (hs : autoParam (∀ x, foldedSetIterable iter env x = Pure.pure x) Mine.aInt) (ht : autoParam (∀ it v, letOwnedTupleGo target it v = Pure.pure ()) Mine.aInt) : W prog w A (exec (.For target iter body orelse pos) env) Q E s := by
  refine ⟨wpAny_For (up h fun x s₁ h₁ => up h₁ fun it s₂ ⟨I, n, hi, turn⟩ => ?_) hs⟩
  refine codeAny_forLoop I (fun n s hi => ?_) n hi (ht it)
  refine wpAny_mono (turn n s hi).w (fun r s₁ hr => ?_) fun _ _ e => e.elim
  cases r with
  | none => exact wpAny_mono (hr : W prog w A (execs orelse env) _ _ s₁).w (fun f s₃ hf => by cases f <;> exact hf) fun _ _ e => e.elim
  | some v => exact wpAny_mono (hr : W prog w A (assign target env v) _ _ s₁).w (fun _ s₂ h₂ => wpAny_mono (h₂ : W prog w A (execs body env) _ _ s₂).w (fun f s₃ hf => by cases f <;> first | exact hf | exact less_ex hf) fun _ _ e => e.elim) fun _ _ e => e.elim
theorem aName {x : Str} {pos : Pos} {v : Value} {Q : Unit → Shared → Prop} (h : W prog w A (storeName env x v) Q E s) : W prog w A (assign (.Name x pos) env v) Q E s := ⟨assign_Name h.w⟩

/-! iterators -/
noncomputable def LIt (l : Addr) (i : Nat) (o : Obj) : Prop := o.cls = .type "list_iterator" ∧ o.data = .fields #[.ref l, .int i 0]
noncomputable def TIt (l : Addr) (i : Nat) (o : Obj) : Prop := o.cls = .type "tuple_iterator" ∧ o.data = .fields #[.ref l, .int i 0]
theorem itL {l : Addr} {vs : List Value} {n : Nat} {Q : Value → Shared → Prop} (h : At h₀ s₀ frs led s) (hl : (l, listOf vs.toArray n) ∈ led) (k : ∀ it o s', LIt l 0 o → At h₀ s₀ frs ((it, o) :: led) s' → Q (.ref it) s') : W prog w A (pyIter (.ref l)) Q E s :=
  ⟨wpAny_pyIter_list (h.isList hl) (k _ _ _ ⟨rfl, rfl⟩ (h.push _ rfl s.toks))⟩
theorem nxL {it l : Addr} {o : Obj} {i n : Nat} {vs : List Value} {v : Value} {Q : Option Value → Shared → Prop} (h : At h₀ s₀ frs ((it, o) :: led) s) (ho : LIt l i o) (hl : (l, listOf vs.toArray n) ∈ led) (hx : vs[i]? = some v)
    (k : ∀ o' s', LIt l (i + 1) o' → At h₀ s₀ frs ((it, o') :: led) s' → Q (some v) s') : W prog w A (pyNext (.ref it)) Q E s :=
  ⟨wpAny_pyNext_list_item ⟨o, h.get _ (.head _), ho.1, ho.2⟩ (h.isList (.tail _ hl)) (by simpa using hx) fun h' ⟨o', h1, h2, h3⟩ hs => k o' _ ⟨h2, h3⟩ (h.same (t := s.toks) .head hs h1)⟩
theorem nxLend {it l : Addr} {o : Obj} {i n : Nat} {vs : List Value} {Q : Option Value → Shared → Prop} (h : At h₀ s₀ frs ((it, o) :: led) s) (hh : A.handled = none) (ho : LIt l i o) (hl : (l, listOf vs.toArray n) ∈ led) (hx : vs[i]? = none)
    (k : ∀ s', At h₀ s₀ frs led s' → Q none s') : W prog w A (pyNext (.ref it)) Q E s :=
  ⟨wpAny_pyNext_list_end hh ⟨o, h.get _ (.head _), ho.1, ho.2⟩ (h.isList (.tail _ hl)) (by simpa using hx) fun h' hs => k _ (h.lose (t := s.toks) hs)⟩
theorem itT {l : Addr} {vs : List Value} {n : Nat} {Q : Value → Shared → Prop} (h : At h₀ s₀ frs led s) (hl : (l, tupOf vs.toArray n) ∈ led) (k : ∀ it o s', TIt l 0 o → At h₀ s₀ frs ((it, o) :: led) s' → Q (.ref it) s') : W prog w A (pyIter (.ref l)) Q E s :=
  ⟨wpAny_pyIter_tuple (h.isTup hl) (k _ _ _ ⟨rfl, rfl⟩ (h.push _ rfl s.toks))⟩
theorem nxT {it l : Addr} {o : Obj} {i n : Nat} {vs : List Value} {v : Value} {Q : Option Value → Shared → Prop} (h : At h₀ s₀ frs ((it, o) :: led) s) (ho : TIt l i o) (hl : (l, tupOf vs.toArray n) ∈ led) (hx : vs[i]? = some v)
    (k : ∀ o' s', TIt l (i + 1) o' → At h₀ s₀ frs ((it, o') :: led) s' → Q (some v) s') : W prog w A (pyNext (.ref it)) Q E s :=
  ⟨wpAny_pyNext_tuple_item ⟨o, h.get _ (.head _), ho.1, ho.2⟩ (h.isTup (.tail _ hl)) (by simpa using hx) fun h' ⟨o', h1, h2, h3⟩ hs => k o' _ ⟨h2, h3⟩ (h.same (t := s.toks) .head hs h1)⟩
theorem nxTend {it l : Addr} {o : Obj} {i n : Nat} {vs : List Value} {Q : Option Value → Shared → Prop} (h : At h₀ s₀ frs ((it, o) :: led) s) (hh : A.handled = none) (ho : TIt l i o) (hl : (l, tupOf vs.toArray n) ∈ led) (hx : vs[i]? = none)
    (k : ∀ s', At h₀ s₀ frs led s' → Q none s') : W prog w A (pyNext (.ref it)) Q E s :=
  ⟨wpAny_pyNext_tuple_end hh ⟨o, h.get _ (.head _), ho.1, ho.2⟩ (h.isTup (.tail _ hl)) (by simpa using hx) fun h' hs => k _ (h.lose (t := s.toks) hs)⟩
/-- the iterator of range(n) at i -/
noncomputable abbrev rIt (n i : Nat) : Obj := { cls := .type "range_iterator", data := .fields #[rawInt (i : Int), rawInt ((n : Int) - i), rawInt 1] }
theorem itR {r : Addr} {n : Nat} {t u v : Tok} {Q : Value → Shared → Prop} (h : At h₀ s₀ frs led s) (hr : (r, rangeOf (n : Int) t u v) ∈ led) (hn : n < 2 ^ 40) (k : ∀ it s', At h₀ s₀ frs ((it, rIt n 0) :: led) s' → Q (.ref it) s') : W prog w A (pyIter (.ref r)) Q E s := by
  have e : Builtin.Range.rangeSize 0 (n : Int) 1 = (n : Int) := by unfold Builtin.Range.rangeSize; simp only [show (1 : Int) > 0 by decide, if_true]; split <;> omega
  refine ⟨wpAny_pyIter_range (h.get _ hr) ?_ ?_⟩
  · exact small_one (by omega) (by omega) (by omega) (by omega)
  · rw [e]
    have := h.push (rIt n 0) rfl s.toks
    exact k _ _ (by simpa [rIt] using this)
theorem rIt_next {h' : Heap} {it : Addr} {n i : Nat} (hr : IsRangeIter h' it ((i : Int) + 1) ((n : Int) - i - 1) 1) : h'.get? it = some (rIt n (i + 1)) := by
  have e1 : ((i : Int) + 1) = ((i + 1 : Nat) : Int) := by omega
  have e2 : ((n : Int) - i - 1) = (n : Int) - ((i + 1 : Nat) : Int) := by omega
  rw [e1, e2] at hr
  exact hr
theorem nxR {it : Addr} {n i : Nat} {Q : Option Value → Shared → Prop} (h : At h₀ s₀ frs ((it, rIt n i) :: led) s) (hi : i < n) (k : ∀ t s', At h₀ s₀ frs ((it, rIt n (i + 1)) :: led) s' → Q (some (.int (i : Int) t)) s') : W prog w A (pyNext (.ref it)) Q E s :=
  ⟨wpAny_pyNext_range_item (h.get _ (.head _)) (by omega) fun h' hr hs => k _ _ (h.same (t := s.toks + 1) .head hs (rIt_next hr))⟩
theorem nxRend {it : Addr} {n i : Nat} {Q : Option Value → Shared → Prop} (h : At h₀ s₀ frs ((it, rIt n i) :: led) s) (hh : A.handled = none) (hi : n ≤ i) (k : ∀ s', At h₀ s₀ frs led s' → Q none s') : W prog w A (pyNext (.ref it)) Q E s :=
  ⟨wpAny_pyNext_range_end hh (h.get _ (.head _)) (by omega) fun h' hs => k _ (h.lose (t := s.toks) hs)⟩
end
end Mine
end

/-! part Table -/
section
open PySem PySem.W PyProof.Rows PySem.Calls
set_option maxRecDepth 100000
set_option linter.unusedVariables false
namespace Mine
theorem f162 (w : World) : Fn w 162 := ⟨rfl, rfl, rfl, rfl, rfl, rfl, rfl⟩
theorem n162 (P : Params) (a : Value) : BT (fdAt P 162) ⟨[a], []⟩ [(Str.ofString "blocks", a)] := .of_eq (by kernel_rfl)
theorem g_len (w : World) : nsIn (KK w.params) mainGlobals (Str.ofString "len") = some none := by kernel_rfl
theorem b_len : bootBuiltins (Str.ofString "len") = some (.builtin "len") := by decide +kernel
theorem g_range (w : World) : nsIn (KK w.params) mainGlobals (Str.ofString "range") = some none := by kernel_rfl
theorem b_range : bootBuiltins (Str.ofString "range") = some (.type "range") := by decide +kernel
/-- a list of four ints in the ledger -/
noncomputable def Blk (led : List (Addr × Obj)) (a : Addr) (d : List Int) : Prop := ∃ vs n, (a, listOf (List.toArray vs) n) ∈ led ∧ IntsAre vs d ∧ d.length = 4
noncomputable def refs (as : List Addr) : List Value := as.map Value.ref
/-- the list at a of references to these objects -/
noncomputable def lsP (a : Addr) (seg : List (Addr × Obj)) (n : Nat) : Addr × Obj := (a, listOf (refs (seg.map (·.1))).toArray n)
theorem refs_get {as : List Addr} {i : Nat} {a : Addr} (h : as[i]? = some a) : (refs as)[i]? = some (.ref a) := by simp [refs, h]
theorem perm_insAt {α : Type} (i : Nat) (x : α) (l : List α) : (insAt i x l).Perm (x :: l) := by
  unfold insAt
  exact (List.perm_middle).trans (by rw [List.take_append_drop])
theorem insAt_map {α β : Type} (f : α → β) (i : Nat) (x : α) (l : List α) : insAt i (f x) (l.map f) = (insAt i x l).map f := by simp [insAt]
section
variable {prog : Program} {w : World} {A : Around} {s : Shared} {h₀ : Heap} {s₀ : Shared} {frs : List (Addr × Mp)} {led : List (Addr × Obj)}
inductive tabI (h₀ : Heap) (s₀ : Shared) (L : Addr) (frs : List (Addr × Mp)) (led : List (Addr × Obj)) (aB : Addr) (as : List Addr) (it T : Addr) (n : Nat) (s : Shared) : Prop
  | mk (i : _) (m : _) (nT : _) (tab : _) (q1 : n + i = as.length) (q2 : At h₀ s₀ ((L, m) :: frs) ((it, rIt as.length i) :: (T, listOf (refs tab).toArray nT) :: led) s) (q3 : tab.Perm (as.take i)) (q4 : m (Str.ofString "table") = some (.ref T)) (q5 : m (Str.ofString "blocks") = some (.ref aB))
theorem table_spec {R : Result → Shared → Prop} {j : Nat} (G : Gr w h₀) (h : At h₀ s₀ frs led s) (r : Rm A (j + 3)) {aB : Addr} {as : List Addr} {nB : Nat} {dat : Addr → List Int} (hB : (aB, listOf (refs as).toArray nB) ∈ led) (hd : ∀ a ∈ as, Blk led a (dat a)) (hz : as.length ≤ 1000)
    (k : ∀ T tab n s', At h₀ s₀ frs ((T, listOf (refs tab).toArray n) :: led) s' → tab.Perm as → R (.ok (.ret (.ref T))) s') :
    C prog w A (.call (.ref 162) ⟨[.ref aB], []⟩) R s := by
  refine callIn G (f162 w) h r (n162 w.params _) (by kernel_rfl) fun L s₁ h r₁ => ?_
  have hlen : (refs as).length = as.length := by simp [refs]
  refine xCons (xAsg (dList (iNil ⟨Nat.le_of_ble_eq_true rfl, _, _, _, _, h, fun T s₂ h => stL h fun s₃ h => ?_⟩)))
  refine xCons (xFor (cT G h (g_range w) b_range (iCons (cB G h (g_len w) b_len (iCons (ldL h rfl (iNil (fLen h (.tail _ hB) (by with_reducible exact ar8 ‹_› ‹_› (by decide)) fun t₁ s₄ h => iNil (fRange h fun rr t₂ t₃ t₄ s₅ h => ?_)))))))))
  rw [hlen] at h
  refine itR h (.head _) (by with_reducible exact ar16 ‹_› (by decide)) fun it s₆ h => ⟨tabI h₀ s₀ L frs led aB as it T, as.length, ⟨0, _, 0, [], rfl, h.keep1 1, by simp, rfl, rfl⟩, fun n s hi => ?_⟩
  obtain ⟨i, m, nT, tab, hn, h, hp, m1, m2⟩ := hi
  have hpl := hp.length_eq
  by_cases hlt : i < as.length
  · obtain ⟨a, ha⟩ : ∃ a, as[i]? = some a := ⟨as[i], by simp [hlt]⟩
    have ham : a ∈ as := List.mem_of_getElem? ha
    obtain ⟨vs, nv, hv1, hv2, hv3⟩ := hd a ham
    obtain ⟨p, l, hh, mk, hdat⟩ : ∃ p l hh mk, dat a = [p, l, hh, mk] := len4 hv3
    rw [hdat] at hv2
    obtain ⟨t2, hg2⟩ := hv2.get 2 hh rfl
    refine nxR h hlt fun t s₇ h => aName (stL h fun s₈ h => ?_)
    have hlt2 : tab.length = i := by rw [hpl, List.length_take]; omega
    refine xCons (xExpr (cMeth PySem.F.plainAttrs_list PySem.F.slot_list_insert PySem.F.type_list_insert (ldL h m1 ⟨h.plainList (.tail _ (.head _)), ?_⟩)))
    refine iCons (eBin (eSub (eSub (ldL h m2 (ldL h rfl (lTail h (.tail _ (.tail _ hB)) (by with_reducible exact ar12) (arS (by assumption) (by assumption)) (refs_get ha) (cI h fun t₁ s₉ h => lTail h (.tail _ (.tail _ hv1)) (by decide) (by decide) hg2 ?_)))))))
    refine eBin (ldL h rfl (cI h fun t₂ s₁₀ h => iAdd h fun t₃ s₁₁ h => iMod h (by omega) fun t₄ s₁₂ h => ?_))
    refine iCons (eSub (ldL h m2 (ldL h rfl (lTail h (.tail _ (.tail _ hB)) (by with_reducible exact ar12) (arS (by assumption) (by assumption)) (refs_get ha) (iNil ?_)))))
    obtain ⟨q, hq, hqi⟩ : ∃ q : Nat, hh.fmod ((i : Int) + 1) = (q : Int) ∧ q ≤ i := by
      have h1 := Int.fmod_nonneg_of_pos hh (show (0 : Int) < (i : Int) + 1 by omega)
      have h2 := Int.fmod_lt_of_pos hh (show (0 : Int) < (i : Int) + 1 by omega)
      exact ⟨(hh.fmod ((i : Int) + 1)).toNat, (Int.toNat_of_nonneg h1).symm, Int.toNat_le.mpr (Int.le_of_lt_add_one h2)⟩
    rw [hq]
    have hrl : (refs tab).length = tab.length := by simp [refs]
    refine fInsert h (.tail .head) (by omega) (by rw [hrl, sizeLine_eq]; omega) fun s₁₃ h => ⟨rfl, xNil ?_⟩
    rw [show insAt q (Value.ref a) (refs tab) = refs (insAt q a tab) from insAt_map _ _ _ _] at h
    refine ⟨n - 1, by with_reducible exact ar3c ‹_› ‹_›, i + 1, _, _, insAt q a tab, by with_reducible exact ar11 ‹_› ‹_›, h, ?_, m1, m2⟩
    · refine (perm_insAt _ _ _).trans ?_
      rw [List.take_add_one, ha]
      exact ((hp.cons a).trans (List.perm_append_singleton a (as.take i)).symm)
  · refine nxRend h r₁.handled (by with_reducible exact ar18 ‹_›) fun s₇ h => xNil ?_
    refine xCons (xRet (ldL h m1 (k _ _ _ _ h.pop ?_)))
    rw [List.take_of_length_le (by with_reducible exact ar18 ‹_›)] at hp
    exact hp
end
end Mine
end

/-! part RulesX -/
section
open PySem PySem.W PyProof.Rows PySem.Calls
set_option maxRecDepth 100000
set_option linter.unusedVariables false
namespace Mine
/-- every frame on the stack is one of these -/
noncomputable def Fo (A : Around) (as : List Addr) : Prop := ∃ envs : List Env, A.frames = some envs ∧ ∀ env ∈ envs, env.scope.kind ≠ .module ∧ ∃ L, env.frame = some L ∧ L ∈ as
theorem Fo.deeper {A : Around} {as : List Addr} (h : Fo A as) {env : Env} {L : Addr} (hk : env.scope.kind ≠ .module) (hf : env.frame = some L) : Fo (A.deeper env) (L :: as) := by
  obtain ⟨envs, h1, h2⟩ := h
  refine ⟨env :: envs, by show A.frames.map (env :: ·) = _; rw [h1]; rfl, fun e he => ?_⟩
  rcases List.mem_cons.mp he with rfl | he
  · exact ⟨hk, L, hf, .head _⟩
  · obtain ⟨a, L', b, c⟩ := h2 e he
    exact ⟨a, L', b, .tail _ c⟩
noncomputable abbrev stopOf (t : Addr) : Obj := { cls := .type "StopIteration", data := .fields #[.ref t, .none, .none, .none, .bool false, .none] }
/-- the exception, its last note T -/
noncomputable def Noted (oe oT : Obj) (T : Addr) (fl : Value) : Prop := ∃ vs ts a0, oe.cls = .type "StopIteration" ∧ oe.data = .fields vs ∧ vs[0]? = some a0 ∧ vs[1]? = some (.ref T) ∧ oT.data = .fields ts ∧ ts[3]? = some fl
section
variable {prog : Program} {w : World} {A : Around} {E : Value → Shared → Prop} {s : Shared} {h₀ : Heap} {s₀ : Shared} {frs : List (Addr × Mp)} {led : List (Addr × Obj)} {led' : Obj → List (Addr × Obj)} {env : Env} {L : Addr} {m : Mp}

/-! list_iterator.__next__ -/
theorem lnext {it l : Addr} {o : Obj} {i n : Nat} {vs : List Value} {v : Value} {Q : Value → Shared → Prop} (h : At h₀ s₀ frs led s) (r : ∀ o', Rep it o o' led (led' o')) (ho : LIt l i o) (hl : (l, listOf vs.toArray n) ∈ led) (hx : vs[i]? = some v)
    (k : ∀ o' s', LIt l (i + 1) o' → At h₀ s₀ frs (led' o') s' → Q v s') : wpAny (model prog w) A (call (.builtin "list_iterator.__next__") [.ref it]) Q E s := by
  have hg : s.heap.get? it = some o := h.get _ (r o).mem
  have hit : s.heap.IsListIter it l i := ⟨o, hg, ho.1, ho.2⟩
  have hol := h.get _ hl
  refine wpAny_call_entry slot_listiter_next hit.typeIs entry_listiter_next ?_ (args_listiter_next _)
  show wpAny _ _ (field (.ref it) 0 >>= _) _ _ s
  refine wpAny_bind (wpAny_field hg ho.2 (x := .ref l) rfl ?_)
  show wpAny _ _ (if (Value.ref l == Value.none) = true then _ else _) _ _ s
  rw [if_neg (show ¬ ((Value.ref l == Value.none) = true) from Bool.false_ne_true)]
  show wpAny _ _ (field (.ref it) 1 >>= _) _ _ s
  refine wpAny_bind (wpAny_field hg ho.2 (x := .int i 0) rfl ?_)
  show wpAny _ _ (seqItems? (.ref l) >>= _) _ _ s
  refine wpAny_bind (wpAny_seqItems hol rfl ?_)
  have hx' : vs.toArray[i]? = some v := by simpa using hx
  simp only [Int.toNat_natCast, hx']
  refine wpAny_bind (wpAny_setField hg ho.2 (by simp) (wpAny_pure ⟨v, rfl, ?_⟩))
  have hd' := Obj.data_mapFields ho.2 (·.setIfInBounds 1 (rawInt ((i + 1 : Nat) : Int)))
  refine k (Obj.mapFields (·.setIfInBounds 1 (rawInt ((i + 1 : Nat) : Int))) o) _ ⟨(Obj.cls_mapFields ..).trans ho.1, ?_⟩ (h.upd (t := s.toks) (r _) ?_ (Obj.isFreed_of_fields hd'))
  · rw [hd']; simp [rawInt]
  · rfl
theorem lstop {it l : Addr} {o : Obj} {i n : Nat} {vs : List Value} {Q : Value → Shared → Prop} (h : At h₀ s₀ frs ((it, o) :: led) s) (hh : A.handled = none) (ho : LIt l i o) (hl : (l, listOf vs.toArray n) ∈ led) (hx : vs[i]? = none)
    (k : ∀ e t s', At h₀ s₀ frs ((e, stopOf t) :: led) s' → E (.ref e) s') : wpAny (model prog w) A (call (.builtin "list_iterator.__next__") [.ref it]) Q E s := by
  have hg : s.heap.get? it = some o := h.get _ (.head _)
  have hit : s.heap.IsListIter it l i := ⟨o, hg, ho.1, ho.2⟩
  have hol := h.get _ (.tail _ hl)
  refine wpAny_call_entry slot_listiter_next hit.typeIs entry_listiter_next ?_ (args_listiter_next _)
  show wpAny _ _ (field (.ref it) 0 >>= _) _ _ s
  refine wpAny_bind (wpAny_field hg ho.2 (x := .ref l) rfl ?_)
  show wpAny _ _ (if (Value.ref l == Value.none) = true then _ else _) _ _ s
  rw [if_neg (show ¬ ((Value.ref l == Value.none) = true) from Bool.false_ne_true)]
  show wpAny _ _ (field (.ref it) 1 >>= _) _ _ s
  refine wpAny_bind (wpAny_field hg ho.2 (x := .int i 0) rfl ?_)
  show wpAny _ _ (seqItems? (.ref l) >>= _) _ _ s
  refine wpAny_bind (wpAny_seqItems hol rfl ?_)
  have hx' : vs.toArray[i]? = none := by simpa using hx
  simp only [Int.toNat_natCast, hx']
  refine wpAny_bind (wpAny_rule (wpAny_bind (wpAny_setField hg ho.2 (by simp) ?_)))
  show wpAny _ _ (newExc (.type "StopIteration") [] >>= _) _ _ _
  refine wpAny_bind ?_
  simp only [newExc, newTuple]
  refine wpAny_bind (wpAny_newObj_type ?_ (by size_fits))
  refine wpAny_bind (m := firstArgMember _ _) (wpAny_of_eq (a := Value.none) (by first | rfl | (simp only [firstArgMember]; rfl)) ?_)
  refine wpAny_newObj_type ?_ (by size_fits)
  simp only [raiseNew]
  refine wpAny_bind (wpAny_handled ?_)
  rw [show A.in1.handled = none from hh]
  refine wpAny_bind (wpAny_pure (wpAny_throw ?_))
  have h1 : At h₀ s₀ frs led { s with heap := s.heap.update it (Obj.mapFields (·.setIfInBounds 0 Value.none)) } := h.lose (t := s.toks) (Heap.SameBut.update ..).extBut
  have h2 := h1.push (tupOf #[] 0) rfl s.toks
  have h3 := h2.push (stopOf (s.heap.update it (Obj.mapFields (·.setIfInBounds 0 Value.none))).objs.size) rfl s.toks
  exact k _ _ _ (h3.keep1 1)
/-- next(it) -/
theorem fNext {it l : Addr} {o : Obj} {i n : Nat} {vs : List Value} {v : Value} {Q : Value → Shared → Prop} (h : At h₀ s₀ frs led s) (r : ∀ o', Rep it o o' led (led' o')) (ho : LIt l i o) (hl : (l, listOf vs.toArray n) ∈ led) (hx : vs[i]? = some v)
    (k : ∀ o' s', LIt l (i + 1) o' → At h₀ s₀ frs (led' o') s' → Q v s') : W prog w A (call (.builtin "next") [.ref it]) Q E s := by
  have hg : s.heap.get? it = some o := h.get _ (r o).mem
  have hit : s.heap.IsListIter it l i := ⟨o, hg, ho.1, ho.2⟩
  refine ⟨call_function_entry (by decide +kernel) (by decide +kernel) kdk_entry_next (kdk_args_next _) ?_⟩
  unfold Builtin.«next»
  refine wpAny_bind (m := someArgs "next" 1 2 _) (wpAny_of_eq (a := [Value.ref it]) (by first | rfl | kernel_rfl!) ?_)
  dsimp only
  refine wpAny_bind (wpAny_specialOf (name := Str.ofString "__next__") hit.typeIs slot_listiter_next.lookup ?_)
  refine wpAny_ite_split (fun hab => absurd hab (by decide)) (fun _ => ?_)
  refine wpAny_bind (wpAny_callSpecial?_slot hit.typeIs slot_listiter_next (lnext h r ho hl hx fun o' s' h1 h2 => ?_))
  exact wpAny_pure ⟨_, rfl, k o' s' h1 h2⟩
theorem fNextStop {it l : Addr} {o : Obj} {i n : Nat} {vs : List Value} {Q : Value → Shared → Prop} (h : At h₀ s₀ frs ((it, o) :: led) s) (hh : A.handled = none) (ho : LIt l i o) (hl : (l, listOf vs.toArray n) ∈ led) (hx : vs[i]? = none)
    (k : ∀ e t s', At h₀ s₀ frs ((e, stopOf t) :: led) s' → E (.ref e) s') : W prog w A (call (.builtin "next") [.ref it]) Q E s := by
  have hg : s.heap.get? it = some o := h.get _ (.head _)
  have hit : s.heap.IsListIter it l i := ⟨o, hg, ho.1, ho.2⟩
  refine ⟨call_function_entry (by decide +kernel) (by decide +kernel) kdk_entry_next (kdk_args_next _) ?_⟩
  unfold Builtin.«next»
  refine wpAny_bind (m := someArgs "next" 1 2 _) (wpAny_of_eq (a := [Value.ref it]) (by first | rfl | kernel_rfl!) ?_)
  dsimp only
  refine wpAny_bind (wpAny_specialOf (name := Str.ofString "__next__") hit.typeIs slot_listiter_next.lookup ?_)
  refine wpAny_ite_split (fun hab => absurd hab (by decide)) (fun _ => ?_)
  exact wpAny_bind (wpAny_callSpecial?_slot hit.typeIs slot_listiter_next (lstop h hh ho hl hx fun e t s' h1 => k e t s' h1))

/-! notes on the exception -/
theorem funFrames {A : Around} {envs : List Env} {base : Heap} (h : At h₀ s₀ frs led s) (he : ∀ env ∈ envs, env.scope.kind ≠ .module ∧ ∃ L, env.frame = some L ∧ L ∈ frs.map (·.1)) (hb : ∀ a ∈ frs.map (·.1), base.get? a = none) : s.heap.FunFrames base envs := by
  induction envs with
  | nil => trivial
  | cons env envs ih =>
    obtain ⟨hk, L, hf, hL⟩ := he env (.head _)
    obtain ⟨f, hfm, rfl⟩ := List.mem_map.mp hL
    obtain ⟨o, es, ep, ho, hd, _⟩ := h.ns f hfm
    exact ⟨hk, ⟨f.1, o, hf, hb _ hL, ho, fun vs q => by rw [hd] at q; cases q⟩, ih fun e he' => he e (.tail _ he')⟩
theorem At.noted {e : Addr} {oe₀ : Obj} {mid : List (Addr × Obj)} {cls a0 fl : Value} {h' : Heap} {t : Nat} (h : At h₀ s₀ frs ((e, oe₀) :: (mid ++ led)) s) (hcls : cls = .type "StopIteration")
    (k1 : (hideAll s.heap (e :: (mid.map (·.1) ++ frs.map (·.1)))).StaysIn h') (k3 : h'.TracedAtW (hideAll s.heap (e :: (mid.map (·.1) ++ frs.map (·.1)))) e cls a0 fl) (k4 : s.heap.UpToSlots h') :
    ∃ oe oT T, At h₀ s₀ frs ((e, oe) :: (T, oT) :: led) { s with heap := h', toks := t } ∧ Noted oe oT T fl := by
  obtain ⟨oe, vs, T, oT, ts, he, ⟨hc, hv0⟩, hd, h1, hnT, hTe, hT, hdT, h3⟩ := k3
  have nd := List.nodup_append.mp h.nd
  have ndl := nd.2.1
  rw [List.map_cons, List.nodup_cons, List.map_append] at ndl
  have ndm := List.nodup_append.mp ndl.2
  have old : ∀ b o, h₀.get? b = some o → h'.get? b = some o := fun b o q => k1 b o (hideAll_get _ (h.keep b o q) fun hm => by
    have hn : b ∈ frs.map (·.1) ++ ((e, oe₀) :: (mid ++ led)).map (·.1) := by
      rcases List.mem_cons.mp hm with rfl | hm
      · exact List.mem_append_right _ (.head _)
      · rcases List.mem_append.mp hm with hm | hm
        · exact List.mem_append_right _ (.tail _ (by rw [List.map_append]; exact List.mem_append_left _ hm))
        · exact List.mem_append_left _ hm
    rw [h.new b hn] at q; cases q)
  have inb : ∀ p ∈ led, (hideAll s.heap (e :: (mid.map (·.1) ++ frs.map (·.1)))).get? p.1 = some p.2 := fun p hp => hideAll_get _ (h.get p (.tail _ (List.mem_append_right _ hp))) fun hm => by
    have hpl : p.1 ∈ led.map (·.1) := List.mem_map_of_mem hp
    rcases List.mem_cons.mp hm with q | hm
    · exact ndl.1 (q ▸ List.mem_append_right _ hpl)
    · rcases List.mem_append.mp hm with hm | hm
      · exact ndm.2.2 _ hm _ hpl rfl
      · exact nd.2.2 _ hm _ (.tail _ (by rw [List.map_append]; exact List.mem_append_right _ hpl)) rfl
  have hns : ∀ f ∈ frs, h'.Ns f.1 f.2 := fun f hf => k4.ns (h.ns f hf)
  refine ⟨oe, oT, T, ⟨h.gens, h.os, old, hns, fun p hp => ?_, ?_, fun a ha => ?_⟩, vs, ts, a0, hc.trans hcls, hd, hv0, h1, hdT, h3⟩
  · rcases List.mem_cons.mp hp with rfl | hp
    · exact he
    · rcases List.mem_cons.mp hp with rfl | hp
      · exact hT
      · exact k1 _ _ (inb p hp)
  · have hTf : T ∉ frs.map (·.1) := fun hm => by
      obtain ⟨f, hf, q⟩ := List.mem_map.mp hm
      obtain ⟨o, es, ep, ho, hd', _⟩ := hns f hf
      have q' : f.1 = T := q
      rw [q', hT] at ho
      cases ho
      rw [hdT] at hd'; cases hd'
    have hTl : T ∉ led.map (·.1) := fun hm => by
      obtain ⟨p, hp, q⟩ := List.mem_map.mp hm
      have q' : p.1 = T := q
      have := inb p hp
      rw [q', hnT] at this; cases this
    rw [List.map_cons, List.map_cons]
    refine List.nodup_append.mpr ⟨nd.1, List.nodup_cons.mpr ⟨fun hm => ?_, List.nodup_cons.mpr ⟨hTl, ndm.2.1⟩⟩, fun a ha b hb q => ?_⟩
    · rcases List.mem_cons.mp hm with q | hm
      · exact hTe q.symm
      · exact ndl.1 (List.mem_append_right _ hm)
    · subst q
      rcases List.mem_cons.mp hb with q | hb
      · exact nd.2.2 _ ha _ (.head _) q
      · rcases List.mem_cons.mp hb with q | hb
        · exact hTf (by rw [show a = T from q] at ha; exact ha)
        · exact nd.2.2 _ ha _ (.tail _ (by rw [List.map_append]; exact List.mem_append_right _ hb)) rfl
  · rcases List.mem_append.mp ha with ha | ha
    · exact h.new a (List.mem_append_left _ ha)
    · rcases List.mem_cons.mp ha with rfl | ha
      · exact h.new _ (List.mem_append_right _ (.head _))
      · rcases List.mem_cons.mp ha with qa | ha
        · rw [show a = T from qa]
          cases q : h₀.get? T with
          | none => rfl
          | some o =>
            have hh := h.keep _ _ q
            have : (hideAll s.heap (e :: (mid.map (·.1) ++ frs.map (·.1)))).get? T = some o := hideAll_get _ hh fun hm => by
              have hn : T ∈ frs.map (·.1) ++ ((e, oe₀) :: (mid ++ led)).map (·.1) := by
                rcases List.mem_cons.mp hm with q' | hm
                · exact absurd q' hTe
                · rcases List.mem_append.mp hm with hm | hm
                  · exact List.mem_append_right _ (.tail _ (by rw [List.map_append]; exact List.mem_append_left _ hm))
                  · exact List.mem_append_left _ hm
              rw [h.new T hn] at q; cases q
            rw [hnT] at this; cases this
        · exact h.new a (List.mem_append_right _ (.tail _ (by rw [List.map_append]; exact List.mem_append_right _ ha)))

/-- a new exception leaves the frame -/
theorem leaveE {e t : Addr} {Q : Unit → Shared → Prop} {outer : List Env} (h : At h₀ s₀ frs ((e, stopOf t) :: led) s) (hF : Fo A (frs.map (·.1))) (hA : A.frames = some (env :: outer)) (hf : env.frame = some L)
    (k : ∀ oe oT T s', At h₀ s₀ frs ((e, oe) :: (T, oT) :: led) s' → Noted oe oT T .none → Q () s') : wpAny (model prog w) A (leaving env (.ref e)) Q E s := by
  obtain ⟨envs, h1, h2⟩ := hF
  rw [hA] at h1
  cases h1
  have hm : ∀ a ∈ frs.map (·.1), (hideAll s.heap (e :: (([] : List (Addr × Obj)).map (·.1) ++ frs.map (·.1)))).get? a = none := fun a ha => hideAll_none _ (.tail _ ha)
  refine wpAny_leaving_firstW hA (funFrames (A := A) h h2 hm) hf (h.get _ (.head _)) (fun b o q => of_hideAll _ q) (hideAll_none _ (.head _)) rfl rfl rfl fun h' hL => ?_
  obtain ⟨k1, k2, k3, k4⟩ := hL
  obtain ⟨oe, oT, T, hat, hn⟩ := At.noted (mid := []) (t := s.toks) h rfl k1 k3.at k4
  exact k oe oT T _ hat hn
/-- the frame's own try takes note of an exception that came from below -/
theorem noteE {e T : Addr} {oe oT : Obj} {Q : Unit → Shared → Prop} {outer : List Env} (h : At h₀ s₀ frs ((e, oe) :: (T, oT) :: led) s) (hn : Noted oe oT T .none) (hF : Fo A (frs.map (·.1))) (hA : A.frames = some (env :: outer)) (hf : env.frame = some L)
    (k : ∀ oe oT T s', At h₀ s₀ frs ((e, oe) :: (T, oT) :: led) s' → Noted oe oT T (rawInt L) → Q () s') : wpAny (model prog w) A (noteFrame (.ref e) env) Q E s := by
  obtain ⟨envs, h1, h2⟩ := hF
  rw [hA] at h1
  cases h1
  obtain ⟨vs, ts, a0, hc, hd, hv0, hv1, hdT, h3⟩ := hn
  have hTe : T ≠ e := by
    have := (List.nodup_append.mp h.nd).2.1
    rw [List.map_cons, List.nodup_cons] at this
    intro q; exact this.1 (q ▸ .head _)
  have hm : ∀ a ∈ frs.map (·.1), (hideAll s.heap (e :: (([(T, oT)] : List (Addr × Obj)).map (·.1) ++ frs.map (·.1)))).get? a = none := fun a ha => hideAll_none _ (.tail _ (.tail _ ha))
  refine wpAny_noteFrame_onW (cls := .type "StopIteration") (a0 := a0) hA (funFrames (A := A) h h2 hm) hf ⟨oe, vs, T, oT, ts, h.get _ (.head _), ⟨hc, hv0⟩, hd, hv1, hideAll_none _ (.tail _ (.head _)), hTe, h.get _ (.tail _ (.head _)), hdT, h3⟩ (fun b o q => of_hideAll _ q) (hideAll_none _ (.head _)) fun h' hL => ?_
  obtain ⟨k1, k2, k3, k4⟩ := hL
  obtain ⟨oe, oT, T, hat, hn⟩ := At.noted (mid := [(T, oT)]) (t := s.toks) h rfl k1 k3 k4
  exact k oe oT T _ hat hn
/-- the frame's own try takes note of a new exception -/
theorem noteN {e t : Addr} {Q : Unit → Shared → Prop} {outer : List Env} (h : At h₀ s₀ frs ((e, stopOf t) :: led) s) (hF : Fo A (frs.map (·.1))) (hA : A.frames = some (env :: outer)) (hf : env.frame = some L)
    (k : ∀ oe oT T s', At h₀ s₀ frs ((e, oe) :: (T, oT) :: led) s' → Noted oe oT T (rawInt L) → Q () s') : wpAny (model prog w) A (noteFrame (.ref e) env) Q E s := by
  obtain ⟨envs, h1, h2⟩ := hF
  rw [hA] at h1
  cases h1
  have hm : ∀ a ∈ frs.map (·.1), (hideAll s.heap (e :: (([] : List (Addr × Obj)).map (·.1) ++ frs.map (·.1)))).get? a = none := fun a ha => hideAll_none _ (.tail _ ha)
  unfold noteFrame
  simp only [hf]
  refine wpAny_bind (wpAny_field (h.get _ (.head _)) rfl (x := .none) rfl ?_)
  rw [if_neg (by decide)]
  refine wpAny_entryW (a0 := .ref t) hA (funFrames (A := A) h h2 hm) hf (h.get _ (.head _)) (fun b o q => of_hideAll _ q) (hideAll_none _ (.head _)) rfl (by show 1 < 6; decide) rfl fun h' hL => ?_
  obtain ⟨k1, k2, k3, k4⟩ := hL
  obtain ⟨oe, oT, T, hat, hn⟩ := At.noted (mid := []) (t := s.toks) h rfl k1 k3 k4
  exact k oe oT T _ hat hn
/-- setFlight e none -/
theorem flightE {e T : Addr} {oe oT : Obj} {fl : Value} {Q : Unit → Shared → Prop} (h : At h₀ s₀ frs ((e, oe) :: (T, oT) :: led) s) (hn : Noted oe oT T fl)
    (k : ∀ oT s', At h₀ s₀ frs ((e, oe) :: (T, oT) :: led) s' → Noted oe oT T .none → Q () s') : wpAny (model prog w) A (setFlight (.ref e) none) Q E s := by
  obtain ⟨vs, ts, a0, hc, hd, hv0, hv1, hdT, h3⟩ := hn
  have hsz := (Array.getElem?_eq_some_iff.mp h3).1
  refine wpAny_setFlight_none (h.get _ (.head _)) hd hv1 (h.get _ (.tail _ (.head _))) hdT hsz ?_
  have hd' := Obj.data_mapFields hdT (·.setIfInBounds 3 Value.none)
  refine k (Obj.mapFields (·.setIfInBounds 3 Value.none) oT) _ (h.upd (t := s.toks) (.tail .head) rfl (Obj.isFreed_of_fields hd')) ⟨vs, _, a0, hc, hd, hv0, hv1, hd', by simp [hsz]⟩
theorem s_stopBase : isSubtype (.type "StopIteration") (.type "BaseException") = pure true := by rw [isSubtype_type]; kernel_rfl
theorem s_stopTup : isSubtype (.type ((Manifest.find? "StopIteration").elim "type" fun x => x.metatype)) (.type "tuple") = pure false := by rw [isSubtype_type]; kernel_rfl
theorem s_stopStop : isSubtype (.type "StopIteration") (.type "StopIteration") = pure true := by rw [isSubtype_type]; kernel_rfl
theorem g_stop (w : World) : nsIn (KK w.params) mainGlobals (Str.ofString "StopIteration") = some none := by kernel_rfl
theorem b_stop : bootBuiltins (Str.ofString "StopIteration") = some (.type "StopIteration") := by decide +kernel
/-- the handler of StopIteration -/
theorem handleE (G : Gr w h₀) {e T : Addr} {oe oT : Obj} {p hp : Pos} {b₀ : Stmt} {suite : List Stmt} {Q : Flow → Shared → Prop} (h : At h₀ s₀ frs ((e, oe) :: (T, oT) :: led) s) (hn : Noted oe oT T .none)
    (k : ∀ (E' : Value → Shared → Prop) s', At h₀ s₀ frs led s' → W prog w (A.mark (some (.ref e))) (execs (b₀ :: suite) env) Q E' s')
    (hg : autoParam (env.globals = mainGlobals) Mine.aRfl) (hb : autoParam (env.builtins = builtinsNs) Mine.aRfl) (hk : autoParam (env.scope.kind = .function) Mine.aRfl) (hl : autoParam (env.kindOf (Str.ofString "StopIteration") = some .globalImplicit) Mine.aRfl) :
    wpAny (model prog w) A (handleBy (.ref e) env [.ExceptHandler (some (.Name (Str.ofString "StopIteration") p)) none (b₀ :: suite) hp]) Q E s := by
  have hc : oe.cls = .type "StopIteration" := by obtain ⟨vs, ts, a0, hc, _⟩ := hn; exact hc
  refine wpAny_handleBy_builtin (X := "StopIteration") (T := "StopIteration") (b := true) s_stopBase s_stopTup s_stopStop ?_
  refine (ldB G h (g_stop w) b_stop ⟨rfl, ⟨oe, h.get _ (.head _), hc⟩, ?_⟩ hg hb (by decide) hk hl).w
  rw [if_pos rfl]
  exact flightE h hn fun oT s' h hn => (k _ _ (h.drop 2)).w
/-- an exception met by the try -/
inductive TryK (prog : Program) (w : World) (A : Around) (h₀ : Heap) (s₀ : Shared) (env : Env) (b₀ : Stmt) (suite : List Stmt) (Q : Flow → Shared → Prop) (ev : Value) (s : Shared) : Prop
  | mk (frs : List (Addr × Mp)) (led : List (Addr × Obj)) (e : Addr) (he : ev = .ref e) (hF : Fo A (frs.map (·.1))) (h : (∃ t, At h₀ s₀ frs ((e, stopOf t) :: led) s) ∨ ∃ oe oT T, At h₀ s₀ frs ((e, oe) :: (T, oT) :: led) s ∧ Noted oe oT T .none)
      (k : ∀ (E' : Value → Shared → Prop) s', At h₀ s₀ frs led s' → W prog w (A.mark (some (.ref e))) (execs (b₀ :: suite) env) Q E' s') : TryK prog w A h₀ s₀ env b₀ suite Q ev s
/-- try: body / except StopIteration: suite; nothing else raised -/
theorem xTry (G : Gr w h₀) {body : List Stmt} {p hp pos : Pos} {b₀ : Stmt} {suite : List Stmt} {Q : Flow → Shared → Prop} {outer : List Env}
    (hb : W prog w A (execs body env) Q (TryK prog w A h₀ s₀ env b₀ suite Q) s)
    (hA : A.frames = some (env :: outer)) (hf : env.frame = some L)
    (hg : autoParam (env.globals = mainGlobals) Mine.aRfl) (hbi : autoParam (env.builtins = builtinsNs) Mine.aRfl) (hk : autoParam (env.scope.kind = .function) Mine.aRfl) (hl : autoParam (env.kindOf (Str.ofString "StopIteration") = some .globalImplicit) Mine.aRfl) :
    W prog w A (exec (.Try body [.ExceptHandler (some (.Name (Str.ofString "StopIteration") p)) none (b₀ :: suite) hp] [] [] pos) env) Q E s := by
  refine ⟨wpAny_Try_except (wpAny_mono hb.w (fun f s₁ hq => ?_) fun ev s₁ he => ?_)⟩
  · cases f with
    | next => exact wpAny_execs_nil hq
    | _ => exact hq
  · obtain ⟨frs, led, e, rfl, hF, hat, k⟩ := he
    have fin : ∀ oe oT T s', At h₀ s₀ frs ((e, oe) :: (T, oT) :: led) s' → Noted oe oT T (rawInt L) → wpAny (model prog w) A (setFlight (.ref e) none) (fun _ s₃ => wpAny (model prog w) A (handleBy (.ref e) env [.ExceptHandler (some (.Name (Str.ofString "StopIteration") p)) none (b₀ :: suite) hp]) Q E s₃) E s' :=
      fun oe oT T s' h hn => flightE h hn fun oT s'' h hn => handleE G h hn k hg hbi hk hl
    rcases hat with ⟨t, h⟩ | ⟨oe, oT, T, h, hn⟩
    · exact noteN h hF hA hf fin
    · exact noteE h hn hF hA hf fin
inductive RaK (h₀ : Heap) (s₀ : Shared) (L : Addr) (frs : List (Addr × Mp)) (R : Result → Shared → Prop) (ev : Value) (s : Shared) : Prop
  | mk (m : Mp) (led' : List (Addr × Obj)) (e t : Addr) (he : ev = .ref e) (h : At h₀ s₀ ((L, m) :: frs) ((e, stopOf t) :: led') s) (k : ∀ oe oT T s'', At h₀ s₀ frs ((e, oe) :: (T, oT) :: led') s'' → Noted oe oT T .none → R (.error (.ref e)) s'') : RaK h₀ s₀ L frs R ev s
/-- a call that may end in a new StopIteration -/
theorem callInE {R : Result → Shared → Prop} {n : Nat} {f : Addr} {args : Args} {binds : List (Str × Value)} (G : Gr w h₀) (F : Fn w f) (h : At h₀ s₀ frs led s) (r : Rm A (n + 1)) (hF : Fo A (frs.map (·.1)))
    (hbind : BT (fdAt w.params f) args binds) (hloc : (binds.all fun x => decide ((fdAt w.params f).scope.names.lookup x.1 = some .local)) = true)
    (k : ∀ L s₁, At h₀ s₀ ((L, fun x => binds.reverse.lookup x) :: frs) led s₁ → Rm (A.deeper (envAt w.params f L)) n → W prog w (A.deeper (envAt w.params f L)) (execs (stmtsOf (fdAt w.params f)) (envAt w.params f L))
      (kFl R) (RaK h₀ s₀ L frs R) s₁) : C prog w A (.call (.ref f) args) R s := by
  have X : (KK w.params).In s.heap := G.kin.keeps h.keep
  refine ⟨codeAny_call_def r.room (X _ _ F.hK) rfl (G.lim.keeps h.keep) (codeRec_of X F.hcode) F.hbody (hbind.b s) (fun x hx => of_decide_eq_true (List.all_eq_true.mp F.hcell x hx)) (fun x hx => of_decide_eq_true (List.all_eq_true.mp hloc x hx)) (fun h₁ hns hk₁ => ?_) F.hco F.hgen F.hk⟩
  refine wpAny_mono (k _ _ (h.frame hk₁ hns (Nat.le_refl _)) (r.deeper _)).w (fun _ _ x => x) fun ev s' he => ?_
  obtain ⟨m, led', e, t, rfl, hat, hk⟩ := he
  obtain ⟨envs, hE, _⟩ := id hF
  have hfr : (A.deeper (envAt w.params f s.heap.objs.size)).frames = some (envAt w.params f s.heap.objs.size :: envs) := by show A.frames.map _ = _; rw [hE]; rfl
  have hkm : (envAt w.params f s.heap.objs.size).scope.kind ≠ .module := by
    have : (envAt w.params f s.heap.objs.size).scope.kind = .function := F.hk
    rw [this]; decide
  exact leaveE (env := envAt w.params f s.heap.objs.size) (L := s.heap.objs.size) hat (hF.deeper hkm rfl) hfr rfl fun oe oT T s'' h hn => hk oe oT T s'' h.pop hn
end
end Mine
end

/-! part Pv -/
section
open PySem PySem.W PyProof.Rows PySem.Calls
set_option maxRecDepth 100000
set_option linter.unusedVariables false
namespace Mine
/-! six-bit digits, the highest first -/
noncomputable def enc : List Nat → List Int
  | [] => []
  | [d] => [(d : Int)]
  | d :: e :: r => ((d + 64 : Nat) : Int) :: enc (e :: r)
noncomputable def val : List Nat → Nat
  | [] => 0
  | d :: r => d * 64 ^ r.length + val r
theorem enc_length : ∀ ds : List Nat, (enc ds).length = ds.length
  | [] => rfl
  | [_] => rfl
  | d :: e :: r => by show (enc (e :: r)).length + 1 = _; rw [enc_length (e :: r)]; rfl
theorem enc_cons (d : Nat) {r : List Nat} (h : r ≠ []) : enc (d :: r) = ((d + 64 : Nat) : Int) :: enc r := by
  cases r with
  | nil => exact absurd rfl h
  | cons e r => rfl
theorem octLoop_enc (n : Nat) : ∀ ds : List Nat, ds ≠ [] → (∀ d ∈ ds, d < 64) → ∃ es, octLoop (enc ds) n = enc es ∧ es ≠ [] ∧ (∀ d ∈ es, d < 64) ∧ val es = n * 64 ^ ds.length + val ds := by
  induction n using Nat.strongRecOn with
  | ind n ih =>
    intro ds hne hlt
    rw [octLoop_eq]
    by_cases h : n = 0
    · rw [if_pos h]; exact ⟨ds, rfl, hne, hlt, by rw [h]; simp⟩
    · rw [if_neg h, ← enc_cons (n % 64) hne]
      obtain ⟨es, h1, h2, h3, h4⟩ := ih (n / 64) (by omega) (n % 64 :: ds) (by simp) (fun d hd => by rcases List.mem_cons.mp hd with rfl | hd; exact Nat.mod_lt _ (by decide); exact hlt d hd)
      refine ⟨es, h1, h2, h3, h4.trans ?_⟩
      rw [List.length_cons, val, Nat.pow_succ, Nat.mul_comm (64 ^ ds.length) 64, ← Nat.mul_assoc, ← Nat.add_assoc, ← Nat.add_mul]
      congr 2
      omega
theorem rep_enc (k : Nat) {ds : List Nat} (hne : ds ≠ []) : List.replicate k (64 : Int) ++ enc ds = enc (List.replicate k 0 ++ ds) := by
  induction k with
  | zero => rfl
  | succ k ih =>
    rw [List.replicate_succ, List.replicate_succ, List.cons_append, List.cons_append, ih, enc_cons 0 (by cases k <;> simp [hne])]
    rfl
theorem rep_val (k : Nat) (ds : List Nat) : val (List.replicate k 0 ++ ds) = val ds := by
  induction k with
  | zero => rfl
  | succ k ih => rw [List.replicate_succ, List.cons_append, val, Nat.zero_mul, Nat.zero_add, ih]
theorem octs_enc (N : Nat) : ∃ d ds, (∀ x ∈ d :: ds, x < 64) ∧ val (d :: ds) = N ∧ octs N = (((d + 128 + if ds = [] then 0 else 64 : Nat) : Int)) :: enc ds := by
  obtain ⟨es, h1, h2, h3, h4⟩ := octLoop_enc (N / 64) [N % 64] (by simp) (by intro d hd; simp at hd; subst hd; exact Nat.mod_lt _ (by decide))
  have h5 : List.replicate (N % 3) (64 : Int) ++ octLoop [((N % 64 : Nat) : Int)] (N / 64) = enc (List.replicate (N % 3) 0 ++ es) := by rw [← rep_enc _ h2, ← h1]; rfl
  have h6 : val (List.replicate (N % 3) 0 ++ es) = N := by rw [rep_val, h4]; simp [val]; omega
  have h7 : ∀ x ∈ List.replicate (N % 3) 0 ++ es, x < 64 := by
    intro x hx
    rcases List.mem_append.mp hx with hx | hx
    · rw [(List.mem_replicate.mp hx).2]; decide
    · exact h3 x hx
  unfold octs
  rw [h5]
  cases hq : List.replicate (N % 3) 0 ++ es with
  | nil => exact absurd (List.append_eq_nil_iff.mp hq).2 h2
  | cons d ds =>
    rw [hq] at h6 h7
    refine ⟨d, ds, h7, h6, ?_⟩
    cases ds with
    | nil => simp [enc]
    | cons e r => rw [enc_cons d (by simp)]; simp; omega
theorem and63 (b : Nat) : Builtin.bitAnd (b : Int) 63 = ((b % 64 : Nat) : Int) := by
  rw [bitAnd_pp (by with_reducible exact ar12) (by decide)]
  congr 1
  rw [Int.toNat_natCast]
  exact Nat.and_two_pow_sub_one_eq_mod b 6
theorem and64 : ∀ b : Nat, b < 256 → Builtin.bitAnd (b : Int) 64 = ((b / 64 % 2 * 64 : Nat) : Int) := by
  intro b hb
  rw [bitAnd_pp (by with_reducible exact ar12) (by decide), Int.toNat_natCast]
  congr 1
  show b &&& 64 = _
  revert b
  decide
theorem or6 (v d : Nat) (hd : d < 64) : Builtin.bitOr (((v : Int)) * 2 ^ (6 : Int).toNat) (d : Int) = ((v * 64 + d : Nat) : Int) := by
  have e : ((v : Int)) * 2 ^ (6 : Int).toNat = ((v * 64 : Nat) : Int) := by
    rw [show (2 : Int) ^ (6 : Int).toNat = 64 from rfl]; omega
  rw [e, bitOr_and, bitAnd_pp (by with_reducible exact ar12) (by with_reducible exact ar12), Int.toNat_natCast, Int.toNat_natCast]
  have : v * 64 &&& d = 0 := by
    apply Nat.eq_of_testBit_eq
    intro i
    rw [Nat.testBit_and, Nat.zero_testBit]
    by_cases h : i < 6
    · rw [show v * 64 = 2 ^ 6 * v by omega, Nat.testBit_two_pow_mul, decide_eq_false (by omega)]; simp
    · rw [Nat.testBit_lt_two_pow (Nat.lt_of_lt_of_le hd (show 64 ≤ 2 ^ i from by
        have : 2 ^ 6 ≤ 2 ^ i := Nat.pow_le_pow_right (by decide) (by with_reducible exact ar18 ‹_›)
        simpa using this))]; simp
  rw [this]; omega
theorem drop_head {α : Type} {l : List α} {i : Nat} {x : α} {r : List α} (h : l.drop i = x :: r) : l[i]? = some x ∧ l.drop (i + 1) = r := by
  have h1 : (l.drop i)[0]? = some x := by rw [h]; rfl
  rw [List.getElem?_drop] at h1
  refine ⟨by simpa using h1, ?_⟩
  have h2 : (l.drop i).drop 1 = r := by rw [h]; rfl
  rwa [List.drop_drop] at h2
theorem enc_cons' (d : Nat) (ds : List Nat) : enc (d :: ds) = ((d + if ds = [] then 0 else 64 : Nat) : Int) :: enc ds := by
  cases ds with
  | nil => simp [enc]
  | cons e r => rw [enc_cons d (by simp)]; simp
theorem f28 (w : World) : Fn w 28 := ⟨rfl, rfl, rfl, rfl, rfl, rfl, rfl⟩
theorem n28 (P : Params) (a : Value) : BT (fdAt P 28) ⟨[a], []⟩ [(Str.ofString "iterator", a)] := .of_eq (by kernel_rfl)
theorem g_next (w : World) : nsIn (KK w.params) mainGlobals (Str.ofString "next") = some none := by kernel_rfl
theorem b_next : bootBuiltins (Str.ofString "next") = some (.builtin "next") := by decide +kernel
section
variable {prog : Program} {w : World} {A : Around} {s : Shared} {h₀ : Heap} {s₀ : Shared} {frs : List (Addr × Mp)} {led : List (Addr × Obj)}
inductive pvI (h₀ : Heap) (s₀ : Shared) (L : Addr) (frs : List (Addr × Mp)) (led : List (Addr × Obj)) (it l : Addr) (ns rest : List Int) (N fin : Nat) (n : Nat) (s : Shared) : Prop
  | mk (m : _) (ds : _) (pos : _) (bN : _) (v : _) (tb : _) (tv : _) (o : _) (q1 : n = List.length ds) (q2 : At h₀ s₀ ((L, m) :: frs) ((it, o) :: led) s) (q3 : LIt l pos o) (q4 : pos + ds.length = fin) (q5 : ns.drop pos = enc ds ++ rest) (q6 : bN < 256) (q7 : bN / 64 % 2 = (if ds = [] then 0 else 1)) (q8 : v * 64 ^ ds.length + val ds = N) (q9 : (∀ x ∈ ds, x < 64)) (q10 : m (Str.ofString "b") = some (.int ((bN : Nat) : Int) tb)) (q11 : m (Str.ofString "val") = some (.int ((v : Nat) : Int) tv)) (q12 : m (Str.ofString "iterator") = some (.ref it))
theorem pv_spec {R : Result → Shared → Prop} {j : Nat} (G : Gr w h₀) {it l : Addr} {o : Obj} {i n : Nat} {vs : List Value} {ns rest : List Int} {N : Nat} (h : At h₀ s₀ frs ((it, o) :: led) s) (r : Rm A (j + 3)) (ho : LIt l i o) (hl : (l, listOf vs.toArray n) ∈ led) (hi : IntsAre vs ns) (hN : N < 2 ^ 20)
    (hpre : ns.drop i = octs N ++ rest)
    (k : ∀ t o' s', LIt l (i + (octs N).length) o' → At h₀ s₀ frs ((it, o') :: led) s' → R (.ok (.ret (.int (N : Int) t))) s') :
    C prog w A (.call (.ref 28) ⟨[.ref it], []⟩) R s := by
  obtain ⟨d, ds, hlt, hval, hoct⟩ := octs_enc N
  have hol : (octs N).length = ds.length + 1 := by rw [hoct, List.length_cons, enc_length]
  rw [hoct, List.cons_append] at hpre
  obtain ⟨hx, hdr⟩ := drop_head hpre
  obtain ⟨tx, hvx⟩ := hi.get i _ hx
  generalize hb0 : (d + 128 + if ds = [] then 0 else 64) = b0 at hvx hx
  have hd64 : d < 64 := hlt d (.head _)
  have hb0lt : b0 < 256 := by rw [← hb0]; split <;> first | exact arP ‹_› | exact arP2 ‹_› | omega
  refine callIn G (f28 w) h r (n28 w.params _) (by kernel_rfl) fun L s₁ h r₁ => ?_
  refine xCons (xAsg (cB G h (g_next w) b_next (iCons (ldL h rfl (iNil (fNext (led' := fun o' => (it, o') :: led) h (fun _ => .head) ho (.tail _ hl) hvx fun o₁ s₂ ho h => stL h fun s₃ h => ?_))))))
  refine xCons (xAsg (eBin (ldL h rfl (cI h fun t₁ s₄ h => iAnd h fun t₂ s₅ h => stL h fun s₆ h => ?_))))
  rw [and63] at h
  refine xCons (xWhile (pvI h₀ s₀ L frs led it l ns rest N (i + 1 + ds.length)) (fun n s hI => ?_) ds.length ⟨_, ds, i + 1, b0, d, tx, t₂, o₁, rfl, h, ho, rfl, hdr, hb0lt, ?_, hval, fun x hx => hlt x (.tail _ hx), rfl, ?_, rfl⟩)
  · obtain ⟨m, ds, pos, bN, v, tb, tv, o, hn, h, ho, hfin, hdr, hb, hbf, hv, hlt, m1, m2, m3⟩ := hI
    refine tVal (eBin (ldL h m1 (cI h fun t₁ s₄ h => iAnd h fun t₂ s₅ h => tInt ?_)))
    rw [and64 bN hb]
    cases ds with
    | nil =>
      rw [if_pos rfl] at hbf
      rw [hbf, show (((0 * 64 : Nat) : Int) != 0) = false from rfl, if_neg (by decide)]
      refine xNil (xCons (xRet (ldL h m2 ?_)))
      have hvN : v = N := by simpa [val] using hv
      subst hvN
      have hpos : pos = i + (octs v).length := by rw [hol]; simp at hfin; omega
      rw [hpos] at ho
      exact k _ _ _ ho h.pop
    | cons d ds =>
      rw [if_neg (by simp)] at hbf
      rw [hbf, show (((1 * 64 : Nat) : Int) != 0) = true from rfl, if_pos rfl]
      rw [enc_cons', List.cons_append] at hdr
      obtain ⟨hx, hdr⟩ := drop_head hdr
      obtain ⟨tx, hvx⟩ := hi.get pos _ hx
      generalize hb1 : (d + if ds = [] then 0 else 64) = b1 at hvx hx
      have hd64 : d < 64 := hlt d (.head _)
      have hb1lt : b1 < 256 := by rw [← hb1]; split <;> first | exact arP3 ‹_› | exact arP4 ‹_› | omega
      have hvle : v < 2 ^ 20 := by
        have h1 : 1 ≤ 64 ^ (d :: ds).length := Nat.one_le_pow _ _ (by decide)
        have h2 : v * 1 ≤ v * 64 ^ (d :: ds).length := Nat.mul_le_mul_left v h1
        omega
      refine xCons (xAug (ldLn h m2 (cI h fun t₃ s₆ h => jShl h (by decide) (by decide) (by omega) fun t₄ s₇ h => stL h fun s₈ h => ?_)))
      refine xCons (xAsg (cB G h (g_next w) b_next (iCons (ldL h m3 (iNil (fNext (led' := fun o' => (it, o') :: led) h (fun _ => .head) ho (.tail _ hl) hvx fun o₁ s₂ ho h => stL h fun s₃ h => ?_))))))
      refine xCons (xAug (ldLn h rfl (eBin (ldL h rfl (cI h fun t₅ s₉ h => iAnd h fun t₆ s₁₀ h => jOr h fun t₇ s₁₁ h => stL h fun s₁₂ h => xNil ?_)))))
      have hmod : b1 % 64 = d := by rw [← hb1]; split <;> first | exact arK5 ‹_› | exact arK6 ‹_› | omega
      rw [and63, hmod, or6 v d hd64] at h
      refine ⟨ds.length, by rw [hn]; simp, _, ds, pos + 1, b1, v * 64 + d, tx, t₇, o₁, rfl, h, ho, by simp at hfin; omega, hdr, hb1lt, ?_, ?_, fun x hx => hlt x (.tail _ hx), rfl, rfl, m3⟩
      · rw [← hb1]; split <;> first | exact arK1 ‹_› | exact arK2 ‹_› | omega
      · rw [← hv, val, List.length_cons, Nat.pow_succ, Nat.add_mul, Nat.mul_assoc, Nat.mul_comm 64, Nat.add_assoc]
  · rw [← hb0]; split <;> first | exact arK3 ‹_› | exact arK4 ‹_› | omega
  · have : b0 % 64 = d := by rw [← hb0]; split <;> first | exact arK7 ‹_› | exact arK8 ‹_› | omega
    rw [← this]; rfl
/-- the iterator is at its end: StopIteration -/
theorem pv_stop {R : Result → Shared → Prop} {j : Nat} (G : Gr w h₀) {it l : Addr} {o : Obj} {i n : Nat} {vs : List Value} (h : At h₀ s₀ frs ((it, o) :: led) s) (r : Rm A (j + 3)) (hF : Fo A (frs.map (·.1))) (ho : LIt l i o) (hl : (l, listOf vs.toArray n) ∈ led) (hi : vs[i]? = none)
    (k : ∀ e oe oT T s', At h₀ s₀ frs ((e, oe) :: (T, oT) :: led) s' → Noted oe oT T .none → R (.error (.ref e)) s') :
    C prog w A (.call (.ref 28) ⟨[.ref it], []⟩) R s := by
  refine callInE G (f28 w) h r hF (n28 w.params _) (by kernel_rfl) fun L s₁ h r₁ => ?_
  exact xCons (xAsg (cB G h (g_next w) b_next (iCons (ldL h rfl (iNil (fNextStop h r₁.handled ho hl hi fun e t s' h => ⟨_, _, e, t, rfl, h, fun oe oT T s'' h hn => k e oe oT T s'' h hn⟩))))))
end
end Mine
end

/-! part RowsF -/
section
open PySem PySem.W PyProof.Rows PySem.Calls
set_option maxRecDepth 100000
set_option linter.unusedVariables false
namespace Mine
/-- a list of these ints -/
noncomputable def LI (o : Obj) (d : List Int) : Prop := ∃ vs n, o = listOf (List.toArray vs) n ∧ IntsAre vs d
noncomputable def Rows : List (Addr × Obj) → List (List Int) → Prop
  | [], [] => True
  | p :: s, d :: ds => LI p.2 d ∧ Rows s ds
  | _, _ => False
theorem Rows.append : ∀ {a b : List (Addr × Obj)} {x y : List (List Int)}, Rows a x → Rows b y → Rows (a ++ b) (x ++ y)
  | [], _, [], _, _, h => h
  | _ :: _, _, _ :: _, _, h, h' => ⟨h.1, Rows.append h.2 h'⟩
  | [], _, _ :: _, _, h, _ => h.elim
  | _ :: _, _, [], _, h, _ => h.elim
theorem Rows.length : ∀ {a : List (Addr × Obj)} {x : List (List Int)}, Rows a x → a.length = x.length
  | [], [], _ => rfl
  | _ :: _, _ :: _, h => by rw [List.length_cons, List.length_cons, Rows.length h.2]
  | [], _ :: _, h => h.elim
  | _ :: _, [], h => h.elim
theorem Rows.get : ∀ {a : List (Addr × Obj)} {x : List (List Int)}, Rows a x → ∀ {i : Nat} {d : List Int}, x[i]? = some d → ∃ p, a[i]? = some p ∧ LI p.2 d
  | p :: _, d :: _, h, 0, _, e => by cases e; exact ⟨p, rfl, h.1⟩
  | _ :: _, _ :: _, h, i + 1, d, e => by
    obtain ⟨p, h1, h2⟩ := Rows.get h.2 (i := i) (d := d) (by simpa using e)
    exact ⟨p, by simpa using h1, h2⟩
  | [], [], _, _, _, e => by cases e
  | [], _ :: _, h, _, _, _ => h.elim
  | _ :: _, [], h, _, _, _ => h.elim
theorem f176 (w : World) : Fn w 176 := ⟨rfl, rfl, rfl, rfl, rfl, rfl, rfl⟩
theorem n176 (P : Params) (a : Value) : BT (fdAt P 176) ⟨[a], []⟩ [(Str.ofString "octets", a)] := .of_eq (by kernel_rfl)
theorem g_iter (w : World) : nsIn (KK w.params) mainGlobals (Str.ofString "iter") = some none := by kernel_rfl
theorem b_iter : bootBuiltins (Str.ofString "iter") = some (.builtin "iter") := by decide +kernel
theorem g28 (w : World) : nsIn (KK w.params) mainGlobals (Str.ofString "_parse_varint") = some (some (.ref 28)) := by kernel_rfl
noncomputable def encRow (d : List Nat) : List Int := d.flatMap octs
noncomputable def nat4 (d : List Nat) : List Int := d.map fun n : Nat => (n : Int)
section
variable {prog : Program} {w : World} {A : Around} {E : Value → Shared → Prop} {s : Shared} {h₀ : Heap} {s₀ : Shared} {frs : List (Addr × Mp)} {led : List (Addr × Obj)} {env : Env}
theorem fIter {l : Addr} {vs : List Value} {n : Nat} {Q : Value → Shared → Prop} (h : At h₀ s₀ frs led s) (hl : (l, listOf vs.toArray n) ∈ led) (k : ∀ it o s', LIt l 0 o → At h₀ s₀ frs ((it, o) :: led) s' → Q (.ref it) s') : W prog w A (call (.builtin "iter") [.ref l]) Q E s := by
  refine ⟨call_function_entry (by decide +kernel) (by decide +kernel) kdk_entry_iter (kdk_args_iter _) ?_⟩
  unfold Builtin.«iter»
  refine wpAny_bind (m := someArgs "iter" 1 2 _) (wpAny_of_eq (a := [Value.ref l]) (by first | rfl | kernel_rfl!) ?_)
  show wpAny _ _ (pyIter (.ref l) >>= _) _ _ _
  exact wpAny_bind (itL h hl fun it o s' h1 h2 => wpAny_pure ⟨_, rfl, k it o s' h1 h2⟩).w
theorem cBool {b : Bool} {n : Nat} {pos : Pos} {Q : Value → Shared → Prop} (k : Q (.bool b) s) : W prog w A (eval (.Constant (.bool b) n pos) env) Q E s := ⟨wpAny_Constant_bool k⟩
theorem perm3 {a b x : Addr × Obj} {seg l : List (Addr × Obj)} : (a :: b :: ((seg ++ [x]) ++ l)).Perm (x :: a :: b :: (seg ++ l)) := by
  rw [List.append_assoc, List.singleton_append]
  exact ((List.perm_middle.cons b).cons a).trans (((List.Perm.swap x b _).cons a).trans (List.Perm.swap x a _))
/-- one call of _parse_varint in the text of _law_rows -/
theorem pvCall (G : Gr w h₀) {j : Nat} {L : Addr} {m : Mp} {it l : Addr} {o : Obj} {i n : Nat} {vs : List Value} {ns rest : List Int} {N : Nat} {p1 p2 p3 : Pos} {Q : Value → Shared → Prop} (h : At h₀ s₀ ((L, m) :: frs) ((it, o) :: led) s) (r : Rm A (j + 3)) (ho : LIt l i o) (hl : (l, listOf vs.toArray n) ∈ led) (hi : IntsAre vs ns) (hN : N < 2 ^ 20)
    (hpre : ns.drop i = octs N ++ rest) (m1 : m (Str.ofString "rest") = some (.ref it))
    (k : ∀ t o' s', LIt l (i + (octs N).length) o' → At h₀ s₀ ((L, m) :: frs) ((it, o') :: led) s' → ns.drop (i + (octs N).length) = rest → Q (.int (N : Int) t) s') :
    W prog w A (eval (.Call (.Name (Str.ofString "_parse_varint") p1) [.Name (Str.ofString "rest") p2] [] p3) (envAt w.params 176 L)) Q E s := by
  refine cFn G (f28 w) h (g28 w) (iCons (ldL h m1 (iNil ⟨h.keep, ?_⟩)))
  refine pv_spec G h r ho hl hi hN hpre fun t o' s' h1 h2 => k t o' s' h1 h2 ?_
  rw [← List.drop_drop, hpre, List.drop_left]
inductive rowsI (h₀ : Heap) (s₀ : Shared) (L : Addr) (frs : List (Addr × Mp)) (led : List (Addr × Obj)) (it l rw' : Addr) (ns : List Int) (dats : List (List Nat)) (n : Nat) (s : Shared) : Prop
  | mk (m : _) (i : _) (o : _) (nR : _) (seg : _) (q1 : n ≤ dats.length) (q2 : At h₀ s₀ ((L, m) :: frs) ((it, o) :: lsP rw' seg nR :: (seg ++ led)) s) (q3 : LIt l i o) (q4 : ns.drop i = (dats.drop (dats.length - n)).flatMap encRow) (q5 : Rows seg ((dats.take (dats.length - n)).map nat4)) (q6 : m (Str.ofString "rest") = some (.ref it)) (q7 : m (Str.ofString "rows") = some (.ref rw'))
set_option maxHeartbeats 1000000
theorem rows_spec {R : Result → Shared → Prop} {j : Nat} (G : Gr w h₀) {l : Addr} {nl : Nat} {vs : List Value} {dats : List (List Nat)} (h : At h₀ s₀ frs led s) (r : Rm A (j + 6)) (hF : Fo A (frs.map (·.1))) (hl : (l, listOf vs.toArray nl) ∈ led) (hi : IntsAre vs (dats.flatMap encRow))
    (hd : ∀ d ∈ dats, d.length = 4 ∧ ∀ x ∈ d, x < 2 ^ 20) (hz : dats.length ≤ 1000)
    (k : ∀ rw' seg nR s', At h₀ s₀ frs (lsP rw' seg nR :: (seg ++ led)) s' → Rows seg (dats.map nat4) → R (.ok (.ret (.ref rw'))) s') :
    C prog w A (.call (.ref 176) ⟨[.ref l], []⟩) R s := by
  refine callIn G (f176 w) h r (n176 w.params _) (by kernel_rfl) fun L s₁ h r₁ => ?_
  have hF₁ : Fo (A.deeper (envAt w.params 176 L)) (L :: frs.map (·.1)) := hF.deeper (by rw [show (envAt w.params 176 L).scope.kind = .function from rfl]; decide) rfl
  obtain ⟨envs, hE, _⟩ := id hF
  have hfr : (A.deeper (envAt w.params 176 L)).frames = some (envAt w.params 176 L :: envs) := by show A.frames.map _ = _; rw [hE]; rfl
  refine xCons (xSwap [Str.ofString "rest", Str.ofString "rows"] (dTup (iCons (cB G h (g_iter w) b_iter (iCons (ldL h rfl (iNil (fIter h hl fun it o s₂ ho h => iCons (dList (iNil ⟨Nat.le_of_ble_eq_true rfl, _, _, _, _, h, fun rw' s₃ h => iNil ⟨Nat.le_of_ble_eq_true rfl, _, _, _, _, h, fun tp s₄ h => ?_⟩⟩))))))))))
  refine unp h r₁.handled (.head _) rfl fun s₅ h => two h fun s₆ h => ?_
  refine xCons (xWhile (rowsI h₀ s₀ L frs led it l rw' (dats.flatMap encRow) dats) (fun n s hI => ?_) dats.length ⟨_, 0, o, 0, [], Nat.le_refl _, (h.drop 1).perm (List.Perm.swap _ _ _), ho, by simp, by simp [Rows], rfl, rfl⟩)
  obtain ⟨m, i, o, nR, seg, hn, h, ho, hdr, hrows, m1, m2⟩ := hI
  refine tVal (cBool (tBool ?_))
  first | refine iteT rfl ?_ | rw [if_pos rfl]
  have hl' : (l, listOf vs.toArray nl) ∈ lsP rw' seg nR :: (seg ++ led) := .tail _ (List.mem_append_right _ hl)
  refine xCons (xTry (h₀ := h₀) (s₀ := s₀) (L := L) G (xCons (xExpr (cMeth PySem.F.plainAttrs_list PySem.F.slot_list_append PySem.F.type_list_append (ldL h m2 ⟨h.plainList (.tail _ (.head _)), ?_⟩)))) hfr rfl)
  by_cases h0 : n = 0
  · subst h0
    rw [Nat.sub_zero, List.drop_length, List.flatMap_nil] at hdr
    have hend : vs[i]? = none := by
      have := hi.length
      have h2 := congrArg List.length hdr
      rw [List.length_drop] at h2
      rw [List.length_nil] at h2
      rw [List.getElem?_eq_none_iff]
      omega
    refine iCons (dList (iCons (cFn G (f28 w) h (g28 w) (iCons (ldL h m1 (iNil ⟨h.keep, ?_⟩))))))
    refine pv_stop G h (r₁.le (show 3 ≤ j + 5 by omega) : Rm _ (0 + 3)) (by simpa using hF₁) ho hl' hend fun e oe oT T s' h hnote => ⟨_, _, e, rfl, by simpa using hF₁, .inr ⟨oe, oT, T, h, hnote⟩, fun E' s'' h => ?_⟩
    refine xCons (xRet (ldL h m2 ?_))
    rw [Nat.sub_zero, List.take_length] at hrows
    exact k _ _ _ _ h.pop hrows
  · obtain ⟨d, hdm⟩ : ∃ d, dats[dats.length - n]? = some d := ⟨dats[dats.length - n]'(by with_reducible exact ar5 ‹_› ‹_›), by simp⟩
    have hsplit : dats.drop (dats.length - n) = d :: dats.drop (dats.length - (n - 1)) := by
      have hlt : dats.length - n < dats.length := by with_reducible exact ar5 ‹_› ‹_›
      rw [List.drop_eq_getElem_cons hlt]
      have : dats[dats.length - n] = d := by simpa [hlt] using hdm
      rw [this, show dats.length - n + 1 = dats.length - (n - 1) by with_reducible exact ar2 ‹_› ‹_›]
    obtain ⟨hd4, hdx⟩ := hd d (List.mem_of_getElem? hdm)
    obtain ⟨a, b, c, e, rfl⟩ : ∃ a b c e, d = [a, b, c, e] := len4 hd4
    rw [hsplit, List.flatMap_cons] at hdr
    have henc : encRow [a, b, c, e] = octs a ++ (octs b ++ (octs c ++ (octs e ++ []))) := by simp [encRow]
    rw [henc, List.append_assoc, List.append_assoc, List.append_assoc, List.append_assoc, List.nil_append] at hdr
    have rr : Rm (A.deeper (envAt w.params 176 L)) (0 + 3) := r₁.le (by omega)
    refine iCons (dList (iCons (pvCall G h rr ho hl' hi (hdx a (by simp)) hdr m1 fun t₁ o₁ s₁ ho h hdr => iCons (pvCall G h rr ho hl' hi (hdx b (by simp)) hdr m1 fun t₂ o₂ s₂ ho h hdr => iCons (pvCall G h rr ho hl' hi (hdx c (by simp)) hdr m1 fun t₃ o₃ s₃ ho h hdr => iCons (pvCall G h rr ho hl' hi (hdx e (by simp)) hdr m1 fun t₄ o₄ s₄ ho h hdr => iNil ⟨Nat.le_of_ble_eq_true rfl, _, _, _, _, h, fun x s₅ h => iNil ?_⟩))))))
    have hsl := hrows.length
    simp only [List.length_map, List.length_take] at hsl
    refine fAppend h (.tail (.tail .head)) (by simp only [refs, List.length_map, sizeLine_eq]; with_reducible exact ar10 ‹_› ‹_› (by decide)) fun s₆ h => ⟨rfl, xNil ?_⟩
    have h' := h.perm perm3
    have e1 : refs (seg.map (·.1)) ++ [Value.ref x] = refs ((seg ++ [(x, listOf ([Value.int (a : Int) t₁, .int (b : Int) t₂, .int (c : Int) t₃, .int (e : Int) t₄] : List Value).toArray 0)]).map (·.1)) := by simp [refs]
    rw [e1] at h'
    refine xNil ⟨n - 1, by with_reducible exact ar3 ‹_›, m, _, o₄, nR + 1, _, by with_reducible exact ar4 ‹_›, h', ho, hdr, ?_, m1, m2⟩
    have : dats.take (dats.length - (n - 1)) = dats.take (dats.length - n) ++ [[a, b, c, e]] := by
      rw [show dats.length - (n - 1) = dats.length - n + 1 by with_reducible exact ar1 ‹_› ‹_›, List.take_add_one, hdm]; rfl
    rw [this, List.map_append]
    exact hrows.append ⟨⟨_, 0, rfl, .cons _ _ (.cons _ _ (.cons _ _ (.cons _ _ .nil)))⟩, trivial⟩
end
end Mine
end

/-! part RulesD -/
section
open PySem PySem.W PyProof.Rows PySem.Calls
set_option maxRecDepth 100000
set_option linter.unusedVariables false
namespace Mine
section
variable {prog : Program} {w : World} {A : Around} {E : Value → Shared → Prop} {s : Shared} {h₀ : Heap} {s₀ : Shared} {frs : List (Addr × Mp)} {led led' : List (Addr × Obj)} {env : Env} {L : Addr} {m : Mp}

theorem three {x y z : Str} {va vb vc : Value} {Q : Unit → Shared → Prop} (h : At h₀ s₀ ((L, m) :: frs) led s) (k : ∀ s', At h₀ s₀ ((L, fun u => if u = x then some va else (if u = y then some vb else (if u = z then some vc else m u))) :: frs) led s' → Q () s')
    (hL : autoParam (env.locals = L) Mine.aRfl) (hlx : autoParam (env.kindOf x = some .local) Mine.aRfl) (hly : autoParam (env.kindOf y = some .local) Mine.aRfl) (hlz : autoParam (env.kindOf z = some .local) Mine.aRfl) (hp : autoParam ((env.scope.kind == .class || (env.scope.kind == .module && env.locals != env.globals)) = false) Mine.aRfl) :
    W prog w A (assignInOrder (([x, y, z] : List Str).reverse.map fun n => bindName env n) ([va, vb, vc] : List Value).reverse) Q E s :=
  ⟨wpAny_bind (wpAny_holding (bindName_ (stL h (fun s₁ h₁ => wpAny_bind (wpAny_holding (bindName_ (stL h₁ (fun s₂ h₂ => wpAny_bind (wpAny_holding (bindName_ (stL h₂ (fun s₃ h₃ => wpAny_pure (k _ h₃)) hL hlx hp).w))) hL hly hp).w))) hL hlz hp).w))⟩
theorem eNeg {e : Expr} {pos : Pos} {Q : Value → Shared → Prop} (h : W prog w A (eval e env) (kO prog w A E (unaryOp .USub) Q) E s) : W prog w A (eval (.UnaryOp .USub e pos) env) Q E s := ⟨wpAny_UnaryOp (up h fun _ _ h => h.w)⟩
theorem jNeg {a : Int} {t : Tok} {Q : Value → Shared → Prop} (h : At h₀ s₀ frs led s) (k : ∀ t s', At h₀ s₀ frs led s' → Q (.int (-a) t) s') : W prog w A (unaryOp .USub (.int a t)) Q E s := ⟨PyProof.Rows.neg_int (k _ _ (h.toks _))⟩
noncomputable def kS2 (prog : Program) (w : World) (A : Around) (E : Value → Shared → Prop) (env : Env) (i : Expr) (Q : Flow → Shared → Prop) (v ov : Value) (s : Shared) : Prop := W prog w A (eval i env) (kO prog w A E (fun iv => setItem ov iv v) (kNx Q)) E s
noncomputable def kS1 (prog : Program) (w : World) (A : Around) (E : Value → Shared → Prop) (env : Env) (o i : Expr) (Q : Flow → Shared → Prop) (v : Value) (s : Shared) : Prop := W prog w A (eval o env) (kS2 prog w A E env i Q v) E s
theorem xAsgSub {o i value : Expr} {pos' pos : Pos} {Q : Flow → Shared → Prop} (h : W prog w A (eval value env) (kS1 prog w A E env o i Q) E s)
    (hs : autoParam (swapsWith value (some (.Subscript o i pos')) pos.line env = Pure.pure false) Mine.aRfl) : W prog w A (exec (.Assign [.Subscript o i pos'] value pos) env) Q E s :=
  ⟨wpAny_Assign_Subscript (up h fun _ _ h => up h fun _ _ h => up h fun _ _ h => h.w) hs⟩
theorem sList {l : Addr} {vs : List Value} {n i : Nat} {t : Tok} {v : Value} {Q : Unit → Shared → Prop} (h : At h₀ s₀ frs led s) (r : Rep l (listOf vs.toArray n) (listOf (vs.set i v).toArray n) led led') (hi : i < vs.length) (hz : i < 2 ^ 40) (k : ∀ s', At h₀ s₀ frs led' s' → Q () s') : W prog w A (setItem (.ref l) (.int (i : Int) t) v) Q E s := by
  refine ⟨ki_setAt (h.get _ r.mem) (by with_reducible exact ar12) (by omega) (by simp; omega) (k _ (h.upd (t := s.toks) r ?_))⟩
  simp [Obj.mapSeq]
theorem cEmpty {a b : Addr} {vs : List Value} {ns : List Int} {n n' : Nat} {Q : Value → Shared → Prop} (h : At h₀ s₀ frs led s) (ha : (a, listOf vs.toArray n) ∈ led) (hb : (b, listOf ([] : List Value).toArray n') ∈ led) (hi : IntsAre vs ns) (hu : A.units + 64 < cLine) (k : Q (.bool (!decide (ns = []))) s) : W prog w A (compareOp .NotEq (.ref a) (.ref b)) Q E s :=
  ⟨ke_ne_ints (h.isList ha) (h.isList hb) hi .nil hu k⟩
theorem Rm.cline {A : Around} {k : Nat} (r : Rm A k) : A.units + 64 < cLine := by have := r.units; show A.units + 64 < 9900; omega

theorem tAnd2 {x y : Expr} {pos : Pos} {whole : Sem Value} {Q : Bool → Shared → Prop} (h : W prog w A (isTrue x env (eval x env)) (fun b s₁ => if b then W prog w A (isTrue y env (eval y env)) Q E s₁ else Q false s₁) E s) : W prog w A (isTrue (.BoolOp .And [x, y] pos) env whole) Q E s :=
  ⟨wpAny_isTrue_BoolOp (wpAny_allTrue_And_cons (up h fun b s₁ hb => by
    cases b with
    | false => exact hb
    | true => exact wpAny_allTrue_And_cons (up (hb : W prog w A _ _ _ s₁) fun b s₂ hb => by
        cases b with
        | false => exact hb
        | true => exact wpAny_allTrue_And_nil hb)))⟩
/-! for over enumerate -/
noncomputable abbrev enumO (it : Addr) (i : Int) (old : Value) : Obj := { cls := .type "enumerate", data := .fields #[.none, .bool false, .ref it, rawInt i, .none, old] }
theorem fEnum {l : Addr} {vs : List Value} {n : Nat} {Q : Value → Shared → Prop} (h : At h₀ s₀ frs led s) (hl : (l, listOf vs.toArray n) ∈ led) (k : ∀ e it o s', LIt l 0 o → At h₀ s₀ frs ((e, enumO it 0 .none) :: (it, o) :: led) s' → Q (.ref e) s') : W prog w A (call (.type "enumerate") [.ref l]) Q E s := by
  refine ⟨call_enumerate_list (h.isList hl) fun h' he ⟨o, h1, h2, h3⟩ hz hk => ?_⟩
  have a1 := h.add (t := s.toks) (a := s.heap.objs.size) (o := o) hk h1 (Nat.le_refl _)
  have a2 : At h₀ s₀ frs ((s.heap.objs.size + 1, enumO s.heap.objs.size 0 .none) :: (s.heap.objs.size, o) :: led) { s with heap := h', toks := s.toks } := by
    refine ⟨a1.gens, a1.os, a1.keep, a1.ns, fun p hp => ?_, ?_, fun a ha => ?_⟩
    · rcases List.mem_cons.mp hp with rfl | hp
      · exact he
      · exact a1.get p hp
    · have hx : s.heap.objs.size + 1 ∉ frs.map (·.1) ++ ((s.heap.objs.size, o) :: led).map (·.1) := fun hm => by
        rcases List.mem_append.mp hm with hm | hm
        · exact Nat.lt_irrefl _ (Nat.lt_of_succ_lt (h.lt (List.mem_append_left _ hm)))
        · rcases List.mem_cons.mp hm with q | hm
          · exact Nat.succ_ne_self _ q
          · exact Nat.lt_irrefl _ (Nat.lt_of_succ_lt (h.lt (List.mem_append_right _ hm)))
      exact (List.perm_middle (a := s.heap.objs.size + 1) (l₁ := frs.map (·.1)) (l₂ := ((s.heap.objs.size, o) :: led).map (·.1))).nodup_iff.mpr (List.nodup_cons.mpr ⟨hx, a1.nd⟩)
    · rcases List.mem_append.mp ha with ha | ha
      · exact a1.new a (List.mem_append_left _ ha)
      · rcases List.mem_cons.mp ha with q | ha
        · rw [show a = s.heap.objs.size + 1 from q]; exact h.fresh (Nat.le_succ _)
        · exact a1.new a (List.mem_append_right _ ha)
  exact k _ _ o _ ⟨h2, h3⟩ a2
theorem itE {e it : Addr} {i : Int} {old : Value} {Q : Value → Shared → Prop} (h : At h₀ s₀ frs led s) (he : (e, enumO it i old) ∈ led) (k : Q (.ref e) s) : W prog w A (pyIter (.ref e)) Q E s := ⟨wpAny_pyIter_enum (h.get _ he) k⟩
noncomputable def kGo (K : Value → Shared → Prop) (v : Value) (_ : Unit) (s : Shared) : Prop := K v s
noncomputable def kPair (prog : Program) (w : World) (A : Around) (E : Value → Shared → Prop) (target : Expr) (it : Value) (Q0 : Shared → Prop) (K : Value → Shared → Prop) (r : Option Value) (s : Shared) : Prop := match r with
    | none => Q0 s
    | some v => W prog w A (letOwnedTupleGo target it v) (kGo K v) E s
/-- what a turn of a for over pairs must do -/
noncomputable def Turn2 (prog : Program) (w : World) (A : Around) (env : Env) (target : Expr) (it : Value) (body orelse : List Stmt) (Q : Flow → Shared → Prop) (I : Nat → Shared → Prop) (n : Nat) (s : Shared) : Prop :=
  W prog w A (pyNext it) (kPair prog w A noE target it (W prog w A (execs orelse env) Q noE) (fun v => W prog w A (assign target env v) (kBody prog w A env body Q I n) noE)) noE s
inductive FrK2 (prog : Program) (w : World) (A : Around) (env : Env) (target : Expr) (body orelse : List Stmt) (Q : Flow → Shared → Prop) (it : Value) (s : Shared) : Prop
  | mk (I : Nat → Shared → Prop) (n : Nat) (h : I n s) (t : ∀ n s, I n s → Turn2 prog w A env target it body orelse Q I n s) : FrK2 prog w A env target body orelse Q it s
theorem xFor2 {target iter : Expr} {body orelse : List Stmt} {pos : Pos} {Q : Flow → Shared → Prop}
    (h : W prog w A (eval iter env) (kO prog w A E pyIter (FrK2 prog w A env target body orelse Q)) E s)
    (hs : autoParam (∀ x, foldedSetIterable iter env x = Pure.pure x) Mine.aInt) : W prog w A (exec (.For target iter body orelse pos) env) Q E s := by
  refine ⟨wpAny_For (up h fun x s₁ h₁ => up h₁ fun it s₂ ⟨I, n, hi, turn⟩ => ?_) hs⟩
  refine codeAny_forLoop_any I (fun n s hi => ?_) n hi
  refine wpAny_mono (turn n s hi).w (fun r s₁ hr => ?_) fun _ _ e => e.elim
  cases r with
  | none => exact wpAny_mono (hr : W prog w A (execs orelse env) _ _ s₁).w (fun f s₃ hf => by cases f <;> exact hf) fun _ _ e => e.elim
  | some v => exact wpAny_mono (hr : W prog w A (letOwnedTupleGo target it v) _ _ s₁).w (fun _ s₁' h₁' => wpAny_mono (h₁' : W prog w A (assign target env v) _ _ s₁').w (fun _ s₂ h₂ => wpAny_mono (h₂ : W prog w A (execs body env) _ _ s₂).w (fun f s₃ hf => by cases f <;> first | exact hf | exact less_ex hf) fun _ _ e => e.elim) fun _ _ e => e.elim) fun _ _ e => e.elim
theorem aPair {x y : Str} {px py pos : Pos} {kk n : Nat} {t : Addr} {va vb : Value} {Q : Unit → Shared → Prop} (h : At h₀ s₀ ((L, m) :: frs) led s) (hh : A.handled = none) (ht : (t, tupOf ([va, vb] : List Value).toArray n) ∈ led)
    (k : ∀ s', At h₀ s₀ ((L, fun z => if z = y then some vb else (if z = x then some va else m z)) :: frs) led s' → Q () s')
    (hL : autoParam (env.locals = L) Mine.aRfl) (hlx : autoParam (env.kindOf x = some .local) Mine.aRfl) (hly : autoParam (env.kindOf y = some .local) Mine.aRfl) (hp : autoParam ((env.scope.kind == .class || (env.scope.kind == .module && env.locals != env.globals)) = false) Mine.aRfl) :
    W prog w A (assign (.Tuple [.Name x px, .Name y py] kk pos) env (.ref t)) Q E s := by
  refine ⟨assign_Tuple_tuple hh (h.isTup ht) rfl rfl fun h' he => ?_⟩
  have h1 := h.extBut (t := s.toks) he
  exact wpAny_bind (wpAny_holding (assign_Name (stL h1 (fun s₁ h₁ => wpAny_bind (wpAny_holding (assign_Name (stL h₁ (fun s₂ h₂ => wpAny_pure (k _ h₂)) hL hly hp).w))) hL hlx hp).w))
theorem nxE {e it l : Addr} {o : Obj} {i n : Nat} {vs : List Value} {v old : Value} {elts : List Expr} {kk : Nat} {pos : Pos} {Q0 : Shared → Prop} {K : Value → Shared → Prop} (h : At h₀ s₀ frs ((e, enumO it (i : Int) old) :: (it, o) :: led) s) (ho : LIt l i o) (hl : (l, listOf vs.toArray n) ∈ led) (hx : vs[i]? = some v)
    (k : ∀ t tp o' s', LIt l (i + 1) o' → At h₀ s₀ frs ((tp, tupOf ([.int (i : Int) t, v] : List Value).toArray 0) :: (e, enumO it ((i + 1 : Nat) : Int) v) :: (it, o') :: led) s' → K (.ref tp) s') :
    W prog w A (pyNext (.ref e)) (kPair prog w A E (.Tuple elts kk pos) (.ref e) Q0 K) E s := by
  have hne : e ≠ it := by
    have := (List.nodup_append.mp h.nd).2.1
    rw [List.map_cons, List.nodup_cons] at this
    intro q; exact this.1 (q ▸ .head _)
  refine ⟨wpAny_pyNext_enum_item (h.get _ (.head _)) ⟨o, h.get _ (.tail _ (.head _)), ho.1, ho.2⟩ (h.isList (.tail _ (.tail _ hl))) (by simpa using hx) hne fun h' h1 ⟨o', g1, g2, g3⟩ h3 hz hk => ⟨wpAny_letOwnedTupleGo_enum h1 fun h'' h4 hs => ?_⟩⟩
  have nd := List.nodup_append.mp h.nd
  have nh := List.nodup_cons.mp nd.2.1
  have nh2 := List.nodup_cons.mp nh.2
  have lte : e < s.heap.objs.size := h.lt (List.mem_append_right _ (.head _))
  have ltit : it < s.heap.objs.size := h.lt (List.mem_append_right _ (.tail _ (.head _)))
  have kk' : ∀ b o, b ≠ e → b ≠ it → s.heap.get? b = some o → h''.get? b = some o := fun b o q1 q2 q => (hs.2 b q1).trans (hk b o q1 q2 q)
  have ek : ((i : Int) + 1) = ((i + 1 : Nat) : Int) := by omega
  rw [ek] at h4
  refine k s.toks s.heap.objs.size o' _ ⟨g2, g3⟩ ⟨h.gens, h.os, fun b o q => kk' b o (h.old_lt q (List.mem_append_right _ (.head _))) (h.old_lt q (List.mem_append_right _ (.tail _ (.head _)))) (h.keep b o q), fun f hf => (h.ns f hf).at' fun o q => kk' _ _ (nd.2.2 _ (List.mem_map_of_mem hf) _ (.head _)) (nd.2.2 _ (List.mem_map_of_mem hf) _ (.tail _ (.head _))) q, fun p hp => ?_, ?_, fun a ha => ?_⟩
  · rcases List.mem_cons.mp hp with rfl | hp
    · exact (hs.2 _ (Nat.ne_of_gt lte)).trans h3
    · rcases List.mem_cons.mp hp with rfl | hp
      · exact h4
      · rcases List.mem_cons.mp hp with rfl | hp
        · exact (hs.2 _ (Ne.symm hne)).trans g1
        · have hpm : p.1 ∈ led.map (·.1) := List.mem_map_of_mem hp
          exact kk' _ _ (fun q => nh.1 (.tail _ (q ▸ hpm))) (fun q => nh2.1 (q ▸ hpm)) (h.get p (.tail _ (.tail _ hp)))
  · have hx : s.heap.objs.size ∉ frs.map (·.1) ++ ((e, enumO it (i : Int) old) :: (it, o) :: led).map (·.1) := fun q => Nat.lt_irrefl _ (h.lt q)
    have := List.nodup_cons.mpr ⟨hx, h.nd⟩
    exact (List.perm_middle (a := s.heap.objs.size) (l₁ := frs.map (·.1)) (l₂ := ((e, enumO it (i : Int) old) :: (it, o) :: led).map (·.1))).nodup_iff.mpr this
  · rcases List.mem_append.mp ha with ha | ha
    · exact h.new a (List.mem_append_left _ ha)
    · rcases List.mem_cons.mp ha with q | ha
      · rw [show a = s.heap.objs.size from q]; exact h.fresh (Nat.le_refl _)
      · exact h.new a (List.mem_append_right _ ha)
theorem nxEend {e it l : Addr} {o : Obj} {j n : Nat} {vs : List Value} {old : Value} {Q : Option Value → Shared → Prop} (h : At h₀ s₀ frs ((e, enumO it (j : Int) old) :: (it, o) :: led) s) (hh : A.handled = none) (ho : LIt l j o) (hl : (l, listOf vs.toArray n) ∈ led) (hx : vs[j]? = none)
    (k : ∀ s', At h₀ s₀ frs led s' → Q none s') : W prog w A (pyNext (.ref e)) Q E s :=
  ⟨wpAny_pyNext_enum_end hh (h.get _ (.head _)) ⟨o, h.get _ (.tail _ (.head _)), ho.1, ho.2⟩ (h.isList (.tail _ (.tail _ hl))) (by simpa using hx) fun h' hs => k _ ((h.drop 1).lose (t := s.toks) hs)⟩
end
end Mine
end

/-! part Drawn -/
section
open PySem PySem.W PyProof.Rows PySem.Calls
set_option maxRecDepth 100000
set_option linter.unusedVariables false
namespace Mine
set_option genInjectivity false in
set_option genSizeOfSpec false in
structure DSt where
  bs : List (List Int)
  now : List Nat
  st : List (List Nat)
noncomputable def bNew (len place : Nat) (x : Int) : List Int := [(place : Int), (len : Int) - place, (x.fdiv 9).fmod 262144, (x.fdiv 3).fmod 128]
noncomputable def bEnd (place : Nat) (b : List Int) : List Int := b.set 1 ((place : Int) + 1 - b.headD 0)
noncomputable def dOpen (len place : Nat) (x : Int) (d : DSt) : DSt := if x.fmod 3 = 0 then ⟨d.bs ++ [bNew len place x], d.now ++ [d.bs.length], d.st⟩ else d
noncomputable def dNote (d : DSt) : DSt := ⟨d.bs, d.now, d.st ++ [d.now.reverse]⟩
noncomputable def dShut (place : Nat) (x : Int) (d : DSt) : DSt := if x.fmod 3 = 1 ∧ d.now ≠ [] then ⟨d.bs.modify (d.now.getLastD 0) (bEnd place), d.now.dropLast, d.st⟩ else d
noncomputable def dStep (len place : Nat) (x : Int) (d : DSt) : DSt := dShut place x (dNote (dOpen len place x d))
noncomputable def dRun (len : Nat) : Nat → List Int → DSt → DSt
  | _, [], d => d
  | p, x :: r, d => dRun len (p + 1) r (dStep len p x d)
/-- what _law_drawn makes of the numbers -/
noncomputable def drawn (ns : List Int) : DSt := dRun ns.length 0 ns ⟨[], [], []⟩
structure DOk (d : DSt) : Prop where
  four : ∀ b ∈ d.bs, b.length = 4
  lt : ∀ b ∈ d.now, b < d.bs.length
theorem DOk.open {d : DSt} (h : DOk d) (len place : Nat) (x : Int) : DOk (dOpen len place x d) := by
  unfold dOpen
  split
  · refine ⟨fun b hb => ?_, fun b hb => ?_⟩
    · rcases List.mem_append.mp hb with hb | hb
      · exact h.four b hb
      · rw [List.mem_singleton.mp hb]; rfl
    · simp only [List.length_append, List.length_singleton]
      rcases List.mem_append.mp hb with hb | hb
      · have := h.lt b hb; omega
      · rw [List.mem_singleton.mp hb]; omega
  · exact h
theorem DOk.shut {d : DSt} (h : DOk d) (place : Nat) (x : Int) : DOk (dShut place x d) := by
  unfold dShut
  split
  · refine ⟨fun b hb => ?_, fun b hb => ?_⟩
    · obtain ⟨i, hi, rfl⟩ := List.getElem_of_mem hb
      rw [List.getElem_modify]
      have hl : i < d.bs.length := by simpa using hi
      split
      · rw [bEnd, List.length_set]; exact h.four _ (List.getElem_mem hl)
      · exact h.four _ (List.getElem_mem hl)
    · simp only [List.length_modify]
      exact h.lt b (List.dropLast_subset _ hb)
  · exact h
theorem DOk.note {d : DSt} (h : DOk d) : DOk (dNote d) := ⟨h.four, h.lt⟩
theorem f155 (w : World) : Fn w 155 := ⟨rfl, rfl, rfl, rfl, rfl, rfl, rfl⟩
theorem n155 (P : Params) (a : Value) : BT (fdAt P 155) ⟨[a], []⟩ [(Str.ofString "numbers", a)] := .of_eq (by kernel_rfl)
theorem g_enum (w : World) : nsIn (KK w.params) mainGlobals (Str.ofString "enumerate") = some none := by kernel_rfl
theorem b_enum : bootBuiltins (Str.ofString "enumerate") = some (.type "enumerate") := by decide +kernel
noncomputable def natI (l : List Nat) : List Int := l.map fun n : Nat => (n : Int)
section
variable {prog : Program} {w : World} {A : Around} {E : Value → Shared → Prop} {s : Shared} {h₀ : Heap} {s₀ : Shared} {frs : List (Addr × Mp)} {led : List (Addr × Obj)} {env : Env}
noncomputable def kPn (P : Shared → Prop) (f : Flow) (s : Shared) : Prop := f = .next ∧ P s
theorem xSeq {st : Stmt} {rest : List Stmt} {Q : Flow → Shared → Prop} (P : Shared → Prop) (h : W prog w A (exec st env) (kPn P) E s) (k : ∀ s', P s' → W prog w A (execs rest env) Q E s') : W prog w A (execs (st :: rest) env) Q E s :=
  xCons (h.mono fun f s' ⟨h1, h2⟩ => by subst h1; exact k s' h2)
theorem Rep.set {seg : List (Addr × Obj)} {i : Nat} {a : Addr} {o : Obj} (o' : Obj) (h : seg[i]? = some (a, o)) : Rep a o o' seg (seg.set i (a, o')) := by
  induction seg generalizing i with
  | nil => cases h
  | cons p seg ih =>
    cases i with
    | zero => cases h; exact .head
    | succ i => exact .tail (ih (by simpa using h))
theorem Rows.set : ∀ {seg : List (Addr × Obj)} {x : List (List Int)} {i : Nat} {a : Addr} {o' : Obj} {d : List Int}, Rows seg x → LI o' d → Rows (seg.set i (a, o')) (x.set i d)
  | [], [], _, _, _, _, h, _ => h
  | _ :: _, _ :: _, 0, _, _, _, h, h' => ⟨h', h.2⟩
  | _ :: _, _ :: _, i + 1, _, _, _, h, h' => ⟨h.1, Rows.set h.2 h'⟩
  | [], _ :: _, _, _, _, _, h, _ => h.elim
  | _ :: _, [], _, _, _, _, h, _ => h.elim
theorem set_keys (seg : List (Addr × Obj)) (i : Nat) (a : Addr) (o o' : Obj) (h : seg[i]? = some (a, o)) : (seg.set i (a, o')).map (·.1) = seg.map (·.1) := (Rep.set o' h).keys
/-- the loop's things -/
structure DL (L aB aS aN nu : Addr) (d : DSt) (m : Mp) (segB segS : List (Addr × Obj)) (nB nS : Nat) (oN : Obj) : Prop where
  rb : Rows segB d.bs
  rs : Rows segS (d.st.map natI)
  rn : LI oN (natI d.now)
  ok : DOk d
  m1 : m (Str.ofString "blocks") = some (.ref aB)
  m2 : m (Str.ofString "stacks") = some (.ref aS)
  m3 : m (Str.ofString "now") = some (.ref aN)
  m4 : m (Str.ofString "numbers") = some (.ref nu)
inductive drI (h₀ : Heap) (s₀ : Shared) (L : Addr) (frs : List (Addr × Mp)) (led : List (Addr × Obj)) (e it aB aS nu : Addr) (ns : List Int) (n : Nat) (s : Shared) : Prop
  | mk (i : _) (d : _) (m : _) (aN : _) (oN : _) (o : _) (old : _) (segB : _) (segS : _) (nB : _) (nS : _) (q1 : n + i = ns.length) (q2 : dRun ns.length i (ns.drop i) d = drawn ns) (q3 : LIt nu i o) (q4 : DL L aB aS aN nu d m segB segS nB nS oN) (q5 : d.bs.length ≤ i) (q6 : d.st.length ≤ i) (q7 : d.now.length ≤ i) (q8 : At h₀ s₀ ((L, m) :: frs) ((e, enumO it (i : Int) old) :: (it, o) :: lsP aB segB nB :: lsP aS segS nS :: (aN, oN) :: (segB ++ (segS ++ led))) s)
theorem permD {e it aB aS aN bk : Addr × Obj} {seg l : List (Addr × Obj)} : (e :: it :: aB :: aS :: aN :: ((seg ++ [bk]) ++ l)).Perm (bk :: aN :: e :: it :: aB :: aS :: (seg ++ l)) := by
  rw [List.append_assoc]
  exact (List.perm_middle (l₁ := e :: it :: aB :: aS :: aN :: seg)).trans ((List.perm_middle (l₁ := [e, it, aB, aS])).cons _)
theorem permS {e it aB aS aN rv : Addr × Obj} {segB segS l : List (Addr × Obj)} : (e :: it :: aB :: aS :: aN :: (segB ++ ((segS ++ [rv]) ++ l))).Perm (rv :: e :: it :: aB :: aS :: aN :: (segB ++ (segS ++ l))) := by
  rw [List.append_assoc segS, ← List.append_assoc segB, ← List.append_assoc segB]
  exact (List.perm_middle (l₁ := e :: it :: aB :: aS :: aN :: (segB ++ segS)))
theorem permN {e it aB aS aN : Addr × Obj} {l : List (Addr × Obj)} : (e :: it :: aB :: aS :: aN :: l).Perm (aN :: e :: it :: aB :: aS :: l) := List.perm_middle (l₁ := [e, it, aB, aS])
theorem ints_snoc : ∀ {vs : List Value} {ns : List Int} {n : Int}, IntsAre vs (ns ++ [n]) → ∃ vs' t, vs = vs' ++ [Value.int n t] ∧ IntsAre vs' ns
  | _, [], _, h => by obtain ⟨t, vs', rfl, h'⟩ := h.cons_inv; cases h'; exact ⟨[], t, rfl, .nil⟩
  | _, m :: ns, _, h => by
    obtain ⟨t, vs', rfl, h'⟩ := IntsAre.cons_inv (n := m) h
    obtain ⟨us, t', rfl, h''⟩ := ints_snoc h'
    exact ⟨_, t', rfl, .cons _ _ h''⟩
theorem ints_set : ∀ {vs : List Value} {ns : List Int}, IntsAre vs ns → ∀ (i : Nat) (n : Int) (t : Tok), IntsAre (vs.set i (.int n t)) (ns.set i n)
  | _, _, .nil, _, _, _ => .nil
  | _, _, .cons _ _ h, 0, n, t => .cons n t h
  | _, _, .cons _ _ h, i + 1, n, t => .cons _ _ (ints_set h i n t)
theorem modify_set {α : Type} : ∀ {l : List α} {i : Nat} {x : α} (h : l[i]? = some x) (f : α → α), l.modify i f = l.set i (f x)
  | [], _, _, h, _ => by cases h
  | y :: l, 0, x, h, f => by cases h; rfl
  | y :: l, i + 1, x, h, f => by rw [List.modify_succ_cons, List.set_cons_succ, modify_set (by simpa using h) f]
/-- between the two halves of a turn -/
inductive drM (h₀ : Heap) (s₀ : Shared) (L : Addr) (frs : List (Addr × Mp)) (led : List (Addr × Obj)) (e it aB aS nu : Addr) (ns : List Int) (i : Nat) (x : Int) (t tx : Tok) (o' : Obj) (segS : List (Addr × Obj)) (nS : Nat) (d : DSt) (s' : Shared) : Prop
  | mk (m : _) (aN : _) (oN : _) (segB : _) (nB : _) (d' : _) (q1 : d' = dOpen ns.length i x d) (q2 : DL L aB aS aN nu d' m segB segS nB nS oN) (q3 : m (Str.ofString "place") = some (.int (i : Int) t)) (q4 : m (Str.ofString "x") = some (.int x tx)) (q5 : At h₀ s₀ ((L, m) :: frs) ((e, enumO it ((i + 1 : Nat) : Int) (.int x tx)) :: (it, o') :: lsP aB segB nB :: lsP aS segS nS :: (aN, oN) :: (segB ++ (segS ++ led))) s')
theorem refs_len (l : List (Addr × Obj)) : (refs (l.map (·.1))).length = l.length := by simp [refs]
theorem refs_snoc (l : List (Addr × Obj)) (x : Addr) (o : Obj) : refs (l.map (·.1)) ++ [Value.ref x] = refs ((l ++ [(x, o)]).map (·.1)) := by simp [refs]
set_option maxHeartbeats 2000000
theorem drawn_spec {R : Result → Shared → Prop} {j : Nat} (G : Gr w h₀) {nu : Addr} {nl : Nat} {vs : List Value} {ns : List Int} (h : At h₀ s₀ frs led s) (r : Rm A (j + 3)) (hl : (nu, listOf vs.toArray nl) ∈ led) (hi : IntsAre vs ns) (hz : ns.length ≤ 1000)
    (k : ∀ tp aB aS segB segS nB nS s', At h₀ s₀ frs ((tp, tupOf ([.ref aB, .ref aS] : List Value).toArray 0) :: lsP aB segB nB :: lsP aS segS nS :: (segB ++ (segS ++ led))) s' →
      Rows segB (drawn ns).bs → Rows segS ((drawn ns).st.map natI) → R (.ok (.ret (.ref tp))) s') :
    C prog w A (.call (.ref 155) ⟨[.ref nu], []⟩) R s := by
  refine callIn G (f155 w) h r (n155 w.params _) (by kernel_rfl) fun L s₁ h r₁ => ?_
  have hlen := hi.length
  refine xCons (xSwap [Str.ofString "blocks", Str.ofString "now", Str.ofString "stacks"] (dTup (iCons (dList (iNil ⟨Nat.le_of_ble_eq_true rfl, _, _, _, _, h, fun aB s₂ h => iCons (dList (iNil ⟨Nat.le_of_ble_eq_true rfl, _, _, _, _, h, fun aN s₃ h => iCons (dList (iNil ⟨Nat.le_of_ble_eq_true rfl, _, _, _, _, h, fun aS s₄ h => iNil ⟨Nat.le_of_ble_eq_true rfl, _, _, _, _, h, fun tp s₅ h => ?_⟩⟩))⟩))⟩)))))
  refine unp h r₁.handled (.head _) rfl fun s₆ h => three h fun s₇ h => ?_
  have h' := (h.drop 1).perm (led' := (aB, listOf #[] 0) :: (aS, listOf #[] 0) :: (aN, listOf #[] 0) :: led) ((List.Perm.swap _ _ _).trans ((List.Perm.swap _ _ _).cons _))
  refine xCons (xFor2 (cT G h' (g_enum w) b_enum (iCons (ldL h' rfl (iNil (fEnum h' (.tail _ (.tail _ (.tail _ hl))) fun e it o s₈ ho h => itE h (.head _) ?_))))))
  refine ⟨drI h₀ s₀ L frs led e it aB aS nu ns, ns.length, ⟨0, ⟨[], [], []⟩, _, aN, _, o, .none, [], [], 0, 0, rfl, rfl, ho, ⟨trivial, trivial, ⟨[], 0, rfl, .nil⟩, ⟨by simp, by simp⟩, rfl, rfl, rfl, rfl⟩, by simp, by simp, by simp, h⟩, fun n s hI => ?_⟩
  obtain ⟨i, d, m, aN, oN, o, old, segB, segS, nB, nS, hn, hrun, ho, D, l1, l2, l3, h⟩ := hI
  have hnu : (nu, listOf vs.toArray nl) ∈ lsP aB segB nB :: lsP aS segS nS :: (aN, oN) :: (segB ++ (segS ++ led)) := .tail _ (.tail _ (.tail _ (List.mem_append_right _ (List.mem_append_right _ hl))))
  by_cases hlt : i < ns.length
  · obtain ⟨x, hx⟩ : ∃ x, ns[i]? = some x := ⟨ns[i], by simp [hlt]⟩
    obtain ⟨tx, hvx⟩ := hi.get i x hx
    have hdrop : ns.drop i = x :: ns.drop (i + 1) := by
      rw [List.drop_eq_getElem_cons hlt]
      have : ns[i] = x := by simpa [hlt] using hx
      rw [this]
    rw [hdrop, dRun] at hrun
    refine nxE h ho hnu hvx fun t tp o' s₉ ho h => aPair h r₁.handled (.head _) fun s₁₀ h => ?_
    have h := h.drop 1
    refine xSeq (drM h₀ s₀ L frs led e it aB aS nu ns i x t tx o' segS nS d) ?_ ?_
    · obtain ⟨nv, nN, rfl, hnv⟩ := D.rn
      have hnl := hnv.length
      have hnl2 : (natI d.now).length = d.now.length := by simp [natI]
      have hbl := D.rb.length
      refine xIf (tCmp (eBin (ldL h rfl (cI h fun _ _ h => iMod h (by decide) fun _ _ h => cI h fun _ _ h => kEq (tBool ?_)))))
      by_cases hx0 : x.fmod 3 = 0
      · refine iteT (show (x.fmod 3 == 0) = true by simpa using hx0) ?_
        refine xCons (xAsg (eBin (ldL h D.m3 (dList (iCons (cB G h (g_len w) b_len (iCons (ldL h D.m1 (iNil (fLen h (.tail _ (.tail _ (.head _))) (by rw [refs_len]; with_reducible exact arL2 ‹_› ‹_› ‹_› ‹_› (by decide)) fun t₁ _ h => iNil ⟨Nat.le_of_ble_eq_true rfl, _, _, _, _, h, fun ln _ h => lAdd h (.tail _ (.tail _ (.tail _ (.tail _ (.tail _ (.head _)))))) (.head _) (by rw [sizeLine_eq]; simp; omega) fun aN' _ h => stL h fun _ h => ?_⟩))))))))))
        refine xCons (xExpr (cMeth PySem.F.plainAttrs_list PySem.F.slot_list_append PySem.F.type_list_append (ldL h D.m1 ⟨h.plainList (.tail _ (.tail _ (.tail _ (.tail _ (.head _))))), ?_⟩)))
        refine iCons (dList (iCons (ldL h rfl (iCons (eBin (cB G h (g_len w) b_len (iCons (ldL h D.m4 (iNil (fLen h (.tail _ (.tail _ (.tail _ (.tail _ hnu)))) (by with_reducible exact ar8 ‹_› ‹_› (by decide)) fun t₂ _ h => ldL h rfl (iSub h fun t₃ _ h => ?_)))))))))))
        refine iCons (eBin (eBin (ldL h rfl (cI h fun _ _ h => iDiv h (by decide) (by decide) fun _ _ h => eBin (cI h fun _ _ h => cI h fun _ _ h => iPow h (by decide) (by decide) (by decide) fun _ _ h => iMod h (by decide) fun t₄ _ h => ?_)))))
        refine iCons (eBin (eBin (ldL h rfl (cI h fun _ _ h => iDiv h (by decide) (by decide) fun _ _ h => cI h fun _ _ h => iMod h (by decide) fun t₅ _ h => iNil ⟨Nat.le_of_ble_eq_true rfl, _, _, _, _, h, fun bk _ h => iNil ?_⟩))))
        refine fAppend h (.tail (.tail (.tail (.tail (.tail .head))))) (by rw [refs_len, sizeLine_eq]; with_reducible exact arL2 ‹_› ‹_› ‹_› ‹_› (by decide)) fun _ h => ⟨rfl, xNil ⟨rfl, ?_⟩⟩
        have e64 : (64 : Int) ^ (3 : Int).toNat = 262144 := rfl
        rw [e64, hlen, refs_snoc segB bk _, refs_len] at h
        have h2 := (h.sub (List.Sublist.cons_cons _ (List.Sublist.cons_cons _ (List.Sublist.cons _ (List.Sublist.cons_cons _ (List.Sublist.cons_cons _ (List.Sublist.cons_cons _ (List.Sublist.cons_cons _ (List.Sublist.cons _ (List.Sublist.refl _)))))))))).perm permD
        refine ⟨_, aN', _, _, nB + 1, _, rfl, ?_, rfl, rfl, h2⟩
        rw [dOpen, if_pos hx0]
        refine ⟨D.rb.append ⟨⟨_, 0, rfl, .cons _ _ (.cons _ _ (.cons _ _ (.cons _ _ .nil)))⟩, trivial⟩, D.rs, ⟨_, 0, rfl, ?_⟩, ?_, D.m1, D.m2, rfl, D.m4⟩
        · show IntsAre _ (natI (d.now ++ [d.bs.length]))
          rw [natI, List.map_append, hbl]
          exact hnv.append (.cons _ _ .nil)
        · have := D.ok.open ns.length i x
          rwa [dOpen, if_pos hx0] at this
      · refine ifF (show (x.fmod 3 == 0) = false by simpa using hx0) ?_
        refine xNil ⟨rfl, _, aN, _, segB, nB, _, rfl, ?_, rfl, rfl, h⟩
        rw [dOpen, if_neg hx0]
        exact ⟨D.rb, D.rs, ⟨nv, nN, rfl, hnv⟩, D.ok, D.m1, D.m2, D.m3, D.m4⟩
    · rintro s₁₁ ⟨m, aN, oN, segB, nB, d', hd', D, mp, mx, h⟩
      obtain ⟨nv, nN, rfl, hnv⟩ := D.rn
      have hnl := hnv.length
      have hnl2 : (natI d'.now).length = d'.now.length := by simp [natI]
      have hbl := D.rb.length
      have hsl := D.rs.length
      have hb' : d'.bs.length ≤ i + 1 ∧ d'.now.length ≤ i + 1 ∧ d'.st = d.st := by
        rw [hd', dOpen]; split <;> simp <;> omega
      rw [List.length_map] at hsl
      refine xCons (xExpr (cMeth PySem.F.plainAttrs_list PySem.F.slot_list_append PySem.F.type_list_append (ldL h D.m2 ⟨h.plainList (.tail _ (.tail _ (.tail _ (.head _)))), ?_⟩)))
      refine iCons (eSub (ldL h D.m3 (slc (pNone (pNone (pSome (eNeg (cI h fun _ _ h => jNeg h fun _ _ h => ⟨_, _, _, _, _, _, _, _, _, h, .tail _ (.tail _ (.tail _ (.tail _ (.head _)))), by rw [sizeLine_eq]; exact arR2 (hnl.trans hnl2) hb'.2.1 hlt hz, .none, .none, .int _ _, by simp, fun rv _ h => iNil ?_⟩))))))))
      rw [krv_pick] at h
      refine fAppend h (.tail (.tail (.tail (.tail .head)))) (by rw [refs_len, sizeLine_eq, hsl, hb'.2.2]; with_reducible exact arL ‹_› ‹_› ‹_› (by decide)) fun _ h => ⟨rfl, ?_⟩
      rw [refs_snoc segS rv (listOf nv.toArray.toList.reverse.toArray 0)] at h
      have h := h.perm permS
      have D2 : DL L aB aS aN nu (dNote d') m segB (segS ++ [(rv, listOf nv.toArray.toList.reverse.toArray 0)]) nB (nS + 1) (listOf nv.toArray nN) := by
        refine ⟨D.rb, ?_, ⟨nv, nN, rfl, hnv⟩, D.ok.note, D.m1, D.m2, D.m3, D.m4⟩
        show Rows _ ((d'.st ++ [d'.now.reverse]).map natI)
        rw [List.map_append]
        refine D.rs.append ⟨⟨_, 0, rfl, ?_⟩, trivial⟩
        show IntsAre nv.reverse (natI d'.now.reverse)
        rw [natI, List.map_reverse]
        exact hnv.reverse
      have hst : (dNote d').st.length ≤ i + 1 := by show (d'.st ++ [d'.now.reverse]).length ≤ i + 1; rw [hb'.2.2]; simp; omega
      refine xCons (xIf (tAnd2 (tCmp (eBin (ldL h mx (cI h fun _ _ h => iMod h (by decide) fun _ _ h => cI h fun _ _ h => kEq (tBool ?_)))))))
      by_cases hx1 : x.fmod 3 = 1
      · refine iteT (show (x.fmod 3 == 1) = true by simpa using hx1) ?_
        refine tCmp (ldL h D.m3 (dList (iNil ⟨Nat.le_of_ble_eq_true rfl, _, _, _, _, h, fun em _ h => cEmpty h (.tail _ (.tail _ (.tail _ (.tail _ (.tail _ (.head _)))))) (.head _) hnv r₁.cline (tBool ?_)⟩)))
        have h := h.drop 1
        by_cases hne : d'.now = []
        · refine ifF (show (!decide (natI d'.now = [])) = false by simp [natI, hne]) ?_
          have hs : dStep ns.length i x d = dNote d' := by rw [dStep, ← hd', dShut, if_neg (by rintro ⟨_, q⟩; exact q hne)]
          rw [hs] at hrun
          exact xNil (xNil ⟨n - 1, by with_reducible exact ar3c ‹_› ‹_›, i + 1, _, m, aN, _, o', _, segB, _, nB, _, by with_reducible exact ar11 ‹_› ‹_›, hrun, ho, D2, hb'.1, hst, hb'.2.1, h⟩)
        · refine iteT (show (!decide (natI d'.now = [])) = true by simp [natI, hne]) ?_
          obtain ⟨pre, b, hnow⟩ : ∃ pre b, d'.now = pre ++ [b] := ⟨d'.now.dropLast, d'.now.getLast hne, (List.dropLast_concat_getLast hne).symm⟩
          have hs : dStep ns.length i x d = ⟨d'.bs.modify b (bEnd i), pre, d'.st ++ [d'.now.reverse]⟩ := by
            rw [dStep, ← hd', dShut, if_pos ⟨hx1, hne⟩]
            show DSt.mk (d'.bs.modify (d'.now.getLastD 0) (bEnd i)) d'.now.dropLast _ = _
            rw [hnow]; simp [dNote, hnow]
          have hok : DOk (dStep ns.length i x d) := by rw [dStep, ← hd']; exact D.ok.note.shut i x
          rw [hs] at hrun hok
          have hbb : b < d'.bs.length := D.ok.lt b (by rw [hnow]; simp)
          obtain ⟨blk, hblk⟩ : ∃ blk, d'.bs[b]? = some blk := ⟨d'.bs[b], by simp [hbb]⟩
          obtain ⟨⟨ab, ob⟩, hseg, bv, nb, hob, hbv⟩ := D.rb.get hblk
          have hob' : ob = listOf bv.toArray nb := hob
          subst hob'
          have hb4 : blk.length = 4 := D.ok.four blk (List.mem_of_getElem? hblk)
          obtain ⟨p0, p1, p2, p3, rfl⟩ : ∃ p0 p1 p2 p3, blk = [p0, p1, p2, p3] := len4 hb4
          have hnv' : IntsAre nv (natI pre ++ [((b : Nat) : Int)]) := by have := hnv; rw [hnow] at this; simpa [natI] using this
          obtain ⟨nvp, tb, rfl, hnvp⟩ := ints_snoc hnv'
          obtain ⟨t0, hv0⟩ := hbv.get 0 p0 rfl
          have hbl4 := hbv.length
          have href : (refs (segB.map (·.1)))[((b : Nat) : Int).toNat]? = some (.ref ab) := by rw [Int.toNat_natCast]; exact refs_get (by simp [hseg])
          have hmem : (ab, listOf bv.toArray nb) ∈ segB := List.mem_of_getElem? hseg
          refine xCons (xAsgSub (eBin (eBin (ldL h mp (cI h fun _ _ h => iAdd h fun _ _ h => eSub (eSub (ldL h D.m1 (eSub (ldL h D.m3 (eNeg (cI h fun _ _ h => jNeg h fun _ _ h => lLast h (.tail _ (.tail _ (.tail _ (.tail _ (.head _))))) (lTail h (.tail _ (.tail _ (.head _))) (by with_reducible exact ar12) (arR hbb hb'.1 hlt hz) href (cI h fun _ _ h => lTail h (.tail _ (.tail _ (.tail _ (.tail _ (.tail _ (List.mem_append_left _ hmem)))))) (by decide) (by decide) hv0 (iSub h fun tv _ h => ?_))))))))))))))
          refine eSub (ldL h D.m1 (eSub (ldL h D.m3 (eNeg (cI h fun _ _ h => jNeg h fun _ _ h => lLast h (.tail _ (.tail _ (.tail _ (.tail _ (.head _))))) (lTail h (.tail _ (.tail _ (.head _))) (by with_reducible exact ar12) (arR hbb hb'.1 hlt hz) href (cI h fun _ _ h => ?_)))))))
          refine sList (i := 1) h (.tail (.tail (.tail (.tail (.tail ((Rep.set _ hseg).left _)))))) (by rw [hbl4]; exact Nat.le_of_ble_eq_true rfl) (by decide) fun _ h => ?_
          refine xCons (xAsg (eSub (ldL h D.m3 (slc (pNone (pSome (eNeg (cI h fun _ _ h => jNeg h fun _ _ h => pNone ⟨_, _, _, _, _, _, _, _, _, h, .tail _ (.tail _ (.tail _ (.tail _ (.head _)))), by rw [sizeLine_eq]; exact arR2 (hnl.trans hnl2) hb'.2.1 hlt hz, .none, .int _ _, .none, by simp, fun aN' _ h => stL h fun _ h => xNil (xNil ?_)⟩))))))))
          have hkeys := congrArg (fun l => ((aB, listOf (refs l).toArray nB) : Addr × Obj)) (set_keys segB b ab (listOf bv.toArray nb) (listOf (bv.set 1 (Value.int ((i : Int) + 1 - p0) tv)).toArray nb) hseg)
          have hkeys : lsP aB _ nB = lsP aB segB nB := hkeys
          rw [← hkeys] at h
          have h := (h.sub (List.Sublist.cons_cons _ (List.Sublist.cons_cons _ (List.Sublist.cons_cons _ (List.Sublist.cons_cons _ (List.Sublist.cons_cons _ (List.Sublist.cons _ (List.Sublist.refl _)))))))).perm permN
          refine ⟨n - 1, by with_reducible exact ar3c ‹_› ‹_›, i + 1, _, _, aN', _, o', _, _, _, nB, _, by with_reducible exact ar11 ‹_› ‹_›, hrun, ho, ?_, ?_, hst, ?_, h⟩
          · refine ⟨?_, D2.rs, ?_, hok, D.m1, D.m2, rfl, D.m4⟩
            · show Rows _ (d'.bs.modify b (bEnd i))
              have : d'.bs.modify b (bEnd i) = d'.bs.set b (bEnd i [p0, p1, p2, p3]) := modify_set hblk _
              rw [this]
              refine D.rb.set ⟨_, nb, rfl, ?_⟩
              exact ints_set hbv 1 _ tv
            · have hup := kmk_upto_neg (y := -1) hnv (by decide)
              refine ⟨(slicePick (nvp ++ [Value.int ((b : Nat) : Int) tb]).toArray none (some (-1)) none).toList, 0, by rw [Array.toArray_toList], ?_⟩
              have e1 : (natI d'.now).take ((natI d'.now).length - (-(-1 : Int)).toNat) = natI pre := by rw [hnow]; simp [natI]
              rw [e1] at hup
              exact hup
          · show (d'.bs.modify b (bEnd i)).length ≤ i + 1
            rw [List.length_modify]; exact hb'.1
          · show pre.length ≤ i + 1
            have := hb'.2.1; rw [hnow] at this; simp at this; omega
      · rw [show (x.fmod 3 == 1) = false by simpa using hx1, if_neg (by decide), if_neg (by decide)]
        have hs : dStep ns.length i x d = dNote d' := by rw [dStep, ← hd', dShut, if_neg (by rintro ⟨q, _⟩; exact hx1 q)]
        rw [hs] at hrun
        exact xNil (xNil ⟨n - 1, by with_reducible exact ar3c ‹_› ‹_›, i + 1, _, m, aN, _, o', _, segB, _, nB, _, by with_reducible exact ar11 ‹_› ‹_›, hrun, ho, D2, hb'.1, hst, hb'.2.1, h⟩)
  · have hnone : vs[i]? = none := by simp; with_reducible exact ar18b ‹_› ‹_›
    refine nxEend h r₁.handled ho hnu hnone fun s₉ h => xNil ?_
    refine xCons (xRet (dTup (iCons (ldL h D.m1 (iCons (ldL h D.m2 (iNil ⟨Nat.le_of_ble_eq_true rfl, _, _, _, _, h, fun tp _ h => ?_⟩)))))))
    rw [List.drop_of_length_le (by with_reducible exact ar18 ‹_›), dRun] at hrun
    rw [← hrun] at k
    exact k tp aB aS segB segS nB nS _ (h.pop.sub (List.Sublist.cons_cons _ (List.Sublist.cons_cons _ (List.Sublist.cons_cons _ (List.Sublist.cons _ (List.Sublist.refl _)))))) D.rb D.rs
end
end Mine
end

/-! part RulesC -/
section
open PySem PySem.W PyProof.Rows PySem.Calls
set_option maxRecDepth 100000
set_option linter.unusedVariables false
namespace Mine
/-- all the heap's objects but those at L and x -/
noncomputable def others (h : Heap) (L x : Addr) : List (Addr × Obj) := (List.range h.objs.size).filterMap fun a => if a = L ∨ a = x then none else (h.get? a).map (a, ·)
theorem others_mem {h : Heap} {L x : Addr} {p : Addr × Obj} (hp : p ∈ others h L x) : h.get? p.1 = some p.2 ∧ p.1 ≠ L ∧ p.1 ≠ x := by
  obtain ⟨a, _, e⟩ := List.mem_filterMap.mp hp
  split at e
  · cases e
  · rename_i hn
    obtain ⟨o, ho, rfl⟩ := Option.map_eq_some_iff.mp e
    exact ⟨ho, fun q => hn (.inl q), fun q => hn (.inr q)⟩
theorem mem_others {h : Heap} {L x b : Addr} {o : Obj} (e : h.get? b = some o) (h1 : b ≠ L) (h2 : b ≠ x) : (b, o) ∈ others h L x :=
  List.mem_filterMap.mpr ⟨b, List.mem_range.mpr (Heap.lt_size e), by rw [if_neg (fun q => q.elim h1 h2), e]; rfl⟩
noncomputable abbrev noHeap : Heap := { objs := #[] }
section
variable {prog : Program} {w : World} {A : Around} {E : Value → Shared → Prop} {s : Shared} {h₀ : Heap} {s₀ : Shared} {frs : List (Addr × Mp)} {led led' : List (Addr × Obj)} {env : Env} {L : Addr} {m : Mp}
theorem At.fr (h : At h₀ s₀ ((L, m) :: frs) led s) : Fr noHeap L s.heap m := ⟨h.ns _ (.head _), fun b o e => by simp [Heap.get?] at e, Nat.zero_le _⟩
theorem At.neL {p : Addr × Obj} (h : At h₀ s₀ ((L, m) :: frs) led s) (hp : p ∈ led) : p.1 ≠ L := fun e => (List.nodup_cons.mp h.nd).1 (e ▸ List.mem_append_right _ (List.mem_map_of_mem hp))
theorem At.news {x : Addr} {o : Obj} (h : At h₀ s₀ ((L, m) :: frs) led s) (hp : (x, o) ∈ led) : News noHeap L s.heap ([] ++ (x, o) :: others s.heap L x) := by
  intro p hp'
  rcases List.mem_cons.mp hp' with rfl | hp'
  · exact ⟨h.get _ hp, h.neL hp, by simp [Heap.get?]⟩
  · exact ⟨(others_mem hp').1, (others_mem hp').2.1, by simp [Heap.get?]⟩
theorem At.back {x : Addr} {o o' : Obj} {h' : Heap} {t : Nat} (h : At h₀ s₀ ((L, m) :: frs) led s) (r : Rep x o o' led led') (F : Fr noHeap L h' m) (N : News noHeap L h' ([] ++ (x, o') :: others s.heap L x)) : At h₀ s₀ ((L, m) :: frs) led' { s with heap := h', toks := t } := by
  have hL := (List.nodup_cons.mp h.nd).1
  have nd := List.nodup_append.mp (List.nodup_cons.mp h.nd).2
  have hx : x ∈ led.map (·.1) := List.mem_map_of_mem (f := (·.1)) r.mem
  have k : ∀ b o, b ≠ L → b ≠ x → s.heap.get? b = some o → h'.get? b = some o := fun b o h1 h2 e => (N (b, o) (.tail _ (mem_others e h1 h2))).1
  refine ⟨h.gens, h.os, fun b o e => k b o (h.old_lt e (.head _)) (h.old_lt e (List.mem_append_right _ hx)) (h.keep b o e), fun f hf => ?_, fun p hp => ?_, by rw [r.keys]; exact h.nd, by rw [r.keys]; exact h.new⟩
  · rcases List.mem_cons.mp hf with rfl | hf
    · exact F.ns
    · have hm : f.1 ∈ frs.map (·.1) := List.mem_map_of_mem hf
      exact (h.ns f (.tail _ hf)).at' fun o e => k _ _ (fun q => hL (q ▸ List.mem_append_left _ hm)) (nd.2.2 _ hm _ hx) e
  · rcases r.old nd.2.1 p hp with rfl | ⟨h1, h2⟩
    · exact (N (x, o') (.head _)).1
    · exact k _ _ (h.neL h1) h2 (h.get p h1)

/-! attributes -/
theorem eAttr {value : Expr} {attr : Str} {pos : Pos} {Q : Value → Shared → Prop} (h : W prog w A (eval value env) (kO prog w A E (fun o => getAttr o attr true) Q) E s)
    (he : eval (.Attribute value attr pos) env = (do let o ← eval value env; standAt pos.atName; let r ← holding [o] (getAttr o attr true); letTemporaryGo value o r; pure r) := by with_unfolding_all rfl) : W prog w A (eval (.Attribute value attr pos) env) Q E s :=
  ⟨Attribute_any_ (up h fun _ _ h => h.w) he⟩
theorem xAsgAttr {o value : Expr} {attr : Str} {pos' pos : Pos} {Q : Flow → Shared → Prop} (h : W prog w A (eval value env) (kR prog w A E env o (fun v ov => setAttr ov attr v) (kNx Q)) E s)
    (hs : autoParam (swapsWith value (some (.Attribute o attr pos')) pos.line env = Pure.pure false) Mine.aRfl) : W prog w A (exec (.Assign [.Attribute o attr pos'] value pos) env) Q E s :=
  ⟨plainObj_wpAny_Assign_Attribute (up h fun _ _ h => up h fun _ _ h => h.w) hs⟩
noncomputable def kAu (prog : Program) (w : World) (A : Around) (E : Value → Shared → Prop) (env : Env) (attr : Str) (op : Operator) (value : Expr) (Q : Flow → Shared → Prop) (ov : Value) (s : Shared) : Prop := W prog w A (getAttr ov attr true) (kR prog w A E env value (inplaceOp op) (kO prog w A E (setAttr ov attr) (kNx Q))) E s
theorem xAugAttr {o value : Expr} {attr : Str} {tpos pos : Pos} {op : Operator} {Q : Flow → Shared → Prop} (h : W prog w A (eval o env) (kAu prog w A E env attr op value Q) E s) :
    W prog w A (exec (.AugAssign (.Attribute o attr tpos) op value pos) env) Q E s :=
  ⟨wpAny_AugAssign_AttributeAny (up h fun _ _ h => up h fun _ _ h => up h fun _ _ h => up h fun _ _ h => h.w)⟩
noncomputable def kWa (prog : Program) (w : World) (A : Around) (E : Value → Shared → Prop) (env : Env) (target : Expr) (Q : Value → Shared → Prop) (v : Value) (s : Shared) : Prop := W prog w A (assign target env v) (kGo Q v) E s
noncomputable def kA2 (prog : Program) (w : World) (A : Around) (E : Value → Shared → Prop) (env : Env) (t : Expr) (Q : Flow → Shared → Prop) (v : Value) (_ : Unit) (s : Shared) : Prop := W prog w A (assign t env v) (kNx Q) E s
noncomputable def kA1 (prog : Program) (w : World) (A : Around) (E : Value → Shared → Prop) (env : Env) (t₁ t₂ : Expr) (Q : Flow → Shared → Prop) (v : Value) (s : Shared) : Prop := W prog w A (assign t₁ env v) (kA2 prog w A E env t₂ Q v) E s
theorem eWalrus {target value : Expr} {pos : Pos} {Q : Value → Shared → Prop} (h : W prog w A (eval value env) (kWa prog w A E env target Q) E s) : W prog w A (eval (.NamedExpr target value pos) env) Q E s :=
  ⟨wpAny_NamedExpr (up h fun _ _ h => h.w)⟩
theorem xAsg2 {t₁ t₂ value : Expr} {pos : Pos} {Q : Flow → Shared → Prop} (h : W prog w A (eval value env) (kA1 prog w A E env t₁ t₂ Q) E s)
    (he : autoParam ((assignEach [t₁, t₂] env).map (·.2) = [assign t₁ env, assign t₂ env]) Mine.aRfl) (hw : autoParam (swappedStores [t₁, t₂] value env = Pure.pure Option.none) Mine.aRfl) : W prog w A (exec (.Assign [t₁, t₂] value pos) env) Q E s :=
  ⟨wpAny_Assign_two (up h fun _ _ h => up h fun _ _ h => h.w) he hw⟩

/-- a class of the text, plain -/
structure Klass (w : World) (C : Addr) : Prop where
  ga : findIn (KK w.params) (.ref C) "__getattribute__" = some (some (.builtin "object.__getattribute__"))
  gt : findIn (KK w.params) (.ref C) "__getattr__" = some none
  sa : findIn (KK w.params) (.ref C) "__setattr__" = some (some (.builtin "object.__setattr__"))
  po : plainOver (KK w.params) C = true
  made : makesIn (KK w.params) C = true
  cl : (clsIn (KK w.params) C).isSome = true
theorem cl47 (w : World) : Klass w 47 := ⟨by kernel_rfl, by kernel_rfl, by kernel_rfl, by kernel_rfl, by kernel_rfl, by kernel_rfl⟩
theorem cl144 (w : World) : Klass w 144 := ⟨by kernel_rfl, by kernel_rfl, by kernel_rfl, by kernel_rfl, by kernel_rfl, by kernel_rfl⟩
noncomputable abbrev iObj (C dx : Addr) (sl : Array (Option Value)) : Obj := { cls := .ref C, dict := some dx, data := .plain, slots := sl }
theorem At.inst {x dx C : Addr} {sl : Array (Option Value)} {od : Obj} (h : At h₀ s₀ frs led s) (hx : (x, iObj C dx sl) ∈ led) (hd : (dx, od) ∈ led) : InstAt s.heap x (iObj C dx sl) C (some od) := ⟨h.get _ hx, rfl, rfl, h.get _ hd⟩
/-- x.name, from the own names -/
theorem gOwn (G : Gr w h₀) {C x dx : Addr} {name : Str} {es : List DictEntry} {n : Nat} {v : Value} {Q : Value → Shared → Prop} (c : Klass w C) (h : At h₀ s₀ frs led s) (hx : (x, iObj C dx #[]) ∈ led) (hd : (dx, dictOf es n) ∈ led) (hl : getL name es = some (some v))
    (k : ∀ s', At h₀ s₀ frs led s' → Q v s') (hv : autoParam (handedIn v = true) Mine.aRfl) (hh : autoParam (hasDictIn (KK w.params) C = true) Mine.aKer) (ha : autoParam (findIn (KK w.params) (.ref C) name = some none) Mine.aKer) : W prog w A (getAttr (.ref x) name true) Q E s :=
  ⟨get_value (G.kin.keeps h.keep) (h.inst hx hd) c.ga (findObj_own hh ha rfl hl) hv (k _ (h.toks _))⟩
/-- x.name = v, among the own names -/
theorem sOwn (G : Gr w h₀) {C x dx : Addr} {name : Str} {es : List DictEntry} {n : Nat} {v : Value} {Q : Unit → Shared → Prop} {led' : Tok → List (Addr × Obj)} (c : Klass w C) (h : At h₀ s₀ ((L, m) :: frs) led s) (hx : (x, iObj C dx #[]) ∈ led)
    (r : ∀ t, Rep dx (dictOf es n) (dictOf (putL name (PyData.keyHash w.params name) (.str name t) v es) (putN name es n)) led (led' t)) (hz : es.length ≤ 900) (hl : (getL name es).isSome = true)
    (k : ∀ t s', At h₀ s₀ ((L, m) :: frs) (led' t) s' → Q () s') (hh : autoParam (hasDictIn (KK w.params) C = true) Mine.aKer) (ht : autoParam (takerIn (KK w.params) C name = some none) Mine.aKer) : W prog w A (setAttr (.ref x) name v) Q E s := by
  have hd : (dx, dictOf es n) ∈ led := (r 0).mem
  have X : (KK w.params).In s.heap := G.kin.keeps h.keep
  have hpl : ∀ es : List DictEntry, (putL name (PyData.keyHash w.params name) (.str name (s.toks + 1)) v es).length ≤ es.length + 1 := by
    intro es
    induction es with
    | nil => simp [putL]
    | cons e r ih => unfold putL; split <;> simp <;> omega
  refine ⟨set_plain X (h.inst hx hd) c.sa (osa_dict (s := { s with toks := s.toks + 1 }) (L := L) (m := m) h.fr (h.news hd) X (h.inst hx hd) rfl c.po ht hh hl (fun _ q => nomatch q) (fun p hp => (others_mem hp).2.2) (putName_dict ..) rfl (Nat.le_trans (hpl es) (by omega)) fun h' F' N' => ?_)⟩
  exact k (s.toks + 1) _ (h.back (t := s.toks + 1 + 1) (r _) F' N')
/-- x.name, a slot -/
theorem gSlot (G : Gr w h₀) {C x dx p : Addr} {name : Str} {od : Obj} {sl : Array (Option Value)} {i : Nat} {v : Value} {Q : Value → Shared → Prop} (c : Klass w C) (h : At h₀ s₀ frs led s) (hx : (x, iObj C dx sl) ∈ led) (hd : (dx, od) ∈ led)
    (ha : findIn (KK w.params) (.ref C) name = some (some (.ref p))) (hi : slotIn (KK w.params) p C = some i) (hs : (sl[i]?).join = some v)
    (k : ∀ s', At h₀ s₀ frs led s' → Q v s') (hg : autoParam (specialIn (KK w.params) (.ref p) "__get__" = some (some (.builtin "member_descriptor.__get__"))) Mine.aKer) (ht : autoParam (takesIn (KK w.params) (.ref p) = some true) Mine.aKer) (hv : autoParam (handedIn v = true) Mine.aRfl) :
    W prog w A (getAttr (.ref x) name true) Q E s := by
  have X : (KK w.params).In s.heap := G.kin.keeps h.keep
  refine ⟨get_bind X (h.inst hx hd) c.ga (findObj_data c.cl ha hg ht) c.gt (wpAny_call (slot_get (s := { s with toks := s.toks + 1 }) X (h.inst hx hd) hi hs ?_))⟩
  show wpAny _ _ (handedOut v) _ _ _
  rw [handedOut_of hv]
  exact wpAny_pure (k _ (h.toks _))
theorem sSlot (G : Gr w h₀) {C x dx p : Addr} {name : Str} {od : Obj} {sl sl' : Array (Option Value)} {i : Nat} {v : Value} {Q : Unit → Shared → Prop} (c : Klass w C) (h : At h₀ s₀ ((L, m) :: frs) led s) (hd : (dx, od) ∈ led) (r : Rep x (iObj C dx sl) (iObj C dx sl') led led')
    (e : (sl ++ Array.replicate (i + 1 - sl.size) none).setIfInBounds i (some v) = sl') (hi : slotIn (KK w.params) p C = some i) (hi2 : i < 1000)
    (k : ∀ s', At h₀ s₀ ((L, m) :: frs) led' s' → Q () s') (ht : autoParam (takerIn (KK w.params) C name = some (some (.ref p))) Mine.aKer) (hT : autoParam (typeIn (KK w.params) (.ref p) = some (.type "member_descriptor")) Mine.aKer) :
    W prog w A (setAttr (.ref x) name v) Q E s := by
  have X : (KK w.params).In s.heap := G.kin.keeps h.keep
  have hx := r.mem
  refine ⟨set_plain X (h.inst hx hd) c.sa (osa_descr (s := { s with toks := s.toks + 1 }) KF.slot_mset X (h.inst hx hd) c.po ht hT (slot_set (s := { s with toks := s.toks + 1 }) (ox' := iObj C dx sl') (L := L) (m := m) h.fr (h.news hx) X (h.inst hx hd) hi hi2 (fun _ q => nomatch q) (fun p hp => (others_mem hp).2.2) (by rw [← e]) rfl fun h' F' N' => ?_))⟩
  exact k _ (h.back (t := s.toks + 1) r F' N')
/-- an own object made -/
theorem mkI (G : Gr w h₀) {c0 fI : Addr} {rest : List Value} {R : Result → Shared → Prop} (c : Klass w c0) (h : At h₀ s₀ frs led s) (hi : findIn (KK w.params) (.ref c0) "__init__" = some (some (.ref fI)))
    (k : ∀ x dx (A' : Around) s', (dx == sysModules) = false → At h₀ s₀ frs ((x, iObj c0 dx #[]) :: (dx, dictOf [] 0) :: led) s' → (∀ n, Rm A (n + 1) → Rm A' n) → A'.frames = A.frames → C prog w A' (.call (.ref fI) ⟨.ref x :: rest, []⟩) (InitBack x R) s')
    (hf : autoParam (typeIn (KK w.params) (.ref fI) = some (.type "function")) Mine.aKer) : C prog w A (.call (.ref c0) ⟨rest, []⟩) R s := by
  have X : (KK w.params).In s.heap := G.kin.keeps h.keep
  have hlow := modules_low (G.lim.keeps h.keep)
  have h1 := h.push (dictOf [] 0) rfl s.toks
  have h2 := h1.push (iObj c0 s.heap.objs.size #[]) rfl s.toks
  have e : ({ s with heap := s.heap.push (dictOf [] 0), toks := s.toks } : Shared).heap.objs.size = s.heap.objs.size + 1 := Heap.size_push ..
  rw [e] at h2
  obtain ⟨hh, g, d, t, os⟩ := s
  refine ⟨make_core (makes_of X c.made) (looks_findIn X hi) (fun self => bind_fn X self hf) (.inl rfl) (k _ hh.objs.size (A.under (.builtin "type.__call__" ⟨.ref c0 :: rest, []⟩)) _ (beq_false_of_ne (Nat.ne_of_gt hlow)) h2 (fun n r => ⟨r.handled, ?_, ?_⟩) rfl).c⟩
  · have := r.depth; show A.depth + 1 + n ≤ 990; omega
  · have := r.units; show A.units + Code.cUnits _ + 4 * n ≤ 9000
    have : Code.cUnits (.builtin "type.__call__" ⟨.ref c0 :: rest, []⟩) ≤ 4 := Nat.le_of_ble_eq_true (by kernel_rfl)
    omega
/-- the own object x, and what comes next -/
inductive ObK (h₀ : Heap) (s₀ : Shared) (c0 x dx : Addr) (sl : Array (Option Value)) (es : List DictEntry) (n : Nat) (K : Shared → Prop) (ov : Value) (s : Shared) : Prop
  | mk (frs₁ : List (Addr × Mp)) (led₁ : List (Addr × Obj)) (e : ov = .ref x) (h : At h₀ s₀ frs₁ led₁ s) (hx : (x, iObj c0 dx sl) ∈ led₁) (hd : (dx, dictOf es n) ∈ led₁) (k : K s) : ObK h₀ s₀ c0 x dx sl es n K ov s
noncomputable def kCalM (prog : Program) (w : World) (A : Around) (E : Value → Shared → Prop) (h₀ : Heap) (f x : Addr) (Q : Value → Shared → Prop) (vs : List Value) (s : Shared) : Prop := (∀ b o, h₀.get? b = some o → s.heap.get? b = some o) ∧ C prog w A (.call (.ref f) ⟨.ref x :: vs, []⟩) (kRes Q E) s
/-- a method of an own object called -/
theorem cInst (G : Gr w h₀) {o e : Expr} {name : Str} {apos pos : Pos} {rest : List Expr} {c0 x dx f : Addr} {sl : Array (Option Value)} {es : List DictEntry} {n : Nat} {Q : Value → Shared → Prop} (c : Klass w c0) (F : Fn w f)
    (h : W prog w A (eval o env) (ObK h₀ s₀ c0 x dx sl es n (W prog w A (spliced (backTo pos (starEach (e :: rest) env))) (kCalM prog w A E h₀ f x Q) E)) E s)
    (hf : autoParam (findIn (KK w.params) (.ref c0) name = some (some (.ref f))) Mine.aKer) (ht : autoParam (typeIn (KK w.params) (.ref f) = some (.type "function")) Mine.aKer) (hs : autoParam (getL name es = some none) Mine.aRfl)
    (hbase : autoParam (attributeBase o name env (eval o env) = eval o env) Mine.aRfl)
    (hfew : autoParam (methodCallForm ((e :: rest).length + ([] : List Keyword).length) (backTo pos (starEach (e :: rest) env)) (backToKw pos (keywordEach [] env)) = true) Mine.aRfl)
    (he : autoParam (starEach (e :: rest) env = (false, eval e env) :: starEach rest env) Mine.aRfl)
    (hline : autoParam ((apos.endLine == pos.line) = true) Mine.aRfl) : W prog w A (eval (.Call (.Attribute o name apos) (e :: rest) [] pos) env) Q E s := by
  constructor
  rw [arm_eval_Call, hbase]
  refine wpAny_bind (wpAny_mono h.w (fun ov s₁ h₁ => ?_) fun _ _ e => e)
  obtain ⟨frs₁, led₁, rfl, hat, hx, hd, hc⟩ := h₁
  refine wpAny_bind (wpAny_standAt ?_)
  have hpos : methodCallPos true o env apos pos = Pure.pure pos := by unfold methodCallPos; simp [hline]
  unfold methodCall calleeOf
  rw [hfew]
  refine wpAny_bind (wpAny_holding (method_fn (G.kin.keeps hat.keep) (hat.inst hx hd) c.ga c.gt hf ht (by show Option.map _ (lookIn name (dictOf es n)) = _; rw [lookIn_dict, hs]; rfl) ?_))
  refine wpAny_bind (wpAny_of_eq hpos ?_)
  refine callWith_function (fd := fdAt w.params f) (o := { cls := .type "function", data := .func (fdAt w.params f) }) (evalArgs_items (W.mono hc fun vs s₁ ⟨h1, h2⟩ => ?_) he).w
  exact ⟨⟨h1 _ _ (G.kin _ _ F.hK), rfl⟩, wpAny_call h2.c⟩
theorem cInst0 (G : Gr w h₀) {o : Expr} {name : Str} {apos pos : Pos} {c0 x dx f : Addr} {sl : Array (Option Value)} {es : List DictEntry} {n : Nat} {Q : Value → Shared → Prop} (c : Klass w c0) (F : Fn w f)
    (h : W prog w A (eval o env) (ObK h₀ s₀ c0 x dx sl es n (C prog w A (.call (.ref f) ⟨[.ref x], []⟩) (kRes Q E))) E s)
    (hf : autoParam (findIn (KK w.params) (.ref c0) name = some (some (.ref f))) Mine.aKer) (ht : autoParam (typeIn (KK w.params) (.ref f) = some (.type "function")) Mine.aKer) (hs : autoParam (getL name es = some none) Mine.aRfl)
    (hbase : autoParam (attributeBase o name env (eval o env) = eval o env) Mine.aRfl)
    (hline : autoParam ((apos.endLine == pos.line) = true) Mine.aRfl) : W prog w A (eval (.Call (.Attribute o name apos) [] [] pos) env) Q E s := by
  constructor
  rw [arm_eval_Call, hbase]
  refine wpAny_bind (wpAny_mono h.w (fun ov s₁ h₁ => ?_) fun _ _ e => e)
  obtain ⟨frs₁, led₁, rfl, hat, hx, hd, hc⟩ := h₁
  refine wpAny_bind (wpAny_standAt ?_)
  have hpos : methodCallPos true o env apos pos = Pure.pure pos := by unfold methodCallPos; simp [hline]
  unfold methodCall calleeOf
  rw [show methodCallForm (([] : List Expr).length + ([] : List Keyword).length) (backTo pos (starEach [] env)) (backToKw pos (keywordEach [] env)) = true from rfl]
  refine wpAny_bind (wpAny_holding (method_fn (G.kin.keeps hat.keep) (hat.inst hx hd) c.ga c.gt hf ht (by show Option.map _ (lookIn name (dictOf es n)) = _; rw [lookIn_dict, hs]; rfl) ?_))
  refine wpAny_bind (wpAny_of_eq hpos ?_)
  refine callWith_function (fd := fdAt w.params f) (o := { cls := .type "function", data := .func (fdAt w.params f) }) ?_
  rw [show evalArgs (.ref f) true (backTo pos (starEach [] env)) [] = Pure.pure ⟨[], []⟩ from rfl]
  exact wpAny_pure ⟨⟨hat.keep _ _ (G.kin _ _ F.hK), rfl⟩, wpAny_call hc.c⟩
end
end Mine
end

/-! part RulesE -/
section
open PySem PySem.W PyProof.Rows PySem.Calls
set_option maxRecDepth 100000
set_option linter.unusedVariables false
namespace Mine
noncomputable def epOf (o : Obj) : Nat := match o.data with | .dict _ ep => ep | _ => 0
noncomputable abbrev keyIt (d : Addr) (i n ep : Nat) (o : Obj) : Prop := o.cls = .type "dict_keyiterator" ∧ o.data = .fields #[.ref d, .int i 0, .int n 0, .int ep 0]
noncomputable abbrev valIt (d : Addr) (i n ep : Nat) (o : Obj) : Prop := o.cls = .type "dict_valueiterator" ∧ o.data = .fields #[.ref d, .int i 0, .int n 0, .int ep 0]
noncomputable abbrev itmIt (d : Addr) (i n ep : Nat) (ok ov : Value) : Obj := { cls := .type "dict_itemiterator", data := .fields #[.none, .bool false, .ref d, .int i 0, .int n 0, .int ep 0, ok, ov] }
section
variable {prog : Program} {w : World} {A : Around} {E : Value → Shared → Prop} {s : Shared} {h₀ : Heap} {s₀ : Shared} {frs : List (Addr × Mp)} {led led' : List (Addr × Obj)} {env : Env} {L : Addr} {m : Mp}
variable {d : Addr} {o : Obj} {kvs : List (Int × Value)}

theorem At.dict (h : At h₀ s₀ frs led s) (hd : (d, o) ∈ led) (ho : o.IsDictOf (intKind prog w) kvs) : s.heap.DictOf (intKind prog w) d kvs := Heap.dictOf_iff.mpr ⟨o, h.get _ hd, ho⟩
theorem At.dictAt (h : At h₀ s₀ frs led s) (hd : (d, o) ∈ led) (ho : o.IsDictOf (intKind prog w) kvs) : s.heap.DictAt (intKind prog w) d kvs (epOf o) := by
  obtain ⟨es, ep, h1, h2, h3⟩ := ho
  have : epOf o = ep := by unfold epOf; rw [h2]
  rw [this]
  exact ⟨o, es, h.get _ hd, h1, h2, h3⟩
theorem cNone {n : Nat} {pos : Pos} {Q : Value → Shared → Prop} (k : Q .none s) : W prog w A (eval (.Constant .none n pos) env) Q E s := ⟨wpAny_Constant_none k⟩
theorem kIs {v : Value} {Q : Value → Shared → Prop} (k : Q (.bool (v == .none)) s) : W prog w A (compareOp .Is v .none) Q E s := ⟨is_none_gen k⟩
theorem kIsN {v : Value} {Q : Value → Shared → Prop} (k : Q (.bool (!(v == .none))) s) : W prog w A (compareOp .IsNot v .none) Q E s := ⟨isNot_none k⟩
theorem dEmpty (G : Gr w h₀) {pos : Pos} {Q : Value → Shared → Prop} (h : At h₀ s₀ frs led s) (k : ∀ d s', (d == sysModules) = false → At h₀ s₀ frs ((d, dictOf [] 0) :: led) s' → Q (.ref d) s') : W prog w A (eval (.Dict [] [] pos) env) Q E s :=
  ⟨wpAny_Dict_empty (k _ _ (beq_false_of_ne (Nat.ne_of_gt (modules_low (G.lim.keeps h.keep)))) (h.push (dictOf [] 0) rfl s.toks))⟩
theorem isDict_nil : (dictOf [] 0).IsDictOf (intKind prog w) [] := by
  obtain ⟨o, h1, h2⟩ := Heap.dictOf_iff.mp (Heap.DictOf.new (knd := intKind prog w) ({ objs := #[] } : Heap))
  rw [Heap.get?_push_size _ rfl] at h1
  cases h1; exact h2
theorem ik (k : Int) (t : Tok) : (intKind prog w).is k (.int k t) = true := intKind_is prog w k t
theorem dGet {k : Int} {t : Tok} {Q : Value → Shared → Prop} (h : At h₀ s₀ frs led s) (hd : (d, o) ∈ led) (ho : o.IsDictOf (intKind prog w) kvs) (hs : (d == sysModules) = false) (kk : ∀ s', At h₀ s₀ frs led s' → Q ((valueAt kvs k).getD .none) s') :
    W prog w A (call (.builtin "dict.get") [.ref d, .int k t]) Q E s :=
  ⟨call_meetsIn F.slot_dict_get (h.dict hd ho).typeIs F.entry_dict_get (F.args_dict_get_2 _ _) (meets_dict_get (intKind prog w) d (ik k t) hs) ⟨_, (h.dict hd ho).mapOf, kk _ (h.toks _)⟩⟩
theorem dItem {k : Int} {t : Tok} {v : Value} {value slice : Expr} {Q : Value → Shared → Prop} (h : At h₀ s₀ frs led s) (hd : (d, o) ∈ led) (ho : o.IsDictOf (intKind prog w) kvs) (hv : valueAt kvs k = some v) (kk : ∀ s', At h₀ s₀ frs led s' → Q v s')
    (hs : autoParam (subscripted slice false (.ref d) (.int k t) = operate [.ref d, .int k t] (getItem (.ref d) (.int k t))) Mine.aRfl) : W prog w A (subscriptTail value slice (.ref d) (.int k t)) Q E s :=
  ⟨tail_any (h.dict hd ho).typeIs F.slot_dict_getitem.lookup (wpAny_getItem_of (ik k t) (h.dict hd ho).mapOf hv (kk _ (h.toks _))) hs⟩
theorem dIn {k : Int} {t : Tok} {Q : Value → Shared → Prop} (h : At h₀ s₀ frs led s) (hd : (d, o) ∈ led) (ho : o.IsDictOf (intKind prog w) kvs) (hs : (d == sysModules) = false) (kk : ∀ s', At h₀ s₀ frs led s' → Q (.bool (valueAt kvs k).isSome) s') :
    W prog w A (compareOp .In (.int k t) (.ref d)) Q E s := ⟨wpAny_in_of (ik k t) hs (h.dict hd ho).mapOf (kk _ (h.toks _))⟩
theorem dSet {k : Int} {t : Tok} {v : Value} {Q : Unit → Shared → Prop} {led' : Obj → List (Addr × Obj)} (h : At h₀ s₀ frs led s) (r : ∀ o', Rep d o o' led (led' o')) (ho : o.IsDictOf (intKind prog w) kvs) (hz : kvs.length ≤ 1000)
    (kk : ∀ o' s', o'.IsDictOf (intKind prog w) (stored kvs k v) → At h₀ s₀ frs (led' o') s' → Q () s') : W prog w A (setItem (.ref d) (.int k t) v) Q E s :=
  ⟨wpAny_setItem_pairs (ik k t) (h.dict (r o).mem ho) (fun h' hd hs => by
    obtain ⟨o', h1, h2⟩ := Heap.dictOf_iff.mp hd
    exact kk o' _ h2 (h.same (t := s.toks + 1) (r o') hs h1)) (by rw [sizeLine_eq]; with_reducible exact Nat.le_trans ‹_› (by decide))⟩
theorem dDel {k : Int} {t : Tok} {Q : Unit → Shared → Prop} {led' : Obj → List (Addr × Obj)} (h : At h₀ s₀ frs led s) (r : ∀ o', Rep d o o' led (led' o')) (ho : o.IsDictOf (intKind prog w) kvs) (hz : kvs.length ≤ 1000) (hv : (valueAt kvs k).isSome = true)
    (kk : ∀ o' s', o'.IsDictOf (intKind prog w) (without kvs k) → At h₀ s₀ frs (led' o') s' → Q () s') : W prog w A (delItem (.ref d) (.int k t)) Q E s :=
  ⟨wpAny_delItem_slot (h.dict (r o).mem ho).typeIs (by decide +kernel) F.slot_dict_delitem (call_meetsIn F.slot_dict_delitem (h.dict (r o).mem ho).typeIs F.entry_dict_delitem (F.args_dict_delitem_2 _ _) (meets_dict_delitem_pairs (intKind prog w) d (ik k t)) ⟨kvs, h.dict (r o).mem ho, by rw [sizeLine_eq]; with_reducible exact Nat.le_trans ‹_› (by decide), hv, fun h' hd hs => by
    obtain ⟨o', h1, h2⟩ := Heap.dictOf_iff.mp hd
    exact kk o' _ h2 (h.same (t := s.toks + 1) (r o') hs h1)⟩)⟩
theorem At.plainDict (h : At h₀ s₀ frs led s) (hd : (d, o) ∈ led) (ho : o.IsDictOf (intKind prog w) kvs) : s.TypeIs (.ref d) "dict" ∧ ∀ a, Value.ref d = .ref a → ∃ ob, s.heap.get? a = some ob ∧ ob.dict = none :=
  ⟨(h.dict hd ho).typeIs, (h.dict hd ho).mapOf.noDict⟩
/-! iteration -/
theorem itD {Q : Value → Shared → Prop} (h : At h₀ s₀ frs led s) (hd : (d, o) ∈ led) (ho : o.IsDictOf (intKind prog w) kvs) (hs : (d == sysModules) = false) (k : ∀ it oi s', keyIt d 0 kvs.length (epOf o) oi → At h₀ s₀ frs ((it, oi) :: led) s' → Q (.ref it) s') : W prog w A (pyIter (.ref d)) Q E s :=
  ⟨wpAny_pyIter_dict hs (h.dictAt hd ho) (k _ _ _ ⟨rfl, rfl⟩ (h.push _ rfl s.toks))⟩
theorem nxD {it : Addr} {oi : Obj} {i : Nat} {k : Int} {v : Value} {Q : Option Value → Shared → Prop} {led' : Obj → List (Addr × Obj)} (h : At h₀ s₀ frs led s) (r : ∀ o', Rep it oi o' led (led' o')) (hi : keyIt d i kvs.length (epOf o) oi) (hd : (d, o) ∈ led) (ho : o.IsDictOf (intKind prog w) kvs) (hx : kvs[i]? = some (k, v))
    (kk : ∀ t oi' s', keyIt d (i + 1) kvs.length (epOf o) oi' → At h₀ s₀ frs (led' oi') s' → Q (some (.int k t)) s') : W prog w A (pyNext (.ref it)) Q E s :=
  ⟨wpAny_pyNext_dict_item ⟨oi, h.get _ (r oi).mem, hi.1, hi.2⟩ (h.dictAt hd ho) hx fun key h' hk ⟨o', h1, h2, h3⟩ hs => by
    obtain ⟨t, rfl⟩ := Value.isInt_shape hk
    exact kk t o' _ ⟨h2, h3⟩ (h.same (t := s.toks) (r o') hs h1)⟩
theorem nxDend {it : Addr} {oi : Obj} {i : Nat} {Q : Option Value → Shared → Prop} (h : At h₀ s₀ frs ((it, oi) :: led) s) (hh : A.handled = none) (hi : keyIt d i kvs.length (epOf o) oi) (hd : (d, o) ∈ led) (ho : o.IsDictOf (intKind prog w) kvs) (hx : kvs[i]? = none)
    (kk : ∀ s', At h₀ s₀ frs led s' → Q none s') : W prog w A (pyNext (.ref it)) Q E s :=
  ⟨wpAny_pyNext_dict_end hh ⟨oi, h.get _ (.head _), hi.1, hi.2⟩ (h.dictAt (.tail _ hd) ho) hx fun h' hs => kk _ (h.lose (t := s.toks) hs)⟩
noncomputable abbrev valsO (d : Addr) : Obj := { cls := .type "dict_values", data := .fields #[.ref d] }
noncomputable abbrev itmsO (d : Addr) : Obj := { cls := .type "dict_items", data := .fields #[.ref d] }
theorem dValues {Q : Value → Shared → Prop} (h : At h₀ s₀ frs led s) (hd : (d, o) ∈ led) (ho : o.IsDictOf (intKind prog w) kvs) (hs : (d == sysModules) = false) (k : ∀ v s', At h₀ s₀ frs ((v, valsO d) :: led) s' → Q (.ref v) s') : W prog w A (call (.builtin "dict.values") [.ref d]) Q E s :=
  ⟨call_meetsIn F.slot_dict_values (h.dict hd ho).typeIs F.entry_dict_values (F.args_dict_values_1 _) (meets_dict_values (intKind prog w) d hs) ⟨⟨kvs, h.dict hd ho⟩, k _ _ (h.push _ rfl s.toks)⟩⟩
theorem dItems {Q : Value → Shared → Prop} (h : At h₀ s₀ frs led s) (hd : (d, o) ∈ led) (ho : o.IsDictOf (intKind prog w) kvs) (hs : (d == sysModules) = false) (k : ∀ v s', At h₀ s₀ frs ((v, itmsO d) :: led) s' → Q (.ref v) s') : W prog w A (call (.builtin "dict.items") [.ref d]) Q E s :=
  ⟨call_meetsIn F.slot_dict_items (h.dict hd ho).typeIs F.entry_dict_items (F.args_dict_items_1 _) (meets_dict_items (intKind prog w) d hs) ⟨⟨kvs, h.dict hd ho⟩, k _ _ (h.push _ rfl s.toks)⟩⟩
theorem itV {v : Addr} {Q : Value → Shared → Prop} (h : At h₀ s₀ frs led s) (hv : (v, valsO d) ∈ led) (hd : (d, o) ∈ led) (ho : o.IsDictOf (intKind prog w) kvs) (k : ∀ it oi s', valIt d 0 kvs.length (epOf o) oi → At h₀ s₀ frs ((it, oi) :: led) s' → Q (.ref it) s') : W prog w A (pyIter (.ref v)) Q E s :=
  ⟨wpAny_pyIter_values ⟨_, h.get _ hv, rfl, rfl⟩ (h.dictAt hd ho) (k _ _ _ ⟨rfl, rfl⟩ (h.push _ rfl s.toks))⟩
theorem nxV {it : Addr} {oi : Obj} {i : Nat} {k : Int} {v : Value} {Q : Option Value → Shared → Prop} {led' : Obj → List (Addr × Obj)} (h : At h₀ s₀ frs led s) (r : ∀ o', Rep it oi o' led (led' o')) (hi : valIt d i kvs.length (epOf o) oi) (hd : (d, o) ∈ led) (ho : o.IsDictOf (intKind prog w) kvs) (hx : kvs[i]? = some (k, v))
    (kk : ∀ oi' s', valIt d (i + 1) kvs.length (epOf o) oi' → At h₀ s₀ frs (led' oi') s' → Q (some v) s') : W prog w A (pyNext (.ref it)) Q E s :=
  ⟨wpAny_pyNext_values_item ⟨oi, h.get _ (r oi).mem, hi.1, hi.2⟩ (h.dictAt hd ho) hx fun h' ⟨o', h1, h2, h3⟩ hs => kk o' _ ⟨h2, h3⟩ (h.same (t := s.toks) (r o') hs h1)⟩
theorem nxVend {it : Addr} {oi : Obj} {i : Nat} {Q : Option Value → Shared → Prop} (h : At h₀ s₀ frs ((it, oi) :: led) s) (hh : A.handled = none) (hi : valIt d i kvs.length (epOf o) oi) (hd : (d, o) ∈ led) (ho : o.IsDictOf (intKind prog w) kvs) (hx : kvs[i]? = none)
    (kk : ∀ s', At h₀ s₀ frs led s' → Q none s') : W prog w A (pyNext (.ref it)) Q E s :=
  ⟨wpAny_pyNext_values_end hh ⟨oi, h.get _ (.head _), hi.1, hi.2⟩ (h.dictAt (.tail _ hd) ho) hx fun h' hs => kk _ (h.lose (t := s.toks) hs)⟩
theorem itI {v : Addr} {Q : Value → Shared → Prop} (h : At h₀ s₀ frs led s) (hv : (v, itmsO d) ∈ led) (hd : (d, o) ∈ led) (ho : o.IsDictOf (intKind prog w) kvs) (k : ∀ it s', At h₀ s₀ frs ((it, itmIt d 0 kvs.length (epOf o) .none .none) :: led) s' → Q (.ref it) s') : W prog w A (pyIter (.ref v)) Q E s :=
  ⟨wpAny_pyIter_items ⟨_, h.get _ hv, rfl, rfl⟩ (h.dictAt hd ho) (k _ _ (h.push _ rfl s.toks))⟩
theorem nxI {it : Addr} {i : Nat} {k : Int} {v ok ov : Value} {elts : List Expr} {kk : Nat} {pos : Pos} {Q0 : Shared → Prop} {K : Value → Shared → Prop} (h : At h₀ s₀ frs ((it, itmIt d i kvs.length (epOf o) ok ov) :: led) s) (hd : (d, o) ∈ led) (ho : o.IsDictOf (intKind prog w) kvs) (hx : kvs[i]? = some (k, v))
    (kf : ∀ t tp ok' s', At h₀ s₀ frs ((tp, tupOf ([.int k t, v] : List Value).toArray 0) :: (it, itmIt d (i + 1) kvs.length (epOf o) ok' v) :: led) s' → K (.ref tp) s') :
    W prog w A (pyNext (.ref it)) (kPair prog w A E (.Tuple elts kk pos) (.ref it) Q0 K) E s := by
  refine ⟨wpAny_pyNext_items_item (h.get _ (.head _)) (h.dictAt (.tail _ hd) ho) hx fun key h' hk h1 h3 hz hkp => ⟨wpAny_letOwnedTupleGo_items h1 fun h'' h4 hs => ?_⟩⟩
  obtain ⟨t, rfl⟩ := Value.isInt_shape hk
  have nd := List.nodup_append.mp h.nd
  have nh := List.nodup_cons.mp nd.2.1
  have lti : it < s.heap.objs.size := h.lt (List.mem_append_right _ (.head _))
  have kp : ∀ b o, b ≠ it → s.heap.get? b = some o → h''.get? b = some o := fun b o q1 q => (hs.2 b q1).trans (hkp b o q1 q)
  refine kf t s.heap.objs.size (.int k t) _ ⟨h.gens, h.os, fun b o q => kp b o (h.old_lt q (List.mem_append_right _ (.head _))) (h.keep b o q), fun f hf => (h.ns f hf).at' fun o q => kp _ _ (nd.2.2 _ (List.mem_map_of_mem hf) _ (.head _)) q, fun p hp => ?_, ?_, fun a ha => ?_⟩
  · rcases List.mem_cons.mp hp with rfl | hp
    · exact (hs.2 _ (Nat.ne_of_gt lti)).trans h3
    · rcases List.mem_cons.mp hp with rfl | hp
      · exact h4
      · have hpm : p.1 ∈ led.map (·.1) := List.mem_map_of_mem hp
        exact kp _ _ (fun q => nh.1 (q ▸ hpm)) (h.get p (.tail _ hp))
  · have hx : s.heap.objs.size ∉ frs.map (·.1) ++ ((it, itmIt d i kvs.length (epOf o) ok ov) :: led).map (·.1) := fun q => Nat.lt_irrefl _ (h.lt q)
    have := List.nodup_cons.mpr ⟨hx, h.nd⟩
    exact (List.perm_middle (a := s.heap.objs.size) (l₁ := frs.map (·.1)) (l₂ := ((it, itmIt d i kvs.length (epOf o) ok ov) :: led).map (·.1))).nodup_iff.mpr this
  · rcases List.mem_append.mp ha with ha | ha
    · exact h.new a (List.mem_append_left _ ha)
    · rcases List.mem_cons.mp ha with q | ha
      · rw [show a = s.heap.objs.size from q]; exact h.fresh (Nat.le_refl _)
      · exact h.new a (List.mem_append_right _ ha)
theorem nxIend {it : Addr} {i : Nat} {ok ov : Value} {Q : Option Value → Shared → Prop} (h : At h₀ s₀ frs ((it, itmIt d i kvs.length (epOf o) ok ov) :: led) s) (hh : A.handled = none) (hd : (d, o) ∈ led) (ho : o.IsDictOf (intKind prog w) kvs) (hx : kvs[i]? = none)
    (kk : ∀ s', At h₀ s₀ frs led s' → Q none s') : W prog w A (pyNext (.ref it)) Q E s :=
  ⟨wpAny_pyNext_items_end hh (h.get _ (.head _)) (h.dictAt (.tail _ hd) ho) hx fun h' hs => kk _ (h.lose (t := s.toks) hs)⟩

/-! calls -/
/-- a class of the text called by its name -/
theorem cCls (G : Gr w h₀) {x : Str} {p pos : Pos} {e : Expr} {rest : List Expr} {c0 : Addr} {Q : Value → Shared → Prop} (h : At h₀ s₀ frs led s) (ex : nsIn (KK w.params) mainGlobals x = some (some (.ref c0)))
    (k : W prog w A (spliced (backTo pos (starEach (e :: rest) env))) (kCall prog w A E h₀ c0 Q) E s)
    (hk : autoParam (keepIn (KK w.params) (.ref c0) = true) Mine.aKer) (he : autoParam (starEach (e :: rest) env = (false, eval e env) :: starEach rest env) Mine.aRfl) (hpl : autoParam (((backTo pos (starEach (e :: rest) env)).any (·.1) || ([] : List (Option Str × Sem Value)).any (·.1.isNone)) = false) Mine.aRfl)
    (hg : autoParam (env.globals = mainGlobals) Mine.aRfl) (hkk : autoParam (env.scope.kind = .function) Mine.aRfl) (hl : autoParam (env.kindOf x = some .globalImplicit) Mine.aRfl) (hd : autoParam ((x == ("__debug__" : Str)) = false) Mine.aRfl) :
    W prog w A (eval (.Call (.Name x p) (e :: rest) [] pos) env) Q E s := by
  refine ⟨Call_ (ldG G h ex ?_ hg hkk hl hd).w⟩
  exact callWith_of (P := fun h => (KK w.params).In h) hpl (keeps_K hk) (evalArgs_items (W.mono k fun vs s₁ ⟨h1, h2⟩ => ⟨G.kin.keeps h1, wpAny_call h2.c⟩) he).w
structure BS (fd : FuncData) (args : Args) (vs : List Value) (binds : Value → List (Str × Value)) : Prop where
  b : bindArgs fd args = (newTuple vs >>= fun t => Pure.pure (binds t))
/-- a call with starred parameters -/
theorem callInS {R : Result → Shared → Prop} {n : Nat} {f : Addr} {args : Args} {vs : List Value} {binds : Value → List (Str × Value)} (G : Gr w h₀) (F : Fn w f) (h : At h₀ s₀ frs led s) (r : Rm A (n + 1))
    (hbind : BS (fdAt w.params f) args vs binds) (hloc : ∀ D, ((binds D).all fun x => decide ((fdAt w.params f).scope.names.lookup x.1 = some .local)) = true) (hz : vs.length ≤ 1000)
    (k : ∀ D L' s₁, At h₀ s₀ ((L', fun x => (binds (.ref D)).reverse.lookup x) :: frs) ((D, tupOf vs.toArray 0) :: led) s₁ → Rm (A.deeper (envAt w.params f L')) n → W prog w (A.deeper (envAt w.params f L')) (execs (stmtsOf (fdAt w.params f)) (envAt w.params f L'))
      (kFl R) (fun _ _ => False) s₁) : C prog w A (.call (.ref f) args) R s := by
  have X : (KK w.params).In s.heap := G.kin.keeps h.keep
  refine ⟨codeAny_call_function r.room (X _ _ F.hK) rfl F.hco F.hgen F.hbody (codeRec_of X F.hcode) ?_⟩
  rw [hbind.b]
  refine wpAny_bind (wpAny_newTuple (wpAny_pure ?_) (by rw [sizeLine_eq]; with_reducible exact Nat.le_trans ‹_› (by decide)))
  have h1 := h.push (tupOf vs.toArray 0) rfl s.toks
  refine wpAny_newFunctionEnv (fun x hx => of_decide_eq_true (List.all_eq_true.mp F.hcell x hx)) (fun x hx => of_decide_eq_true (List.all_eq_true.mp (hloc (.ref s.heap.objs.size)) x hx)) (fun h₂ hns hsb => ⟨(G.lim.keeps h1.keep).fresh _ hsb, codeAny_func ?_⟩) F.hk
  have h2 := h1.frame (t := s.toks + (binds (.ref s.heap.objs.size)).length) (fun b o e => hsb.extBut b o (Nat.ne_of_lt (Heap.lt_size e)) (Heap.get?_push_of_some _ e)) hns (Nat.le_refl _)
  exact wpAny_mono (k _ _ _ h2 (r.deeper _)).w (fun _ _ x => x) fun _ _ x => x.elim
end
end Mine
end

/-! part RulesF -/
section
open PySem PySem.W PyProof.Rows PySem.Calls
set_option maxRecDepth 100000
set_option linter.unusedVariables false
namespace Mine
section
variable {prog : Program} {w : World} {A : Around} {E : Value → Shared → Prop} {s : Shared} {h₀ : Heap} {s₀ : Shared} {frs : List (Addr × Mp)} {led led' : List (Addr × Obj)} {env : Env} {L : Addr} {m : Mp}
theorem At.keepAll {h' : Heap} {t : Nat} (h : At h₀ s₀ ((L, m) :: frs) led s) (F : Fr noHeap L h' m) (N : News noHeap L h' (others s.heap L L)) : At h₀ s₀ ((L, m) :: frs) led { s with heap := h', toks := t } := by
  have k : ∀ b o, b ≠ L → s.heap.get? b = some o → h'.get? b = some o := fun b o h1 e => (N (b, o) (mem_others e h1 h1)).1
  refine ⟨h.gens, h.os, fun b o e => k b o (h.old_lt e (.head _)) (h.keep b o e), fun f hf => ?_, fun p hp => k _ _ (h.neL hp) (h.get p hp), h.nd, h.new⟩
  rcases List.mem_cons.mp hf with rfl | hf
  · exact F.ns
  · have hmf : f.1 ∈ frs.map (·.1) := List.mem_map_of_mem hf
    exact (h.ns f (.tail _ hf)).at' fun o e => k _ _ (fun q => (List.nodup_cons.mp h.nd).1 (q ▸ List.mem_append_left _ hmf)) e
theorem At.all (h : At h₀ s₀ ((L, m) :: frs) led s) : News noHeap L s.heap (others s.heap L L) := fun p hp => ⟨(others_mem hp).1, (others_mem hp).2.1, by simp [Heap.get?]⟩
/-- *xs of a list or a tuple -/
structure Star (prog : Program) (w : World) (A : Around) (v : Value) (Q : List Value → Shared → Prop) (E : Value → Shared → Prop) (s : Shared) : Prop where
  s : StarOf (model prog w) A E v Q s
theorem starL {l : Addr} {vs : List Value} {n : Nat} {Q : List Value → Shared → Prop} (h : At h₀ s₀ ((L, m) :: frs) led s) (hl : (l, listOf vs.toArray n) ∈ led) (hz : vs.length ≤ 1000) (k : ∀ s', At h₀ s₀ ((L, m) :: frs) led s' → Q vs s') : Star prog w A (.ref l) Q E s :=
  ⟨star_seq h.fr h.all (mem_others (h.get _ hl) (h.neL hl) (h.neL hl)) rfl rfl (.inl rfl) (by simp) (by rw [sizeLine_eq]; simp; with_reducible exact Nat.le_trans ‹_› (by decide)) fun h' F' N' => k _ (h.keepAll (t := s.toks) F' N')⟩
theorem starT {l : Addr} {vs : List Value} {n : Nat} {Q : List Value → Shared → Prop} (h : At h₀ s₀ ((L, m) :: frs) led s) (hl : (l, tupOf vs.toArray n) ∈ led) (hz : vs.length ≤ 1000) (k : ∀ s', At h₀ s₀ ((L, m) :: frs) led s' → Q vs s') : Star prog w A (.ref l) Q E s :=
  ⟨star_seq h.fr h.all (mem_others (h.get _ hl) (h.neL hl) (h.neL hl)) rfl rfl (.inr rfl) (by simp) (by rw [sizeLine_eq]; simp; with_reducible exact Nat.le_trans ‹_› (by decide)) fun h' F' N' => k _ (h.keepAll (t := s.toks) F' N')⟩
noncomputable def kApp (Q : List Value → Shared → Prop) (here vs : List Value) (s : Shared) : Prop := Q (here ++ vs) s
noncomputable def kSt2 (prog : Program) (w : World) (A : Around) (E : Value → Shared → Prop) (env : Env) (pos : Pos) (rest : List Expr) (Q : List Value → Shared → Prop) (here : List Value) (s : Shared) : Prop := W prog w A (spliced (backTo pos (starEach rest env))) (kApp Q here) E s
noncomputable def kSt1 (prog : Program) (w : World) (A : Around) (E : Value → Shared → Prop) (K : List Value → Shared → Prop) (v : Value) (s : Shared) : Prop := Star prog w A v K E s
noncomputable def kBd (prog : Program) (w : World) (A : Around) (E : Value → Shared → Prop) (h₀ : Heap) (s₀ : Shared) (f x q : Addr) (Q : Value → Shared → Prop) (vs : List Value) (s : Shared) : Prop := (∃ frs₂ led₂, At h₀ s₀ frs₂ ((q, methodObj (.ref f) (.ref x)) :: led₂) s) ∧ C prog w A (.call (.ref f) ⟨.ref x :: vs, []⟩) (kRes Q E) s
/-- the own object x, its method bound, and what comes next -/
inductive ObM (h₀ : Heap) (s₀ : Shared) (c0 x dx f : Addr) (es : List DictEntry) (n : Nat) (K : Addr → Shared → Prop) (ov : Value) (s : Shared) : Prop
  | mk (frs₁ : List (Addr × Mp)) (led₁ : List (Addr × Obj)) (e : ov = .ref x) (h : At h₀ s₀ frs₁ led₁ s) (hx : (x, iObj c0 dx #[]) ∈ led₁) (hd : (dx, dictOf es n) ∈ led₁) (k : ∀ q s₂, At h₀ s₀ frs₁ ((q, methodObj (.ref f) (.ref x)) :: led₁) s₂ → K q s₂) : ObM h₀ s₀ c0 x dx f es n K ov s
theorem iStar {pos p : Pos} {e : Expr} {rest : List Expr} {Q : List Value → Shared → Prop} (h : W prog w A (eval e env) (kSt1 prog w A E (kSt2 prog w A E env pos rest Q)) E s) (he : autoParam (starEach (.Starred e p :: rest) env = (true, eval e env) :: starEach rest env) Mine.aRfl) :
    W prog w A (spliced (backTo pos (starEach (.Starred e p :: rest) env))) Q E s :=
  ⟨items_star (up h fun v s₁ h => by
    obtain ⟨h⟩ := h
    exact wpAny_mono h (fun b s₂ ⟨h1, h2⟩ => ⟨h1, wpAny_mono h2 (fun _ _ z => z.w) fun _ _ z => z⟩) fun _ _ z => z) he⟩
/-- the bound method -/
theorem gMeth (G : Gr w h₀) {c0 x dx f : Addr} {name : Str} {es : List DictEntry} {n : Nat} {Q : Value → Shared → Prop} (c : Klass w c0) (h : At h₀ s₀ frs led s) (hx : (x, iObj c0 dx #[]) ∈ led) (hd : (dx, dictOf es n) ∈ led)
    (k : ∀ q s', At h₀ s₀ frs ((q, methodObj (.ref f) (.ref x)) :: led) s' → Q (.ref q) s') (hl : autoParam (getL name es = some none) Mine.aRfl) (hh : autoParam (hasDictIn (KK w.params) c0 = true) Mine.aKer) (ha : autoParam (findIn (KK w.params) (.ref c0) name = some (some (.ref f))) Mine.aKer)
    (hg : autoParam (specialIn (KK w.params) (.ref f) "__get__" = some (some (.builtin "function.__get__"))) Mine.aKer) (ht : autoParam (takesIn (KK w.params) (.ref f) = some false) Mine.aKer) (hc : autoParam (copiedNames.contains name = false) Mine.aKer) (hp : autoParam (typeIn (KK w.params) (.ref f) = some (.type "function")) Mine.aKer) :
    W prog w A (getAttr (.ref x) name true) Q E s := by
  have X : (KK w.params).In s.heap := G.kin.keeps h.keep
  refine ⟨get_bind X (h.inst hx hd) c.ga (findObj_fn hh ha hg ht hc hl) c.gt (wpAny_call (fn_get (s := { s with toks := s.toks + 1 }) X hp ?_))⟩
  show wpAny _ _ (handedOut (.ref _)) _ _ _
  rw [handedOut_of rfl]
  exact wpAny_pure (k _ _ (h.push _ rfl (s.toks + 1)))
/-- a method of an own object called, with starred arguments behind a plain one -/
theorem cInstS (G : Gr w h₀) {o e : Expr} {name : Str} {apos pos : Pos} {rest : List Expr} {c0 x dx f : Addr} {es : List DictEntry} {n : Nat} {Q : Value → Shared → Prop} (c : Klass w c0) (F : Fn w f)
    (h : W prog w A (eval o env) (ObM h₀ s₀ c0 x dx f es n (fun q => W prog w A (spliced (backTo pos (starEach (e :: rest) env))) (kBd prog w A E h₀ s₀ f x q Q) E)) E s)
    (ha : autoParam (findIn (KK w.params) (.ref c0) name = some (some (.ref f))) Mine.aKer) (hl : autoParam (getL name es = some none) Mine.aRfl) (hh : autoParam (hasDictIn (KK w.params) c0 = true) Mine.aKer)
    (hg : autoParam (specialIn (KK w.params) (.ref f) "__get__" = some (some (.builtin "function.__get__"))) Mine.aKer) (ht : autoParam (takesIn (KK w.params) (.ref f) = some false) Mine.aKer) (hc : autoParam (copiedNames.contains name = false) Mine.aKer) (hp : autoParam (typeIn (KK w.params) (.ref f) = some (.type "function")) Mine.aKer)
    (hfn : autoParam (fnIn (KK w.params) f = true) Mine.aKer)
    (hbase : autoParam (attributeBase o name env (eval o env) = eval o env) Mine.aRfl)
    (hfew : autoParam (methodCallForm ((e :: rest).length + ([] : List Keyword).length) (backTo pos (starEach (e :: rest) env)) (backToKw pos (keywordEach [] env)) = false) Mine.aRfl)
    (he : autoParam (starEach (e :: rest) env = (false, eval e env) :: starEach rest env) Mine.aRfl) (hst : autoParam ((backTo pos (starEach rest env)).any (·.1) = true) Mine.aRfl) : W prog w A (eval (.Call (.Attribute o name apos) (e :: rest) [] pos) env) Q E s := by
  constructor
  rw [arm_eval_Call, hbase]
  refine wpAny_bind (wpAny_mono h.w (fun ov s₁ h₁ => ?_) fun _ _ e => e)
  obtain ⟨frs₁, led₁, rfl, hat, hx, hd, hc'⟩ := h₁
  refine wpAny_bind (wpAny_standAt ?_)
  unfold methodCall calleeOf methodCallPos
  rw [hfew]
  refine wpAny_bind (wpAny_holding (wpAny_bind (gMeth G c hat hx hd (fun q s₂ h2 => ?_) hl hh ha hg ht hc hp).w))
  refine wpAny_pure (wpAny_bind (wpAny_pure ?_))
  have hk := hc' q s₂ h2
  have := hk.w
  rw [he] at this ⊢
  refine ks_call (P := MethP (KK w.params) q f (.ref x)) (by show (false || (backTo pos (starEach rest env)).any (·.1)) = true; rw [hst]; rfl) (keeps_M hfn) (evalArgs_plain (wpAny_mono this (fun vs s₃ ⟨⟨frs₂, led₂, ha⟩, hC⟩ => ?_) fun _ _ z => z))
  exact ⟨⟨ha.get _ (.head _), G.kin.keeps ha.keep⟩, wpAny_call (method_call (ha.get _ (.head _)) hC.c)⟩
/-- a method of an own object called with one starred argument alone -/
theorem cInst1 (G : Gr w h₀) {o e : Expr} {name : Str} {apos pos p : Pos} {c0 x dx f : Addr} {es : List DictEntry} {n : Nat} {Q : Value → Shared → Prop} (c : Klass w c0) (F : Fn w f)
    (h : W prog w A (eval o env) (ObM h₀ s₀ c0 x dx f es n (fun q => W prog w A (eval e env) (kSt1 prog w A E (kBd prog w A E h₀ s₀ f x q Q)) E)) E s)
    (ha : autoParam (findIn (KK w.params) (.ref c0) name = some (some (.ref f))) Mine.aKer) (hl : autoParam (getL name es = some none) Mine.aRfl) (hh : autoParam (hasDictIn (KK w.params) c0 = true) Mine.aKer)
    (hg : autoParam (specialIn (KK w.params) (.ref f) "__get__" = some (some (.builtin "function.__get__"))) Mine.aKer) (ht : autoParam (takesIn (KK w.params) (.ref f) = some false) Mine.aKer) (hc : autoParam (copiedNames.contains name = false) Mine.aKer) (hp : autoParam (typeIn (KK w.params) (.ref f) = some (.type "function")) Mine.aKer)
    (hfn : autoParam (fnIn (KK w.params) f = true) Mine.aKer)
    (hbase : autoParam (attributeBase o name env (eval o env) = eval o env) Mine.aRfl)
    (hfew : autoParam (methodCallForm (([.Starred e p] : List Expr).length + ([] : List Keyword).length) (backTo pos (starEach [.Starred e p] env)) (backToKw pos (keywordEach [] env)) = false) Mine.aRfl)
    (he : autoParam (starEach [.Starred e p] env = [(true, eval e env)]) Mine.aRfl) : W prog w A (eval (.Call (.Attribute o name apos) [.Starred e p] [] pos) env) Q E s := by
  constructor
  rw [arm_eval_Call, hbase]
  refine wpAny_bind (wpAny_mono h.w (fun ov s₁ h₁ => ?_) fun _ _ e => e)
  obtain ⟨frs₁, led₁, rfl, hat, hx, hd, hc'⟩ := h₁
  refine wpAny_bind (wpAny_standAt ?_)
  unfold methodCall calleeOf methodCallPos
  rw [hfew]
  refine wpAny_bind (wpAny_holding (wpAny_bind (gMeth G c hat hx hd (fun q s₂ h2 => ?_) hl hh ha hg ht hc hp).w))
  refine wpAny_pure (wpAny_bind (wpAny_pure ?_))
  rw [he]
  refine ks_call (P := MethP (KK w.params) q f (.ref x)) rfl (keeps_M hfn) (ks_lone (up (hc' q s₂ h2) fun v s₃ h3 => ?_))
  obtain ⟨h3⟩ := h3
  exact wpAny_mono h3 (fun b s₂ ⟨h1, h2⟩ => ⟨h1, wpAny_mono h2 (fun vs s₄ ⟨⟨frs₂, led₂, ha⟩, hC⟩ => ⟨⟨ha.get _ (.head _), G.kin.keeps ha.keep⟩, wpAny_call (method_call (ha.get _ (.head _)) hC.c)⟩) fun _ _ z => z⟩) fun _ _ z => z
end
end Mine
end

/-! part RulesG -/
section
open PySem PySem.W PyProof.Rows PySem.Calls
set_option maxRecDepth 100000
set_option linter.unusedVariables false
namespace Mine
section
variable {prog : Program} {w : World} {A : Around} {E : Value → Shared → Prop} {s : Shared} {h₀ : Heap} {s₀ : Shared} {frs : List (Addr × Mp)} {led led' : List (Addr × Obj)} {env : Env} {L : Addr} {m : Mp}
theorem At.letgo {c : Addr} {h' : Heap} {t : Nat} (h : At h₀ s₀ ((c, m) :: frs) led s) (hs : Heap.SameBut c s.heap h') : At h₀ s₀ frs led { s with heap := h', toks := t } := by
  have hc := (List.nodup_cons.mp h.nd).1
  refine ⟨h.gens, h.os, fun b o e => (hs.2 b (h.old_lt e (.head _))).trans (h.keep b o e), fun f hf => ?_, fun p hp => (hs.2 _ (h.neL hp)).trans (h.get p hp), (List.nodup_cons.mp h.nd).2, fun a ha => h.new a (.tail _ ha)⟩
  have hmf : f.1 ∈ frs.map (·.1) := List.mem_map_of_mem hf
  exact (h.ns f (.tail _ hf)).at' fun o e => (hs.2 _ fun q => hc (q ▸ List.mem_append_left _ hmf)).trans e
noncomputable def tests (ifs : List Expr) (env : Env) : Sem Bool := forIn ifs true fun c r => if r = true then do let ok ← isTrue c env (eval c env); Pure.pure (ForInStep.yield ok) else Pure.pure (ForInStep.yield r)
theorem tst0 {Q : Bool → Shared → Prop} (h : Q true s) : W prog w A (tests [] env) Q E s := ⟨wpAny_tests_nil h⟩
theorem tst1 {c : Expr} {Q : Bool → Shared → Prop} (h : W prog w A (isTrue c env (eval c env)) Q E s) : W prog w A (tests [c] env) Q E s := ⟨wpAny_tests_one h.w⟩
noncomputable def kLs {α : Type} (I : Nat → Shared → Prop) (n : Nat) (_ : α) (s : Shared) : Prop := Less I n s
noncomputable def kLA (prog : Program) (w : World) (A : Around) (D : Addr) (I : Nat → Shared → Prop) (n : Nat) (x : Value) (s : Shared) : Prop := W prog w A (call (.builtin "list.append") [.ref D, x]) (kLs I n) noE s
noncomputable def kLT2 (prog : Program) (w : World) (A : Around) (env : Env) (elt : Expr) (ifs : List Expr) (D : Addr) (I : Nat → Shared → Prop) (n : Nat) (_ : Unit) (s : Shared) : Prop := W prog w A (tests ifs env) (fun ok s₃ => if ok = true then W prog w A (eval elt env) (kLA prog w A D I n) noE s₃ else Less I n s₃) noE s
noncomputable def kLT (prog : Program) (w : World) (A : Around) (env : Env) (elt target : Expr) (ifs : List Expr) (D : Addr) (Fin : Shared → Prop) (I : Nat → Shared → Prop) (n : Nat) (r : Option Value) (s : Shared) : Prop := match r with
    | none => Fin s
    | some v => W prog w A (assign target env v) (kLT2 prog w A env elt ifs D I n) noE s
/-- one turn of a list comprehension -/
noncomputable def LTurn (prog : Program) (w : World) (A : Around) (env : Env) (elt target : Expr) (ifs : List Expr) (it : Value) (D : Addr) (Fin : Shared → Prop) (I : Nat → Shared → Prop) (n : Nat) (s : Shared) : Prop :=
  W prog w A (pyNext it) (kLT prog w A env elt target ifs D Fin I n) noE s
/-- the end of a comprehension: its frame goes -/
inductive FinK (h₀ : Heap) (s₀ : Shared) (c : Addr) (frs : List (Addr × Mp)) (P : Shared → Prop) (s : Shared) : Prop
  | mk (m : Mp) (led' : List (Addr × Obj)) (h : At h₀ s₀ ((c, m) :: frs) led' s) (k : ∀ s'', At h₀ s₀ frs led' s'' → P s'') : FinK h₀ s₀ c frs P s
inductive LcI (prog : Program) (w : World) (A : Around) (env : Env) (elt target : Expr) (ifs : List Expr) (it : Value) (D : Addr) (Fin : Shared → Prop) (s : Shared) : Prop
  | mk (i2 : W prog w A (pyIter it) (fun it' s' => it' = it ∧ s' = s) (fun _ _ => False) s) (I : Nat → Shared → Prop) (n : Nat) (h : I n s) (t : ∀ n s, I n s → LTurn prog w A env elt target ifs it D Fin I n s) : LcI prog w A env elt target ifs it D Fin s
inductive LcK (prog : Program) (w : World) (A : Around) (h₀ : Heap) (s₀ : Shared) (scope : Scope) (cl : List (Str × Addr)) (env : Env) (elt target : Expr) (ifs : List Expr) (Q : Value → Shared → Prop) (it : Value) (s : Shared) : Prop
  | mk (frs : List (Addr × Mp)) (led : List (Addr × Obj)) (h : At h₀ s₀ frs led s) (k : ∀ c D s₃, At h₀ s₀ ((c, fun _ => none) :: frs) ((D, listOf ([] : List Value).toArray 0) :: led) s₃ → LcI prog w A (compEnvC scope cl c env) elt target ifs it D (FinK h₀ s₀ c frs (Q (.ref D))) s₃) : LcK prog w A h₀ s₀ scope cl env elt target ifs Q it s
theorem compL {elt target iter : Expr} {ifs : List Expr} {scope : Scope} {pos : Pos} {Q : Value → Shared → Prop} {c D : Addr} {it : Value} {I : Nat → Shared → Prop} {n : Nat}
    (turn : ∀ n s, I n s → LTurn prog w A env elt target ifs it D (FinK h₀ s₀ c frs (Q (.ref D))) I n s) (hI : I n s) (ht : ∀ it v, letOwnedTupleGo target it v = Pure.pure ()) :
    codeAny (model prog w) A (.compLoop (.ListComp elt [⟨target, iter, ifs, 0⟩] scope pos) 0 it (.ref D) env) (compPost (model prog w) A E none Q (.ref D) c) s := by
  refine codeAny_compLoop_tests I (fun n s hI => ?_) n hI (ht it)
  refine wpAny_mono (turn n s hI).w (fun r s₁ hr => ?_) fun _ _ z => z.elim
  cases r with
  | none =>
    obtain ⟨m, led', ha, hq⟩ := hr
    exact ⟨m, ha.ns _ (.head _), fun h' hs => hq _ (ha.letgo (t := s₁.toks) hs)⟩
  | some v =>
    refine wpAny_mono (hr : W prog w A (assign target _ v) _ _ s₁).w (fun _ s₂ h₂ => wpAny_mono (h₂ : W prog w A (tests ifs _) _ _ s₂).w (fun ok s₃ h₃ => ?_) fun _ _ z => z.elim) fun _ _ z => z.elim
    cases ok with
    | false => exact less_ex h₃
    | true => exact wpAny_mono (h₃ : W prog w A (eval elt _) _ _ s₃).w (fun x s₄ h₄ => wpAny_mono (h₄ : W prog w A _ _ _ s₄).w (fun _ _ z => less_ex z) fun _ _ z => z.elim) fun _ _ z => z.elim
theorem lComp {elt target iter : Expr} {ifs : List Expr} {scope : Scope} {pos : Pos} {cl : List (Str × Addr)} {Q : Value → Shared → Prop}
    (h : W prog w A (eval iter env) (kO prog w A E pyIter (LcK prog w A h₀ s₀ scope cl env elt target ifs Q)) E s)
    (hclos : autoParam (closureFor scope env = Pure.pure cl) Mine.aRfl) (hcell : autoParam ((scope.names.all fun x => decide (x.2 ≠ .cell)) = true) Mine.aKer) (hkind : autoParam (scope.kind = .function) Mine.aRfl) (hnames : autoParam ((scope.names.all fun x => decide (x.2 = .local → scope.names.lookup x.1 = some .local)) = true) Mine.aKer)
    (hs : autoParam (∀ x, foldedSetIterable iter env x = Pure.pure x) Mine.aInt) (ht : autoParam (∀ it v, letOwnedTupleGo target it v = Pure.pure ()) Mine.aInt) : W prog w A (eval (.ListComp elt [⟨target, iter, ifs, 0⟩] scope pos) env) Q E s := by
  constructor
  rw [eval_ListComp]
  refine wpAny_comprehension_free (use := none) rfl hs hclos hkind (fun x hx => of_decide_eq_true (List.all_eq_true.mp hnames x hx)) (up h fun x s₁ h₁ => up h₁ fun it s₂ ⟨frs, led, hat, k⟩ => ?_)
  refine wpAny_newList ?_
  have h1 := hat.push (listOf ([] : List Value).toArray 0) rfl s₂.toks
  refine wpAny_newFunctionEnv (fun x hx => of_decide_eq_true (List.all_eq_true.mp hcell x hx)) (fun x hx => nomatch hx) (fun h₂ hns hsb => ?_) hkind
  have h2 := h1.frame (t := s₂.toks) (fun b o e => hsb.extBut b o (Nat.ne_of_lt (Heap.lt_size e)) (Heap.get?_push_of_some _ e)) hns (Nat.le_refl _)
  obtain ⟨k1, I, n, hI, turn⟩ := k _ _ _ h2
  exact codeAny_compStart_list (compL turn hI ht) (wpAny_mono k1.w (fun it' s' ⟨e1, e2⟩ => by rw [e1, e2]; exact compL turn hI ht) fun _ _ z => z.elim)
theorem it2V {it d : Addr} {oi : Obj} {i n ep : Nat} (h : At h₀ s₀ frs led s) (hi : (it, oi) ∈ led) (ho : valIt d i n ep oi) : W prog w A (pyIter (.ref it)) (fun it' s' => it' = .ref it ∧ s' = s) E s := ⟨wpAny_pyIter_valiter ⟨oi, h.get _ hi, ho.1, ho.2⟩ ⟨rfl, rfl⟩⟩
theorem it2L {it l : Addr} {oi : Obj} {i : Nat} (h : At h₀ s₀ frs led s) (hi : (it, oi) ∈ led) (ho : LIt l i oi) : W prog w A (pyIter (.ref it)) (fun it' s' => it' = .ref it ∧ s' = s) E s := ⟨wpAny_pyIter_listiter ⟨oi, h.get _ hi, ho.1, ho.2⟩ ⟨rfl, rfl⟩⟩
theorem it2T {it l : Addr} {oi : Obj} {i : Nat} (h : At h₀ s₀ frs led s) (hi : (it, oi) ∈ led) (ho : TIt l i oi) : W prog w A (pyIter (.ref it)) (fun it' s' => it' = .ref it ∧ s' = s) E s := ⟨wpAny_pyIter_tupleiter ⟨oi, h.get _ hi, ho.1, ho.2⟩ ⟨rfl, rfl⟩⟩
theorem it2R {it : Addr} {n i : Nat} (h : At h₀ s₀ frs led s) (hi : (it, rIt n i) ∈ led) : W prog w A (pyIter (.ref it)) (fun it' s' => it' = .ref it ∧ s' = s) E s := ⟨wpAny_pyIter_rangeiter (h.get _ hi) ⟨rfl, rfl⟩⟩
end
end Mine
end

/-! part RulesH -/
section
open PySem PySem.W PyProof.Rows PySem.Calls
set_option maxRecDepth 100000
set_option linter.unusedVariables false
namespace Mine
theorem li_ga : Slot "list_iterator" "__getattribute__" "object.__getattribute__" := .of (owner := "object") (n := "__getattribute__") (by rw [typeLookup_type, builtinLookup_eq_fast]; kernel_rfl) (by decide +kernel) (by decide +kernel) (by decide +kernel) (by first | exact .inl (by decide +kernel) | exact .inr (by decide +kernel)) (by rw [isSubtype_type]; kernel_rfl)
theorem oga_entry : entryFor table "object.__getattribute__" = some Builtin.«object.__getattribute__» := entryFor_of_tree (by kernel_rfl)
theorem oga_args (a b : Value) : argsOk "object.__getattribute__" ⟨[a, b], []⟩ := by unfold argsOk; kernel_rfl
theorem wd_get : Slot "wrapper_descriptor" "__get__" "wrapper_descriptor.__get__" := .of (owner := "wrapper_descriptor") (n := "__get__") (by rw [typeLookup_type, builtinLookup_eq_fast]; kernel_rfl) (by decide +kernel) (by decide +kernel) (by decide +kernel) (by first | exact .inl (by decide +kernel) | exact .inr (by decide +kernel)) (by rw [isSubtype_type]; kernel_rfl)
theorem wd_type : typeOf (.builtin "list_iterator.__next__") = Pure.pure (.type "wrapper_descriptor") := by kernel_rfl
theorem wd_set : typeLookup (.type "wrapper_descriptor") "__set__" = Pure.pure none := by rw [typeLookup_type, builtinLookup_eq_fast]; kernel_rfl
theorem wd_del : typeLookup (.type "wrapper_descriptor") "__delete__" = Pure.pure none := by rw [typeLookup_type, builtinLookup_eq_fast]; kernel_rfl
theorem wd_entry : entryFor table "wrapper_descriptor.__get__" = some Builtin.«wrapper_descriptor.__get__» := entryFor_of_tree (by kernel_rfl)
theorem wd_args (a b c : Value) : argsOk "wrapper_descriptor.__get__" ⟨[a, b, c], []⟩ := by unfold argsOk; kernel_rfl
noncomputable abbrev litO (l : Addr) (i : Nat) : Obj := { cls := .type "list_iterator", data := .fields #[.ref l, .int i 0] }
noncomputable abbrev mwO (it : Addr) : Obj := { cls := .type "method-wrapper", data := .fields #[.builtin "list_iterator.__next__", .ref it] }
section
variable {prog : Program} {w : World} {A : Around} {E : Value → Shared → Prop} {s : Shared}
theorem wd_call {it l : Addr} {i : Nat} {R : Result → Shared → Prop} (hx : s.heap.get? it = some { cls := .type "list_iterator", dict := none, data := .fields #[.ref l, .int i 0], slots := #[] }) (k : R (.ok (.ret (.ref s.heap.objs.size))) { s with heap := s.heap.push (mwO it) }) :
    codeAny (model prog w) A (.call (.builtin "wrapper_descriptor.__get__") ⟨[.builtin "list_iterator.__next__", .ref it, .type "list_iterator"], []⟩) R s := by
  obtain ⟨hp, g, d, tk, os⟩ := s
  refine codeAny_call_builtin wd_get.plain wd_entry (wd_get.check _ _ _ _ _ _ _ _ (by exact wd_type) (wd_args _ _ _) ?_)
  have f6 : isSubtype (.type "list_iterator") (.type "list_iterator") = Pure.pure true := by rw [isSubtype_type]; kernel_rfl
  repeat k_node
  exact k
theorem next_raw {it l : Addr} {i : Nat} {Q : Value → Shared → Prop} (hx : s.heap.get? it = some { cls := .type "list_iterator", dict := none, data := .fields #[.ref l, .int i 0], slots := #[] }) (k : Q (.ref s.heap.objs.size) { s with heap := s.heap.push (mwO it), toks := s.toks + 1 }) :
    wpAny (model prog w) A (getAttr (.ref it) (Str.ofString "__next__") true) Q E s := by
  obtain ⟨hp, g, d, tk, os⟩ := s
  have hT : ∀ tk', (⟨hp, g, d, tk', os⟩ : Shared).TypeIs (.ref it) "list_iterator" := fun _ => ⟨_, hx, rfl⟩
  unfold getAttr getAttrBy
  refine wpAny_bind (wpAny_mkText (wpAny_holding (wpAny_bind (wpAny_typeOf (hT _) (wpAny_bind (wpAny_of_eq li_ga.lookup ?_))))))
  show wpAny _ _ (getAttrByItsOwn _ _ _ _ _ _) _ _ _
  unfold getAttrByItsOwn
  refine wpAny_bind (wpAny_of_eq (a := none) rfl (wpAny_bind (wpAny_attempt (wpAny_holding ?_))))
  show wpAny _ _ (boundAndCalled _ _ _) _ _ _
  unfold boundAndCalled
  rw [li_ga.bind]
  refine wpAny_bind (wpAny_pure ?_)
  refine wpAny_call_entry li_ga (hT _) oga_entry ?_ (oga_args _ _)
  unfold Builtin.«object.__getattribute__»
  refine wpAny_bind (wpAny_of_eq (a := (Value.ref it, [Value.str (Str.ofString "__next__") tk])) (by kernel_rfl) ?_)
  dsimp only
  refine wpAny_bind (wpAny_of_eq (a := Str.ofString "__next__") (by kernel_rfl) ?_)
  refine wpAny_bind (wpAny_typeOf (hT _) ?_)
  unfold Builtin.ObjectAttr.find
  refine wpAny_bind (wpAny_bind (wpAny_of_eq slot_listiter_next.lookup ?_))
  have f1 := wd_type
  have f2 := wd_get.lookup
  have f3 := wd_set
  have f4 := wd_del
  have f5 := hT (tk + 1)
  repeat (any_goals (first | assumption | wp_step))
  refine wd_call hx ?_
  refine wpAny_pure ⟨_, rfl, ?_⟩
  rw [handedOut_of rfl]
  exact wpAny_pure k

variable {h₀ : Heap} {s₀ : Shared} {frs : List (Addr × Mp)} {led led' : List (Addr × Obj)} {env : Env} {L : Addr} {m : Mp}
/-- it.__next__ -/
theorem gNext {it l : Addr} {i : Nat} {Q : Value → Shared → Prop} (h : At h₀ s₀ frs led s) (hi : (it, litO l i) ∈ led) (k : ∀ q s', At h₀ s₀ frs ((q, mwO it) :: led) s' → Q (.ref q) s') : W prog w A (getAttr (.ref it) (Str.ofString "__next__") true) Q E s :=
  ⟨next_raw (h.get _ hi) (k _ _ (h.push _ rfl (s.toks + 1)))⟩
theorem fIter0 {l : Addr} {vs : List Value} {n : Nat} {Q : Value → Shared → Prop} (h : At h₀ s₀ frs led s) (hl : (l, listOf vs.toArray n) ∈ led) (k : ∀ it s', At h₀ s₀ frs ((it, litO l 0) :: led) s' → Q (.ref it) s') : W prog w A (call (.builtin "iter") [.ref l]) Q E s := by
  refine ⟨call_function_entry (by decide +kernel) (by decide +kernel) kdk_entry_iter (kdk_args_iter _) ?_⟩
  unfold Builtin.«iter»
  refine wpAny_bind (m := someArgs "iter" 1 2 _) (wpAny_of_eq (a := [Value.ref l]) (by first | rfl | kernel_rfl!) ?_)
  show wpAny _ _ (pyIter (.ref l) >>= _) _ _ _
  exact wpAny_bind (wpAny_pyIter_list (h.isList hl) (wpAny_pure ⟨_, rfl, k _ _ (h.push _ rfl s.toks)⟩))
theorem lnextB {it l : Addr} {o : Obj} {i n : Nat} {vs : List Value} {v : Value} {Q : Value → Shared → Prop} {led' : Obj → List (Addr × Obj)} (h : At h₀ s₀ frs led s) (r : ∀ o', Rep it o o' led (led' o')) (ho : LIt l i o) (hl : (l, listOf vs.toArray n) ∈ led) (hx : vs[i]? = some v)
    (k : ∀ o' s', LIt l (i + 1) o' → At h₀ s₀ frs (led' o') s' → Q v s') : wpAny (model prog w) A (Builtin.«list_iterator.__next__» ⟨[.ref it], []⟩) (fun fin s' => ∃ v, fin = .done (.ret v) ∧ Q v s') E s := by
  have hg : s.heap.get? it = some o := h.get _ (r o).mem
  have hol := h.get _ hl
  show wpAny _ _ (field (.ref it) 0 >>= _) _ _ s
  refine wpAny_bind (wpAny_field hg ho.2 (x := .ref l) rfl ?_)
  show wpAny _ _ (if (Value.ref l == Value.none) = true then _ else _) _ _ s
  rw [if_neg (show ¬ ((Value.ref l == Value.none) = true) from Bool.false_ne_true)]
  show wpAny _ _ (field (.ref it) 1 >>= _) _ _ s
  refine wpAny_bind (wpAny_field hg ho.2 (x := .int i 0) rfl ?_)
  show wpAny _ _ (seqItems? (.ref l) >>= _) _ _ s
  refine wpAny_bind (wpAny_seqItems hol rfl ?_)
  have hx' : vs.toArray[i]? = some v := by simpa using hx
  simp only [Int.toNat_natCast, hx']
  refine wpAny_bind (wpAny_setField hg ho.2 (by simp) (wpAny_pure ⟨v, rfl, ?_⟩))
  have hd' := Obj.data_mapFields ho.2 (·.setIfInBounds 1 (rawInt ((i + 1 : Nat) : Int)))
  refine k (Obj.mapFields (·.setIfInBounds 1 (rawInt ((i + 1 : Nat) : Int))) o) _ ⟨(Obj.cls_mapFields ..).trans ho.1, ?_⟩ (h.upd (t := s.toks) (r _) ?_ (Obj.isFreed_of_fields hd'))
  · rw [hd']; simp [rawInt]
  · rfl
theorem lstopB {it l : Addr} {o : Obj} {i n : Nat} {vs : List Value} {Q : Value → Shared → Prop} (h : At h₀ s₀ frs ((it, o) :: led) s) (hh : A.handled = none) (ho : LIt l i o) (hl : (l, listOf vs.toArray n) ∈ led) (hx : vs[i]? = none)
    (k : ∀ e t s', At h₀ s₀ frs ((e, stopOf t) :: led) s' → E (.ref e) s') : wpAny (model prog w) A (Builtin.«list_iterator.__next__» ⟨[.ref it], []⟩) (fun fin s' => ∃ v, fin = .done (.ret v) ∧ Q v s') E s := by
  have hg : s.heap.get? it = some o := h.get _ (.head _)
  have hol := h.get _ (.tail _ hl)
  show wpAny _ _ (field (.ref it) 0 >>= _) _ _ s
  refine wpAny_bind (wpAny_field hg ho.2 (x := .ref l) rfl ?_)
  show wpAny _ _ (if (Value.ref l == Value.none) = true then _ else _) _ _ s
  rw [if_neg (show ¬ ((Value.ref l == Value.none) = true) from Bool.false_ne_true)]
  show wpAny _ _ (field (.ref it) 1 >>= _) _ _ s
  refine wpAny_bind (wpAny_field hg ho.2 (x := .int i 0) rfl ?_)
  show wpAny _ _ (seqItems? (.ref l) >>= _) _ _ s
  refine wpAny_bind (wpAny_seqItems hol rfl ?_)
  have hx' : vs.toArray[i]? = none := by simpa using hx
  simp only [Int.toNat_natCast, hx']
  refine wpAny_bind (wpAny_rule (wpAny_bind (wpAny_setField hg ho.2 (by simp) ?_)))
  show wpAny _ _ (newExc (.type "StopIteration") [] >>= _) _ _ _
  refine wpAny_bind ?_
  simp only [newExc, newTuple]
  refine wpAny_bind (wpAny_newObj_type ?_ (by size_fits))
  refine wpAny_bind (m := firstArgMember _ _) (wpAny_of_eq (a := Value.none) (by first | rfl | (simp only [firstArgMember]; rfl)) ?_)
  refine wpAny_newObj_type ?_ (by size_fits)
  simp only [raiseNew]
  refine wpAny_bind (wpAny_handled ?_)
  rw [hh]
  refine wpAny_bind (wpAny_pure (wpAny_throw ?_))
  have h1 : At h₀ s₀ frs led { s with heap := s.heap.update it (Obj.mapFields (·.setIfInBounds 0 Value.none)) } := h.lose (t := s.toks) (Heap.SameBut.update ..).extBut
  have h2 := h1.push (tupOf #[] 0) rfl s.toks
  have h3 := h2.push (stopOf (s.heap.update it (Obj.mapFields (·.setIfInBounds 0 Value.none))).objs.size) rfl s.toks
  exact k _ _ _ (h3.keep1 1)
theorem mw_code {q it : Addr} {R : Result → Shared → Prop} (hq : s.heap.get? q = some (mwO it)) (h : codeAny (model prog w) A (.builtin "list_iterator.__next__" ⟨[.ref it], []⟩) R s) : codeAny (model prog w) A (.call (.ref q) ⟨[], []⟩) R s := by
  obtain ⟨hp, g, d, tk, os⟩ := s
  refine codeAny_of_tree ?_
  show wpAny _ _ (callAny (.ref q) _) _ _ _
  refine nd_load hq ?_
  repeat k_node
  exact ⟨Code.quiet_builtin _ (by decide +kernel), h⟩
inductive MwK (prog : Program) (w : World) (A : Around) (E : Value → Shared → Prop) (Q : Value → Shared → Prop) (fv : Value) (s : Shared) : Prop
  | mk (q it : Addr) (e : fv = .ref q) (hq : s.heap.get? q = some (mwO it)) (k : C prog w A (.builtin "list_iterator.__next__" ⟨[.ref it], []⟩) (kRes Q E) s) : MwK prog w A E Q fv s
inductive PopK (h₀ : Heap) (s₀ : Shared) (l : Addr) (vs : List Value) (v : Value) (n : Nat) (Q : Value → Shared → Prop) (ov : Value) (s : Shared) : Prop
  | mk (frs : List (Addr × Mp)) (led led' : List (Addr × Obj)) (e : ov = .ref l) (h : At h₀ s₀ frs led s) (hz : vs.length ≤ 1000) (r : Rep l (listOf (vs ++ [v]).toArray n) (listOf vs.toArray (n + 1)) led led') (k : ∀ s', At h₀ s₀ frs led' s' → Q v s') : PopK h₀ s₀ l vs v n Q ov s
theorem mwItem {it l : Addr} {o : Obj} {i n : Nat} {vs : List Value} {v : Value} {Q : Value → Shared → Prop} {led' : Obj → List (Addr × Obj)} (h : At h₀ s₀ frs led s) (r : ∀ o', Rep it o o' led (led' o')) (ho : LIt l i o) (hl : (l, listOf vs.toArray n) ∈ led) (hx : vs[i]? = some v)
    (k : ∀ o' s', LIt l (i + 1) o' → At h₀ s₀ frs (led' o') s' → Q v s') : C prog w A (.builtin "list_iterator.__next__" ⟨[.ref it], []⟩) (kRes Q E) s :=
  ⟨codeAny_builtin entry_listiter_next (wpAny_mono (lnextB (Q := Q) h r ho hl hx k) (fun fin s' ⟨v, e, hq⟩ => by subst e; exact hq) fun _ _ z => z)⟩
theorem mwStop {it l : Addr} {o : Obj} {i n : Nat} {vs : List Value} {Q : Value → Shared → Prop} (h : At h₀ s₀ frs ((it, o) :: led) s) (hh : A.handled = none) (ho : LIt l i o) (hl : (l, listOf vs.toArray n) ∈ led) (hx : vs[i]? = none)
    (k : ∀ e t s', At h₀ s₀ frs ((e, stopOf t) :: led) s' → E (.ref e) s') : C prog w A (.builtin "list_iterator.__next__" ⟨[.ref it], []⟩) (kRes Q E) s :=
  ⟨codeAny_builtin entry_listiter_next (wpAny_mono (lstopB (Q := Q) (E := E) h hh ho hl hx k) (fun fin s' ⟨v, e, hq⟩ => by subst e; exact hq) fun _ _ z => z)⟩
/-- f() of a method-wrapper -/
theorem cMw {callee : Expr} {pos : Pos} {Q : Value → Shared → Prop} (h : W prog w A (eval callee env) (MwK prog w A E Q) E s)
    (he : autoParam (eval (.Call callee [] [] pos) env = (do callWith pos (← eval callee env) [] (backTo pos (starEach [] env)) (backToKw pos (keywordEach [] env)))) Mine.aRfl) : W prog w A (eval (.Call callee [] [] pos) env) Q E s := by
  refine ⟨Call_ (up h fun fv s₁ ⟨q, it, e, hq, hc⟩ => ?_) he⟩
  subst e
  refine callWith_of (P := fun h => h.get? q = some (mwO it)) rfl (fun h e => ⟨.machine, .inr (.inl rfl), (Looks.ld (part := none) e).andThen .now⟩) ?_
  rw [show evalArgs (.ref q) true (backTo pos (starEach [] env)) [] = Pure.pure ⟨[], []⟩ from rfl]
  exact wpAny_pure ⟨hq, wpAny_call (mw_code hq hc.c)⟩

/-! sets of ints -/
theorem cT0 (G : Gr w h₀) {x : Str} {p pos : Pos} {T : String} {Q : Value → Shared → Prop} (h : At h₀ s₀ frs led s) (ex : nsIn (KK w.params) mainGlobals x = some none) (hv : bootBuiltins x = some (.type T)) (k : W prog w A (call (.type T) []) Q E s)
    (hg : autoParam (env.globals = mainGlobals) Mine.aRfl) (hb : autoParam (env.builtins = builtinsNs) Mine.aRfl) (hn : x ≠ "__name__" := by decide) (hk : autoParam (env.scope.kind = .function) Mine.aRfl) (hl : autoParam (env.kindOf x = some .globalImplicit) Mine.aRfl) (hd : autoParam ((x == ("__debug__" : Str)) = false) Mine.aRfl) :
    W prog w A (eval (.Call (.Name x p) [] [] pos) env) Q E s :=
  ⟨Call_ (ldB G h ex hv (PySem.callWith_type rfl (by rw [show evalArgs (.type T) true (backTo pos (starEach [] env)) [] = Pure.pure ⟨[], []⟩ from rfl]; exact wpAny_pure k.w)) hg hb hn hk hl hd).w⟩
variable {a : Addr} {o : Obj} {S : Int → Bool} {n : Nat}
theorem fSet0 {Q : Value → Shared → Prop} (h : At h₀ s₀ frs led s) (k : ∀ a o s', o.SetObjOf (intKind prog w) (fun _ => false) 0 → At h₀ s₀ frs ((a, o) :: led) s' → Q (.ref a) s') : W prog w A (call (.type "set") []) Q E s :=
  ⟨call_set_0 fun ld => k _ _ _ ((intSetOf_fresh ld).kind prog w) (h.push _ rfl s.toks)⟩
theorem sIn {k : Int} {t : Tok} {Q : Value → Shared → Prop} (h : At h₀ s₀ frs led s) (ha : (a, o) ∈ led) (ho : o.SetObjOf (intKind prog w) S n) (hn : n < scanBound) (kk : ∀ s', At h₀ s₀ frs led s' → Q (.bool (S k)) s') : W prog w A (compareOp .In (.int k t) (.ref a)) Q E s :=
  ⟨wpAny_inSet_of (ik k t) rfl (ho.setOf (h.get _ ha) hn) (kk _ (h.toks _))⟩
theorem sAdd {k : Int} {t : Tok} {Q : Value → Shared → Prop} {led' : Obj → List (Addr × Obj)} (h : At h₀ s₀ frs led s) (r : ∀ o', Rep a o o' led (led' o')) (ho : o.SetObjOf (intKind prog w) S n) (hn : n + 1 < scanBound)
    (kk : ∀ o' s', o'.SetObjOf (intKind prog w) (fun k' => S k' || decide (k' = k)) (if S k then n else n + 1) → At h₀ s₀ frs (led' o') s' → Q .none s') : W prog w A (call (.builtin "set.add") [.ref a, .int k t]) Q E s :=
  ⟨call_set_add (ik k t) rfl (ho.setOf (h.get _ (r o).mem) (by omega)) hn fun h' hs hS => by
    obtain ⟨o', h1, h2⟩ := hS.objOf
    exact kk o' _ h2 (h.same (t := s.toks + 1) (r o') hs h1)⟩
theorem At.plainSet (h : At h₀ s₀ frs led s) (ha : (a, o) ∈ led) (ho : o.SetObjOf (intKind prog w) S n) (hn : n < scanBound) : s.TypeIs (.ref a) "set" ∧ ∀ b, Value.ref a = .ref b → ∃ ob, s.heap.get? b = some ob ∧ ob.dict = none :=
  ⟨(ho.setOf (h.get _ ha) hn).typeIs, (ho.setOf (h.get _ ha) hn).noDict⟩
/-! lists again -/
theorem tList {l : Addr} {vs : List Value} {n : Nat} {Q : Bool → Shared → Prop} (h : At h₀ s₀ frs led s) (hl : (l, listOf vs.toArray n) ∈ led) (hz : vs.length ≤ 2 ^ 40) (k : ∀ s', At h₀ s₀ frs led s' → Q (!vs.isEmpty) s') : W prog w A (truthy (.ref l)) Q E s :=
  ⟨wpAny_truthy_list (h.isList hl) (by simp; omega) (by have := k _ (h.toks (s.toks + 1 + 1)); simpa using this)⟩
theorem mapSeq_to {f : Array Value → Array Value} {x y : Array Value} {n : Nat} (e : f x = y) (hs : y.size ≠ x.size) : Obj.mapSeq f (listOf x n) = listOf y (n + 1) := by
  subst e; simp [Obj.mapSeq, hs]
theorem cPop {o : Expr} {apos pos : Pos} {l : Addr} {vs : List Value} {v : Value} {n : Nat} {Q : Value → Shared → Prop} (h : W prog w A (eval o env) (PopK h₀ s₀ l vs v n Q) E s)
    (hbase : autoParam (attributeBase o (Str.ofString "pop") env (eval o env) = eval o env) Mine.aRfl) (hline : autoParam ((apos.endLine == pos.line) = true) Mine.aRfl) : W prog w A (eval (.Call (.Attribute o (Str.ofString "pop") apos) [] [] pos) env) Q E s := by
  refine ⟨wpAny_Call_method hbase rfl hline F.plainAttrs_list F.slot_list_pop F.type_list_pop (up h fun ov s₁ ⟨frs, led, led', e, hat, hz, r, k⟩ => ?_)⟩
  subst e
  refine ⟨(hat.plainList r.mem).1, (hat.plainList r.mem).2, ?_⟩
  refine PySem.P.pop_list (hat.get _ r.mem) (y := v) (by simp) (k _ (hat.upd (t := s₁.toks) r ?_)) (by rw [sizeLine_eq]; simp; with_reducible exact Nat.le_trans ‹_› (by decide))
  refine mapSeq_to ?_ (by simp)
  simp [List.eraseIdx_append_of_length_le (Nat.le_refl _)]
theorem xDel {o i : Expr} {p pos : Pos} {Q : Flow → Shared → Prop} (h : W prog w A (eval o env) (kR prog w A E env i delItem (kNx Q)) E s) : W prog w A (exec (.Delete [.Subscript o i p] pos) env) Q E s :=
  ⟨wpAny_Delete (wpAny_deleteEach_cons (wpAny_delete_Subscript (up h fun _ _ h => up h fun _ _ h => wpAny_mono h.w (fun _ _ z => wpAny_deleteEach_nil z) fun _ _ z => z)))⟩
end
end Mine
end

/-! part Sort1 -/
section
open PySem PySem.W PyProof.Rows PySem.Calls
set_option maxRecDepth 100000
set_option linter.unusedVariables false
namespace Mine
set_option genInjectivity false in
set_option genSizeOfSpec false in
/-- a node of the sorter, as it lies on the heap -/
structure Nd where
  key : Nat
  x : Addr
  dx : Addr
  l : Addr
  np : Int
  succ : List Nat
  t : Tok
  u : Tok
  vs : List Value
  n : Nat
noncomputable def Nd.objs (d : Nd) : List (Addr × Obj) := [(d.x, iObj 47 d.dx #[some (.int (d.key : Int) d.t), some (.int d.np d.u), some (.ref d.l)]), (d.dx, dictOf [] 0), (d.l, listOf d.vs.toArray d.n)]
noncomputable def objsOf (ds : List Nd) : List (Addr × Obj) := ds.flatMap Nd.objs
theorem objsOf_app (a b : List Nd) : objsOf (a ++ b) = objsOf a ++ objsOf b := List.flatMap_append
theorem objsOf_cons (a : Nd) (b : List Nd) : objsOf (a :: b) = a.objs ++ objsOf b := rfl
theorem objsOf_one (a : Nd) : objsOf [a] = a.objs := by rw [objsOf_cons]; exact List.append_nil _
theorem mem_objs {ds : List Nd} {d : Nd} {p : Addr × Obj} (h : d ∈ ds) (k : p ∈ d.objs) : p ∈ objsOf ds := List.mem_flatMap.mpr ⟨d, h, k⟩
theorem Rep.nd {D : Addr} {o o' : Obj} {pre post : List Nd} {d d' : Nd} (r : Rep D o o' d.objs d'.objs) : Rep D o o' (objsOf (pre ++ d :: post)) (objsOf (pre ++ d' :: post)) := by
  rw [objsOf_app, objsOf_app, objsOf_cons, objsOf_cons]
  exact (r.left _).right _
/-- a node's data, without its place -/
noncomputable abbrev Gn := Nat × Int × List Nat
noncomputable def Nd.er (d : Nd) : Gn := (d.key, d.np, d.succ)
noncomputable def kvsOf (ds : List Nd) : List (Int × Value) := ds.map fun d => ((d.key : Int), Value.ref d.x)
set_option genInjectivity false in
set_option genSizeOfSpec false in
/-- the sorter -/
structure So where
  x : Addr
  dx : Addr
  dN : Addr
  oN : Obj
  t1 : Tok
  t2 : Tok
  t3 : Tok
  t4 : Tok
  rv : Value
  a : Int
  u3 : Tok
  b : Int
  u4 : Tok
  n : Nat
  nds : List Nd
noncomputable abbrev ent (P : Params) (x : String) (t : Tok) (v : Value) : DictEntry := ⟨PyData.keyHash P (Str.ofString x), .str (Str.ofString x) t, v⟩
noncomputable abbrev sEs (P : Params) (S : So) : List DictEntry := [ent P "_node2info" S.t1 (.ref S.dN), ent P "_ready_nodes" S.t2 S.rv, ent P "_npassedout" S.t3 (.int S.a S.u3), ent P "_nfinished" S.t4 (.int S.b S.u4)]
noncomputable def So.led (P : Params) (S : So) : List (Addr × Obj) := (S.x, iObj 144 S.dx #[]) :: (S.dx, dictOf (sEs P S) S.n) :: (S.dN, S.oN) :: objsOf S.nds
structure So.Ok (prog : Program) (w : World) (S : So) : Prop where
  dict : S.oN.IsDictOf (intKind prog w) (kvsOf S.nds)
  sm : (S.dN == sysModules) = false
  nd : (S.nds.map (·.key)).Nodup
  vals : ∀ d ∈ S.nds, IntsAre d.vs (natI d.succ)
  few : S.nds.length ≤ 900
theorem So.m1 {P : Params} (S : So) (led : List (Addr × Obj)) : (S.x, iObj 144 S.dx #[]) ∈ S.led P ++ led := .head _
theorem So.m2 {P : Params} (S : So) (led : List (Addr × Obj)) : (S.dx, dictOf (sEs P S) S.n) ∈ S.led P ++ led := .tail _ (.head _)
theorem So.m3 {P : Params} (S : So) (led : List (Addr × Obj)) : (S.dN, S.oN) ∈ S.led P ++ led := .tail _ (.tail _ (.head _))
theorem So.m4 {P : Params} (S : So) (led : List (Addr × Obj)) {d : Nd} {p : Addr × Obj} (h : d ∈ S.nds) (k : p ∈ d.objs) : p ∈ S.led P ++ led := .tail _ (.tail _ (.tail _ (List.mem_append_left _ (mem_objs h k))))
theorem valueAt_none {ds : List Nd} {k : Nat} (h : k ∉ ds.map (·.key)) : valueAt (kvsOf ds) (k : Int) = none := by
  unfold valueAt kvsOf
  rw [List.find?_map, Option.map_map, Option.map_eq_none_iff, List.find?_eq_none]
  intro d hd q
  have : (d.key : Int) = (k : Int) := by simpa using q
  exact h (List.mem_map.mpr ⟨d, hd, by omega⟩)
theorem valueAt_some {ds : List Nd} {d : Nd} (hn : (ds.map (·.key)).Nodup) (h : d ∈ ds) : valueAt (kvsOf ds) (d.key : Int) = some (.ref d.x) := by
  unfold valueAt kvsOf
  rw [List.find?_map, Option.map_map]
  have : ds.find? ((fun kv : Int × Value => decide (kv.1 = (d.key : Int))) ∘ fun d => ((d.key : Int), Value.ref d.x)) = some d := by
    induction ds with
    | nil => cases h
    | cons e r ih =>
      rw [List.map_cons, List.nodup_cons] at hn
      rw [List.find?_cons]
      rcases List.mem_cons.mp h with rfl | h
      · simp
      · have hne : e.key ≠ d.key := fun q => hn.1 (q ▸ List.mem_map_of_mem h)
        have : ((fun kv : Int × Value => decide (kv.1 = (d.key : Int))) ∘ fun d => ((d.key : Int), Value.ref d.x)) e = false := by simp; omega
        rw [this]; exact ih hn.2 h
  rw [this]; rfl
theorem stored_new {ds : List Nd} {d : Nd} (h : d.key ∉ ds.map (·.key)) : stored (kvsOf ds) (d.key : Int) (.ref d.x) = kvsOf (ds ++ [d]) := by
  unfold stored
  rw [if_neg]
  · simp [kvsOf]
  · intro q
    obtain ⟨kv, h1, h2⟩ := List.any_eq_true.mp q
    obtain ⟨e, he, rfl⟩ := List.mem_map.mp h1
    have : (e.key : Int) = (d.key : Int) := by simpa using h2
    exact h (List.mem_map.mpr ⟨e, he, by omega⟩)

theorem f43 (w : World) : Fn w 43 := ⟨rfl, rfl, rfl, rfl, rfl, rfl, rfl⟩
theorem n43 (P : Params) (a b : Value) : BT (fdAt P 43) ⟨[a, b], []⟩ [(Str.ofString "self", a), (Str.ofString "node", b)] := .of_eq (by kernel_rfl)
theorem s48 (w : World) : slotIn (KK w.params) 48 47 = some 0 := by kernel_rfl
theorem s49 (w : World) : slotIn (KK w.params) 49 47 = some 1 := by kernel_rfl
theorem s50 (w : World) : slotIn (KK w.params) 50 47 = some 2 := by kernel_rfl
section
variable {prog : Program} {w : World} {A : Around} {E : Value → Shared → Prop} {s : Shared} {h₀ : Heap} {s₀ : Shared} {frs : List (Addr × Mp)} {led : List (Addr × Obj)} {env : Env}
theorem init43 {R : Result → Shared → Prop} {j : Nat} (G : Gr w h₀) {x dx : Addr} {v : Value} (h : At h₀ s₀ frs ((x, iObj 47 dx #[]) :: (dx, dictOf [] 0) :: led) s) (r : Rm A (j + 1))
    (k : ∀ l u s', At h₀ s₀ frs ((x, iObj 47 dx #[some v, some (.int 0 u), some (.ref l)]) :: (dx, dictOf [] 0) :: (l, listOf ([] : List Value).toArray 0) :: led) s' → R (.ok (.ret .none)) s') :
    C prog w A (.call (.ref 43) ⟨[.ref x, v], []⟩) R s := by
  refine callIn G (f43 w) h r (n43 w.params _ _) (by kernel_rfl) fun L s₁ h r₁ => ?_
  refine xCons (xAsgAttr (ldL h rfl (ldL h rfl (sSlot G (cl47 w) h (.tail _ (.head _)) .head (sl' := #[some v]) (by rfl) (s48 w) (by omega) fun s₂ h => ?_))))
  refine xCons (xAsgAttr (cI h fun u s₃ h => (ldL h rfl (sSlot G (cl47 w) h (.tail _ (.head _)) .head (sl' := #[some v, some (.int 0 u)]) (by rfl) (s49 w) (by omega) fun s₄ h => ?_))))
  refine xCons (xAsgAttr (dList (iNil ⟨Nat.le_of_ble_eq_true rfl, _, _, _, _, h, fun l s₅ h => ?_⟩)))
  refine ldL h rfl (sSlot G (cl47 w) h (.tail _ (.tail _ (.head _))) (.tail .head) (sl' := #[some v, some (.int 0 u), some (.ref l)]) (by rfl) (s50 w) (by omega) fun s₆ h => ?_)
  refine xNil ?_
  exact k l u _ (h.pop.perm ((List.perm_middle (l₁ := [_, _]))))
end
end Mine
end

/-! part Sort2 -/
section
open PySem PySem.W PyProof.Rows PySem.Calls
set_option maxRecDepth 100000
set_option linter.unusedVariables false
namespace Mine
noncomputable def getG (k : Nat) (g : List Gn) : List Gn := if k ∈ g.map (·.1) then g else g ++ [(k, 0, [])]
theorem f87 (w : World) : Fn w 87 := ⟨rfl, rfl, rfl, rfl, rfl, rfl, rfl⟩
theorem n87 (P : Params) (a b : Value) : BT (fdAt P 87) ⟨[a, b], []⟩ [(Str.ofString "self", a), (Str.ofString "node", b)] := .of_eq (by kernel_rfl)
theorem g47 (w : World) : nsIn (KK w.params) mainGlobals (Str.ofString "_NodeInfo") = some (some (.ref 47)) := by kernel_rfl
theorem keys_er (ds : List Nd) : (ds.map Nd.er).map (·.1) = ds.map (·.key) := by simp [Nd.er]
section
variable {prog : Program} {w : World} {A : Around} {E : Value → Shared → Prop} {s : Shared} {h₀ : Heap} {s₀ : Shared} {frs : List (Addr × Mp)} {led : List (Addr × Obj)} {env : Env} {L : Addr} {m : Mp}
theorem aSub {o i : Expr} {pos : Pos} {v : Value} {Q : Unit → Shared → Prop} (h : W prog w A (eval o env) (fun ov s₂ => W prog w A (eval i env) (fun iv s₃ => W prog w A (setItem ov iv v) (fun _ s₄ => Q () s₄) E s₃) E s₂) E s) : W prog w A (assign (.Subscript o i pos) env v) Q E s :=
  ⟨kas_sub (up h fun _ _ h => up h fun _ _ h => h.w)⟩
/-- self._node2info -/
theorem gN (G : Gr w h₀) {S : So} {Q : Value → Shared → Prop} (h : At h₀ s₀ frs (S.led w.params ++ led) s) (k : ∀ s', At h₀ s₀ frs (S.led w.params ++ led) s' → Q (.ref S.dN) s') : W prog w A (getAttr (.ref S.x) (Str.ofString "_node2info") true) Q E s :=
  gOwn G (cl144 w) h (S.m1 led) (S.m2 led) rfl k
structure So.Same (S T : So) : Prop where
  x : T.x = S.x
  dx : T.dx = S.dx
  rv : T.rv = S.rv
  a : T.a = S.a
  b : T.b = S.b
  dN : T.dN = S.dN
theorem So.Same.refl (S : So) : S.Same S := ⟨rfl, rfl, rfl, rfl, rfl, rfl⟩
theorem So.Same.trans {S T U : So} (h : S.Same T) (k : T.Same U) : S.Same U := ⟨k.x.trans h.x, k.dx.trans h.dx, k.rv.trans h.rv, k.a.trans h.a, k.b.trans h.b, k.dN.trans h.dN⟩
theorem Rep.soN {P : Params} {S : So} (o' : Obj) (led : List (Addr × Obj)) : Rep S.dN S.oN o' (S.led P ++ led) (({ S with oN := o' } : So).led P ++ led) := .tail (.tail .head)
theorem node_spec {R : Result → Shared → Prop} {j : Nat} (G : Gr w h₀) {S : So} {k : Nat} {t : Tok} (h : At h₀ s₀ frs (S.led w.params ++ led) s) (O : S.Ok prog w) (r : Rm A (j + 4)) (hz : S.nds.length < 900)
    (kk : ∀ (T : So) d s', At h₀ s₀ frs (T.led w.params ++ led) s' → T.Ok prog w → S.Same T → d ∈ T.nds → d.key = k → T.nds.map Nd.er = getG k (S.nds.map Nd.er) → R (.ok (.ret (.ref d.x))) s') :
    C prog w A (.call (.ref 87) ⟨[.ref S.x, .int (k : Int) t], []⟩) R s := by
  refine callIn G (f87 w) h r (n87 w.params _ _) (by kernel_rfl) fun L s₁ h r₁ => ?_
  refine xCons (xIf (tCmp (eWalrus (cMeth F.plainAttrs_dict F.slot_dict_get F.type_dict_get (eAttr (ldL h rfl (gN G h fun s₂ h => ⟨h.plainDict (S.m3 led) O.dict, iCons (ldL h rfl (iNil ?_))⟩)))))))
  refine dGet h (S.m3 led) O.dict O.sm fun s₃ h => aName (stL h fun s₄ h => cNone (kIs (tBool ?_)))
  by_cases hk : k ∈ S.nds.map (·.key)
  · obtain ⟨d, hd, rfl⟩ := List.mem_map.mp hk
    rw [valueAt_some O.nd hd] at *
    first | refine iteF (show ¬ (((some (Value.ref d.x)).getD Value.none == Value.none) = true) from Bool.false_ne_true) ?_ | rw [if_neg (show ¬ (((some (Value.ref d.x)).getD Value.none == Value.none) = true) from Bool.false_ne_true)]
    refine xNil (xCons (xRet (ldL h rfl ?_)))
    refine kk S d _ h.pop O (.refl S) hd rfl ?_
    unfold getG; rw [keys_er, if_pos hk]
  · rw [valueAt_none hk] at *
    first | refine iteT (by decide) ?_ | rw [if_pos (by decide)]
    refine xCons (xAsg2 (cCls G h (g47 w) (iCons (ldL h rfl (iNil ⟨h.keep, ?_⟩)))))
    refine mkI G (cl47 w) h (fI := 43) (by kernel_rfl) fun x dx A' s₅ hdx h hA hfr => ?_
    refine init43 G h (hA _ r₁) fun l u s₆ h => ⟨rfl, ?_⟩
    have h : At h₀ s₀ _ (S.led w.params ++ ((x, iObj 47 dx #[some (.int (k : Int) t), some (.int 0 u), some (.ref l)]) :: (dx, dictOf [] 0) :: (l, listOf ([] : List Value).toArray 0) :: led)) s₆ := h.perm (by
      have := List.perm_append_comm (l₁ := S.led w.params) (l₂ := [(x, iObj 47 dx #[some (.int (k : Int) t), some (.int 0 u), some (.ref l)]), (dx, dictOf [] 0), (l, listOf ([] : List Value).toArray 0)])
      simpa using this.append_right led)
    refine aSub (eAttr (ldL h rfl (gN G h fun s₇ h => ldL h rfl (dSet h (fun o' => Rep.soN o' _) O.dict (by simp [kvsOf]; omega) fun oN s₈ ho h => ?_))))
    let d : Nd := ⟨k, x, dx, l, 0, [], t, u, [], 0⟩
    have hst : stored (kvsOf S.nds) (k : Int) (.ref x) = kvsOf (S.nds ++ [d]) := stored_new (d := d) hk
    rw [hst] at ho
    let T : So := { S with oN := oN, nds := S.nds ++ [d] }
    have e : ({ S with oN := oN } : So).led w.params ++ ((x, iObj 47 dx #[some (.int (k : Int) t), some (.int 0 u), some (.ref l)]) :: (dx, dictOf [] 0) :: (l, listOf ([] : List Value).toArray 0) :: led) = T.led w.params ++ led := by
      show _ :: _ :: _ :: (objsOf S.nds ++ _) = _ :: _ :: _ :: (objsOf (S.nds ++ [d]) ++ led)
      rw [objsOf_app, objsOf_one, List.append_assoc]; rfl
    rw [e] at h
    refine aName (stL h fun s₉ h => xNil (xCons (xRet (ldL h rfl ?_))))
    refine kk T d _ h.pop ⟨ho, O.sm, ?_, ?_, ?_⟩ ⟨rfl, rfl, rfl, rfl, rfl, rfl⟩ (List.mem_append_right _ (.head _)) rfl ?_
    · show ((S.nds ++ [d]).map (·.key)).Nodup
      rw [List.map_append, List.nodup_append]
      exact ⟨O.nd, List.nodup_cons.mpr ⟨(nomatch ·), .nil⟩, fun a ha b hb q => hk (by rw [List.mem_singleton.mp hb] at q; exact (show a = k from q) ▸ ha)⟩
    · intro e he
      rcases List.mem_append.mp he with he | he
      · exact O.vals e he
      · rw [List.mem_singleton.mp he]; exact .nil
    · show (S.nds ++ [d]).length ≤ 900
      simp; omega
    · show (S.nds ++ [d]).map Nd.er = _
      unfold getG; rw [keys_er, if_neg hk, List.map_append]; rfl
end
end Mine
end

/-! part Sort3 -/
section
open PySem PySem.W PyProof.Rows PySem.Calls
set_option maxRecDepth 100000
set_option linter.unusedVariables false
namespace Mine
noncomputable def updK (k : Nat) (f : Gn → Gn) (g : List Gn) : List Gn := g.map fun e => if e.1 = k then f e else e
theorem updK_none {k : Nat} {f : Gn → Gn} {g : List Gn} (h : k ∉ g.map (·.1)) : updK k f g = g := by
  unfold updK
  have : ∀ e ∈ g, (if e.1 = k then f e else e) = id e := fun e he => if_neg fun q => h (by rw [← q]; exact List.mem_map_of_mem he)
  rw [List.map_congr_left this, List.map_id]
theorem updK_split {ds pre post : List Nd} {d : Nd} (hn : (ds.map (·.key)).Nodup) (e : ds = pre ++ d :: post) (f : Gn → Gn) : updK d.key f (ds.map Nd.er) = pre.map Nd.er ++ f d.er :: post.map Nd.er := by
  subst e
  rw [List.map_append, List.map_cons, List.nodup_append, List.nodup_cons] at hn
  have h1 : d.key ∉ (pre.map Nd.er).map (·.1) := fun q => by
    rw [keys_er] at q
    exact hn.2.2 _ q _ (.head _) rfl
  have h2 : d.key ∉ (post.map Nd.er).map (·.1) := by rw [keys_er]; exact hn.2.1.1
  show List.map _ _ = _
  rw [List.map_append, List.map_cons, List.map_append, List.map_cons]
  rw [show (List.map (fun e : Gn => if e.1 = d.key then f e else e) (pre.map Nd.er)) = _ from updK_none h1, show (List.map (fun e : Gn => if e.1 = d.key then f e else e) (post.map Nd.er)) = _ from updK_none h2]
  rw [if_pos (show d.er.1 = d.key from rfl)]
theorem So.Ok.turn {prog : Program} {w : World} {S : So} {pre post : List Nd} {d d' : Nd} (O : S.Ok prog w) (e : S.nds = pre ++ d :: post) (hx : d'.x = d.x) (hk : d'.key = d.key) (hv : IntsAre d'.vs (natI d'.succ)) : ({ S with nds := pre ++ d' :: post } : So).Ok prog w := by
  obtain ⟨o1, o2, o3, o4, o5⟩ := O
  rw [e] at o1 o3 o4 o5
  refine ⟨?_, o2, ?_, fun c hc => ?_, ?_⟩
  · have : kvsOf (pre ++ d' :: post) = kvsOf (pre ++ d :: post) := by simp [kvsOf, hx, hk]
    show S.oN.IsDictOf _ (kvsOf (pre ++ d' :: post))
    rw [this]; exact o1
  · show ((pre ++ d' :: post).map (·.key)).Nodup
    rw [List.map_append, List.map_cons, hk]
    rw [List.map_append, List.map_cons] at o3
    exact o3
  · rcases List.mem_append.mp hc with hc | hc
    · exact o4 c (List.mem_append_left _ hc)
    · rcases List.mem_cons.mp hc with rfl | hc
      · exact hv
      · exact o4 c (List.mem_append_right _ (.tail _ hc))
  · show (pre ++ d' :: post).length ≤ 900
    simpa using o5
theorem Rep.so {P : Params} {S : So} {pre post : List Nd} {d d' : Nd} {D : Addr} {o o' : Obj} (e : S.nds = pre ++ d :: post) (r : Rep D o o' d.objs d'.objs) (led : List (Addr × Obj)) : Rep D o o' (S.led P ++ led) (({ S with nds := pre ++ d' :: post } : So).led P ++ led) := by
  unfold So.led
  rw [e]
  exact .tail (.tail (.tail ((Rep.nd r).left led)))
/-- what add does -/
noncomputable def pushG (k : Nat) (p : Nat) (g : List Gn) : List Gn := updK p (fun e => (e.1, e.2.1, e.2.2 ++ [k])) (getG p g)
noncomputable def addG (k : Nat) (ps : List Nat) (g : List Gn) : List Gn := ps.foldl (fun g p => pushG k p g) (updK k (fun e => (e.1, e.2.1 + (ps.length : Int), e.2.2)) (getG k g))
/-- no long list of followers -/
noncomputable def Short (B : Nat) (g : List Gn) : Prop := ∀ e ∈ g, e.2.2.length ≤ B
theorem short_get {B : Nat} {g : List Gn} (k : Nat) (h : Short B g) : Short B (getG k g) := by
  unfold getG
  split
  · exact h
  · intro e he
    rcases List.mem_append.mp he with he | he
    · exact h e he
    · rw [List.mem_singleton.mp he]; exact Nat.zero_le _
theorem short_upd {B c : Nat} {g : List Gn} (k : Nat) (f : Gn → Gn) (h : Short B g) (hf : ∀ e, (f e).2.2.length ≤ e.2.2.length + c) : Short (B + c) (updK k f g) := by
  intro e he
  obtain ⟨e', he', rfl⟩ := List.mem_map.mp he
  have := h e' he'
  have := hf e'
  show (if e'.1 = k then f e' else e').2.2.length ≤ _
  split <;> omega
theorem short_push {B : Nat} {g : List Gn} (k p : Nat) (h : Short B g) : Short (B + 1) (pushG k p g) := short_upd p _ (short_get p h) (fun e => by simp)
theorem short_fold {B : Nat} (k : Nat) : ∀ (ps : List Nat) {g : List Gn}, Short B g → Short (B + ps.length) (ps.foldl (fun g p => pushG k p g) g)
  | [], _, h => h
  | p :: ps, g, h => by
    have := short_fold (B := B + 1) k ps (short_push k p h)
    intro e he
    have := this e he
    simp only [List.length_cons]; omega
theorem short_add {B : Nat} {g : List Gn} (k : Nat) (ps : List Nat) (h : Short B g) : Short (B + ps.length) (addG k ps g) := short_fold k ps (short_upd (c := 0) k _ (short_get k h) (fun e => Nat.le_refl _))
theorem f94 (w : World) : Fn w 94 := ⟨rfl, rfl, rfl, rfl, rfl, rfl, rfl⟩
theorem n94 (P : Params) (a b : Value) (vs : List Value) : BS (fdAt P 94) ⟨a :: b :: vs, []⟩ vs (fun D => [(Str.ofString "self", a), (Str.ofString "node", b), (Str.ofString "predecessors", D)]) := ⟨by
  cases vs with
  | nil => kernel_rfl
  | cons v vs => kernel_rfl⟩
section
variable {prog : Program} {w : World} {A : Around} {E : Value → Shared → Prop} {s : Shared} {h₀ : Heap} {s₀ : Shared} {frs : List (Addr × Mp)} {led : List (Addr × Obj)} {env : Env} {L : Addr} {m : Mp}
theorem fLenT {l : Addr} {vs : List Value} {n : Nat} {Q : Value → Shared → Prop} (h : At h₀ s₀ frs led s) (hl : (l, tupOf vs.toArray n) ∈ led) (hz : vs.length ≤ 2 ^ 40) (k : ∀ t s', At h₀ s₀ frs led s' → Q (.int (vs.length : Int) t) s') : W prog w A (call (.builtin "len") [.ref l]) Q E s :=
  ⟨PyProof.Rows.len_tuple (h.isTup hl) (by simp; omega) (by have := k (s.toks + 1) _ (h.toks (s.toks + 1 + 1)); simpa using this)⟩
theorem natI_get {vs : List Value} {ps : List Nat} {i p : Nat} (hi : IntsAre vs (natI ps)) (h : ps[i]? = some p) : ∃ t, vs[i]? = some (.int (p : Int) t) := hi.get _ _ (by simp [natI, h])
theorem natI_app (a b : List Nat) : natI (a ++ b) = natI a ++ natI b := List.map_append
/-- self._ready_nodes -/
theorem gR (G : Gr w h₀) {S : So} {Q : Value → Shared → Prop} (h : At h₀ s₀ frs (S.led w.params ++ led) s) (hv : handedIn S.rv = true) (k : ∀ s', At h₀ s₀ frs (S.led w.params ++ led) s' → Q S.rv s') : W prog w A (getAttr (.ref S.x) (Str.ofString "_ready_nodes") true) Q E s :=
  gOwn G (cl144 w) h (S.m1 led) (S.m2 led) rfl k hv
theorem mem_split' {ds : List Nd} {d : Nd} (h : d ∈ ds) : ∃ pre post, ds = pre ++ d :: post := List.append_of_mem h
inductive addI (prog : Program) (w : World) (h₀ : Heap) (s₀ : Shared) (L : Addr) (frs : List (Addr × Mp)) (led : List (Addr × Obj)) (S : So) (it D : Addr) (k : Nat) (t : Tok) (ps : List Nat) (vs : List Value) (n : Nat) (s : Shared) : Prop
  | mk (m : _) (T : _) (o : _) (q1 : n ≤ ps.length) (q2 : At h₀ s₀ ((L, m) :: frs) (T.led w.params ++ ((it, o) :: (D, tupOf (List.toArray vs) 0) :: led)) s) (q3 : TIt D (ps.length - n) o) (q4 : T.Ok prog w) (q5 : S.Same T) (q6 : T.nds.map Nd.er = (ps.take (ps.length - n)).foldl (fun g p => pushG k p g) (updK k (fun e => (e.1, e.2.1 + (ps.length : Int), e.2.2)) (getG k (S.nds.map Nd.er)))) (q7 : m (Str.ofString "self") = some (.ref S.x)) (q8 : m (Str.ofString "node") = some (.int (k : Int) t)) (q9 : T.nds.length ≤ S.nds.length + 1 + (ps.length - n))
theorem getG_len (k : Nat) (g : List Gn) : (getG k g).length ≤ g.length + 1 := by unfold getG; split <;> simp
theorem updK_len (k : Nat) (f : Gn → Gn) (g : List Gn) : (updK k f g).length = g.length := List.length_map ..
theorem add_spec {R : Result → Shared → Prop} {j : Nat} (G : Gr w h₀) {S : So} {k : Nat} {t : Tok} {vs : List Value} {ps : List Nat} (h : At h₀ s₀ frs (S.led w.params ++ led) s) (O : S.Ok prog w) (r : Rm A (j + 5)) (hz : S.nds.length + ps.length < 800) (hrv : S.rv = .none) {B : Nat} (hB : Short B (S.nds.map Nd.er)) (hB2 : B ≤ 1000) (hi : IntsAre vs (natI ps))
    (kk : ∀ (T : So) s', At h₀ s₀ frs (T.led w.params ++ led) s' → T.Ok prog w → S.Same T → T.nds.map Nd.er = addG k ps (S.nds.map Nd.er) → R (.ok (.ret .none)) s') :
    C prog w A (.call (.ref 94) ⟨.ref S.x :: .int (k : Int) t :: vs, []⟩) R s := by
  have hlen : vs.length = ps.length := by rw [hi.length]; simp [natI]
  refine callInS G (f94 w) h r (n94 w.params _ _ _) (fun D => by kernel_rfl) (by with_reducible exact ar23 ‹_› ‹_› (by decide)) fun D L s₁ h r₁ => ?_
  have h : At h₀ s₀ _ (S.led w.params ++ ((D, tupOf vs.toArray 0) :: led)) s₁ := h.perm List.perm_middle
  refine xCons (xIf (tCmp (eAttr (ldL h rfl (gR G h (by rw [hrv]; rfl) fun s₂ h => cNone (kIsN (tBool ?_)))))))
  first | refine iteF (by rw [hrv]; decide) ?_ | rw [hrv, if_neg (by decide)]
  refine xNil ?_
  refine xCons (xAsg (cInst G (cl144 w) (f87 w) (x := S.x) (ldL h rfl ⟨_, _, rfl, h, S.m1 _, S.m2 _, iCons (ldL h rfl (iNil ⟨h.keep, ?_⟩))⟩)))
  refine node_spec G h O r₁ (by omega) fun T d s₃ h OT hs hd hk her => ?_
  refine stL h fun s₄ h => ?_
  obtain ⟨pre, post, e⟩ := mem_split' hd
  refine xCons (xAugAttr (ldL h rfl (gSlot G (cl47 w) h (T.m4 _ hd (.head _)) (T.m4 _ hd (.tail _ (.head _))) (by kernel_rfl) (s49 w) rfl fun s₅ h => cB G h (g_len w) b_len (iCons (ldL h rfl (iNil ?_))))))
  refine fLenT h (vs := vs) (n := 0) (List.mem_append_right _ (.head _)) (by with_reducible exact ar23 ‹_› ‹_› (by decide)) fun t' s₆ h => jAdd h fun u s₇ h => ?_
  refine sSlot G (cl47 w) h (T.m4 _ hd (.tail _ (.head _))) (Rep.so e (d' := { d with np := d.np + (vs.length : Int), u := u }) .head _) (by rfl) (s49 w) (by omega) fun s₈ h => ?_
  have O2 := OT.turn (d' := { d with np := d.np + (vs.length : Int), u := u }) e rfl rfl (OT.vals d hd)
  have her2 : (pre ++ { d with np := d.np + (vs.length : Int), u := u } :: post).map Nd.er = updK k (fun e => (e.1, e.2.1 + (ps.length : Int), e.2.2)) (getG k (S.nds.map Nd.er)) := by
    rw [← her, ← hk, updK_split OT.nd e, List.map_append, List.map_cons, hlen]; rfl
  have hl2 : (pre ++ { d with np := d.np + (vs.length : Int), u := u } :: post).length ≤ S.nds.length + 1 := by
    have h1 := congrArg List.length her2
    rw [List.length_map, updK_len] at h1
    rw [h1]; have := getG_len k (S.nds.map Nd.er); rw [List.length_map] at this; exact this
  refine xCons (xFor (ldL h rfl (itT h (vs := vs) (n := 0) (List.mem_append_right _ (.head _)) fun it o s₉ ho h => ⟨addI prog w h₀ s₀ L frs led S it D k t ps vs, ps.length, ⟨_, _, o, Nat.le_refl _, h.perm List.perm_middle, by rw [Nat.sub_self]; exact ho, O2, hs.trans ⟨rfl, rfl, rfl, rfl, rfl, rfl⟩, by rw [Nat.sub_self]; exact her2, rfl, rfl, by rw [Nat.sub_self]; exact hl2⟩, fun n s hI => ?_⟩)))
  obtain ⟨m, T, o, hn, h, ho, OT, hs, her, m1, m2, hlT⟩ := hI
  have h := h.perm (List.perm_middle (a := (it, o)) (l₁ := T.led w.params)).symm
  by_cases hn0 : n = 0
  · subst hn0
    refine nxTend h r₁.handled ho (vs := vs) (n := 0) (List.mem_append_right _ (.head _)) (by rw [List.getElem?_eq_none_iff]; with_reducible exact ar6b ‹_›) fun s' h => ?_
    have h := h.perm (List.perm_middle (a := (D, tupOf vs.toArray 0)) (l₁ := T.led w.params)).symm
    refine xNil (xNil ?_)
    refine kk T _ ((h.drop 1).pop) OT hs ?_
    rw [her]; simp [addG]
  · have hlt : ps.length - n < ps.length := by with_reducible exact ar5 ‹_› ‹_›
    obtain ⟨tp, hv⟩ := natI_get hi (List.getElem?_eq_getElem hlt)
    generalize hp : ps[ps.length - n] = p at hv
    refine nxT h ho (vs := vs) (n := 0) (List.mem_append_right _ (.head _)) hv fun o' s' ho h => ?_
    have h := h.perm (List.perm_middle (a := (it, o')) (l₁ := T.led w.params))
    refine aName (stL h fun s₁ h => ?_)
    refine xCons (xAsg (cInst G (cl144 w) (f87 w) (x := T.x) (ldL h (m1.trans (by rw [hs.x])) ⟨_, _, rfl, h, T.m1 _, T.m2 _, iCons (ldL h rfl (iNil ⟨h.keep, ?_⟩))⟩)))
    refine node_spec G h OT r₁ (by omega) fun U d s₃ h OU hs2 hd hk her2 => ?_
    refine stL h fun s₄ h => ?_
    obtain ⟨pre, post, e⟩ := mem_split' hd
    refine xCons (xExpr (cMeth F.plainAttrs_list F.slot_list_append F.type_list_append (eAttr (ldL h rfl (gSlot G (cl47 w) h (U.m4 _ hd (.head _)) (U.m4 _ hd (.tail _ (.head _))) (by kernel_rfl) (s50 w) rfl fun s₅ h => ⟨h.plainList (U.m4 _ hd (.tail _ (.tail _ (.head _)))), iCons (ldL h m2 (iNil ?_))⟩)))))
    have hvl : d.vs.length ≤ sizeLine := by
      have h1 := (short_fold k (ps.take (ps.length - n)) (short_upd (c := 0) k (fun e => (e.1, e.2.1 + (ps.length : Int), e.2.2)) (short_get k hB) (fun e => Nat.le_refl _)))
      rw [← her] at h1
      have h2 := short_get p h1
      rw [← her2] at h2
      have h3 := h2 d.er (List.mem_map_of_mem hd)
      have h4 := (OU.vals d hd).length
      have h5 : d.er.2.2 = d.succ := rfl
      rw [h5] at h3
      simp only [natI, List.length_map, List.length_take] at h4 h3
      rw [sizeLine_eq]; first | exact arQ (by assumption) (by assumption) (by assumption) (by assumption) | omega
    refine fAppend h (Rep.so e (d' := { d with succ := d.succ ++ [k], vs := d.vs ++ [.int (k : Int) t], n := d.n + 1 }) (.tail (.tail .head)) _) hvl fun s₆ h => ⟨rfl, xNil ?_⟩
    have O2 := OU.turn (d' := { d with succ := d.succ ++ [k], vs := d.vs ++ [.int (k : Int) t], n := d.n + 1 }) e rfl rfl (by rw [natI_app]; exact (OU.vals d hd).append (.cons _ _ .nil))
    refine ⟨n - 1, by with_reducible exact ar3 ‹_›, _, _, o', by with_reducible exact ar4 ‹_›, h, ?_, O2, (hs.trans hs2).trans ⟨rfl, rfl, rfl, rfl, rfl, rfl⟩, ?_, m1, m2, ?_⟩
    · rw [show ps.length - (n - 1) = ps.length - n + 1 by with_reducible exact ar1 ‹_› ‹_›]; exact ho
    · rw [show ps.length - (n - 1) = ps.length - n + 1 by with_reducible exact ar1 ‹_› ‹_›, List.take_add_one, List.getElem?_eq_getElem hlt, hp, List.foldl_append, ← her]
      show (pre ++ _ :: post).map Nd.er = pushG k p (T.nds.map Nd.er)
      unfold pushG
      rw [← her2, ← hk, updK_split OU.nd e, List.map_append, List.map_cons]; rfl
    · have h1 := congrArg List.length her2
      have h2 := getG_len p (T.nds.map Nd.er)
      have h3 := congrArg List.length e
      simp only [List.length_map, List.length_append, List.length_cons] at h1 h2 h3 ⊢
      first | exact arE ‹n ≤ ps.length› ‹¬ n = 0› ‹_› h1 h2 h3 | omega
end
end Mine
end

/-! part Sort4 -/
section
open PySem PySem.W PyProof.Rows PySem.Calls
set_option maxRecDepth 100000
set_option linter.unusedVariables false
namespace Mine
noncomputable def upTo (pss : List (List Nat)) (i : Nat) : List Gn := (List.range i).foldl (fun g i => addG i (pss.getD i []) g) []
theorem upTo_succ (pss : List (List Nat)) (i : Nat) : upTo pss (i + 1) = addG i (pss.getD i []) (upTo pss i) := by unfold upTo; rw [List.range_succ, List.foldl_append]; rfl
theorem push_len (k p : Nat) (g : List Gn) : (pushG k p g).length ≤ g.length + 1 := by unfold pushG; rw [updK_len]; exact getG_len _ _
theorem fold_len (k : Nat) : ∀ (ps : List Nat) (g : List Gn), (ps.foldl (fun g p => pushG k p g) g).length ≤ g.length + ps.length
  | [], g => Nat.le_refl _
  | p :: ps, g => by
    have h1 := fold_len k ps (pushG k p g)
    have h2 := push_len k p g
    simp only [List.foldl_cons, List.length_cons]; omega
theorem add_len (k : Nat) (ps : List Nat) (g : List Gn) : (addG k ps g).length ≤ g.length + 1 + ps.length := by
  unfold addG
  have h1 := fold_len k ps (updK k (fun e => (e.1, e.2.1 + (ps.length : Int), e.2.2)) (getG k g))
  rw [updK_len] at h1
  have := getG_len k g
  omega
theorem getD_len {pss : List (List Nat)} (h : ∀ ps ∈ pss, ps.length ≤ 20) (i : Nat) : (pss.getD i []).length ≤ 20 := by
  rw [List.getD_eq_getElem?_getD]
  cases e : pss[i]? with
  | none => exact Nat.zero_le _
  | some ps => exact h ps (List.mem_of_getElem? e)
theorem upTo_len {pss : List (List Nat)} (h : ∀ ps ∈ pss, ps.length ≤ 20) : ∀ i, (upTo pss i).length ≤ 21 * i
  | 0 => Nat.le_refl _
  | i + 1 => by
    rw [upTo_succ]
    have h1 := add_len i (pss.getD i []) (upTo pss i)
    have h2 := upTo_len h i
    have h3 := getD_len h i
    omega
theorem upTo_short {pss : List (List Nat)} (h : ∀ ps ∈ pss, ps.length ≤ 20) : ∀ i, Short (20 * i) (upTo pss i)
  | 0 => fun e he => nomatch he
  | i + 1 => by
    rw [upTo_succ]
    intro e he
    have h1 := short_add i (pss.getD i []) (upTo_short h i) e he
    have h3 := getD_len h i
    omega
/-- the dict handed to the sorter -/
structure Needs (prog : Program) (w : World) (og : Obj) (kvg : List (Int × Value)) (pss : List (List Nat)) (led : List (Addr × Obj)) : Prop where
  dict : og.IsDictOf (intKind prog w) kvg
  len : kvg.length = pss.length
  at_ : ∀ (i : Nat) (ps : List Nat), pss[i]? = some ps → ∃ a vs n, kvg[i]? = some ((i : Int), Value.ref a) ∧ (a, listOf (List.toArray vs) n) ∈ led ∧ IntsAre vs (natI ps)
theorem f80 (w : World) : Fn w 80 := ⟨rfl, rfl, rfl, rfl, rfl, rfl, rfl⟩
structure BK (P : Params) (fd : FuncData) (args : Args) (binds : List (Str × Value)) : Prop where
  b : ∀ S, peek (KK P) S (bindArgs fd args) = some binds
theorem n80 (P : Params) (a b : Value) : BK P (fdAt P 80) ⟨[a, b], []⟩ [(Str.ofString "self", a), (Str.ofString "graph", b)] := ⟨fun S => by kernel_rfl⟩
section
variable {prog : Program} {w : World} {A : Around} {E : Value → Shared → Prop} {s : Shared} {h₀ : Heap} {s₀ : Shared} {frs : List (Addr × Mp)} {led : List (Addr × Obj)} {env : Env} {L : Addr} {m : Mp}
theorem callInK {R : Result → Shared → Prop} {n : Nat} {f : Addr} {args : Args} {binds : List (Str × Value)} (G : Gr w h₀) (F : Fn w f) (h : At h₀ s₀ frs led s) (r : Rm A (n + 1))
    (hbind : BK w.params (fdAt w.params f) args binds) (hloc : (binds.all fun x => decide ((fdAt w.params f).scope.names.lookup x.1 = some .local)) = true)
    (k : ∀ L s₁, At h₀ s₀ ((L, fun x => binds.reverse.lookup x) :: frs) led s₁ → Rm (A.deeper (envAt w.params f L)) n → W prog w (A.deeper (envAt w.params f L)) (execs (stmtsOf (fdAt w.params f)) (envAt w.params f L))
      (fun fl s' => R (.ok (.ret (match fl with | .ret v => v | _ => .none))) s') (fun _ _ => False) s₁) : C prog w A (.call (.ref f) args) R s := by
  have X : (KK w.params).In s.heap := G.kin.keeps h.keep
  refine ⟨codeAny_call_def r.room (X _ _ F.hK) rfl (G.lim.keeps h.keep) (codeRec_of X F.hcode) F.hbody (kp_binds X hbind.b) (fun x hx => of_decide_eq_true (List.all_eq_true.mp F.hcell x hx)) (fun x hx => of_decide_eq_true (List.all_eq_true.mp hloc x hx)) (fun h₁ hns hk₁ => ?_) F.hco F.hgen F.hk⟩
  exact wpAny_mono (k _ _ (h.frame hk₁ hns (Nat.le_refl _)) (r.deeper _)).w (fun _ _ x => x) fun _ _ x => x.elim
inductive iniI (prog : Program) (w : World) (h₀ : Heap) (s₀ : Shared) (L : Addr) (frs : List (Addr × Mp)) (led : List (Addr × Obj)) (x dx it dg : Addr) (ep : Nat) (pss : List (List Nat)) (n : Nat) (s : Shared) : Prop
  | mk (m : _) (T : _) (ok : _) (ov : _) (q1 : n ≤ pss.length) (q2 : At h₀ s₀ ((L, m) :: frs) ((it, itmIt dg (pss.length - n) pss.length ep ok ov) :: (So.led w.params T ++ led)) s) (q3 : T.Ok prog w) (q4 : T.x = x) (q5 : T.dx = dx) (q6 : T.rv = .none) (q7 : T.a = 0) (q8 : T.b = 0) (q9 : T.nds.map Nd.er = upTo pss (pss.length - n)) (q10 : m (Str.ofString "self") = some (.ref x))
theorem sub_drop2 {P : Params} (T : So) (a b : Addr × Obj) (l : List (Addr × Obj)) : (T.led P ++ l).Sublist (T.led P ++ (a :: b :: l)) := (List.Sublist.refl _).append (((List.Sublist.refl l).cons b).cons a)
theorem init_spec {R : Result → Shared → Prop} {j : Nat} (G : Gr w h₀) {x dx dg : Addr} {og : Obj} {kvg : List (Int × Value)} {pss : List (List Nat)} (h : At h₀ s₀ frs ((x, iObj 144 dx #[]) :: (dx, dictOf [] 0) :: led) s) (r : Rm A (j + 7))
    (hg : (dg, og) ∈ led) (hgs : (dg == sysModules) = false) (N : Needs prog w og kvg pss led) (hp1 : pss.length ≤ 20) (hp2 : ∀ ps ∈ pss, ps.length ≤ 20)
    (kk : ∀ (T : So) s', At h₀ s₀ frs (T.led w.params ++ led) s' → T.Ok prog w → T.x = x → T.dx = dx → T.rv = .none → T.a = 0 → T.b = 0 → T.nds.map Nd.er = upTo pss pss.length → R (.ok (.ret .none)) s') :
    C prog w A (.call (.ref 80) ⟨[.ref x, .ref dg], []⟩) R s := by
  refine callInK G (f80 w) h r (n80 w.params _ _) (by kernel_rfl) fun L s₁ h r₁ => ?_
  refine xCons (xAsgAttr (dEmpty G h fun dN s₂ hdN h => ldL h rfl (sOwn G (cl144 w) h (.tail _ (.head _)) (led' := fun t => (dN, dictOf [] 0) :: (x, iObj 144 dx #[]) :: (dx, dictOf [ent w.params "_node2info" t (.ref dN)] 1) :: led) (fun t => .tail (.tail .head)) (Nat.le_of_ble_eq_true rfl) rfl fun t1 s₃ h => ?_)))
  refine xCons (xAsgAttr (cNone (ldL h rfl (sOwn G (cl144 w) h (.tail _ (.head _)) (led' := fun t => (dN, dictOf [] 0) :: (x, iObj 144 dx #[]) :: (dx, dictOf [ent w.params "_node2info" t1 (.ref dN), ent w.params "_ready_nodes" t .none] 2) :: led) (fun t => .tail (.tail .head)) (Nat.le_of_ble_eq_true rfl) rfl fun t2 s₃ h => ?_))))
  refine xCons (xAsgAttr (cI h fun u3 s₃ h => (ldL h rfl (sOwn G (cl144 w) h (.tail _ (.head _)) (led' := fun t => (dN, dictOf [] 0) :: (x, iObj 144 dx #[]) :: (dx, dictOf [ent w.params "_node2info" t1 (.ref dN), ent w.params "_ready_nodes" t2 .none, ent w.params "_npassedout" t (.int 0 u3)] 3) :: led) (fun t => .tail (.tail .head)) (Nat.le_of_ble_eq_true rfl) rfl fun t3 s₄ h => ?_))))
  refine xCons (xAsgAttr (cI h fun u4 s₃ h => (ldL h rfl (sOwn G (cl144 w) h (.tail _ (.head _)) (led' := fun t => (dN, dictOf [] 0) :: (x, iObj 144 dx #[]) :: (dx, dictOf [ent w.params "_node2info" t1 (.ref dN), ent w.params "_ready_nodes" t2 .none, ent w.params "_npassedout" t3 (.int 0 u3), ent w.params "_nfinished" t (.int 0 u4)] 4) :: led) (fun t => .tail (.tail .head)) (Nat.le_of_ble_eq_true rfl) rfl fun t4 s₄ h => ?_))))
  let S : So := ⟨x, dx, dN, dictOf [] 0, t1, t2, t3, t4, .none, 0, u3, 0, u4, 4, []⟩
  have OS : S.Ok prog w := ⟨isDict_nil, hdN, .nil, (fun _ q => nomatch q), Nat.zero_le _⟩
  have h := h.perm (led' := S.led w.params ++ led) ((List.Perm.swap _ _ _).trans ((List.Perm.swap _ _ _).cons _)).symm
  refine xCons (xIf (tCmp (ldL h rfl (cNone (kIsN (tBool ?_))))))
  rw [if_pos (show (!(Value.ref dg == Value.none)) = true from rfl)]
  have hg' : (dg, og) ∈ S.led w.params ++ led := List.mem_append_right _ hg
  refine xCons (xFor2 (cMeth0 F.plainAttrs_dict F.slot_dict_items F.type_dict_items (ldL h rfl ⟨h.plainDict hg' N.dict, dItems h hg' N.dict hgs fun v s₅ h => itI h (.head _) (.tail _ hg') N.dict fun it s₆ h => ?_⟩)))
  rw [N.len] at h
  refine ⟨iniI prog w h₀ s₀ L frs led x dx it dg (epOf og) pss, pss.length, ⟨_, S, .none, .none, Nat.le_refl _, by rw [Nat.sub_self]; exact h.keep1 1, OS, rfl, rfl, rfl, rfl, rfl, by rw [Nat.sub_self]; rfl, rfl⟩, fun n s hI => ?_⟩
  obtain ⟨m, T, ok, ov, hn, h, OT, e1, e2, e3, e4, e5, her, m1⟩ := hI
  have hgT : (dg, og) ∈ T.led w.params ++ led := List.mem_append_right _ hg
  by_cases hn0 : n = 0
  · subst hn0
    rw [← N.len] at h
    refine nxIend h r₁.handled hgT N.dict (by rw [List.getElem?_eq_none_iff]; with_reducible exact ar6) fun s' h => xNil (xNil (xNil (kk T _ h.pop OT e1 e2 e3 e4 e5 her)))
  · have hlt : pss.length - n < pss.length := by with_reducible exact ar5 ‹_› ‹_›
    obtain ⟨a, vs, na, hk, hav, hiv⟩ := N.at_ _ _ (List.getElem?_eq_getElem hlt)
    have her' := her
    generalize hps : pss[pss.length - n] = ps at hiv
    have hpl : ps.length ≤ 20 := hp2 ps (hps ▸ List.getElem_mem hlt)
    have hgd : pss.getD (pss.length - n) [] = ps := by rw [List.getD_eq_getElem?_getD, List.getElem?_eq_getElem hlt, hps]; rfl
    rw [← N.len] at h hk
    refine nxI h hgT N.dict hk fun t tp ok' s' h => ?_
    refine aPair h r₁.handled (.head _) fun s₂ h => ?_
    have h : At h₀ s₀ _ (T.led w.params ++ ((tp, tupOf ([.int ((kvg.length - n : Nat) : Int) t, .ref a] : List Value).toArray 0) :: (it, itmIt dg (kvg.length - n + 1) kvg.length (epOf og) ok' (.ref a)) :: led)) s₂ := h.perm (by
      simpa using (List.perm_append_comm (l₁ := T.led w.params) (l₂ := [(tp, tupOf ([.int ((kvg.length - n : Nat) : Int) t, .ref a] : List Value).toArray 0), (it, itmIt dg (kvg.length - n + 1) kvg.length (epOf og) ok' (.ref a))])).append_right led)
    refine xCons (xExpr (cInstS G (cl144 w) (f94 w) (x := T.x) (ldL h (m1.trans (by rw [e1])) ⟨_, _, rfl, h, T.m1 _, T.m2 _, fun q s₃ h => iCons (ldL h rfl (iStar (ldL h rfl (starL h (.tail _ (List.mem_append_right _ (.tail _ (.tail _ hav)))) (by have := hiv.length; simp [natI] at this; with_reducible exact ar8 ‹_› ‹_› (by decide)) fun s₄ h => iNil ⟨⟨_, _, h⟩, ?_⟩))))⟩)))
    have h : At h₀ s₀ _ (T.led w.params ++ ((q, methodObj (.ref 94) (.ref T.x)) :: (tp, tupOf ([.int ((kvg.length - n : Nat) : Int) t, .ref a] : List Value).toArray 0) :: (it, itmIt dg (kvg.length - n + 1) kvg.length (epOf og) ok' (.ref a)) :: led)) s₄ := h.perm List.perm_middle
    rw [List.append_nil]
    refine add_spec G h OT r₁ ?_ e3 (B := 400) ?_ (by omega) hiv fun U s₅ h OU hs her2 => ⟨rfl, xNil ?_⟩
    · have h1 := congrArg List.length her
      have h2 := upTo_len hp2 (pss.length - n)
      rw [List.length_map] at h1; omega
    · intro e he
      rw [her] at he
      have := upTo_short hp2 (pss.length - n) e he
      omega
    · have hf := (h.sub (sub_drop2 U _ _ _)).perm List.perm_middle.symm
      rw [N.len, show pss.length - n + 1 = pss.length - (n - 1) by with_reducible exact ar2 ‹_› ‹_›] at hf
      refine ⟨n - 1, by with_reducible exact ar3 ‹_›, _, U, ok', .ref a, by with_reducible exact ar4 ‹_›, hf, OU, hs.x.trans e1, hs.dx.trans e2, hs.rv.trans e3, hs.a.trans e4, hs.b.trans e5, ?_, m1⟩
      rw [show pss.length - (n - 1) = pss.length - n + 1 by with_reducible exact ar1 ‹_› ‹_›, upTo_succ, ← her, hgd, her2, N.len]
end
end Mine
end

/-! part Cyc -/
section
open PySem PySem.W PyProof.Rows PySem.Calls
set_option maxRecDepth 100000
set_option linter.unusedVariables false
namespace Mine
set_option genInjectivity false in
set_option genSizeOfSpec false in
/-- one step of the path under way -/
structure Cf where
  k : Nat
  t : Tok
  q : Addr
  it : Addr
  oi : Obj
  pos : Nat
  d : Nd
  v : Value
noncomputable def Cf.objs (f : Cf) : List (Addr × Obj) := [(f.q, mwO f.it), (f.it, f.oi)]
noncomputable def cObjs (fs : List Cf) : List (Addr × Obj) := fs.flatMap Cf.objs
noncomputable def cStk (fs : List Cf) : List Value := (fs.map fun f => Value.int (f.k : Int) f.t).reverse
noncomputable def cIts (fs : List Cf) : List Value := (fs.map fun f => Value.ref f.q).reverse
noncomputable def cKvs (fs : List Cf) : List (Int × Value) := (fs.map fun f => ((f.k : Int), f.v)).reverse
noncomputable def unS (f : Nd → Nat) (sn : Int → Bool) : List Nd → Nat
  | [] => 0
  | d :: ds => (if sn (d.key : Int) then 0 else f d) + unS f sn ds
noncomputable def sPlus (sn : Int → Bool) (k : Nat) : Int → Bool := fun k' => sn k' || decide (k' = (k : Int))
theorem unS_same (f : Nd → Nat) (sn : Int → Bool) (k : Nat) : ∀ ds : List Nd, k ∉ ds.map (·.key) → unS f (sPlus sn k) ds = unS f sn ds
  | [], _ => rfl
  | d :: ds, h => by
    rw [List.map_cons, List.mem_cons, not_or] at h
    have e : sPlus sn k (d.key : Int) = sn (d.key : Int) := by
      unfold sPlus
      have : decide ((d.key : Int) = (k : Int)) = false := decide_eq_false (by omega)
      rw [this, Bool.or_false]
    unfold unS
    rw [e, unS_same f sn k ds h.2]
theorem unS_plus (f : Nd → Nat) (sn : Int → Bool) : ∀ {ds : List Nd} {d : Nd}, (ds.map (·.key)).Nodup → d ∈ ds → sn (d.key : Int) = false → unS f sn ds = unS f (sPlus sn d.key) ds + f d
  | e :: ds, d, hn, hd, hs => by
    rw [List.map_cons, List.nodup_cons] at hn
    unfold unS
    rcases List.mem_cons.mp hd with rfl | hd
    · rw [unS_same f sn d.key ds hn.1, hs]
      have : sPlus sn d.key (d.key : Int) = true := by simp [sPlus]
      rw [this]; simp; omega
    · have hne : e.key ≠ d.key := fun q => hn.1 (q ▸ List.mem_map_of_mem hd)
      have : sPlus sn d.key (e.key : Int) = sn (e.key : Int) := by
        unfold sPlus
        have : decide ((e.key : Int) = (d.key : Int)) = false := decide_eq_false (by omega)
        rw [this, Bool.or_false]
      rw [this, unS_plus f sn hn.2 hd hs]
      omega
noncomputable def left (fs : List Cf) : Nat := (fs.map fun f => f.d.succ.length - f.pos).sum
structure Cy (prog : Program) (w : World) (ρ : Nat → Nat) (S : So) (fs : List Cf) (sn : Int → Bool) (oE oD : Obj) (nE : Nat) : Prop where
  set : oE.SetObjOf (intKind prog w) sn nE
  cnt : nE + unS (fun _ => 1) sn S.nds ≤ S.nds.length
  dep : fs.length + unS (fun _ => 1) sn S.nds ≤ S.nds.length
  dict : oD.IsDictOf (intKind prog w) (cKvs fs)
  path : fs.Pairwise (fun a b => ρ b.k < ρ a.k)
  node : ∀ f ∈ fs, f.d ∈ S.nds ∧ f.d.key = f.k ∧ LIt f.d.l f.pos f.oi
structure CyM (S : So) (aS aI aE aD : Addr) (m : Mp) : Prop where
  n : m (Str.ofString "n2i") = some (.ref S.dN)
  s : m (Str.ofString "stack") = some (.ref aS)
  i : m (Str.ofString "itstack") = some (.ref aI)
  e : m (Str.ofString "seen") = some (.ref aE)
  d : m (Str.ofString "node2stacki") = some (.ref aD)
noncomputable def cLed (P : Params) (S : So) (aS aI aE aD : Addr) (fs : List Cf) (oE oD : Obj) (nS nI : Nat) (led : List (Addr × Obj)) : List (Addr × Obj) :=
  cObjs fs ++ ((aS, listOf (cStk fs).toArray nS) :: (aI, listOf (cIts fs).toArray nI) :: (aE, oE) :: (aD, oD) :: (S.led P ++ led))
/-- what stands where a node is looked at -/
structure Rk (ρ : Nat → Nat) (S : So) : Prop where
  up : ∀ d ∈ S.nds, ∀ k ∈ d.succ, ρ d.key < ρ k
  key : ∀ d ∈ S.nds, ∀ k ∈ d.succ, k ∈ S.nds.map (·.key)
theorem valueAt_off {fs : List Cf} {k : Nat} (h : ∀ f ∈ fs, f.k ≠ k) : valueAt (cKvs fs) (k : Int) = none := by
  unfold valueAt cKvs
  rw [Option.map_eq_none_iff, List.find?_eq_none]
  intro p hp q
  obtain ⟨f, hf, rfl⟩ := List.mem_map.mp (List.mem_reverse.mp hp)
  have : (f.k : Int) = (k : Int) := by simpa using q
  exact h f hf (by omega)
theorem stored_off {fs : List Cf} {f : Cf} (h : ∀ g ∈ fs, g.k ≠ f.k) : stored (cKvs fs) (f.k : Int) f.v = cKvs (f :: fs) := by
  unfold stored
  rw [if_neg]
  · simp [cKvs]
  · intro q
    obtain ⟨kv, h1, h2⟩ := List.any_eq_true.mp q
    obtain ⟨e, he, rfl⟩ := List.mem_map.mp (List.mem_reverse.mp h1)
    have : (e.k : Int) = (f.k : Int) := by simpa using h2
    exact h e he (by omega)
theorem without_top {fs : List Cf} {f : Cf} (h : ∀ g ∈ fs, g.k ≠ f.k) : without (cKvs (f :: fs)) (f.k : Int) = cKvs fs := by
  unfold without cKvs
  rw [List.map_cons, List.reverse_cons, List.filter_append]
  have h1 : ([((f.k : Int), f.v)] : List (Int × Value)).filter (fun kv => decide (kv.1 ≠ (f.k : Int))) = [] := by simp
  rw [h1, List.append_nil, List.filter_eq_self]
  intro p hp
  obtain ⟨g, hg, rfl⟩ := List.mem_map.mp (List.mem_reverse.mp hp)
  have := h g hg
  simp only [decide_eq_true_eq]
  omega
theorem valueAt_top {fs : List Cf} {f : Cf} (h : ∀ g ∈ fs, g.k ≠ f.k) : (valueAt (cKvs (f :: fs)) (f.k : Int)).isSome = true := by
  unfold valueAt
  rw [Option.isSome_map, List.find?_isSome]
  exact ⟨((f.k : Int), f.v), by simp [cKvs], by simp⟩
theorem f134 (w : World) : Fn w 134 := ⟨rfl, rfl, rfl, rfl, rfl, rfl, rfl⟩
theorem n134 (P : Params) (a : Value) : BT (fdAt P 134) ⟨[a], []⟩ [(Str.ofString "self", a)] := .of_eq (by kernel_rfl)
theorem g_set (w : World) : nsIn (KK w.params) mainGlobals (Str.ofString "set") = some none := by kernel_rfl
theorem b_set : bootBuiltins (Str.ofString "set") = some (.type "set") := by decide +kernel
end Mine
end

/-! part Cyc2 -/
section
open PySem PySem.W PyProof.Rows PySem.Calls
set_option maxRecDepth 100000
set_option linter.unusedVariables false
namespace Mine
section
variable {prog : Program} {w : World} {A : Around} {E : Value → Shared → Prop} {s : Shared} {h₀ : Heap} {s₀ : Shared} {frs : List (Addr × Mp)} {led : List (Addr × Obj)} {env : Env} {L : Addr} {m : Mp}
theorem fo_deep {as : List Addr} (hF : Fo A as) (hk : env.scope.kind = .function) (hf : env.frame = some L) : Fo (A.deeper env) (L :: as) ∧ ∃ envs, (A.deeper env).frames = some (env :: envs) := by
  refine ⟨hF.deeper (by rw [hk]; decide) hf, ?_⟩
  obtain ⟨envs, hE, _⟩ := id hF
  exact ⟨envs, by show A.frames.map _ = _; rw [hE]; rfl⟩
inductive cycF (prog : Program) (w : World) (h₀ : Heap) (s₀ : Shared) (L : Addr) (frs : List (Addr × Mp)) (led : List (Addr × Obj)) (ρ : Nat → Nat) (S : So) (aS aI aE aD it : Addr) (n : Nat) (s : Shared) : Prop
  | mk (m : _) (sn : _) (oE : _) (oD : _) (nE : _) (nS : _) (nI : _) (oi : _) (q1 : n ≤ S.nds.length) (q2 : At h₀ s₀ ((L, m) :: frs) (cLed w.params S aS aI aE aD [] oE oD nS nI ((it, oi) :: led)) s) (q3 : keyIt S.dN (S.nds.length - n) S.nds.length (epOf S.oN) oi) (q4 : Cy prog w ρ S [] sn oE oD nE) (q5 : CyM S aS aI aE aD m)
inductive cycW (prog : Program) (w : World) (h₀ : Heap) (s₀ : Shared) (L : Addr) (frs : List (Addr × Mp)) (led : List (Addr × Obj)) (ρ : Nat → Nat) (S : So) (aS aI aE aD : Addr) (n : Nat) (s : Shared) : Prop
  | mk (m : _) (fs : _) (sn : _) (oE : _) (oD : _) (nE : _) (nS : _) (nI : _) (d : _) (t : _) (q1 : At h₀ s₀ ((L, m) :: frs) (cLed w.params S aS aI aE aD fs oE oD nS nI led) s) (q2 : Cy prog w ρ S fs sn oE oD nE) (q3 : CyM S aS aI aE aD m) (q4 : m (Str.ofString "node") = some (.int (Nd.key d : Int) t)) (q5 : d ∈ S.nds) (q6 : (∀ f ∈ fs, ρ f.k < ρ d.key)) (q7 : n = unS (fun d => d.succ.length) sn S.nds + left fs)
inductive cycV (prog : Program) (w : World) (h₀ : Heap) (s₀ : Shared) (L : Addr) (frs : List (Addr × Mp)) (led : List (Addr × Obj)) (ρ : Nat → Nat) (S : So) (aS aI aE aD : Addr) (M n : Nat) (s : Shared) : Prop
  | mk (m : _) (fs : _) (sn : _) (oE : _) (oD : _) (nE : _) (nS : _) (nI : _) (q1 : At h₀ s₀ ((L, m) :: frs) (cLed w.params S aS aI aE aD fs oE oD nS nI led) s) (q2 : Cy prog w ρ S fs sn oE oD nE) (q3 : CyM S aS aI aE aD m) (q4 : n = fs.length) (q5 : M = unS (fun d => d.succ.length) sn S.nds + left fs)
theorem xExprA {e : Expr} {pos : Pos} {Q : Flow → Shared → Prop} (h : W prog w A (eval e env) (fun _ s' => Q .next s') E s) (hi : autoParam (interactive env = false) Mine.aRfl) (hs : autoParam (swapsWith e none pos.line env = Pure.pure false) Mine.aRfl) : W prog w A (exec (.Expr e pos) env) Q E s := ⟨wpAny_Expr_any h.w hi hs⟩
theorem xBrk {pos : Pos} {Q : Flow → Shared → Prop} (h : Q .brk s) : W prog w A (exec (.Break pos) env) Q E s := ⟨wpAny_Break h⟩
theorem xCont {pos : Pos} {Q : Flow → Shared → Prop} (h : Q .cont s) : W prog w A (exec (.Continue pos) env) Q E s := ⟨wpAny_Continue h⟩
theorem permC {a b c d e : Addr × Obj} {X Y : List (Addr × Obj)} : (a :: b :: c :: d :: (X ++ (e :: Y))).Perm (e :: d :: c :: b :: a :: (X ++ Y)) :=
  (List.perm_middle (a := e) (l₁ := a :: b :: c :: d :: X) (l₂ := Y)).trans (((List.reverse_perm [a, b, c, d]).symm.append_right (X ++ Y)).cons e)
section
variable {P : Params} {S : So} {aS aI aE aD : Addr} {fs : List Cf} {oE oD : Obj} {nS nI : Nat}
theorem cLed_mid {p : Addr × Obj} : (p :: cLed P S aS aI aE aD fs oE oD nS nI led).Perm (cLed P S aS aI aE aD fs oE oD nS nI (p :: led)) := by
  unfold cLed
  refine List.Perm.symm ?_
  have := List.perm_middle (a := p) (l₁ := cObjs fs ++ ((aS, listOf (cStk fs).toArray nS) :: (aI, listOf (cIts fs).toArray nI) :: (aE, oE) :: (aD, oD) :: S.led P)) (l₂ := led)
  simpa using this
theorem mS : (aS, listOf (cStk fs).toArray nS) ∈ cLed P S aS aI aE aD fs oE oD nS nI led := List.mem_append_right _ (.head _)
theorem mI : (aI, listOf (cIts fs).toArray nI) ∈ cLed P S aS aI aE aD fs oE oD nS nI led := List.mem_append_right _ (.tail _ (.head _))
theorem mE : (aE, oE) ∈ cLed P S aS aI aE aD fs oE oD nS nI led := List.mem_append_right _ (.tail _ (.tail _ (.head _)))
theorem mD : (aD, oD) ∈ cLed P S aS aI aE aD fs oE oD nS nI led := List.mem_append_right _ (.tail _ (.tail _ (.tail _ (.head _))))
theorem mX {p : Addr × Obj} (h : p ∈ S.led P ++ led) : p ∈ cLed P S aS aI aE aD fs oE oD nS nI led := List.mem_append_right _ (.tail _ (.tail _ (.tail _ (.tail _ h))))
theorem rIt' {it : Addr} {oi o' : Obj} : Rep it oi o' (cLed P S aS aI aE aD fs oE oD nS nI ((it, oi) :: led)) (cLed P S aS aI aE aD fs oE oD nS nI ((it, o') :: led)) := Rep.right _ (.tail (.tail (.tail (.tail (Rep.right _ .head)))))
theorem rE {o' : Obj} : Rep aE oE o' (cLed P S aS aI aE aD fs oE oD nS nI led) (cLed P S aS aI aE aD fs o' oD nS nI led) := Rep.right _ (.tail (.tail .head))
end
theorem CyM.put {S : So} {aS aI aE aD : Addr} {m : Mp} {v : Option Value} (M : CyM S aS aI aE aD m) : CyM S aS aI aE aD (fun y => if y = Str.ofString "node" then v else m y) := ⟨M.n, M.s, M.i, M.e, M.d⟩
set_option maxHeartbeats 1000000
theorem cyc_spec {R : Result → Shared → Prop} {j : Nat} (G : Gr w h₀) {S : So} {ρ : Nat → Nat} (h : At h₀ s₀ frs (S.led w.params ++ led) s) (O : S.Ok prog w) (K : Rk ρ S) (r : Rm A (j + 3)) (hF : Fo A (frs.map (·.1)))
    (kk : ∀ s', At h₀ s₀ frs (S.led w.params ++ led) s' → R (.ok (.ret .none)) s') : C prog w A (.call (.ref 134) ⟨[.ref S.x], []⟩) R s := by
  refine callIn G (f134 w) h r (n134 w.params _) (by kernel_rfl) fun L s₁ h r₁ => ?_
  obtain ⟨hF₁, envs, hfr⟩ := fo_deep (L := L) (env := envAt w.params 134 L) hF rfl rfl
  refine xCons (xAsg (eAttr (ldL h rfl (gN G h fun s h => stL h fun s h => ?_))))
  refine xCons (xAsg (dList (iNil ⟨Nat.le_of_ble_eq_true rfl, _, _, _, _, h, fun aS s h => stL h fun s h => ?_⟩)))
  refine xCons (xAsg (dList (iNil ⟨Nat.le_of_ble_eq_true rfl, _, _, _, _, h, fun aI s h => stL h fun s h => ?_⟩)))
  refine xCons (xAsg (cT0 G h (g_set w) b_set (fSet0 h fun aE oE s hE h => stL h fun s h => ?_)))
  refine xCons (xAsg (dEmpty G h fun aD s haD h => stL h fun s h => ?_))
  refine xCons (xFor (ldL h rfl (itD h (.tail _ (.tail _ (.tail _ (.tail _ (S.m3 led))))) O.dict O.sm fun it oi s hi h => ⟨cycF prog w h₀ s₀ L frs led ρ S aS aI aE aD it, S.nds.length, ?_, fun n s hI => ?_⟩)))
  · refine ⟨_, fun _ => false, oE, dictOf [] 0, 0, 0, 0, oi, Nat.le_refl _, h.perm permC, by rw [Nat.sub_self]; rw [show (kvsOf S.nds).length = S.nds.length by simp [kvsOf]] at hi; exact hi, ⟨hE, ?_, ?_, isDict_nil, .nil, fun _ q => nomatch q⟩, ⟨rfl, rfl, rfl, rfl, rfl⟩⟩
    all_goals (have : ∀ ds : List Nd, unS (fun _ => 1) (fun _ => false) ds = ds.length := fun ds => by
                induction ds with
                | nil => rfl
                | cons d ds ih => unfold unS; rw [ih]; simp; omega
               rw [this]; simp)
  obtain ⟨m, sn, oE, oD, nE, nS, nI, oi, hn, h, hi, Y, M⟩ := hI
  have hkl : (kvsOf S.nds).length = S.nds.length := by simp [kvsOf]
  by_cases hn0 : n = 0
  · subst hn0
    have h := h.perm (led' := (it, oi) :: cLed w.params S aS aI aE aD [] oE oD nS nI led) cLed_mid
    refine nxDend h r₁.handled (by rw [hkl]; exact hi) (mX (S.m3 led)) O.dict (by rw [List.getElem?_eq_none_iff]; simp [kvsOf]) fun s h => xNil ?_
    refine xCons (xRet (cNone ?_))
    exact kk _ (h.drop 4).pop
  · have hlt : S.nds.length - n < S.nds.length := by with_reducible exact ar5 ‹_› ‹_›
    have hxk : (kvsOf S.nds)[S.nds.length - n]? = some (((S.nds[S.nds.length - n]).key : Int), Value.ref (S.nds[S.nds.length - n]).x) := by simp [kvsOf, hlt]
    have hdm : S.nds[S.nds.length - n] ∈ S.nds := List.getElem_mem hlt
    generalize S.nds[S.nds.length - n] = d at hxk hdm
    refine nxD h (fun o' => rIt') (by rw [hkl]; exact hi) (mX (S.m3 _)) O.dict hxk fun t oi' s hi h => aName (stL h fun s h => ?_)
    rw [hkl] at hi
    have M := M.put (v := some (.int (d.key : Int) t))
    have hcnt := Y.cnt
    have hfew := O.few
    refine xCons (xIf (tCmp (ldL h rfl (ldL h M.e (sIn h mE Y.set (by rw [show scanBound = 4096 from rfl]; omega) fun s h => tBool ?_)))))
    cases hs : sn (d.key : Int) with
    | true =>
      first | refine iteT rfl ?_ | rw [if_pos rfl]
      refine xCons (xCont ⟨n - 1, by with_reducible exact ar3 ‹_›, _, sn, oE, oD, nE, nS, nI, oi', by with_reducible exact ar4 ‹_›, h, ?_, Y, M⟩)
      rw [show S.nds.length - (n - 1) = S.nds.length - n + 1 by with_reducible exact ar1 ‹_› ‹_›]; exact hi
    | false =>
      first | refine ifF rfl ?_ | rw [if_neg (by decide)]
      refine xNil ?_
      refine xCons (xWhile (cycW prog w h₀ s₀ L frs ((it, oi') :: led) ρ S aS aI aE aD) (fun N s hW => ?_) _ ⟨_, [], sn, oE, oD, nE, nS, nI, d, t, h, Y, M, rfl, hdm, (fun _ q => nomatch q), rfl⟩)
      obtain ⟨m, fs, sn, oE, oD, nE, nS, nI, d, t, h, Y, M, mn, hd, hup, hN⟩ := hW
      refine tVal (cBool (tBool ?_))
      first | refine iteT rfl ?_ | rw [if_pos rfl]
      have hoff : ∀ f ∈ fs, f.k ≠ d.key := fun f hf q => by have := hup f hf; rw [q] at this; exact Nat.lt_irrefl _ this
      have hcnt := Y.cnt
      have hdep := Y.dep
      refine xSeq (fun s => ∃ k, cycV prog w h₀ s₀ L frs ((it, oi') :: led) ρ S aS aI aE aD N k s) (xIf (tCmp (ldL h mn (ldL h M.e (sIn h mE Y.set (by rw [show scanBound = 4096 from rfl]; omega) fun s h => tBool ?_))))) fun s hV => ?_
      · cases hs : sn (d.key : Int) with
        | true =>
          first | refine iteT rfl ?_ | rw [if_pos rfl]
          refine xCons (xIf (tCmp (ldL h mn (ldL h M.d (dIn h mD Y.dict haD fun s h => tBool ?_)))))
          rw [valueAt_off hoff, if_neg (by decide)]
          refine xNil (xNil ⟨rfl, _, m, fs, sn, oE, oD, nE, nS, nI, h, Y, M, rfl, hN⟩)
        | false =>
          first | refine ifF rfl ?_ | rw [if_neg (by decide)]
          refine xCons (xExpr (cMeth F.plainAttrs_set F.slot_set_add F.type_set_add (ldL h M.e ⟨h.plainSet mE Y.set (by rw [show scanBound = 4096 from rfl]; omega), iCons (ldL h mn (iNil (sAdd h (fun o' => rE) Y.set (by rw [show scanBound = 4096 from rfl]; omega) fun oE' s hE h => ⟨rfl, ?_⟩)))⟩)))
          rw [hs] at hE
          refine xCons (xExpr (cMeth F.plainAttrs_list F.slot_list_append F.type_list_append (ldL h M.i ⟨h.plainList mI, iCons ?_⟩)))
          refine eAttr (cB G h (g_iter w) b_iter (iCons (eAttr (eSub (ldL h M.n (ldL h mn (dItem h (mX (S.m3 _)) O.dict (valueAt_some O.nd hd) fun s h => ?_)))))))
          refine gSlot G (cl47 w) h (mX (S.m4 _ hd (.head _))) (mX (S.m4 _ hd (.tail _ (.head _)))) (by kernel_rfl) (s50 w) rfl fun s h => iNil ?_
          refine fIter0 h (mX (S.m4 _ hd (.tail _ (.tail _ (.head _))))) fun ii s h => gNext h (.head _) fun q s h => iNil ?_
          refine fAppend h (.tail (.tail (Rep.right (cObjs fs) (.tail .head)))) (by rw [sizeLine_eq]; simp [cIts]; with_reducible exact ar19 ‹_› ‹_› (by decide)) fun s h => ⟨rfl, ?_⟩
          refine xCons (xAsgSub (cB G h (g_len w) b_len (iCons (ldL h M.s (iNil ?_)))))
          refine fLen h (.tail _ (.tail _ (List.mem_append_right _ (.head _)))) (by simp [cStk]; with_reducible exact ar19 ‹_› ‹_› (by decide)) fun tl s h => ldL h M.d (ldL h mn ?_)
          refine dSet h (fun o' => .tail (.tail (Rep.right (cObjs fs) (.tail (.tail (.tail .head)))))) Y.dict (by simp [cKvs]; with_reducible exact ar19 ‹_› ‹_› (by decide)) fun oD' s hD h => ?_
          refine xCons (xExpr (cMeth F.plainAttrs_list F.slot_list_append F.type_list_append (ldL h M.s ⟨h.plainList (.tail _ (.tail _ (List.mem_append_right _ (.head _)))), iCons (ldL h mn (iNil ?_))⟩)))
          refine fAppend h (.tail (.tail (Rep.right (cObjs fs) .head))) (by rw [sizeLine_eq]; simp [cStk]; with_reducible exact ar19 ‹_› ‹_› (by decide)) fun s h => ⟨rfl, xNil ⟨rfl, ?_⟩⟩
          let f : Cf := ⟨d.key, t, q, ii, litO d.l 0, 0, d, .int ((cStk fs).length : Int) tl⟩
          have hD : oD'.IsDictOf (intKind prog w) (cKvs (f :: fs)) := by rw [← stored_off (f := f) hoff]; exact hD
          have e1 : cStk fs ++ [Value.int (d.key : Int) t] = cStk (f :: fs) := by simp [cStk, f]
          have e2 : cIts fs ++ [Value.ref q] = cIts (f :: fs) := by simp [cIts, f]
          rw [e1, e2] at h
          have h1 := unS_plus (fun _ => 1) sn O.nd hd hs
          have h2 := unS_plus (fun d => d.succ.length) sn O.nd hd hs
          refine ⟨_, m, f :: fs, sPlus sn d.key, oE', oD', nE + 1, _, _, h, ⟨hE, by omega, by simp only [List.length_cons]; omega, hD, List.pairwise_cons.mpr ⟨hup, Y.path⟩, fun g hg => ?_⟩, M, rfl, ?_⟩
          · rcases List.mem_cons.mp hg with rfl | hg
            · exact ⟨hd, rfl, rfl, rfl⟩
            · exact Y.node g hg
          · simp only [left, List.map_cons, List.sum_cons] at hN ⊢
            show N = _ + ((d.succ.length - 0) + _)
            omega
      · obtain ⟨k, hV⟩ := hV
        refine xCons (xWhile (cycV prog w h₀ s₀ L frs ((it, oi') :: led) ρ S aS aI aE aD N) (fun k s hV => ?_) k hV)
        obtain ⟨m, fs, sn, oE, oD, nE, nS, nI, h, Y, M, hk, hN⟩ := hV
        have hdep := Y.dep
        have hfl : fs.length ≤ 900 := by with_reducible exact ar19 ‹_› ‹_› (by decide)
        refine tVal (ldL h M.s (tList h mS (by simp [cStk]; with_reducible exact Nat.le_trans ‹_› (by decide)) fun s h => ?_))
        cases fs with
        | nil =>
          rw [if_neg (show ¬ ((!(cStk []).isEmpty) = true) by decide)]
          refine xCons (xBrk (xNil ⟨n - 1, by with_reducible exact ar3 ‹_›, _, sn, oE, oD, nE, nS, nI, oi', by with_reducible exact ar4 ‹_›, h, ?_, Y, M⟩))
          rw [show S.nds.length - (n - 1) = S.nds.length - n + 1 by with_reducible exact ar1 ‹_› ‹_›]; exact hi
        | cons f fs =>
          have hne : (!(cStk (f :: fs)).isEmpty) = true := by simp [cStk]
          first | refine iteT hne ?_ | rw [if_pos hne]
          have hfl2 := hfl
          simp only [List.length_cons] at hfl2
          have e1 : cStk (f :: fs) = cStk fs ++ [Value.int (f.k : Int) f.t] := by simp [cStk]
          have e2 : cIts (f :: fs) = cIts fs ++ [Value.ref f.q] := by simp [cIts]
          obtain ⟨hfd, hfk, hfl'⟩ := Y.node f (.head _)
          have hpath := List.pairwise_cons.mp Y.path
          have hoff : ∀ g ∈ fs, g.k ≠ f.k := fun g hg q => by have := hpath.1 g hg; rw [q] at this; exact Nat.lt_irrefl _ this
          have hvl := (O.vals f.d hfd).length
          simp only [natI, List.length_map] at hvl
          refine xCons (xTry (h₀ := h₀) (s₀ := s₀) (L := L) G (xCons (xAsg (cMw (eSub (ldL h M.i (eNeg (cI h fun u s h => jNeg h fun u s h => lLast h (e2 ▸ mI) ⟨f.q, f.it, rfl, h.get _ (.head _), ?_⟩))))))) hfr rfl)
          cases hp : f.d.succ[f.pos]? with
          | some c =>
            obtain ⟨tc, hv⟩ := natI_get (O.vals f.d hfd) hp
            have hcs : c ∈ f.d.succ := List.mem_of_getElem? hp
            obtain ⟨d', hd', hk'⟩ := List.mem_map.mp (K.key _ hfd c hcs)
            refine mwItem h (fun o' => .tail .head) hfl' (mX (S.m4 _ hfd (.tail _ (.tail _ (.head _))))) hv fun o' s ho h => stL h fun s h => xCons (xBrk (xNil ?_))
            have hlt : f.pos < f.d.succ.length := (List.getElem?_eq_some_iff.mp hp).1
            refine ⟨N - 1, ?_, _, { f with pos := f.pos + 1, oi := o' } :: fs, sn, oE, oD, nE, nS, nI, d', tc, h, ⟨Y.set, Y.cnt, Y.dep, Y.dict, List.pairwise_cons.mpr hpath, fun g hg => ?_⟩, M.put, ?_, hd', fun g hg => ?_, ?_⟩
            · simp only [left, List.map_cons, List.sum_cons] at hN; with_reducible exact arB ‹_› ‹_›
            · rcases List.mem_cons.mp hg with rfl | hg
              · exact ⟨hfd, hfk, ho⟩
              · exact Y.node g (.tail _ hg)
            · show some _ = some _
              rw [hk']
            · rw [hk']
              have h1 := K.up _ hfd c hcs
              rw [hfk] at h1
              rcases List.mem_cons.mp hg with rfl | hg
              · exact h1
              · exact Nat.lt_trans (hpath.1 g hg) h1
            · simp only [left, List.map_cons, List.sum_cons] at hN ⊢
              with_reducible exact arA ‹_› ‹_›
          | none =>
            have hv : f.d.vs[f.pos]? = none := by rw [List.getElem?_eq_none_iff] at hp ⊢; omega
            refine mwStop (h.perm (List.Perm.swap _ _ _)) r₁.handled hfl' (.tail _ (List.mem_append_right _ (.tail _ (.tail _ (.tail _ (.tail _ (S.m4 _ hfd (.tail _ (.tail _ (.head _)))))))))) hv fun e te s h => ⟨(L, m) :: frs, _, e, rfl, hF₁, .inl ⟨te, h⟩, fun E' s h => ?_⟩
            have h := h.drop 1
            rw [e1, e2] at h
            refine xCons (xDel (ldL h M.d (cPop (ldL h M.s ⟨_, _, _, rfl, h, by simp [cStk]; omega, Rep.right _ .head, fun s h => ?_⟩))))
            refine dDel h (fun o' => Rep.right _ (.tail (.tail (.tail .head)))) Y.dict (by simp [cKvs]; omega) (valueAt_top hoff) fun oD' s hD h => ?_
            rw [without_top hoff] at hD
            refine xCons (xExprA (cPop (ldL h M.i ⟨_, _, _, rfl, h, by simp [cIts]; omega, Rep.right _ (.tail .head), fun s h => xNil ?_⟩)))
            refine xNil ⟨k - 1, ?_, m, fs, sn, oE, oD', nE, _, _, h, ⟨Y.set, Y.cnt, ?_, hD, hpath.2, fun g hg => Y.node g (.tail _ hg)⟩, M, ?_, ?_⟩
            · simp only [List.length_cons] at hk; with_reducible exact arM2 ‹_›
            · simp only [List.length_cons] at hdep; omega
            · simp only [List.length_cons] at hk; with_reducible exact arM ‹_›
            · rw [List.getElem?_eq_none_iff] at hp
              simp only [left, List.map_cons, List.sum_cons] at hN ⊢
              with_reducible exact arC ‹_› ‹_›
end
end Mine
end

/-! part Prep -/
section
open PySem PySem.W PyProof.Rows PySem.Calls
set_option maxRecDepth 100000
set_option linter.unusedVariables false
namespace Mine
noncomputable def readyOf (ds : List Nd) : List Nat := (ds.filter fun d => decide (d.np = 0)).map (·.key)
theorem f99 (w : World) : Fn w 99 := ⟨rfl, rfl, rfl, rfl, rfl, rfl, rfl⟩
theorem n99 (P : Params) (a : Value) : BT (fdAt P 99) ⟨[a], []⟩ [(Str.ofString "self", a)] := .of_eq (by kernel_rfl)
section
variable {prog : Program} {w : World} {A : Around} {E : Value → Shared → Prop} {s : Shared} {h₀ : Heap} {s₀ : Shared} {frs : List (Addr × Mp)} {led : List (Addr × Obj)} {env : Env} {L : Addr} {m : Mp}
theorem tNone {Q : Bool → Shared → Prop} (h : Q false s) : W prog w A (truthy .none) Q E s := ⟨wpAny_of_eq (a := false) rfl h⟩
inductive prI (h₀ : Heap) (s₀ : Shared) (P : Params) (c : Addr) (frs : List (Addr × Mp)) (led : List (Addr × Obj)) (S : So) (D it v : Addr) (n : Nat) (s : Shared) : Prop
  | mk (m : _) (oi : _) (vs : _) (nD : _) (q1 : n ≤ S.nds.length) (q2 : At h₀ s₀ ((c, m) :: frs) ((D, listOf (List.toArray vs) nD) :: (it, oi) :: (v, valsO S.dN) :: (S.led P ++ led)) s) (q3 : valIt S.dN (S.nds.length - n) S.nds.length (epOf S.oN) oi) (q4 : IntsAre vs (natI (readyOf (S.nds.take (S.nds.length - n)))))
theorem prep_spec {R : Result → Shared → Prop} {j : Nat} (G : Gr w h₀) {S : So} {ρ : Nat → Nat} (h : At h₀ s₀ frs (S.led w.params ++ led) s) (O : S.Ok prog w) (K : Rk ρ S) (r : Rm A (j + 5)) (hF : Fo A (frs.map (·.1))) (hrv : S.rv = .none)
    (kk : ∀ D vs nD s', At h₀ s₀ frs (({ S with rv := .ref D } : So).led w.params ++ ((D, listOf (List.toArray vs) nD) :: led)) s' → IntsAre vs (natI (readyOf S.nds)) → R (.ok (.ret .none)) s') : C prog w A (.call (.ref 99) ⟨[.ref S.x], []⟩) R s := by
  refine callIn G (f99 w) h r (n99 w.params _) (by kernel_rfl) fun L s₁ h r₁ => ?_
  obtain ⟨hF₁, envs, hfr⟩ := fo_deep (L := L) (env := envAt w.params 99 L) hF rfl rfl
  obtain ⟨m, m1, h⟩ : ∃ m : Mp, m (Str.ofString "self") = some (.ref S.x) ∧ At h₀ s₀ ((L, m) :: frs) (S.led w.params ++ led) s₁ := ⟨_, rfl, h⟩
  refine xCons (xIf (tCmp (eAttr (ldL h m1 (gR G h (by rw [hrv]; rfl) fun s₂ h => cNone (kIsN (tBool ?_)))))))
  first | refine iteF (by rw [hrv]; decide) ?_ | rw [hrv, if_neg (by decide)]
  refine xNil ?_
  have hkl : (kvsOf S.nds).length = S.nds.length := by simp [kvsOf]
  have hfew := O.few
  refine xCons (xAsgAttr (lComp (cMeth0 F.plainAttrs_dict F.slot_dict_values F.type_dict_values (eAttr (ldL h m1 (gN G h fun s h => ⟨h.plainDict (S.m3 led) O.dict, dValues h (S.m3 led) O.dict O.sm fun v s h => itV h (.head _) (.tail _ (S.m3 led)) O.dict fun it oi s hi h => ⟨_, _, h, fun c D s h => ⟨it2V h (.tail _ (.head _)) hi, prI h₀ s₀ w.params c ((L, m) :: frs) led S D it v, S.nds.length, ?_, fun n s hI => ?_⟩⟩⟩))))))
  · refine ⟨_, oi, [], 0, Nat.le_refl _, h, by rw [Nat.sub_self, ← hkl]; exact hi, ?_⟩
    rw [Nat.sub_self, List.take_zero]; exact .nil
  obtain ⟨mc, oi, vs, nD, hn, h, hi, hiv⟩ := hI
  by_cases hn0 : n = 0
  · subst hn0
    rw [Nat.sub_zero, List.take_length] at hiv
    refine nxVend (h.perm (List.Perm.swap _ _ _)) r₁.handled (by rw [hkl]; exact hi) (.tail _ (.tail _ (S.m3 _))) O.dict (by rw [List.getElem?_eq_none_iff]; simp [kvsOf]) fun s h => ⟨_, _, h, fun s h => ?_⟩
    refine ldL h m1 (sOwn G (cl144 w) h (.tail _ (.tail _ (S.m1 _))) (led' := fun t => (D, listOf vs.toArray nD) :: (v, valsO S.dN) :: (({ S with rv := .ref D } : So).led w.params ++ led)) (fun t => .tail (.tail (.tail .head))) (Nat.le_of_ble_eq_true rfl) rfl fun t s h => ?_)
    have h := (h.keep1 1).perm (led' := ({ S with rv := .ref D } : So).led w.params ++ ((D, listOf vs.toArray nD) :: led)) List.perm_middle
    have OT : ({ S with rv := .ref D } : So).Ok prog w := ⟨O.dict, O.sm, O.nd, O.vals, O.few⟩
    have KT : Rk ρ ({ S with rv := .ref D } : So) := ⟨K.up, K.key⟩
    refine xCons (xAsg (cInst0 G (cl144 w) (f134 w) (x := S.x) (ldL h m1 ⟨_, _, rfl, h, So.m1 _ _, So.m2 _ _, ?_⟩)))
    refine cyc_spec (S := { S with rv := .ref D }) G h OT KT r₁ hF₁ fun s h => stL h fun s h => xCons (xIf (tVal (ldL h rfl (tNone ?_))))
    first | refine ifF rfl ?_ | rw [if_neg (by decide)]
    exact xNil (xNil (kk D vs nD _ h.pop hiv))
  · have hlt : S.nds.length - n < S.nds.length := by with_reducible exact ar5 ‹_› ‹_›
    have hxk : (kvsOf S.nds)[S.nds.length - n]? = some (((S.nds[S.nds.length - n]).key : Int), Value.ref (S.nds[S.nds.length - n]).x) := by simp [kvsOf, hlt]
    have hdm : S.nds[S.nds.length - n] ∈ S.nds := List.getElem_mem hlt
    have htk : S.nds.take (S.nds.length - n + 1) = S.nds.take (S.nds.length - n) ++ [S.nds[S.nds.length - n]] := List.take_succ_eq_append_getElem hlt
    generalize S.nds[S.nds.length - n] = d at hxk hdm htk
    refine nxV h (fun o' => .tail .head) (by rw [hkl]; exact hi) (.tail _ (.tail _ (.tail _ (S.m3 _)))) O.dict hxk fun oi' s hi h => aName (stL h fun s h => tst1 ?_)
    rw [hkl] at hi
    have hx : (d.x, iObj 47 d.dx #[some (.int (d.key : Int) d.t), some (.int d.np d.u), some (.ref d.l)]) ∈ (D, listOf (List.toArray vs) nD) :: (it, oi') :: (v, valsO S.dN) :: (S.led w.params ++ led) := .tail _ (.tail _ (.tail _ (S.m4 _ hdm (.head _))))
    have hdx : (d.dx, dictOf [] 0) ∈ (D, listOf (List.toArray vs) nD) :: (it, oi') :: (v, valsO S.dN) :: (S.led w.params ++ led) := .tail _ (.tail _ (.tail _ (S.m4 _ hdm (.tail _ (.head _)))))
    refine tCmp (eAttr (ldL h rfl (gSlot G (cl47 w) h hx hdx (by kernel_rfl) (s49 w) rfl fun s h => cI h fun t s h => kEq (tBool ?_))))
    have hlen := hiv.length
    have hrl : ∀ ds : List Nd, (natI (readyOf ds)).length ≤ ds.length := fun ds => by simp only [natI, readyOf, List.length_map]; exact List.length_filter_le _ _
    have hr2 := hrl (S.nds.take (S.nds.length - n))
    rw [List.length_take] at hr2
    by_cases hnp : d.np = 0
    · first | refine iteT (by simpa using hnp) ?_ | rw [if_pos (by simpa using hnp)]
      refine eAttr (ldL h rfl (gSlot G (cl47 w) h hx hdx (by kernel_rfl) (s48 w) rfl fun s h => fAppend h .head (by rw [sizeLine_eq]; with_reducible exact arJ ‹_› ‹_› ‹_› (by decide)) fun s h => ⟨n - 1, by with_reducible exact ar3 ‹_›, _, oi', _, _, by with_reducible exact ar4 ‹_›, h, ?_, ?_⟩))
      · rw [show S.nds.length - (n - 1) = S.nds.length - n + 1 by with_reducible exact ar1 ‹_› ‹_›]; exact hi
      · rw [show S.nds.length - (n - 1) = S.nds.length - n + 1 by with_reducible exact ar1 ‹_› ‹_›, htk]
        have e : readyOf (S.nds.take (S.nds.length - n) ++ [d]) = readyOf (S.nds.take (S.nds.length - n)) ++ [d.key] := by simp [readyOf, List.filter_append, hnp]
        rw [e, natI_app]
        exact hiv.append (.cons _ _ .nil)
    · first | refine iteF (by simpa using hnp) ?_ | rw [if_neg (by simpa using hnp)]
      refine ⟨n - 1, by with_reducible exact ar3 ‹_›, _, oi', _, _, by with_reducible exact ar4 ‹_›, h, ?_, ?_⟩
      · rw [show S.nds.length - (n - 1) = S.nds.length - n + 1 by with_reducible exact ar1 ‹_› ‹_›]; exact hi
      · rw [show S.nds.length - (n - 1) = S.nds.length - n + 1 by with_reducible exact ar1 ‹_› ‹_›, htk]
        have e : readyOf (S.nds.take (S.nds.length - n) ++ [d]) = readyOf (S.nds.take (S.nds.length - n)) := by simp [readyOf, List.filter_append, hnp]
        rw [e]; exact hiv
end
end Mine
end

/-! part Ready -/
section
open PySem PySem.W PyProof.Rows PySem.Calls
set_option maxRecDepth 100000
set_option linter.unusedVariables false
namespace Mine
noncomputable def outG (rs : List Nat) (g : List Gn) : List Gn := rs.foldl (fun g k => updK k (fun e => (e.1, -1, e.2.2)) g) g
theorem updK_keys {k : Nat} {f : Gn → Gn} (hf : ∀ e, (f e).1 = e.1) (g : List Gn) : (updK k f g).map (·.1) = g.map (·.1) := by
  unfold updK
  rw [List.map_map]
  apply List.map_congr_left
  intro e _
  show (if e.1 = k then f e else e).1 = e.1
  split
  · exact hf e
  · rfl
theorem outG_keys : ∀ (rs : List Nat) (g : List Gn), (outG rs g).map (·.1) = g.map (·.1)
  | [], g => rfl
  | r :: rs, g => by
    show (outG rs (updK r _ g)).map (·.1) = _
    rw [outG_keys rs]
    exact updK_keys (f := fun e => (e.1, -1, e.2.2)) (fun e => rfl) g
theorem outG_take {rs : List Nat} {i : Nat} {k : Nat} (h : rs[i]? = some k) (g : List Gn) : outG (rs.take (i + 1)) g = updK k (fun e => (e.1, -1, e.2.2)) (outG (rs.take i) g) := by
  unfold outG
  rw [List.take_add_one, h, List.foldl_append]; rfl
theorem f106 (w : World) : Fn w 106 := ⟨rfl, rfl, rfl, rfl, rfl, rfl, rfl⟩
theorem n106 (P : Params) (a : Value) : BT (fdAt P 106) ⟨[a], []⟩ [(Str.ofString "self", a)] := .of_eq (by kernel_rfl)
theorem g_out (w : World) : nsIn (KK w.params) mainGlobals (Str.ofString "_NODE_OUT") = some (some (.int (-1) 208)) := by kernel_rfl
theorem g_done (w : World) : nsIn (KK w.params) mainGlobals (Str.ofString "_NODE_DONE") = some (some (.int (-2) 211)) := by kernel_rfl
theorem g_tuple (w : World) : nsIn (KK w.params) mainGlobals (Str.ofString "tuple") = some none := by kernel_rfl
theorem b_tuple : bootBuiltins (Str.ofString "tuple") = some (.type "tuple") := by decide +kernel
section
variable {prog : Program} {w : World} {A : Around} {E : Value → Shared → Prop} {s : Shared} {h₀ : Heap} {s₀ : Shared} {frs : List (Addr × Mp)} {led : List (Addr × Obj)} {env : Env} {L : Addr} {m : Mp}
theorem fTuple {l : Addr} {vs : List Value} {n : Nat} {Q : Value → Shared → Prop} (h : At h₀ s₀ frs led s) (hl : (l, listOf vs.toArray n) ∈ led) (hz : vs.length ≤ 1000) (k : ∀ t s', At h₀ s₀ frs ((t, tupOf vs.toArray 0) :: led) s' → Q (.ref t) s') : W prog w A (call (.type "tuple") [.ref l]) Q E s :=
  ⟨call_tuple_list (h.isList hl) (fun h' hk => k _ _ ((h.grow (t := s.toks) hk).push (tupOf vs.toArray 0) rfl s.toks)) (by rw [sizeLine_eq]; simp; with_reducible exact Nat.le_trans ‹_› (by decide))⟩
theorem cClear {o : Expr} {apos pos : Pos} {l : Addr} {vs : List Value} {n : Nat} {Q : Value → Shared → Prop} {led' : Nat → List (Addr × Obj)} (h : W prog w A (eval o env) (fun ov s₁ => ∃ frs led, ov = .ref l ∧ At h₀ s₀ frs led s₁ ∧ vs.length ≤ 1000 ∧ (∀ n', Rep l (listOf vs.toArray n) (listOf ([] : List Value).toArray n') led (led' n')) ∧ ∀ n' s', At h₀ s₀ frs (led' n') s' → Q .none s') E s)
    (hbase : autoParam (attributeBase o (Str.ofString "clear") env (eval o env) = eval o env) Mine.aRfl) (hline : autoParam ((apos.endLine == pos.line) = true) Mine.aRfl) : W prog w A (eval (.Call (.Attribute o (Str.ofString "clear") apos) [] [] pos) env) Q E s := by
  refine ⟨wpAny_Call_method hbase rfl hline F.plainAttrs_list F.slot_list_clear F.type_list_clear (up h fun ov s₁ ⟨frs, led, e, hat, hz, r, k⟩ => ?_)⟩
  subst e
  refine ⟨(hat.plainList (r 0).mem).1, (hat.plainList (r 0).mem).2, ?_⟩
  refine PySem.P.clear_list (hat.get _ (r 0).mem) (k (if ((#[] : Array Value).size == vs.toArray.size) = true then n else n + 1) _ (hat.upd (t := s₁.toks) (r _) ?_)) (by rw [sizeLine_eq]; simp; with_reducible exact Nat.le_trans ‹_› (by decide))
  rfl
inductive grI (prog : Program) (w : World) (h₀ : Heap) (s₀ : Shared) (L : Addr) (frs : List (Addr × Mp)) (led : List (Addr × Obj)) (S : So) (it tp : Addr) (rs : List Nat) (vs : List Value) (n : Nat) (s : Shared) : Prop
  | mk (m : _) (T : _) (o : _) (q1 : n ≤ rs.length) (q2 : At h₀ s₀ ((L, m) :: frs) (So.led w.params T ++ ((it, o) :: (tp, tupOf (List.toArray vs) 0) :: led)) s) (q3 : TIt tp (rs.length - n) o) (q4 : T.Ok prog w) (q5 : S.Same T) (q6 : T.nds.map Nd.er = outG (rs.take (rs.length - n)) (S.nds.map Nd.er)) (q7 : m (Str.ofString "self") = some (.ref S.x)) (q8 : m (Str.ofString "n2i") = some (.ref S.dN)) (q9 : m (Str.ofString "result") = some (.ref tp))
theorem ready_spec {R : Result → Shared → Prop} {j : Nat} (G : Gr w h₀) {S : So} {aR : Addr} {vs : List Value} {nR : Nat} {rs : List Nat} (h : At h₀ s₀ frs (S.led w.params ++ ((aR, listOf vs.toArray nR) :: led)) s) (O : S.Ok prog w) (r : Rm A (j + 3)) (hrv : S.rv = .ref aR) (hi : IntsAre vs (natI rs)) (hrs : ∀ k ∈ rs, k ∈ S.nds.map (·.key)) (hz : rs.length ≤ 900)
    (kk : ∀ (T : So) tp n' s', At h₀ s₀ frs (T.led w.params ++ ((tp, tupOf vs.toArray 0) :: (aR, listOf ([] : List Value).toArray n') :: led)) s' → T.Ok prog w → T.x = S.x → T.dx = S.dx → T.rv = S.rv → T.a = S.a + (rs.length : Int) → T.b = S.b → T.nds.map Nd.er = outG rs (S.nds.map Nd.er) → R (.ok (.ret (.ref tp))) s') : C prog w A (.call (.ref 106) ⟨[.ref S.x], []⟩) R s := by
  have hlen : vs.length = rs.length := by rw [hi.length]; simp [natI]
  refine callIn G (f106 w) h r (n106 w.params _) (by kernel_rfl) fun L s₁ h r₁ => ?_
  refine xCons (xIf (tCmp (eAttr (ldL h rfl (gR G h (by rw [hrv]; rfl) fun s₂ h => cNone (kIs (tBool ?_)))))))
  first | refine iteF (by rw [hrv]; exact (show ¬ ((Value.ref aR == Value.none) = true) from Bool.false_ne_true)) ?_ | rw [hrv, if_neg (show ¬ ((Value.ref aR == Value.none) = true) from Bool.false_ne_true)]
  refine xNil ?_
  refine xCons (xAsg (cT G h (g_tuple w) b_tuple (iCons (eAttr (ldL h rfl (gR G h (by rw [hrv]; rfl) fun s h => iNil ?_))))))
  rw [hrv]
  refine fTuple h (List.mem_append_right _ (.head _)) (by with_reducible exact ar8 ‹_› ‹_› (by decide)) fun tp s h => stL h fun s h => ?_
  have h := h.perm (led' := S.led w.params ++ ((tp, tupOf vs.toArray 0) :: (aR, listOf vs.toArray nR) :: led)) List.perm_middle
  refine xCons (xAsg (eAttr (ldL h rfl (gN G h fun s h => stL h fun s h => ?_))))
  refine xCons (xFor (ldL h rfl (itT h (List.mem_append_right _ (.head _)) fun it o s ho h => ⟨grI prog w h₀ s₀ L frs ((aR, listOf vs.toArray nR) :: led) S it tp rs vs, rs.length, ⟨_, S, o, Nat.le_refl _, h.perm List.perm_middle, by rw [Nat.sub_self]; exact ho, O, .refl S, by rw [Nat.sub_self]; rfl, rfl, rfl, rfl⟩, fun n s hI => ?_⟩)))
  obtain ⟨m, T, o, hn, h, ho, OT, hs, her, m1, m2, m3⟩ := hI
  by_cases hn0 : n = 0
  · subst hn0
    have h := h.perm (List.perm_middle (a := (it, o)) (l₁ := T.led w.params)).symm
    refine nxTend h r₁.handled ho (List.mem_append_right _ (.head _)) (by rw [List.getElem?_eq_none_iff]; with_reducible exact ar6b ‹_›) fun s h => xNil ?_
    refine xCons (xExpr (cClear (l := aR) (vs := vs) (led' := fun n' => T.led w.params ++ ((tp, tupOf vs.toArray 0) :: (aR, listOf ([] : List Value).toArray n') :: led)) (eAttr (ldL h (m1.trans (by rw [hs.x])) (gR G h (by rw [hs.rv, hrv]; rfl) fun s h => ⟨_, _, by rw [hs.rv, hrv], h, by with_reducible exact ar8 ‹_› ‹_› (by decide), fun n' => Rep.right _ (.tail .head), fun n' s h => ⟨rfl, ?_⟩⟩)))))
    refine xCons (xAugAttr (ldL h (m1.trans (by rw [hs.x])) (gOwn G (cl144 w) h (T.m1 _) (T.m2 _) rfl fun s h => cB G h (g_len w) b_len (iCons (ldL h m3 (iNil (fLenT h (List.mem_append_right _ (.head _)) (by with_reducible exact ar8 ‹_› ‹_› (by decide)) fun tl s h => jAdd h fun u s h => ?_)))))))
    refine sOwn G (cl144 w) h (T.m1 _) (led' := fun t => ({ T with a := T.a + (vs.length : Int), u3 := u } : So).led w.params ++ ((tp, tupOf vs.toArray 0) :: (aR, listOf ([] : List Value).toArray n') :: led)) (fun t => .tail .head) (Nat.le_of_ble_eq_true rfl) rfl fun t s h => ?_
    refine xCons (xRet (ldL h m3 ?_))
    rw [Nat.sub_zero, List.take_length] at her
    exact kk { T with a := T.a + (vs.length : Int), u3 := u } tp n' _ h.pop ⟨OT.dict, OT.sm, OT.nd, OT.vals, OT.few⟩ hs.x hs.dx hs.rv (by rw [← hs.a, hlen]) hs.b her
  · have hlt : rs.length - n < rs.length := by with_reducible exact ar5 ‹_› ‹_›
    have hk := List.getElem?_eq_getElem hlt
    have hkm : rs[rs.length - n] ∈ rs := List.getElem_mem hlt
    generalize rs[rs.length - n] = k at hk hkm
    obtain ⟨tv, hv⟩ := natI_get hi hk
    have hkeys : T.nds.map (·.key) = S.nds.map (·.key) := by rw [← keys_er, her, outG_keys, keys_er]
    obtain ⟨d, hd, hdk⟩ := List.mem_map.mp (show k ∈ T.nds.map (·.key) by rw [hkeys]; exact hrs k hkm)
    obtain ⟨pre, post, e⟩ := mem_split' hd
    have h := h.perm (List.perm_middle (a := (it, o)) (l₁ := T.led w.params)).symm
    refine nxT h ho (List.mem_append_right _ (.head _)) hv fun o' s ho h => aName (stL h fun s h => ?_)
    have h := h.perm (led' := T.led w.params ++ ((it, o') :: (tp, tupOf vs.toArray 0) :: (aR, listOf vs.toArray nR) :: led)) List.perm_middle
    refine xCons (xAsgAttr (ldG G h (g_out w) (eSub (ldL h (m2.trans (by rw [hs.dN])) (ldL h rfl (dItem h (T.m3 _) OT.dict (by rw [← hdk]; exact valueAt_some OT.nd hd) fun s h => ?_))))))
    refine sSlot G (cl47 w) h (T.m4 _ hd (.tail _ (.head _))) (Rep.so e (d' := { d with np := -1, u := 208 }) .head _) (by rfl) (s49 w) (by omega) fun s h => xNil ?_
    refine ⟨n - 1, by with_reducible exact ar3 ‹_›, _, _, o', by with_reducible exact ar4 ‹_›, h, ?_, OT.turn e rfl rfl (OT.vals d hd), hs.trans ⟨rfl, rfl, rfl, rfl, rfl, rfl⟩, ?_, m1, m2, m3⟩
    · rw [show rs.length - (n - 1) = rs.length - n + 1 by with_reducible exact ar1 ‹_› ‹_›]; exact ho
    · rw [show rs.length - (n - 1) = rs.length - n + 1 by with_reducible exact ar1 ‹_› ‹_›, outG_take hk, ← her, ← hdk, updK_split OT.nd e, List.map_append, List.map_cons]; rfl
end
end Mine
end

/-! part Active -/
section
open PySem PySem.W PyProof.Rows PySem.Calls
set_option maxRecDepth 100000
set_option linter.unusedVariables false
namespace Mine
theorem meets_bool_list (l : Addr) : Meets (Builtin.«bool.__new__» ⟨[.type "bool", .ref l], []⟩) (fun A R s => ∃ items, s.heap.IsList l items ∧ (items.size : Int) < 2 ^ 63 ∧ R (.ok (.ret (.bool (!items.isEmpty)))) { s with toks := s.toks + 1 + 1 }) :=
  Meets.of_wp fun prog w A R s hs => by
    obtain ⟨items, h1, h2, h3⟩ := hs
    have f1 := F.conv_sub_bool
    unfold Builtin.«bool.__new__»
    dsimp only
    refine wpAny_bind (wpAny_of_eq (a := true) rfl ?_)
    first | refine ifF rfl ?_ | rw [if_neg (by decide)]
    refine wpAny_bind (wpAny_of_eq f1 ?_)
    first | refine ifF rfl ?_ | rw [if_neg (by decide)]
    refine wpAny_bind (wpAny_of_eq (a := [Value.ref l]) (by first | rfl | kernel_rfl!) ?_)
    exact wpAny_bind (wpAny_truthy_list h1 h2 (wpAny_pure ⟨_, rfl, h3⟩))
theorem f113 (w : World) : Fn w 113 := ⟨rfl, rfl, rfl, rfl, rfl, rfl, rfl⟩
theorem n113 (P : Params) (a : Value) : BT (fdAt P 113) ⟨[a], []⟩ [(Str.ofString "self", a)] := .of_eq (by kernel_rfl)
theorem g_bool (w : World) : nsIn (KK w.params) mainGlobals (Str.ofString "bool") = some none := by kernel_rfl
theorem b_bool : bootBuiltins (Str.ofString "bool") = some (.type "bool") := by decide +kernel
section
variable {prog : Program} {w : World} {A : Around} {E : Value → Shared → Prop} {s : Shared} {h₀ : Heap} {s₀ : Shared} {frs : List (Addr × Mp)} {led : List (Addr × Obj)} {env : Env} {L : Addr} {m : Mp}
theorem fBool {l : Addr} {vs : List Value} {n : Nat} {Q : Value → Shared → Prop} (h : At h₀ s₀ frs led s) (hl : (l, listOf vs.toArray n) ∈ led) (hz : vs.length ≤ 2 ^ 40) (k : ∀ s', At h₀ s₀ frs led s' → Q (.bool (!vs.isEmpty)) s') : W prog w A (call (.type "bool") [.ref l]) Q E s := by
  refine ⟨call_bool_1 (meets_bool_list l) ⟨_, h.isList hl, by simp; omega, ?_⟩⟩
  have := k _ (h.toks (s.toks + 1 + 1))
  refine ⟨rfl, ?_⟩
  simpa using this
theorem active_spec {R : Result → Shared → Prop} {j : Nat} (G : Gr w h₀) {S : So} {aR : Addr} {vs : List Value} {nR : Nat} (h : At h₀ s₀ frs (S.led w.params ++ ((aR, listOf vs.toArray nR) :: led)) s) (r : Rm A (j + 1)) (hrv : S.rv = .ref aR) (hz : vs.length ≤ 2 ^ 40)
    (kk : ∀ s', At h₀ s₀ frs (S.led w.params ++ ((aR, listOf vs.toArray nR) :: led)) s' → R (.ok (.ret (.bool (decide (S.b < S.a) || !vs.isEmpty)))) s') : C prog w A (.call (.ref 113) ⟨[.ref S.x], []⟩) R s := by
  refine callIn G (f113 w) h r (n113 w.params _) (by kernel_rfl) fun L s₁ h r₁ => ?_
  refine xCons (xIf (tCmp (eAttr (ldL h rfl (gR G h (by rw [hrv]; rfl) fun s₂ h => cNone (kIs (tBool ?_)))))))
  first | refine iteF (by rw [hrv]; exact (show ¬ ((Value.ref aR == Value.none) = true) from Bool.false_ne_true)) ?_ | rw [hrv, if_neg (show ¬ ((Value.ref aR == Value.none) = true) from Bool.false_ne_true)]
  refine xNil ?_
  refine xCons (xRet (eOr (eCmp (eAttr (ldL h rfl (gOwn G (cl144 w) h (S.m1 _) (S.m2 _) rfl fun s h => eAttr (ldL h rfl (gOwn G (cl144 w) h (S.m1 _) (S.m2 _) rfl fun s h => kLt (tBool ?_)))))))))
  by_cases hb : S.b < S.a
  · first | refine iteT (decide_eq_true hb) ?_ | rw [if_pos (decide_eq_true hb)]
    have := kk _ h.pop
    rw [decide_eq_true hb, Bool.true_or] at this
    rw [decide_eq_true hb]
    exact this
  · first | refine iteF (by simpa using hb) ?_ | rw [if_neg (by simpa using hb)]
    refine cT G h (g_bool w) b_bool (iCons (eAttr (ldL h rfl (gR G h (by rw [hrv]; rfl) fun s h => iNil ?_))))
    rw [hrv]
    refine fBool h (List.mem_append_right _ (.head _)) hz fun s h => ?_
    have := kk _ h.pop
    rw [decide_eq_false hb, Bool.false_or] at this
    exact this
end
end Mine
end

/-! part Done -/
section
open PySem PySem.W PyProof.Rows PySem.Calls
set_option maxRecDepth 100000
set_option linter.unusedVariables false
namespace Mine
noncomputable def npOf (g : List Gn) (j : Nat) : Int := ((g.find? fun e => e.1 == j).map (·.2.1)).getD 0
noncomputable def sucOf (g : List Gn) (j : Nat) : List Nat := ((g.find? fun e => e.1 == j).map (·.2.2)).getD []
noncomputable abbrev Gs := List Gn × List Nat
noncomputable def decS (p : Gs) (j : Nat) : Gs := (updK j (fun e => (e.1, e.2.1 - 1, e.2.2)) p.1, if npOf (updK j (fun e => (e.1, e.2.1 - 1, e.2.2)) p.1) j = 0 then p.2 ++ [j] else p.2)
theorem decS_1 (p : Gs) (j : Nat) : (decS p j).1 = updK j (fun e => (e.1, e.2.1 - 1, e.2.2)) p.1 := rfl
theorem decS_2 (p : Gs) (j : Nat) : (decS p j).2 = if npOf (updK j (fun e => (e.1, e.2.1 - 1, e.2.2)) p.1) j = 0 then p.2 ++ [j] else p.2 := rfl
noncomputable def doneK (p : Gs) (k : Nat) : Gs := (sucOf p.1 k).foldl decS (updK k (fun e => (e.1, -2, e.2.2)) p.1, p.2)
noncomputable def doneAll (rs : List Nat) (p : Gs) : Gs := rs.foldl doneK p
theorem find_er {ds : List Nd} {d : Nd} (hn : (ds.map (·.key)).Nodup) (h : d ∈ ds) : (ds.map Nd.er).find? (fun e => e.1 == d.key) = some d.er := by
  rw [List.find?_map]
  have : ds.find? ((fun e : Gn => e.1 == d.key) ∘ Nd.er) = some d := by
    induction ds with
    | nil => cases h
    | cons e r ih =>
      rw [List.map_cons, List.nodup_cons] at hn
      rw [List.find?_cons]
      rcases List.mem_cons.mp h with rfl | h
      · have : ((fun e : Gn => e.1 == d.key) ∘ Nd.er) d = true := by simp [Nd.er]
        rw [this]
      · have hne : e.key ≠ d.key := fun q => hn.1 (q ▸ List.mem_map_of_mem h)
        have : ((fun e : Gn => e.1 == d.key) ∘ Nd.er) e = false := by simp [Nd.er, hne]
        rw [this]; exact ih hn.2 h
  rw [this]; rfl
theorem npOf_er {ds : List Nd} {d : Nd} (hn : (ds.map (·.key)).Nodup) (h : d ∈ ds) : npOf (ds.map Nd.er) d.key = d.np := by unfold npOf; rw [find_er hn h]; rfl
theorem sucOf_er {ds : List Nd} {d : Nd} (hn : (ds.map (·.key)).Nodup) (h : d ∈ ds) : sucOf (ds.map Nd.er) d.key = d.succ := by unfold sucOf; rw [find_er hn h]; rfl
/-- what does not change -/
noncomputable def Nd.sh (d : Nd) : Nd := { d with np := 0, u := 0 }
theorem sh_key {ds es : List Nd} (h : ds.map Nd.sh = es.map Nd.sh) : ds.map (·.key) = es.map (·.key) := by
  have := congrArg (List.map (·.key)) h
  rw [List.map_map, List.map_map] at this
  exact this
theorem sh_mem {ds es : List Nd} (h : ds.map Nd.sh = es.map Nd.sh) {d : Nd} (hd : d ∈ es) : ∃ e ∈ ds, e.key = d.key ∧ e.l = d.l ∧ e.succ = d.succ ∧ e.vs = d.vs ∧ e.n = d.n := by
  have : d.sh ∈ ds.map Nd.sh := by rw [h]; exact List.mem_map_of_mem hd
  obtain ⟨e, he, q⟩ := List.mem_map.mp this
  exact ⟨e, he, (congrArg Nd.key q : e.sh.key = d.sh.key), (congrArg Nd.l q : e.sh.l = d.sh.l), (congrArg Nd.succ q : e.sh.succ = d.sh.succ), (congrArg Nd.vs q : e.sh.vs = d.sh.vs), (congrArg Nd.n q : e.sh.n = d.sh.n)⟩
theorem sh_turn {pre post : List Nd} {d : Nd} (np : Int) (u : Tok) : (pre ++ { d with np := np, u := u } :: post).map Nd.sh = (pre ++ d :: post).map Nd.sh := by rw [List.map_append, List.map_append, List.map_cons, List.map_cons]; rfl
theorem f127 (w : World) : Fn w 127 := ⟨rfl, rfl, rfl, rfl, rfl, rfl, rfl⟩
theorem n127 (P : Params) (a : Value) (vs : List Value) : BS (fdAt P 127) ⟨a :: vs, []⟩ vs (fun D => [(Str.ofString "self", a), (Str.ofString "nodes", D)]) := ⟨by
  cases vs with
  | nil => kernel_rfl
  | cons v vs => kernel_rfl⟩
structure DnM (S : So) (m : Mp) : Prop where
  s : m (Str.ofString "self") = some (.ref S.x)
  n : m (Str.ofString "n2i") = some (.ref S.dN)
section
variable {prog : Program} {w : World} {A : Around} {E : Value → Shared → Prop} {s : Shared} {h₀ : Heap} {s₀ : Shared} {frs : List (Addr × Mp)} {led : List (Addr × Obj)} {env : Env} {L : Addr} {m : Mp}
inductive dnO (prog : Program) (w : World) (h₀ : Heap) (s₀ : Shared) (L : Addr) (frs : List (Addr × Mp)) (led : List (Addr × Obj)) (S : So) (it tp aR : Addr) (rs : List Nat) (vs : List Value) (p : Gs) (n : Nat) (s : Shared) : Prop
  | mk (m : _) (T : _) (o : _) (ws : _) (nR : _) (q1 : n ≤ rs.length) (q2 : At h₀ s₀ ((L, m) :: frs) (So.led w.params T ++ ((it, o) :: (tp, tupOf (List.toArray vs) 0) :: (aR, listOf (List.toArray ws) nR) :: led)) s) (q3 : TIt tp (rs.length - n) o) (q4 : T.Ok prog w) (q5 : T.x = S.x) (q6 : T.dx = S.dx) (q7 : T.dN = S.dN) (q8 : T.rv = S.rv) (q9 : T.a = S.a) (q10 : T.b = S.b + ((rs.length - n : Nat) : Int)) (q11 : T.nds.map Nd.sh = S.nds.map Nd.sh) (q12 : T.nds.map Nd.er = (doneAll (rs.take (rs.length - n)) p).1) (q13 : IntsAre ws (natI (doneAll (rs.take (rs.length - n)) p).2)) (q14 : DnM S m)
inductive dnI (prog : Program) (w : World) (h₀ : Heap) (s₀ : Shared) (L : Addr) (frs : List (Addr × Mp)) (led : List (Addr × Obj)) (S : So) (b : Int) (aR i2 l : Addr) (suc : List Nat) (p : Gs) (n : Nat) (s : Shared) : Prop
  | mk (m : _) (T : _) (o2 : _) (ws : _) (nR : _) (q1 : n ≤ suc.length) (q2 : At h₀ s₀ ((L, m) :: frs) (So.led w.params T ++ ((i2, o2) :: (aR, listOf (List.toArray ws) nR) :: led)) s) (q3 : LIt l (suc.length - n) o2) (q4 : T.Ok prog w) (q5 : T.x = S.x) (q6 : T.dx = S.dx) (q7 : T.dN = S.dN) (q8 : T.rv = S.rv) (q9 : T.a = S.a) (q10 : T.b = b) (q11 : T.nds.map Nd.sh = S.nds.map Nd.sh) (q12 : T.nds.map Nd.er = ((suc.take (suc.length - n)).foldl decS p).1) (q13 : IntsAre ws (natI ((suc.take (suc.length - n)).foldl decS p).2)) (q14 : DnM S m)
set_option maxHeartbeats 1000000 in
theorem done_spec {R : Result → Shared → Prop} {j : Nat} (G : Gr w h₀) {S : So} {aR : Addr} {vs ws : List Value} {nR : Nat} {rs rd : List Nat} (h : At h₀ s₀ frs (S.led w.params ++ ((aR, listOf ws.toArray nR) :: led)) s) (O : S.Ok prog w) (r : Rm A (j + 3)) (hrv : S.rv = .ref aR) (hi : IntsAre vs (natI rs)) (hw : IntsAre ws (natI rd)) (hz : rs.length ≤ 900)
    (hkey : ∀ d ∈ S.nds, ∀ k ∈ d.succ, k ∈ S.nds.map (·.key)) (hrs : ∀ k ∈ rs, k ∈ S.nds.map (·.key)) (hout : ∀ i k, rs[i]? = some k → npOf (doneAll (rs.take i) (S.nds.map Nd.er, rd)).1 k = -1)
    (hcap : ∀ i q, rs[i]? = some q → ∀ l, ((((sucOf (S.nds.map Nd.er) q).take l).foldl decS (updK q (fun e => (e.1, -2, e.2.2)) (doneAll (rs.take i) (S.nds.map Nd.er, rd)).1, (doneAll (rs.take i) (S.nds.map Nd.er, rd)).2)).2).length ≤ 1000000)
    (kk : ∀ (T : So) us n' s', At h₀ s₀ frs (T.led w.params ++ ((aR, listOf (List.toArray us) n') :: led)) s' → T.Ok prog w → T.x = S.x → T.dx = S.dx → T.rv = S.rv → T.a = S.a → T.b = S.b + (rs.length : Int) → T.nds.map Nd.sh = S.nds.map Nd.sh → T.nds.map Nd.er = (doneAll rs (S.nds.map Nd.er, rd)).1 → IntsAre us (natI (doneAll rs (S.nds.map Nd.er, rd)).2) → R (.ok (.ret .none)) s') :
    C prog w A (.call (.ref 127) ⟨.ref S.x :: vs, []⟩) R s := by
  have hlen : vs.length = rs.length := by rw [hi.length]; simp [natI]
  refine callInS G (f127 w) h r (n127 w.params _ _) (fun D => by kernel_rfl) (by with_reducible exact ar8 ‹_› ‹_› (by decide)) fun tp L s₁ h r₁ => ?_
  have h := h.perm (led' := S.led w.params ++ ((tp, tupOf vs.toArray 0) :: (aR, listOf ws.toArray nR) :: led)) List.perm_middle
  refine xCons (xIf (tCmp (eAttr (ldL h rfl (gR G h (by rw [hrv]; rfl) fun s₂ h => cNone (kIs (tBool ?_)))))))
  first | refine iteF (by rw [hrv]; exact (show ¬ ((Value.ref aR == Value.none) = true) from Bool.false_ne_true)) ?_ | rw [hrv, if_neg (show ¬ ((Value.ref aR == Value.none) = true) from Bool.false_ne_true)]
  refine xNil ?_
  refine xCons (xAsg (eAttr (ldL h rfl (gN G h fun s h => stL h fun s h => ?_))))
  refine xCons (xFor (ldL h rfl (itT h (List.mem_append_right _ (.head _)) fun it o s ho h => ⟨dnO prog w h₀ s₀ L frs led S it tp aR rs vs (S.nds.map Nd.er, rd), rs.length, ⟨_, S, o, ws, nR, Nat.le_refl _, h.perm List.perm_middle, by rw [Nat.sub_self]; exact ho, O, rfl, rfl, rfl, rfl, rfl, by rw [Nat.sub_self]; simp, rfl, by rw [Nat.sub_self]; rfl, by rw [Nat.sub_self]; exact hw, ⟨rfl, rfl⟩⟩, fun n s hI => ?_⟩)))
  obtain ⟨m, T, o, ws, nR, hn, h, ho, OT, e1, e2, e3, e4, e5, e6, hsh, her, hw, M⟩ := hI
  by_cases hn0 : n = 0
  · subst hn0
    have h := h.perm (List.perm_middle (a := (it, o)) (l₁ := T.led w.params)).symm
    refine nxTend h r₁.handled ho (List.mem_append_right _ (.head _)) (by rw [List.getElem?_eq_none_iff]; with_reducible exact ar6b ‹_›) fun s h => xNil (xNil ?_)
    have h := (h.perm (List.perm_middle (a := (tp, tupOf vs.toArray 0)) (l₁ := T.led w.params)).symm).drop 1
    rw [Nat.sub_zero, List.take_length] at her hw
    exact kk T ws nR _ h.pop OT e1 e2 e4 e5 e6 hsh her hw
  · have hlt : rs.length - n < rs.length := by with_reducible exact ar5 ‹_› ‹_›
    have hk := List.getElem?_eq_getElem hlt
    have hkm : rs[rs.length - n] ∈ rs := List.getElem_mem hlt
    generalize rs[rs.length - n] = k at hk hkm
    obtain ⟨tv, hv⟩ := natI_get hi hk
    have hkeys := sh_key hsh
    obtain ⟨d, hd, hdk⟩ := List.mem_map.mp (show k ∈ T.nds.map (·.key) by rw [hkeys]; exact hrs k hkm)
    obtain ⟨d0, hd0, hq⟩ := sh_mem hsh.symm hd
    obtain ⟨pre, post, e⟩ := mem_split' hd
    have hnp : d.np = -1 := by rw [← npOf_er OT.nd hd, her, hdk]; exact hout _ _ hk
    have hsuc : sucOf (T.nds.map Nd.er) k = d.succ := by rw [← hdk]; exact sucOf_er OT.nd hd
    have hsuc0 : sucOf (S.nds.map Nd.er) k = d.succ := by rw [← hdk, ← hq.1, sucOf_er O.nd hd0, hq.2.2.1]
    have h := h.perm (List.perm_middle (a := (it, o)) (l₁ := T.led w.params)).symm
    refine nxT h ho (List.mem_append_right _ (.head _)) hv fun o' s ho h => aName (stL h fun s h => ?_)
    have h := h.perm (led' := T.led w.params ++ ((it, o') :: (tp, tupOf vs.toArray 0) :: (aR, listOf ws.toArray nR) :: led)) List.perm_middle
    refine xCons (xIf (tCmp (eWalrus (cMeth F.plainAttrs_dict F.slot_dict_get F.type_dict_get (ldL h (M.n.trans (by rw [e3])) ⟨h.plainDict (T.m3 _) OT.dict, iCons (ldL h rfl (iNil (dGet h (T.m3 _) OT.dict OT.sm fun s h => ?_)))⟩)))))
    rw [← hdk, valueAt_some OT.nd hd]
    refine aName (stL h fun s h => cNone (kIs (tBool ?_)))
    first | refine iteF (show ¬ (((some (Value.ref d.x)).getD Value.none == Value.none) = true) from Bool.false_ne_true) ?_ | rw [if_neg (show ¬ (((some (Value.ref d.x)).getD Value.none == Value.none) = true) from Bool.false_ne_true)]
    refine xNil ?_
    refine xCons (xAsg (eAttr (ldL h rfl (gSlot G (cl47 w) h (T.m4 _ hd (.head _)) (T.m4 _ hd (.tail _ (.head _))) (by kernel_rfl) (s49 w) rfl fun s h => stL h fun s h => ?_))))
    refine xCons (xIf (tCmp (ldL h rfl (ldG G h (g_out w) (kNe (tBool ?_))))))
    first | refine iteF (by rw [hnp]; decide) ?_ | rw [hnp, if_neg (by decide)]
    refine xNil ?_
    refine xCons (xAsgAttr (ldG G h (g_done w) (ldL h rfl (sSlot G (cl47 w) h (T.m4 _ hd (.tail _ (.head _))) (Rep.so e (d' := { d with np := -2, u := 211 }) .head _) (by rfl) (s49 w) (by omega) fun s h => ?_))))
    have O1 := OT.turn (d' := { d with np := -2, u := 211 }) e rfl rfl (OT.vals d hd)
    have hd1 : { d with np := -2, u := 211 } ∈ ({ T with nds := pre ++ { d with np := -2, u := 211 } :: post } : So).nds := List.mem_append_right _ (.head _)
    have her1 : (pre ++ { d with np := -2, u := 211 } :: post).map Nd.er = updK k (fun e => (e.1, -2, e.2.2)) (doneAll (rs.take (rs.length - n)) (S.nds.map Nd.er, rd)).1 := by
      rw [← her, ← hdk, updK_split OT.nd e, List.map_append, List.map_cons]; rfl
    have hsh1 : (pre ++ { d with np := -2, u := 211 } :: post).map Nd.sh = S.nds.map Nd.sh := by rw [sh_turn, ← e, hsh]
    refine xCons (xFor (eAttr (ldL h rfl (gSlot G (cl47 w) h (So.m4 _ _ hd1 (.head _)) (So.m4 _ _ hd1 (.tail _ (.head _))) (by kernel_rfl) (s50 w) rfl fun s h => itL h (So.m4 _ _ hd1 (.tail _ (.tail _ (.head _)))) fun i2 o2 s ho2 h => ⟨dnI prog w h₀ s₀ L frs ((it, o') :: (tp, tupOf vs.toArray 0) :: led) S T.b aR i2 d.l d.succ (updK k (fun e => (e.1, -2, e.2.2)) (doneAll (rs.take (rs.length - n)) (S.nds.map Nd.er, rd)).1, (doneAll (rs.take (rs.length - n)) (S.nds.map Nd.er, rd)).2), d.succ.length, ?_, fun n2 s hI => ?_⟩))))
    · refine ⟨_, _, o2, ws, nR, Nat.le_refl _, h.perm ?_, by rw [Nat.sub_self]; exact ho2, O1, e1, e2, e3, e4, e5, rfl, hsh1, by rw [Nat.sub_self]; exact her1, by rw [Nat.sub_self]; exact hw, ⟨M.s, M.n⟩⟩
      refine List.perm_middle.trans (List.Perm.cons _ ?_)
      exact List.Perm.append_left _ (List.perm_middle (l₁ := [_, _]) (l₂ := led)).symm
    · obtain ⟨m, U, o2, us, nU, hn2, h, ho2, OU, c1, c2, c3, c4, c5, c6, hshU, herU, hwU, M⟩ := hI
      have hcapU := hcap _ _ hk (d.succ.length - n2)
      rw [hsuc0] at hcapU
      have hul := hwU.length
      simp only [natI, List.length_map] at hul
      have h := h.perm (List.perm_middle (a := (i2, o2)) (l₁ := U.led w.params)).symm
      obtain ⟨dU, hdU, q1, q2, q3, q4, q5⟩ := sh_mem (hshU.trans hsh.symm) hd
      have hlU : (d.l, listOf d.vs.toArray d.n) ∈ U.led w.params ++ ((aR, listOf (List.toArray us) nU) :: (it, o') :: (tp, tupOf vs.toArray 0) :: led) := by rw [← q2, ← q4, ← q5]; exact U.m4 _ hdU (.tail _ (.tail _ (.head _)))
      have hvl := (OT.vals d hd).length
      simp only [natI, List.length_map] at hvl
      by_cases hn20 : n2 = 0
      · subst hn20
        refine nxLend h r₁.handled ho2 hlU (by rw [List.getElem?_eq_none_iff]; with_reducible exact ar6b ‹_›) fun s h => xNil ?_
        rw [Nat.sub_zero, List.take_length] at herU hwU
        refine xCons (xAugAttr (ldL h (M.s.trans (by rw [c1])) (gOwn G (cl144 w) h (U.m1 _) (U.m2 _) rfl fun s h => cI h fun t1 s h => jAdd h fun u s h => ?_)))
        refine sOwn G (cl144 w) h (U.m1 _) (led' := fun t => ({ U with b := U.b + 1, u4 := u } : So).led w.params ++ ((aR, listOf (List.toArray us) nU) :: (it, o') :: (tp, tupOf vs.toArray 0) :: led)) (fun t => .tail .head) (Nat.le_of_ble_eq_true rfl) rfl fun t s h => xNil ?_
        have hX : rs.take (rs.length - (n - 1)) = rs.take (rs.length - n) ++ [k] := by rw [show rs.length - (n - 1) = rs.length - n + 1 by with_reducible exact ar1 ‹_› ‹_›, List.take_add_one, hk]; rfl
        have hD : doneAll (rs.take (rs.length - (n - 1))) (S.nds.map Nd.er, rd) = doneK (doneAll (rs.take (rs.length - n)) (S.nds.map Nd.er, rd)) k := by rw [hX]; unfold doneAll; rw [List.foldl_append]; rfl
        have hK : doneK (doneAll (rs.take (rs.length - n)) (S.nds.map Nd.er, rd)) k = d.succ.foldl decS (updK k (fun e => (e.1, -2, e.2.2)) (doneAll (rs.take (rs.length - n)) (S.nds.map Nd.er, rd)).1, (doneAll (rs.take (rs.length - n)) (S.nds.map Nd.er, rd)).2) := by
          unfold doneK; rw [← her, hsuc]
        refine ⟨n - 1, by with_reducible exact ar3 ‹_›, _, _, o', us, nU, by with_reducible exact ar4 ‹_›, h.perm (List.Perm.append_left _ (List.perm_middle (l₁ := [_, _]) (l₂ := led))), ?_, ⟨OU.dict, OU.sm, OU.nd, OU.vals, OU.few⟩, c1, c2, c3, c4, c5, ?_, hshU, ?_, ?_, ⟨M.s, M.n⟩⟩
        · rw [show rs.length - (n - 1) = rs.length - n + 1 by with_reducible exact ar1 ‹_› ‹_›]; exact ho
        · show U.b + 1 = _
          rw [c6, e6, show rs.length - (n - 1) = rs.length - n + 1 by with_reducible exact ar1 ‹_› ‹_›]; push_cast; omega
        · rw [hD, hK]; exact herU
        · rw [hD, hK]; exact hwU
      · have hlt2 : d.succ.length - n2 < d.succ.length := by with_reducible exact ar5 ‹_› ‹_›
        have hj := List.getElem?_eq_getElem hlt2
        have hjm : d.succ[d.succ.length - n2] ∈ d.succ := List.getElem_mem hlt2
        generalize d.succ[d.succ.length - n2] = jj at hj hjm
        obtain ⟨tj, hvj⟩ := natI_get (OT.vals d hd) hj
        have hjk : jj ∈ U.nds.map (·.key) := by
          rw [sh_key hshU]
          exact hkey d0 hd0 jj (by rw [hq.2.2.1]; exact hjm)
        obtain ⟨dj, hdj, hdjk⟩ := List.mem_map.mp hjk
        obtain ⟨pre2, post2, e'⟩ := mem_split' hdj
        refine nxL h ho2 hlU hvj fun o2' s ho2 h => aName (stL h fun s h => ?_)
        have h := h.perm (led' := U.led w.params ++ ((i2, o2') :: (aR, listOf (List.toArray us) nU) :: (it, o') :: (tp, tupOf vs.toArray 0) :: led)) List.perm_middle
        refine xCons (xAsg (eSub (ldL h (M.n.trans (by rw [c3])) (ldL h rfl (dItem h (U.m3 _) OU.dict (by rw [← hdjk]; exact valueAt_some OU.nd hdj) fun s h => stL h fun s h => ?_)))))
        refine xCons (xAugAttr (ldL h rfl (gSlot G (cl47 w) h (U.m4 _ hdj (.head _)) (U.m4 _ hdj (.tail _ (.head _))) (by kernel_rfl) (s49 w) rfl fun s h => cI h fun t1 s h => jSub h fun u s h => ?_)))
        refine sSlot G (cl47 w) h (U.m4 _ hdj (.tail _ (.head _))) (Rep.so e' (d' := { dj with np := dj.np - 1, u := u }) .head _) (by rfl) (s49 w) (by omega) fun s h => ?_
        have O2 := OU.turn (d' := { dj with np := dj.np - 1, u := u }) e' rfl rfl (OU.vals dj hdj)
        have hdj2 : { dj with np := dj.np - 1, u := u } ∈ ({ U with nds := pre2 ++ { dj with np := dj.np - 1, u := u } :: post2 } : So).nds := List.mem_append_right _ (.head _)
        have her2 : (pre2 ++ { dj with np := dj.np - 1, u := u } :: post2).map Nd.er = updK jj (fun e => (e.1, e.2.1 - 1, e.2.2)) (U.nds.map Nd.er) := by
          rw [← hdjk, updK_split OU.nd e', List.map_append, List.map_cons]; rfl
        have hsh2 : (pre2 ++ { dj with np := dj.np - 1, u := u } :: post2).map Nd.sh = S.nds.map Nd.sh := by rw [sh_turn, ← e', hshU]
        have hnp2 : npOf (updK jj (fun e => (e.1, e.2.1 - 1, e.2.2)) (U.nds.map Nd.er)) jj = dj.np - 1 := by
          rw [← her2, ← hdjk]; exact npOf_er O2.nd hdj2
        have hX : (d.succ.take (d.succ.length - (n2 - 1))) = d.succ.take (d.succ.length - n2) ++ [jj] := by rw [show d.succ.length - (n2 - 1) = d.succ.length - n2 + 1 by with_reducible exact ar1 ‹_› ‹_›, List.take_add_one, hj]; rfl
        refine xCons (xIf (tCmp (eAttr (ldL h rfl (gSlot G (cl47 w) h (So.m4 _ _ hdj2 (.head _)) (So.m4 _ _ hdj2 (.tail _ (.head _))) (by kernel_rfl) (s49 w) rfl fun s h => cI h fun t2 s h => kEq (tBool ?_))))))
        by_cases hz0 : dj.np - 1 = 0
        · first | refine iteT (by simpa using hz0) ?_ | rw [if_pos (by simpa using hz0)]
          refine xCons (xExpr (cMeth F.plainAttrs_list F.slot_list_append F.type_list_append (eAttr (ldL h (M.s.trans (by rw [c1])) (gR G h (show handedIn U.rv = true by rw [c4, hrv]; rfl) fun s h => ?_)))))
          show _ ∧ _
          rw [show ({ U with nds := pre2 ++ { dj with np := dj.np - 1, u := u } :: post2 } : So).rv = .ref aR from c4.trans hrv]
          refine ⟨h.plainList (List.mem_append_right _ (.tail _ (.head _))), iCons (ldL h rfl (iNil ?_))⟩
          refine fAppend h (Rep.right _ (.tail .head)) (by rw [sizeLine_eq]; with_reducible exact ar8 ‹_› ‹_› (by decide)) fun s h => ⟨rfl, xNil (xNil ?_)⟩
          refine ⟨n2 - 1, by with_reducible exact ar3 ‹_›, _, _, o2', _, _, by with_reducible exact ar4 ‹_›, h, ?_, O2, c1, c2, c3, c4, c5, c6, hsh2, ?_, ?_, ⟨M.s, M.n⟩⟩
          · rw [show d.succ.length - (n2 - 1) = d.succ.length - n2 + 1 by with_reducible exact ar1 ‹_› ‹_›]; exact ho2
          · rw [hX, List.foldl_append, List.foldl_cons, List.foldl_nil, decS_1, ← herU]; exact her2
          · rw [hX, List.foldl_append, List.foldl_cons, List.foldl_nil, decS_2, ← herU, hnp2, if_pos hz0, natI_app]
            exact hwU.append (.cons _ _ .nil)
        · first | refine iteF (by simpa using hz0) ?_ | rw [if_neg (by simpa using hz0)]
          refine xNil (xNil ?_)
          refine ⟨n2 - 1, by with_reducible exact ar3 ‹_›, _, _, o2', us, nU, by with_reducible exact ar4 ‹_›, h, ?_, O2, c1, c2, c3, c4, c5, c6, hsh2, ?_, ?_, ⟨M.s, M.n⟩⟩
          · rw [show d.succ.length - (n2 - 1) = d.succ.length - n2 + 1 by with_reducible exact ar1 ‹_› ‹_›]; exact ho2
          · rw [hX, List.foldl_append, List.foldl_cons, List.foldl_nil, decS_1, ← herU]; exact her2
          · rw [hX, List.foldl_append, List.foldl_cons, List.foldl_nil, decS_2, ← herU, hnp2, if_neg hz0]
            exact hwU
end
end Mine
end

/-! part Kahn -/
section
set_option linter.unusedVariables false
namespace Mine
noncomputable abbrev gk (g : List Gn) : List Nat := g.map (·.1)
theorem find_upd {f : Gn → Gn} (hf : ∀ e, (f e).1 = e.1) (g : List Gn) (k j : Nat) : (updK k f g).find? (fun e => e.1 == j) = (g.find? fun e => e.1 == j).map fun e => if e.1 = k then f e else e := by
  unfold updK
  rw [List.find?_map]
  have : ((fun e : Gn => e.1 == j) ∘ fun e => if e.1 = k then f e else e) = fun e => e.1 == j := by
    funext e
    show ((if e.1 = k then f e else e).1 == j) = _
    split
    · rw [hf]
    · rfl
  rw [this]
theorem find_none {g : List Gn} {j : Nat} : g.find? (fun e => e.1 == j) = none ↔ j ∉ gk g := by
  rw [List.find?_eq_none]
  constructor
  · intro h q
    obtain ⟨e, he, rfl⟩ := List.mem_map.mp q
    exact h e he (by simp)
  · intro h e he q
    exact h (List.mem_map.mpr ⟨e, he, by simpa using q⟩)
theorem find_key {g : List Gn} {j : Nat} {e : Gn} (h : g.find? (fun e => e.1 == j) = some e) : e.1 = j ∧ e ∈ g := ⟨by simpa using List.find?_some h, List.mem_of_find?_eq_some h⟩
theorem np_set (F : Int → Int) (k : Nat) (g : List Gn) (j : Nat) : npOf (updK k (fun e => (e.1, F e.2.1, e.2.2)) g) j = if j = k ∧ k ∈ gk g then F (npOf g j) else npOf g j := by
  unfold npOf
  rw [find_upd (f := fun e => (e.1, F e.2.1, e.2.2)) (fun e => rfl)]
  cases h : g.find? (fun e => e.1 == j) with
  | none =>
    rw [if_neg]
    · rfl
    · rintro ⟨rfl, q⟩; exact find_none.mp h q
  | some e =>
    obtain ⟨h1, h2⟩ := find_key h
    by_cases hk : j = k
    · subst hk
      rw [if_pos ⟨rfl, List.mem_map.mpr ⟨e, h2, h1⟩⟩]
      simp [h1]
    · rw [if_neg (fun q => hk q.1)]
      simp [h1, hk]
theorem suc_set (F : Int → Int) (k : Nat) (g : List Gn) (j : Nat) : sucOf (updK k (fun e => (e.1, F e.2.1, e.2.2)) g) j = sucOf g j := by
  unfold sucOf
  rw [find_upd (f := fun e => (e.1, F e.2.1, e.2.2)) (fun e => rfl)]
  cases h : g.find? (fun e => e.1 == j) with
  | none => rfl
  | some e => simp; split <;> rfl
theorem np_psh (k p : Nat) (g : List Gn) (j : Nat) : npOf (updK p (fun e => (e.1, e.2.1, e.2.2 ++ [k])) g) j = npOf g j := by
  unfold npOf
  rw [find_upd (f := fun e => (e.1, e.2.1, e.2.2 ++ [k])) (fun e => rfl)]
  cases h : g.find? (fun e => e.1 == j) with
  | none => rfl
  | some e => simp; split <;> rfl
theorem suc_psh (k p : Nat) (g : List Gn) (j : Nat) : sucOf (updK p (fun e => (e.1, e.2.1, e.2.2 ++ [k])) g) j = if j = p ∧ p ∈ gk g then sucOf g j ++ [k] else sucOf g j := by
  unfold sucOf
  rw [find_upd (f := fun e => (e.1, e.2.1, e.2.2 ++ [k])) (fun e => rfl)]
  cases h : g.find? (fun e => e.1 == j) with
  | none =>
    rw [if_neg]
    · rfl
    · rintro ⟨rfl, q⟩; exact find_none.mp h q
  | some e =>
    obtain ⟨h1, h2⟩ := find_key h
    by_cases hk : j = p
    · subst hk
      rw [if_pos ⟨rfl, List.mem_map.mpr ⟨e, h2, h1⟩⟩]
      simp [h1]
    · rw [if_neg (fun q => hk q.1)]
      simp [h1, hk]
theorem find_get (k : Nat) (g : List Gn) (j : Nat) : (getG k g).find? (fun e => e.1 == j) = if j = k ∧ k ∉ gk g then some (k, 0, []) else g.find? (fun e => e.1 == j) := by
  unfold getG
  by_cases hk : k ∈ g.map (·.1)
  · rw [if_pos hk, if_neg (fun q => q.2 hk)]
  · rw [if_neg hk, List.find?_append]
    by_cases hj : j = k
    · subst hj
      rw [if_pos ⟨rfl, hk⟩, find_none.mpr hk]; simp
    · rw [if_neg (fun q => hj q.1)]
      cases g.find? (fun e => e.1 == j) with
      | none => simp [Ne.symm hj]
      | some e => rfl
theorem np_get (k : Nat) (g : List Gn) (j : Nat) : npOf (getG k g) j = npOf g j := by
  unfold npOf
  rw [find_get]
  split
  · rename_i h; obtain ⟨rfl, h⟩ := h; rw [find_none.mpr h]; rfl
  · rfl
theorem suc_get (k : Nat) (g : List Gn) (j : Nat) : sucOf (getG k g) j = sucOf g j := by
  unfold sucOf
  rw [find_get]
  split
  · rename_i h; obtain ⟨rfl, h⟩ := h; rw [find_none.mpr h]; rfl
  · rfl
theorem gk_get (k : Nat) (g : List Gn) : gk (getG k g) = if k ∈ gk g then gk g else gk g ++ [k] := by
  unfold getG gk
  split <;> simp
theorem mem_get (k j : Nat) (g : List Gn) : j ∈ gk (getG k g) ↔ j ∈ gk g ∨ j = k := by
  rw [gk_get]
  split
  · rename_i h
    constructor
    · exact .inl
    · rintro (q | rfl)
      · exact q
      · exact h
  · simp
theorem nd_get {k : Nat} {g : List Gn} (h : (gk g).Nodup) : (gk (getG k g)).Nodup := by
  rw [gk_get]
  split
  · exact h
  · rename_i hk
    rw [List.nodup_append]
    exact ⟨h, List.nodup_cons.mpr ⟨(nomatch ·), .nil⟩, fun a ha b hb q => hk (by rw [List.mem_singleton.mp hb] at q; exact q ▸ ha)⟩
/-- all edges into k -/
noncomputable def tc (g : List Gn) (k : Nat) : Nat := (g.map fun e => e.2.2.count k).sum
theorem tc_get (p : Nat) (g : List Gn) (k : Nat) : tc (getG p g) k = tc g k := by
  unfold getG tc
  split <;> simp
theorem tc_set (F : Int → Int) (p : Nat) (g : List Gn) (k : Nat) : tc (updK p (fun e => (e.1, F e.2.1, e.2.2)) g) k = tc g k := by
  unfold tc updK
  rw [List.map_map]
  congr 1
  apply List.map_congr_left
  intro e _
  show (if e.1 = p then (e.1, F e.2.1, e.2.2) else e).2.2.count k = _
  split <;> rfl
theorem tc_psh (k p : Nat) : ∀ (g : List Gn), (gk g).Nodup → p ∈ gk g → ∀ k', tc (updK p (fun e => (e.1, e.2.1, e.2.2 ++ [k])) g) k' = tc g k' + if k' = k then 1 else 0
  | e :: g, hn, hp, k' => by
    rw [gk, List.map_cons, List.nodup_cons] at hn
    rw [gk, List.map_cons, List.mem_cons] at hp
    by_cases he : e.1 = p
    · have hg : updK p (fun e => (e.1, e.2.1, e.2.2 ++ [k])) g = g := updK_none (he ▸ hn.1)
      show tc ((if e.1 = p then (e.1, e.2.1, e.2.2 ++ [k]) else e) :: updK p (fun e => (e.1, e.2.1, e.2.2 ++ [k])) g) k' = _
      rw [if_pos he, hg]
      simp only [tc, List.map_cons, List.sum_cons, List.count_append]
      have : List.count k' [k] = if k' = k then 1 else 0 := by
        by_cases q : k' = k
        · subst q; simp
        · rw [if_neg q, List.count_singleton]; simp [Ne.symm q]
      rw [this]; omega
    · have ih := tc_psh k p g hn.2 (hp.resolve_left fun q => he q.symm) k'
      show tc ((if e.1 = p then (e.1, e.2.1, e.2.2 ++ [k]) else e) :: updK p (fun e => (e.1, e.2.1, e.2.2 ++ [k])) g) k' = _
      rw [if_neg he]
      simp only [tc, List.map_cons, List.sum_cons] at ih ⊢
      omega
end Mine
end

/-! part Kahn2 -/
section
set_option linter.unusedVariables false
namespace Mine
theorem fold_push (k : Nat) : ∀ (ps : List Nat) (g : List Gn), (gk g).Nodup →
    (gk (ps.foldl (fun g p => pushG k p g) g)).Nodup ∧ (∀ j, npOf (ps.foldl (fun g p => pushG k p g) g) j = npOf g j) ∧ (∀ k', tc (ps.foldl (fun g p => pushG k p g) g) k' = tc g k' + if k' = k then ps.length else 0) ∧
    (∀ j k', k' ∈ sucOf (ps.foldl (fun g p => pushG k p g) g) j ↔ k' ∈ sucOf g j ∨ (k' = k ∧ j ∈ ps)) ∧ (∀ j, j ∈ gk (ps.foldl (fun g p => pushG k p g) g) ↔ j ∈ gk g ∨ j ∈ ps)
  | [], g, h => ⟨h, fun _ => rfl, fun k' => by simp, fun j k' => by simp, fun j => by simp⟩
  | p :: ps, g, h => by
    have hk : gk (pushG k p g) = gk (getG p g) := updK_keys (f := fun e => (e.1, e.2.1, e.2.2 ++ [k])) (fun e => rfl) _
    have hp : p ∈ gk (getG p g) := (mem_get p p g).mpr (.inr rfl)
    obtain ⟨h1, h2, h3, h4, h5⟩ := fold_push k ps (pushG k p g) (by rw [hk]; exact nd_get h)
    refine ⟨h1, fun j => ?_, fun k' => ?_, fun j k' => ?_, fun j => ?_⟩
    · rw [List.foldl_cons, h2]; unfold pushG; rw [np_psh, np_get]
    · rw [List.foldl_cons, h3]; unfold pushG; rw [tc_psh k p _ (nd_get h) hp, tc_get, List.length_cons]
      split <;> omega
    · rw [List.foldl_cons, h4]
      unfold pushG
      rw [suc_psh, suc_get, List.mem_cons]
      by_cases hj : j = p
      · rw [if_pos ⟨hj, hp⟩, List.mem_append, List.mem_singleton]
        constructor
        · rintro ((q | q) | q)
          · exact .inl q
          · exact .inr ⟨q, .inl hj⟩
          · exact .inr ⟨q.1, .inr q.2⟩
        · rintro (q | ⟨q, q' | q'⟩)
          · exact .inl (.inl q)
          · exact .inl (.inr q)
          · exact .inr ⟨q, q'⟩
      · rw [if_neg (fun q => hj q.1)]
        constructor
        · rintro (q | q)
          · exact .inl q
          · exact .inr ⟨q.1, .inr q.2⟩
        · rintro (q | ⟨q, q' | q'⟩)
          · exact .inl q
          · exact absurd q' hj
          · exact .inr ⟨q, q'⟩
    · rw [List.foldl_cons, h5, hk, mem_get, List.mem_cons, or_assoc]
/-- the graph that the sorter holds -/
structure Gi (g : List Gn) (P : Nat → Nat → Prop) : Prop where
  nd : (gk g).Nodup
  np : ∀ k, npOf g k = (tc g k : Int)
  su : ∀ j k, k ∈ sucOf g j ↔ P j k
theorem Gi.add {g : List Gn} {P : Nat → Nat → Prop} (h : Gi g P) (k : Nat) (ps : List Nat) : Gi (addG k ps g) (fun j k' => P j k' ∨ (k' = k ∧ j ∈ ps)) ∧ ∀ j, j ∈ gk (addG k ps g) ↔ (j ∈ gk g ∨ j = k) ∨ j ∈ ps := by
  have hkk : gk (updK k (fun e => (e.1, e.2.1 + (ps.length : Int), e.2.2)) (getG k g)) = gk (getG k g) := updK_keys (f := fun e => (e.1, e.2.1 + (ps.length : Int), e.2.2)) (fun e => rfl) _
  have hp : k ∈ gk (getG k g) := (mem_get k k g).mpr (.inr rfl)
  obtain ⟨h1, h2, h3, h4, h5⟩ := fold_push k ps (updK k (fun e => (e.1, e.2.1 + (ps.length : Int), e.2.2)) (getG k g)) (by rw [hkk]; exact nd_get h.nd)
  refine ⟨⟨h1, fun k' => ?_, fun j k' => ?_⟩, fun j => ?_⟩
  · unfold addG
    rw [h2, h3, np_set (fun x => x + (ps.length : Int)), tc_set (fun x => x + (ps.length : Int)), np_get, tc_get, h.np]
    by_cases q : k' = k
    · rw [if_pos ⟨q, hp⟩, if_pos q]; push_cast; rfl
    · rw [if_neg (fun z => q z.1), if_neg q]; rfl
  · unfold addG
    rw [h4, suc_set (fun x => x + (ps.length : Int)), suc_get, h.su]
  · unfold addG
    rw [h5, hkk, mem_get]
theorem gi_upTo (pss : List (List Nat)) : ∀ i, Gi (upTo pss i) (fun j k => k < i ∧ j ∈ pss.getD k []) ∧ ∀ j, j ∈ gk (upTo pss i) ↔ j < i ∨ ∃ k, k < i ∧ j ∈ pss.getD k []
  | 0 => ⟨⟨.nil, fun k => rfl, fun j k => ⟨(fun h => nomatch h), fun h => absurd h.1 (Nat.not_lt_zero _)⟩⟩, fun j => ⟨(fun h => nomatch h), fun h => by
      rcases h with h | ⟨k, h, _⟩ <;> exact absurd h (Nat.not_lt_zero _)⟩⟩
  | i + 1 => by
    obtain ⟨h1, h2⟩ := gi_upTo pss i
    obtain ⟨h3, h4⟩ := h1.add i (pss.getD i [])
    rw [upTo_succ]
    refine ⟨⟨h3.nd, h3.np, fun j k => ?_⟩, fun j => ?_⟩
    · rw [h3.su]
      constructor
      · rintro (⟨a, b⟩ | ⟨rfl, b⟩)
        · exact ⟨by omega, b⟩
        · exact ⟨by omega, b⟩
      · rintro ⟨a, b⟩
        by_cases hk : k = i
        · subst hk; exact .inr ⟨rfl, b⟩
        · exact .inl ⟨by omega, b⟩
    · rw [h4, h2]
      constructor
      · rintro (((q | ⟨k, q, q'⟩) | q) | q)
        · exact .inl (by omega)
        · exact .inr ⟨k, by omega, q'⟩
        · exact .inl (by omega)
        · exact .inr ⟨i, by omega, q⟩
      · rintro (q | ⟨k, q, q'⟩)
        · by_cases hj : j = i
          · exact .inl (.inr hj)
          · exact .inl (.inl (.inl (by omega)))
        · by_cases hk : k = i
          · subst hk; exact .inr q'
          · exact .inl (.inl (.inr ⟨k, by omega, q'⟩))
/-- edges into k from nodes that are not done -/
noncomputable def cnt (g : List Gn) (D : List Nat) (k : Nat) : Nat := ((g.filter fun e => decide (e.1 ∉ D)).map fun e => e.2.2.count k).sum
theorem cnt_nil (g : List Gn) (k : Nat) : cnt g [] k = tc g k := by
  unfold cnt tc
  rw [List.filter_eq_self.mpr (by simp)]
theorem suc_head {e : Gn} {g : List Gn} : sucOf (e :: g) e.1 = e.2.2 := by unfold sucOf; rw [List.find?_cons]; simp
theorem suc_tail {e : Gn} {g : List Gn} {r : Nat} (h : e.1 ≠ r) : sucOf (e :: g) r = sucOf g r := by
  unfold sucOf
  rw [List.find?_cons, show (e.1 == r) = false by simpa using h]
theorem cnt_plus : ∀ {g : List Gn} {D : List Nat} {r : Nat}, (gk g).Nodup → r ∈ gk g → r ∉ D → ∀ k, cnt g D k = cnt g (D ++ [r]) k + (sucOf g r).count k
  | e :: g, D, r, hn, hr, hD, k => by
    rw [gk, List.map_cons, List.nodup_cons] at hn
    rw [gk, List.map_cons, List.mem_cons] at hr
    by_cases he : e.1 = r
    · have hg : cnt g (D ++ [r]) k = cnt g D k := by
        unfold cnt
        congr 2
        apply List.filter_congr
        intro e' he'
        have : e'.1 ≠ r := fun q => hn.1 (by rw [he, ← q]; exact List.mem_map_of_mem he')
        simp [this]
      subst he
      rw [suc_head]
      have a1 : cnt (e :: g) D k = e.2.2.count k + cnt g D k := by unfold cnt; rw [List.filter_cons_of_pos (by simpa using hD)]; simp
      have a2 : cnt (e :: g) (D ++ [e.1]) k = cnt g (D ++ [e.1]) k := by unfold cnt; rw [List.filter_cons_of_neg (by simp)]
      omega
    · have ih := cnt_plus hn.2 (hr.resolve_left fun q => he q.symm) hD k
      rw [suc_tail he]
      by_cases hd : e.1 ∈ D
      · have a1 : cnt (e :: g) D k = cnt g D k := by unfold cnt; rw [List.filter_cons_of_neg (by simpa using hd)]
        have a2 : cnt (e :: g) (D ++ [r]) k = cnt g (D ++ [r]) k := by unfold cnt; rw [List.filter_cons_of_neg (by simp [hd])]
        omega
      · have a1 : cnt (e :: g) D k = e.2.2.count k + cnt g D k := by unfold cnt; rw [List.filter_cons_of_pos (by simpa using hd)]; simp
        have a2 : cnt (e :: g) (D ++ [r]) k = e.2.2.count k + cnt g (D ++ [r]) k := by unfold cnt; rw [List.filter_cons_of_pos (by simp [hd, he])]; simp
        omega
theorem cnt_zero {g : List Gn} {D : List Nat} {k r : Nat} (hn : (gk g).Nodup) (h : cnt g D k = 0) (hr : r ∈ gk g) (hD : r ∉ D) : k ∉ sucOf g r := fun q => by
  have := cnt_plus hn hr hD k
  have := List.count_pos_iff.mpr q
  omega
theorem suc_of_mem : ∀ {g : List Gn} {e : Gn}, (gk g).Nodup → e ∈ g → sucOf g e.1 = e.2.2
  | a :: g, e, hn, he => by
    rw [gk, List.map_cons, List.nodup_cons] at hn
    rcases List.mem_cons.mp he with rfl | he
    · exact suc_head
    · rw [suc_tail (fun q => hn.1 (q ▸ List.mem_map_of_mem he))]; exact suc_of_mem hn.2 he
theorem zero_cnt {g : List Gn} {D : List Nat} {k : Nat} (hn : (gk g).Nodup) (h : ∀ r ∈ gk g, r ∉ D → k ∉ sucOf g r) : cnt g D k = 0 := by
  unfold cnt
  have z : ∀ l : List Nat, (∀ x ∈ l, x = 0) → l.sum = 0 := fun l hl => by
    induction l with
    | nil => rfl
    | cons a l ih => rw [List.sum_cons, hl a (.head _), ih fun x hx => hl x (.tail _ hx)]
  apply z
  intro x hx
  obtain ⟨e, he, rfl⟩ := List.mem_map.mp hx
  obtain ⟨h1, h2⟩ := List.mem_filter.mp he
  have := h e.1 (List.mem_map_of_mem h1) (by simpa using h2)
  rw [suc_of_mem hn h1] at this
  exact List.count_eq_zero.mpr this
end Mine
end

/-! part Kahn3 -/
section
set_option linter.unusedVariables false
namespace Mine
structure Kn (g0 g : List Gn) (rd : List Nat) (c : Nat → Int) (X : Nat → Prop) : Prop where
  keys : gk g = gk g0
  suc : ∀ j, sucOf g j = sucOf g0 j
  val : ∀ j ∈ gk g0, ¬ X j → npOf g j = c j
  rdy : ∀ j ∈ gk g0, ¬ X j → (j ∈ rd ↔ c j = 0)
  sub : ∀ j ∈ rd, j ∈ gk g0 ∧ ¬ X j
  nd : rd.Nodup
theorem gk_set (F : Int → Int) (k : Nat) (g : List Gn) : gk (updK k (fun e => (e.1, F e.2.1, e.2.2)) g) = gk g := updK_keys (f := fun e => (e.1, F e.2.1, e.2.2)) (fun e => rfl) g
theorem np_m (v : Int) (k : Nat) (g : List Gn) (j : Nat) : npOf (updK k (fun e => (e.1, v, e.2.2)) g) j = if j = k ∧ k ∈ gk g then v else npOf g j := np_set (fun _ => v) k g j
theorem suc_m (v : Int) (k : Nat) (g : List Gn) (j : Nat) : sucOf (updK k (fun e => (e.1, v, e.2.2)) g) j = sucOf g j := suc_set (fun _ => v) k g j
theorem gk_m (v : Int) (k : Nat) (g : List Gn) : gk (updK k (fun e => (e.1, v, e.2.2)) g) = gk g := gk_set (fun _ => v) k g
theorem Kn.dec {g0 g : List Gn} {rd : List Nat} {c : Nat → Int} {X : Nat → Prop} (h : Kn g0 g rd c X) {j : Nat} (hj : j ∈ gk g0) (hX : ¬ X j) (hc : 1 ≤ c j) :
    Kn g0 (decS (g, rd) j).1 (decS (g, rd) j).2 (fun i => if i = j then c i - 1 else c i) X ∧ ∀ i, i ≠ j → npOf (decS (g, rd) j).1 i = npOf g i := by
  have hnp : ∀ i, npOf (decS (g, rd) j).1 i = if i = j then npOf g i - 1 else npOf g i := fun i => by
    rw [decS_1, np_set (fun x => x - 1)]
    by_cases q : i = j
    · rw [if_pos ⟨q, by rw [h.keys]; exact hj⟩, if_pos q]
    · rw [if_neg (fun z => q z.1), if_neg q]
  have hjr : j ∉ rd := fun q => by have := (h.rdy j hj hX).mp q; omega
  have h2 : (decS (g, rd) j).2 = if c j - 1 = 0 then rd ++ [j] else rd := by
    rw [decS_2]
    have := hnp j
    rw [decS_1, if_pos rfl, h.val j hj hX] at this
    rw [this]
  refine ⟨⟨?_, ?_, fun i hi hx => ?_, fun i hi hx => ?_, ?_, ?_⟩, fun i hi => by rw [hnp, if_neg hi]⟩
  · rw [decS_1, gk_set (fun x => x - 1)]; exact h.keys
  · intro i; rw [decS_1, suc_set (fun x => x - 1)]; exact h.suc i
  · rw [hnp]
    show _ = if i = j then c i - 1 else c i
    rw [h.val i hi hx]
  · show _ ↔ (if i = j then c i - 1 else c i) = 0
    rw [h2]
    by_cases q : i = j
    · subst q
      rw [if_pos rfl]
      by_cases z : c i - 1 = 0
      · rw [if_pos z]; simp [z]
      · rw [if_neg z]
        exact ⟨fun y => absurd y hjr, fun y => absurd y z⟩
    · rw [if_neg q]
      by_cases z : c j - 1 = 0
      · rw [if_pos z, List.mem_append, List.mem_singleton, ← h.rdy i hi hx]
        exact ⟨fun y => y.resolve_right q, .inl⟩
      · rw [if_neg z]; exact h.rdy i hi hx
  · intro i hi
    rw [h2] at hi
    split at hi
    · rcases List.mem_append.mp hi with hi | hi
      · exact h.sub i hi
      · rw [List.mem_singleton.mp hi]; exact ⟨hj, hX⟩
    · exact h.sub i hi
  · rw [h2]
    split
    · rw [List.nodup_append]
      exact ⟨h.nd, List.nodup_cons.mpr ⟨(nomatch ·), .nil⟩, fun a ha b hb q => hjr (by rw [List.mem_singleton.mp hb] at q; exact q ▸ ha)⟩
    · exact h.nd
theorem Kn.congr {g0 g : List Gn} {rd : List Nat} {c c' : Nat → Int} {X : Nat → Prop} (h : Kn g0 g rd c X) (e : ∀ j ∈ gk g0, ¬ X j → c j = c' j) : Kn g0 g rd c' X :=
  ⟨h.keys, h.suc, fun j hj hx => (h.val j hj hx).trans (e j hj hx), fun j hj hx => by rw [← e j hj hx]; exact h.rdy j hj hx, h.sub, h.nd⟩
theorem Kn.fold {g0 : List Gn} {X : Nat → Prop} : ∀ (l : List Nat) {p : Gs} {c : Nat → Int}, Kn g0 p.1 p.2 c X → (∀ j ∈ l, j ∈ gk g0 ∧ ¬ X j) → (∀ j ∈ l, (l.count j : Int) ≤ c j) →
    Kn g0 (l.foldl decS p).1 (l.foldl decS p).2 (fun i => c i - l.count i) X ∧ ∀ i, X i → npOf (l.foldl decS p).1 i = npOf p.1 i
  | [], p, c, h, _, _ => ⟨h.congr fun j _ _ => by simp, fun _ _ => rfl⟩
  | j :: l, (g, rd), c, h, hl, hc => by
    have hj := hl j (.head _)
    have hcj := hc j (.head _)
    rw [List.count_cons_self] at hcj
    obtain ⟨h1, h2⟩ := h.dec hj.1 hj.2 (by push_cast at hcj; omega)
    obtain ⟨h3, h4⟩ := Kn.fold l (p := decS (g, rd) j) h1 (fun i hi => hl i (.tail _ hi)) (fun i hi => by
      have := hc i (.tail _ hi)
      rw [List.count_cons] at this
      show _ ≤ if i = j then c i - 1 else c i
      by_cases q : i = j
      · subst q; rw [if_pos rfl]; simp at this; omega
      · rw [if_neg q]; simp [Ne.symm q] at this; exact this)
    refine ⟨h3.congr fun i hi hx => ?_, fun i hi => (h4 i hi).trans (h2 i fun q => hj.2 (q ▸ hi))⟩
    show (if i = j then c i - 1 else c i) - (l.count i : Int) = c i - ((j :: l).count i : Int)
    rw [List.count_cons]
    by_cases q : i = j
    · subst q; rw [if_pos rfl]; simp; omega
    · rw [if_neg q]; simp [Ne.symm q]
theorem Kn.done {g0 : List Gn} {X : Nat → Prop} {p : Gs} {D : List Nat} {r : Nat} (hn : (gk g0).Nodup) (h : Kn g0 p.1 p.2 (fun j => (cnt g0 D j : Int)) X) (hr : r ∈ gk g0) (hX : X r) (hD : r ∉ D) (hs : ∀ j ∈ sucOf g0 r, j ∈ gk g0 ∧ ¬ X j) :
    Kn g0 (doneK p r).1 (doneK p r).2 (fun j => (cnt g0 (D ++ [r]) j : Int)) X ∧ npOf (doneK p r).1 r = -2 ∧ ∀ i, X i → i ≠ r → npOf (doneK p r).1 i = npOf p.1 i := by
  have h1 : Kn g0 (updK r (fun e => (e.1, (-2 : Int), e.2.2)) p.1) p.2 (fun j => (cnt g0 D j : Int)) X := by
    refine ⟨by rw [gk_m]; exact h.keys, fun j => by rw [suc_m]; exact h.suc j, fun j hj hx => ?_, h.rdy, h.sub, h.nd⟩
    rw [np_m, if_neg (show ¬ (j = r ∧ r ∈ gk p.1) from fun q => hx (q.1 ▸ hX))]
    exact h.val j hj hx
  obtain ⟨h2, h3⟩ := Kn.fold (sucOf p.1 r) (p := (updK r (fun e => (e.1, (-2 : Int), e.2.2)) p.1, p.2)) h1 (by rw [h.suc]; exact hs) (fun j _ => by
    have := cnt_plus hn hr hD j
    rw [h.suc]; omega)
  refine ⟨h2.congr fun j _ _ => ?_, ?_, fun i hi q => ?_⟩
  · have := cnt_plus hn hr hD j
    show (cnt g0 D j : Int) - ((sucOf p.1 r).count j : Int) = _
    rw [h.suc]; omega
  · show npOf ((sucOf p.1 r).foldl decS _).1 r = -2
    rw [h3 r hX]
    show npOf (updK r (fun e => (e.1, (-2 : Int), e.2.2)) p.1) r = -2
    rw [np_m, if_pos ⟨rfl, by rw [h.keys]; exact hr⟩]
  · show npOf ((sucOf p.1 r).foldl decS _).1 i = _
    rw [h3 i hi]
    show npOf (updK r (fun e => (e.1, (-2 : Int), e.2.2)) p.1) i = _
    rw [np_m, if_neg (fun z => q z.1)]
theorem Kn.all {g0 : List Gn} {X : Nat → Prop} (hn : (gk g0).Nodup) : ∀ (rs : List Nat) {p : Gs} {D : List Nat}, Kn g0 p.1 p.2 (fun j => (cnt g0 D j : Int)) X → rs.Nodup → (∀ r ∈ rs, r ∈ gk g0 ∧ X r ∧ r ∉ D ∧ ∀ j ∈ sucOf g0 r, j ∈ gk g0 ∧ ¬ X j) →
    Kn g0 (doneAll rs p).1 (doneAll rs p).2 (fun j => (cnt g0 (D ++ rs) j : Int)) X ∧ (∀ i, X i → i ∉ rs → npOf (doneAll rs p).1 i = npOf p.1 i)
  | [], p, D, h, _, _ => ⟨by rw [List.append_nil]; exact h, fun _ _ _ => rfl⟩
  | r :: rs, p, D, h, hnd, hrs => by
    rw [List.nodup_cons] at hnd
    obtain ⟨a1, a2, a3, a4⟩ := hrs r (.head _)
    obtain ⟨h1, h2, h3⟩ := h.done hn a1 a2 a3 a4
    have hq : ∀ q ∈ rs, q ∈ gk g0 ∧ X q ∧ q ∉ D ++ [r] ∧ ∀ j ∈ sucOf g0 q, j ∈ gk g0 ∧ ¬ X j := by
      intro q hq
      obtain ⟨b1, b2, b3, b4⟩ := hrs q (.tail _ hq)
      refine ⟨b1, b2, fun z => ?_, b4⟩
      rcases List.mem_append.mp z with z | z
      · exact b3 z
      · exact hnd.1 (List.mem_singleton.mp z ▸ hq)
    obtain ⟨h4, h5⟩ := Kn.all hn rs (p := doneK p r) (D := D ++ [r]) h1 hnd.2 hq
    rw [List.append_assoc] at h4
    refine ⟨h4, fun i hi q => ?_⟩
    rw [List.mem_cons, not_or] at q
    exact (h5 i hi q.2).trans (h3 i hi q.1)
/-- the state between two rounds -/
structure KI (g0 g : List Gn) (ord rd : List Nat) : Prop where
  kn : Kn g0 g rd (fun j => (cnt g0 ord j : Int)) (· ∈ ord)
  nd : ord.Nodup
  sub : ∀ k ∈ ord, k ∈ gk g0
  topo : ∀ a k b, ord = a ++ k :: b → ∀ j ∈ gk g0, k ∈ sucOf g0 j → j ∈ a
theorem np_out : ∀ (rs : List Nat) (g : List Gn) (j : Nat), npOf (outG rs g) j = if j ∈ rs ∧ j ∈ gk g then -1 else npOf g j
  | [], g, j => by simp [outG]
  | r :: rs, g, j => by
    show npOf (outG rs (updK r (fun e => (e.1, (-1 : Int), e.2.2)) g)) j = _
    rw [np_out rs, gk_m, np_m]
    by_cases h1 : j ∈ rs ∧ j ∈ gk g
    · rw [if_pos h1, if_pos ⟨.tail _ h1.1, h1.2⟩]
    · rw [if_neg h1]
      by_cases h2 : j = r ∧ r ∈ gk g
      · rw [if_pos h2, if_pos ⟨h2.1 ▸ .head _, h2.1 ▸ h2.2⟩]
      · rw [if_neg h2, if_neg]
        rintro ⟨q, z⟩
        rcases List.mem_cons.mp q with q | q
        · exact h2 ⟨q, q ▸ z⟩
        · exact h1 ⟨q, z⟩
theorem suc_out : ∀ (rs : List Nat) (g : List Gn) (j : Nat), sucOf (outG rs g) j = sucOf g j
  | [], g, j => rfl
  | r :: rs, g, j => by
    show sucOf (outG rs (updK r (fun e => (e.1, (-1 : Int), e.2.2)) g)) j = _
    rw [suc_out rs, suc_m]
theorem KI.facts {g0 g : List Gn} {ord rd : List Nat} (hn : (gk g0).Nodup) (hc : ∀ j ∈ gk g0, ∀ k ∈ sucOf g0 j, k ∈ gk g0) (h : KI g0 g ord rd) :
    Kn g0 (outG rd g) [] (fun j => (cnt g0 ord j : Int)) (· ∈ ord ++ rd) ∧ (∀ r ∈ rd, r ∈ gk g0 ∧ r ∈ ord ++ rd ∧ r ∉ ord ∧ ∀ j ∈ sucOf g0 r, j ∈ gk g0 ∧ j ∉ ord ++ rd) := by
  refine ⟨⟨by rw [show gk (outG rd g) = gk g from outG_keys rd g]; exact h.kn.keys, fun j => by rw [suc_out]; exact h.kn.suc j, fun j hj hx => ?_, fun j hj hx => ?_, (fun j hj => nomatch hj), .nil⟩, fun r hr => ?_⟩
  · rw [List.mem_append, not_or] at hx
    rw [np_out, if_neg (fun q => hx.2 q.1)]
    exact h.kn.val j hj hx.1
  · rw [List.mem_append, not_or] at hx
    constructor
    · intro q; cases q
    · intro q; exact absurd ((h.kn.rdy j hj hx.1).mpr q) hx.2
  · obtain ⟨h1, h2⟩ := h.kn.sub r hr
    refine ⟨h1, List.mem_append_right _ hr, h2, fun j hj => ⟨hc r h1 j hj, fun q => ?_⟩⟩
    rcases List.mem_append.mp q with q | q
    · obtain ⟨a, b, e⟩ := List.append_of_mem q
      exact h2 (e ▸ List.mem_append_left _ (h.topo a j b e r h1 hj))
    · obtain ⟨h3, h4⟩ := h.kn.sub j q
      have := (h.kn.rdy j h3 h4).mp q
      exact cnt_zero hn (by omega) h1 h2 hj
theorem KI.step {g0 g : List Gn} {ord rd : List Nat} (hn : (gk g0).Nodup) (hc : ∀ j ∈ gk g0, ∀ k ∈ sucOf g0 j, k ∈ gk g0) (h : KI g0 g ord rd) : KI g0 (doneAll rd (outG rd g, [])).1 (ord ++ rd) (doneAll rd (outG rd g, [])).2 := by
  obtain ⟨h1, h2⟩ := h.facts hn hc
  obtain ⟨h3, h4⟩ := Kn.all hn rd (p := (outG rd g, [])) h1 h.kn.nd h2
  refine ⟨h3, ?_, ?_, fun a k b e j hj hk => ?_⟩
  · rw [List.nodup_append]
    exact ⟨h.nd, h.kn.nd, fun a ha b hb q => (h2 b hb).2.2.1 (q ▸ ha)⟩
  · intro k hk
    rcases List.mem_append.mp hk with hk | hk
    · exact h.sub k hk
    · exact (h2 k hk).1
  · rcases List.append_eq_append_iff.mp e with ⟨c, e1, e2⟩ | ⟨c, e1, e2⟩
    · -- a = ord ++ c, rd = c ++ k :: b
      have hkr : k ∈ rd := by rw [e2]; simp
      obtain ⟨z1, z2⟩ := h.kn.sub k hkr
      have hz := (h.kn.rdy k z1 z2).mp hkr
      rw [e1]
      by_cases hjo : j ∈ ord
      · exact List.mem_append_left _ hjo
      · exact absurd hk (cnt_zero hn (by omega) hj hjo)
    · -- ord = a ++ c, k :: b = c ++ rd
      cases c with
      | nil =>
        rw [List.append_nil] at e1
        rw [List.nil_append] at e2
        have hkr : k ∈ rd := by rw [← e2]; exact .head _
        obtain ⟨z1, z2⟩ := h.kn.sub k hkr
        have hz := (h.kn.rdy k z1 z2).mp hkr
        rw [← e1]
        by_cases hjo : j ∈ ord
        · exact hjo
        · exact absurd hk (cnt_zero hn (by omega) hj hjo)
      | cons x c =>
        have : k = x := (List.cons.inj e2).1
        subst this
        exact h.topo a k c e1 j hj hk
theorem KI.fin {g0 g : List Gn} {ord : List Nat} {ρ : Nat → Nat} (hn : (gk g0).Nodup) (hρ : ∀ j k, k ∈ sucOf g0 j → ρ j < ρ k) (h : KI g0 g ord []) : ∀ k ∈ gk g0, k ∈ ord := by
  have : ∀ n k, ρ k = n → k ∈ gk g0 → k ∈ ord := by
    intro n
    induction n using Nat.strongRecOn with
    | _ n ih =>
      intro k hk hkg
      by_cases hko : k ∈ ord
      · exact hko
      · have : cnt g0 ord k = 0 := zero_cnt hn fun r hr hro q => hro (ih (ρ r) (hk ▸ hρ r k q) r rfl hr)
        have := (h.kn.rdy k hkg hko).mpr (by omega)
        cases this
  exact fun k hk => this _ k rfl hk
end Mine
end

/-! part Kahn4 -/
section
open PySem PySem.W PyProof.Rows PySem.Calls
set_option linter.unusedVariables false
namespace Mine
theorem nodup_lt : ∀ (n : Nat) (l : List Nat), l.Nodup → (∀ x ∈ l, x < n) → l.length ≤ n
  | 0, l, _, h => by
    cases l with
    | nil => exact Nat.le_refl _
    | cons a l => exact absurd (h a (.head _)) (Nat.not_lt_zero _)
  | n + 1, l, hn, h => by
    have h1 := nodup_lt n (l.erase n) (hn.erase _) (fun x hx => by
      have := h x (List.mem_of_mem_erase hx)
      have : x ≠ n := fun q => by subst q; exact (List.Nodup.mem_erase_iff hn).mp hx |>.1 rfl
      omega)
    have h2 := List.length_erase_add_one_le_or l n
    omega
where
  List.length_erase_add_one_le_or (l : List Nat) (n : Nat) : l.length ≤ (l.erase n).length + 1 := by
    rw [List.length_erase]; split <;> omega
theorem fold_cap : ∀ (l : List Nat) (p : Gs), (l.foldl decS p).2.length ≤ p.2.length + l.length ∧ ∀ j, sucOf (l.foldl decS p).1 j = sucOf p.1 j
  | [], p => ⟨Nat.le_refl _, fun _ => rfl⟩
  | i :: l, p => by
    obtain ⟨h1, h2⟩ := fold_cap l (decS p i)
    have h3 : (decS p i).2.length ≤ p.2.length + 1 := by rw [decS_2]; split <;> simp
    refine ⟨by rw [List.foldl_cons, List.length_cons]; omega, fun j => ?_⟩
    rw [List.foldl_cons, h2, decS_1]
    exact suc_set (fun x => x - 1) i p.1 j
theorem all_cap {B : Nat} : ∀ (rs : List Nat) (p : Gs), (∀ j, (sucOf p.1 j).length ≤ B) → (doneAll rs p).2.length ≤ p.2.length + B * rs.length ∧ ∀ j, sucOf (doneAll rs p).1 j = sucOf p.1 j
  | [], p, _ => ⟨Nat.le_refl _, fun _ => rfl⟩
  | r :: rs, p, h => by
    obtain ⟨a1, a2⟩ := fold_cap (sucOf p.1 r) (updK r (fun e => (e.1, (-2 : Int), e.2.2)) p.1, p.2)
    have hs : ∀ j, sucOf (doneK p r).1 j = sucOf p.1 j := fun j => (a2 j).trans (suc_m (-2) r p.1 j)
    obtain ⟨h1, h2⟩ := all_cap (B := B) rs (doneK p r) (fun j => by rw [hs]; exact h j)
    have h3 : (doneK p r).2.length ≤ p.2.length + B := Nat.le_trans a1 (Nat.add_le_add_left (h r) _)
    refine ⟨?_, fun j => (h2 j).trans (hs j)⟩
    rw [List.length_cons, Nat.mul_succ]
    show (doneAll rs (doneK p r)).2.length ≤ _
    omega
theorem KI.out {g0 g : List Gn} {ord rd : List Nat} (hn : (gk g0).Nodup) (hc : ∀ j ∈ gk g0, ∀ k ∈ sucOf g0 j, k ∈ gk g0) (h : KI g0 g ord rd) : ∀ (i k : Nat), rd[i]? = some k → npOf (doneAll (rd.take i) (outG rd g, [])).1 k = -1 := by
  intro i k hk
  obtain ⟨h1, h2⟩ := h.facts hn hc
  have hkr : k ∈ rd := List.mem_of_getElem? hk
  have hsub : (rd.take i).Sublist rd := List.take_sublist i rd
  obtain ⟨h3, h4⟩ := Kn.all hn (rd.take i) (p := (outG rd g, [])) h1 (h.kn.nd.sublist hsub) (fun r hr => h2 r (hsub.subset hr))
  have hni : k ∉ rd.take i := fun q => by
    have hnd := h.kn.nd
    rw [← List.take_append_drop i rd, List.nodup_append] at hnd
    have : k ∈ rd.drop i := List.mem_of_getElem? (i := 0) (by rw [List.getElem?_drop]; simpa using hk)
    exact hnd.2.2 k q k this rfl
  rw [h4 k (h2 k hkr).2.1 hni]
  show npOf (outG rd g) k = -1
  rw [np_out, if_pos ⟨hkr, by rw [h.kn.keys]; exact (h2 k hkr).1⟩]
theorem KI.start {g0 : List Gn} {P : Nat → Nat → Prop} (h : Gi g0 P) {rd : List Nat} (hr : ∀ j, j ∈ rd ↔ j ∈ gk g0 ∧ npOf g0 j = 0) (hnd : rd.Nodup) : KI g0 g0 [] rd := by
  refine ⟨⟨rfl, fun _ => rfl, fun j hj _ => ?_, fun j hj _ => ?_, fun j hj => ⟨((hr j).mp hj).1, fun q => nomatch q⟩, hnd⟩, .nil, (fun _ q => nomatch q), fun a k b e => ?_⟩
  · rw [h.np, cnt_nil]
  · rw [hr, h.np, cnt_nil]; exact ⟨fun q => q.2, fun q => ⟨hj, q⟩⟩
  · cases a <;> cases e
end Mine
end

/-! part Order -/
section
open PySem PySem.W PyProof.Rows PySem.Calls
set_option maxRecDepth 100000
set_option linter.unusedVariables false
namespace Mine
theorem ready_mem {ds : List Nd} (hn : (ds.map (·.key)).Nodup) (j : Nat) : j ∈ readyOf ds ↔ j ∈ gk (ds.map Nd.er) ∧ npOf (ds.map Nd.er) j = 0 := by
  unfold readyOf gk
  rw [keys_er, List.mem_map, List.mem_map]
  constructor
  · rintro ⟨d, hd, rfl⟩
    obtain ⟨h1, h2⟩ := List.mem_filter.mp hd
    exact ⟨⟨d, h1, rfl⟩, by rw [npOf_er hn h1]; simpa using h2⟩
  · rintro ⟨⟨d, hd, rfl⟩, h2⟩
    rw [npOf_er hn hd] at h2
    exact ⟨d, List.mem_filter.mpr ⟨hd, by simpa using h2⟩, rfl⟩
theorem ready_nd {ds : List Nd} (hn : (ds.map (·.key)).Nodup) : (readyOf ds).Nodup := hn.sublist (List.filter_sublist.map _)
theorem f181 (w : World) : Fn w 181 := ⟨rfl, rfl, rfl, rfl, rfl, rfl, rfl⟩
theorem n181 (P : Params) (a : Value) : BT (fdAt P 181) ⟨[a], []⟩ [(Str.ofString "needs", a)] := .of_eq (by kernel_rfl)
theorem g144 (w : World) : nsIn (KK w.params) mainGlobals (Str.ofString "TopologicalSorter") = some (some (.ref 144)) := by kernel_rfl
/-- an order of all rows in which every row comes behind those that it needs -/
structure TopoOrd (pss : List (List Nat)) (ord : List Nat) : Prop where
  nd : ord.Nodup
  mem : ∀ k, k ∈ ord ↔ k < pss.length
  topo : ∀ a k b, ord = a ++ k :: b → ∀ j ∈ pss.getD k [], j ∈ a
section
variable {prog : Program} {w : World} {A : Around} {E : Value → Shared → Prop} {s : Shared} {h₀ : Heap} {s₀ : Shared} {frs : List (Addr × Mp)} {led : List (Addr × Obj)} {env : Env} {L : Addr} {m : Mp}
theorem permO {q tp aR x : Addr × Obj} {X Y : List (Addr × Obj)} : (X ++ (aR :: q :: tp :: x :: Y)).Perm (q :: (X ++ (tp :: aR :: x :: Y))) := by
  have h1 : (aR :: q :: tp :: x :: Y).Perm (q :: tp :: aR :: x :: Y) := (List.Perm.swap _ _ _).trans ((List.Perm.swap _ _ _).cons _)
  exact (h1.append_left X).trans List.perm_middle
theorem permP {a b : Addr × Obj} {X Y : List (Addr × Obj)} : (X ++ (b :: a :: Y)).Perm (a :: (X ++ (b :: Y))) := ((List.Perm.swap _ _ _).append_left X).trans List.perm_middle
inductive ordI (prog : Program) (w : World) (h₀ : Heap) (s₀ : Shared) (L : Addr) (frs : List (Addr × Mp)) (led : List (Addr × Obj)) (g0 : List Gn) (N : Nat) (n : Nat) (s : Shared) : Prop
  | mk (m : _) (T : _) (aR : _) (aO : _) (vs : _) (us : _) (nR : _) (nO : _) (ord : _) (rd : _) (q1 : At h₀ s₀ ((L, m) :: frs) (So.led w.params T ++ ((aR, listOf (List.toArray vs) nR) :: (aO, listOf (List.toArray us) nO) :: led)) s) (q2 : T.Ok prog w) (q3 : T.rv = .ref aR) (q4 : T.a = T.b) (q5 : KI g0 (T.nds.map Nd.er) ord rd) (q6 : IntsAre vs (natI rd)) (q7 : IntsAre us (natI ord)) (q8 : m (Str.ofString "sorter") = some (.ref T.x)) (q9 : m (Str.ofString "order") = some (.ref aO)) (q10 : n = N - ord.length)
inductive cpI (h₀ : Heap) (s₀ : Shared) (c : Addr) (frs : List (Addr × Mp)) (led : List (Addr × Obj)) (D it tp : Addr) (rs : List Nat) (n : Nat) (s : Shared) : Prop
  | mk (m : _) (oi : _) (vs : _) (nD : _) (q1 : n ≤ rs.length) (q2 : At h₀ s₀ ((c, m) :: frs) ((D, listOf (List.toArray vs) nD) :: (it, oi) :: led) s) (q3 : TIt tp (rs.length - n) oi) (q4 : IntsAre vs (natI (rs.take (rs.length - n))))
set_option maxHeartbeats 1000000 in
theorem order_spec {R : Result → Shared → Prop} {j : Nat} (G : Gr w h₀) {dg : Addr} {og : Obj} {kvg : List (Int × Value)} {pss : List (List Nat)} {ρ : Nat → Nat} (h : At h₀ s₀ frs led s) (r : Rm A (j + 10)) (hF : Fo A (frs.map (·.1)))
    (hg : (dg, og) ∈ led) (hgs : (dg == sysModules) = false) (N : Needs prog w og kvg pss led) (hp1 : pss.length ≤ 20) (hp2 : ∀ ps ∈ pss, ps.length ≤ 20) (hlt : ∀ k, ∀ j ∈ pss.getD k [], j < pss.length) (hρ : ∀ k, ∀ j ∈ pss.getD k [], ρ j < ρ k)
    (kk : ∀ aO us nO ord s', At h₀ s₀ frs ((aO, listOf (List.toArray us) nO) :: led) s' → IntsAre us (natI ord) → TopoOrd pss ord → R (.ok (.ret (.ref aO))) s') :
    C prog w A (.call (.ref 181) ⟨[.ref dg], []⟩) R s := by
  obtain ⟨gi, gkeys⟩ := gi_upTo pss pss.length
  have hkeys : ∀ j, j ∈ gk (upTo pss pss.length) ↔ j < pss.length := fun j => by
    rw [gkeys]
    constructor
    · rintro (q | ⟨k, _, q⟩)
      · exact q
      · exact hlt k j q
    · exact .inl
  have hclosed : ∀ j ∈ gk (upTo pss pss.length), ∀ k ∈ sucOf (upTo pss pss.length) j, k ∈ gk (upTo pss pss.length) := fun j _ k hk => (hkeys k).mpr ((gi.su j k).mp hk).1
  have hrank : ∀ j k, k ∈ sucOf (upTo pss pss.length) j → ρ j < ρ k := fun j k hk => hρ k j ((gi.su j k).mp hk).2
  refine callIn G (f181 w) h r (n181 w.params _) (by kernel_rfl) fun L s₁ h r₁ => ?_
  obtain ⟨hF₁, envs, hfr⟩ := fo_deep (L := L) (env := envAt w.params 181 L) hF rfl rfl
  refine xCons (xSwap [Str.ofString "sorter", Str.ofString "order"] (dTup (iCons (cCls G h (g144 w) (iCons (ldL h rfl (iNil ⟨h.keep, ?_⟩)))))))
  refine mkI G (cl144 w) h (fI := 80) (by kernel_rfl) fun x dx A' s hdx h hA hfr' => ?_
  refine init_spec G h (hA _ r₁) hg hgs N hp1 hp2 fun S s h O ex edx erv ea eb her => ⟨rfl, ?_⟩
  refine iCons (dList (iNil ⟨Nat.le_of_ble_eq_true rfl, _, _, _, _, h, fun aO s h => iNil ⟨Nat.le_of_ble_eq_true rfl, _, _, _, _, h, fun tp s h => ?_⟩⟩))
  refine unp h r₁.handled (.head _) rfl fun s h => two h fun s h => ?_
  have h := (h.drop 1).perm (led' := S.led w.params ++ ((aO, listOf ([] : List Value).toArray 0) :: led)) List.perm_middle
  have K : Rk ρ S := by
    refine ⟨fun d hd k hk => ?_, fun d hd k hk => ?_⟩
    · have := sucOf_er O.nd hd
      rw [her] at this
      exact hrank _ _ (by rw [this]; exact hk)
    · have := sucOf_er O.nd hd
      rw [her] at this
      rw [← keys_er, her]
      exact hclosed d.key (by rw [← her]; exact List.mem_map.mpr ⟨d.er, List.mem_map_of_mem hd, rfl⟩) k (by rw [this]; exact hk)
  refine xCons (xExpr (cInst0 G (cl144 w) (f99 w) (x := S.x) (ldL h (by rw [ex]; rfl) ⟨_, _, rfl, h, S.m1 _, S.m2 _, ?_⟩)))
  refine prep_spec G h O K r₁ hF₁ erv fun aR vs nR s h hvs => ⟨rfl, ?_⟩
  have hstart := KI.start gi (rd := readyOf S.nds) (fun j => by rw [← her]; exact ready_mem O.nd j) (ready_nd O.nd)
  rw [← her] at hstart
  refine xCons (xWhile (ordI prog w h₀ s₀ L frs led (upTo pss pss.length) pss.length) (fun n s hI => ?_) _ ⟨_, { S with rv := .ref aR }, aR, aO, vs, [], nR, 0, [], readyOf S.nds, h, ⟨O.dict, O.sm, O.nd, O.vals, O.few⟩, rfl, ea.trans eb.symm, by rw [← her]; exact hstart, hvs, .nil, by rw [← ex]; rfl, rfl, rfl⟩)
  obtain ⟨m, T, aR, aO, vs, us, nR, nO, ord, rd, h, OT, hrv, hab, ki, hvs, hus, m1, m2, hn⟩ := hI
  obtain ⟨kf1, kf2⟩ := ki.facts gi.nd hclosed
  have hrl : rd.length ≤ pss.length := nodup_lt _ _ ki.kn.nd fun x hx => (hkeys x).mp (ki.kn.sub x hx).1
  have hvl := hvs.length
  have hul := hus.length
  simp only [natI, List.length_map] at hvl hul
  have hol : (ord ++ rd).length ≤ pss.length := nodup_lt _ _ (ki.step gi.nd hclosed).nd fun x hx => (hkeys x).mp ((ki.step gi.nd hclosed).sub x hx)
  rw [List.length_append] at hol
  refine tVal (cInst0 G (cl144 w) (f113 w) (x := T.x) (ldL h m1 ⟨_, _, rfl, h, T.m1 _, T.m2 _, active_spec G h r₁ hrv (by with_reducible exact ar14 ‹_› ‹_› ‹_› (by decide)) fun s h => tBool ?_⟩))
  rw [show decide (T.b < T.a) = false from decide_eq_false (by omega), Bool.false_or]
  cases rd with
  | nil =>
    have hv0 : vs = [] := by cases vs with | nil => rfl | cons _ _ => simp at hvl
    first | refine iteF (by rw [hv0]; decide) ?_ | rw [hv0, if_neg (by decide)]
    refine xNil (xCons (xRet (ldL h m2 ?_)))
    have h := h.pop.sub (led' := (aO, listOf (List.toArray us) nO) :: led) ((List.sublist_cons_self _ _).trans (List.sublist_append_right _ _))
    refine kk aO us nO ord _ h hus ⟨ki.nd, fun k => ?_, fun a k b e j hj => ?_⟩
    · constructor
      · intro q; exact (hkeys k).mp (ki.sub k q)
      · intro q; exact ki.fin gi.nd hrank k ((hkeys k).mpr q)
    · have hk : k < pss.length := (hkeys k).mp (ki.sub k (by rw [e]; simp))
      exact ki.topo a k b e j ((hkeys j).mpr (hlt k j hj)) ((gi.su j k).mpr ⟨hk, hj⟩)
  | cons r0 rd0 =>
    have hvne : (!vs.isEmpty) = true := by cases vs with | nil => simp at hvl | cons _ _ => rfl
    first | refine iteT hvne ?_ | rw [if_pos hvne]
    generalize hrd : r0 :: rd0 = rd at *
    have hrk : ∀ k ∈ rd, k ∈ T.nds.map (·.key) := fun k hk => by
      have := (ki.kn.sub k hk).1
      rw [← ki.kn.keys] at this
      rw [← keys_er]; exact this
    refine xCons (xAsg (cInst0 G (cl144 w) (f106 w) (x := T.x) (ldL h m1 ⟨_, _, rfl, h, T.m1 _, T.m2 _, ready_spec G h OT r₁ hrv hvs hrk (by with_reducible exact ar15 ‹_› ‹_› (by decide)) fun U tp n' s h OU ux udx urv ua ub uer => stL h fun s h => ?_⟩)))
    refine xCons (xExpr (cInst1 G (cl144 w) (f127 w) (x := U.x) (ldL h (show _ = some (Value.ref U.x) by rw [ux]; exact m1) ⟨_, _, rfl, h, U.m1 _, U.m2 _, fun q s h => ldL h rfl (starT h (vs := vs) (n := 0) (.tail _ (List.mem_append_right _ (.head _))) (by with_reducible exact ar14 ‹_› ‹_› ‹_› (by decide)) fun s h => ⟨⟨_, _, h⟩, ?_⟩)⟩)))
    have h := h.perm (led' := U.led w.params ++ ((aR, listOf ([] : List Value).toArray n') :: (q, methodObj (.ref 127) (.ref U.x)) :: (tp, tupOf vs.toArray 0) :: (aO, listOf (List.toArray us) nO) :: led)) permO
    have hUk : U.nds.map (·.key) = T.nds.map (·.key) := by rw [← keys_er, uer, outG_keys, keys_er]
    have hsU : ∀ d ∈ U.nds, d.succ = sucOf (upTo pss pss.length) d.key := fun d hd => by rw [← sucOf_er OU.nd hd, uer, suc_out]; exact ki.kn.suc _
    have hkU : ∀ k, k ∈ U.nds.map (·.key) ↔ k ∈ gk (upTo pss pss.length) := fun k => by rw [hUk, ← keys_er, ← ki.kn.keys]
    have hshort : ∀ j, (sucOf (upTo pss pss.length) j).length ≤ 400 := fun j => by
      unfold sucOf
      cases e : (upTo pss pss.length).find? (fun e => e.1 == j) with
      | none => exact Nat.zero_le _
      | some e' =>
        have := upTo_short hp2 pss.length e' (find_key e).2
        show e'.2.2.length ≤ 400
        omega
    have hshU : ∀ j, (sucOf (outG rd (T.nds.map Nd.er)) j).length ≤ 400 := fun j => by rw [suc_out, ki.kn.suc]; exact hshort j
    refine done_spec G h OU r₁ (urv.trans hrv) (rd := []) hvs .nil (by with_reducible exact ar15 ‹_› ‹_› (by decide)) (fun d hd k hk => (hkU k).mpr (hclosed d.key ((hkU _).mp (List.mem_map_of_mem hd)) k (by rw [← hsU d hd]; exact hk))) (fun k hk => by rw [hUk]; exact hrk k hk) (fun i k hk => by rw [uer]; exact ki.out gi.nd hclosed i k hk) (fun i k hk l => ?_) fun V ws nW s h OV vx vdx vrv va vb vsh ver hws => ⟨rfl, ?_⟩
    · rw [uer]
      have c1 := (fold_cap ((sucOf (outG rd (T.nds.map Nd.er)) k).take l) (updK k (fun e => (e.1, (-2 : Int), e.2.2)) (doneAll (rd.take i) (outG rd (T.nds.map Nd.er), [])).1, (doneAll (rd.take i) (outG rd (T.nds.map Nd.er), [])).2)).1
      have c2 := (all_cap (B := 400) (rd.take i) (outG rd (T.nds.map Nd.er), []) hshU).1
      have c3 := hshU k
      rw [List.length_take] at c1 c2
      have c4 : 400 * min i rd.length ≤ 400 * 20 := Nat.mul_le_mul_left _ (by with_reducible exact arI ‹_› ‹_›)
      simp only [List.length_nil] at c2
      refine Nat.le_trans c1 ?_
      exact arU c2 c3 c4 rfl
    · rw [uer] at ver hws
      obtain ⟨m', q1, q2, q3, h⟩ : ∃ m' : Mp, m' (Str.ofString "sorter") = some (.ref V.x) ∧ m' (Str.ofString "order") = some (.ref aO) ∧ m' (Str.ofString "ready") = some (.ref tp) ∧ At h₀ s₀ ((L, m') :: frs) (V.led w.params ++ ((aR, listOf (List.toArray ws) nW) :: (q, methodObj (.ref 127) (.ref U.x)) :: (tp, tupOf vs.toArray 0) :: (aO, listOf (List.toArray us) nO) :: led)) s := ⟨fun y => if y = Str.ofString "ready" then some (Value.ref tp) else m y, by rw [vx, ux]; exact m1, m2, rfl, h⟩
      have htp : (tp, tupOf vs.toArray 0) ∈ V.led w.params ++ ((aR, listOf (List.toArray ws) nW) :: (q, methodObj (.ref 127) (.ref U.x)) :: (tp, tupOf vs.toArray 0) :: (aO, listOf (List.toArray us) nO) :: led) := List.mem_append_right _ (.tail _ (.tail _ (.head _)))
      refine xCons (xAsg (eBin (ldL h q2 (lComp (ldL h q3 (itT h htp fun it oi s hi h => ⟨_, _, h, fun c D s h => ⟨it2T h (.tail _ (.head _)) hi, cpI h₀ s₀ c ((L, m') :: frs) (V.led w.params ++ ((aR, listOf (List.toArray ws) nW) :: (q, methodObj (.ref 127) (.ref U.x)) :: (tp, tupOf vs.toArray 0) :: (aO, listOf (List.toArray us) nO) :: led)) D it tp rd, rd.length, ?_, fun k s hI => ?_⟩⟩))))))
      · refine ⟨_, oi, [], 0, Nat.le_refl _, h, by rw [Nat.sub_self]; exact hi, ?_⟩
        rw [Nat.sub_self, List.take_zero]; exact .nil
      obtain ⟨mc, oi, xs, nD, hk, h, hi, hxs⟩ := hI
      have hxl := hxs.length
      simp only [natI, List.length_map, List.length_take] at hxl
      by_cases hk0 : k = 0
      · subst hk0
        rw [Nat.sub_zero, List.take_length] at hxs
        refine nxTend (h.perm (List.Perm.swap _ _ _)) r₁.handled hi (.tail _ htp) (by rw [List.getElem?_eq_none_iff]; with_reducible exact ar6b ‹_›) fun s h => ⟨_, _, h, fun s h => ?_⟩
        refine lAdd h (vs := us) (n := nO) (ws := xs) (n2 := nD) (.tail _ (List.mem_append_right _ (.tail _ (.tail _ (.tail _ (.head _)))))) (.head _) (by rw [sizeLine_eq]; with_reducible exact arH ‹_› ‹_› ‹_› ‹_› (by decide)) fun aO' s h => stL h fun s h => xNil ?_
        have h := h.sub (led' := (aO', listOf (us ++ xs).toArray 0) :: (V.led w.params ++ ((aR, listOf (List.toArray ws) nW) :: led))) (List.Sublist.cons_cons _ ((List.Sublist.append (List.Sublist.refl _) (List.Sublist.cons_cons _ (((List.Sublist.refl led).cons _).cons _ |>.cons _))).cons _))
        have h := h.perm (led' := V.led w.params ++ ((aR, listOf (List.toArray ws) nW) :: (aO', listOf (us ++ xs).toArray 0) :: led)) permP
        refine ⟨pss.length - (ord ++ rd).length, ?_, _, V, aR, aO', ws, us ++ xs, nW, 0, ord ++ rd, _, h, OV, vrv.trans (urv.trans hrv), ?_, by rw [ver]; exact ki.step gi.nd hclosed, hws, by rw [natI_app]; exact hus.append hxs, q1, rfl, rfl⟩
        · rw [List.length_append, hn]
          have : 0 < rd.length := by rw [← hrd]; simp
          with_reducible exact arD ‹_› ‹_›
        · rw [va, vb, ua, ub, hab]
      · have hlt' : rd.length - k < rd.length := by with_reducible exact ar5 ‹_› ‹_›
        have hkk := List.getElem?_eq_getElem hlt'
        have htk : rd.take (rd.length - k + 1) = rd.take (rd.length - k) ++ [rd[rd.length - k]] := List.take_succ_eq_append_getElem hlt'
        generalize rd[rd.length - k] = z at hkk htk
        obtain ⟨tz, hz⟩ := natI_get hvs hkk
        have h := h.perm (List.Perm.swap (D, listOf (List.toArray xs) nD) (it, oi) _)
        refine nxT h hi (.tail _ htp) hz fun oi' s hi h => aName (stL h fun s h => tst0 ?_)
        have h := h.perm (List.Perm.swap (it, oi') (D, listOf (List.toArray xs) nD) _)
        first | refine iteT rfl ?_ | rw [if_pos rfl]
        refine ldL h rfl (fAppend h .head (by rw [sizeLine_eq]; with_reducible exact ar21 ‹_› ‹_› ‹_› (by decide)) fun s h => ⟨k - 1, by with_reducible exact ar3 ‹_›, _, oi', _, _, by with_reducible exact ar4 ‹_›, h, ?_, ?_⟩)
        · rw [show rd.length - (k - 1) = rd.length - k + 1 by with_reducible exact ar1 ‹_› ‹_›]; exact hi
        · rw [show rd.length - (k - 1) = rd.length - k + 1 by with_reducible exact ar1 ‹_› ‹_›, htk, natI_app]
          exact hxs.append (.cons _ _ .nil)
end
end Mine
end

/-! part RulesI -/
section
open PySem PySem.W PyProof.Rows PySem.Calls
set_option maxRecDepth 100000
set_option linter.unusedVariables false
namespace Mine
section
variable {t0 i0 t1 i1 t2 i2 elt : Expr} {f0 f1 f2 : List Expr} {scope : Scope} {pos : Pos} {it acc : Value} {env : Env}
theorem compTurn_n0 : compTurn (.ListComp elt [⟨t0, i0, f0, 0⟩, ⟨t1, i1, f1, 0⟩, ⟨t2, i2, f2, 0⟩] scope pos) 0 it acc env = (do
      standAt i0.pos
      match ← pyNext it with
      | none => pure (.done .next)
      | some v =>
        letOwnedTupleGo t0 it v
        assign t0 env v
        let mut ok := true
        for c in f0 do
          if ok then ok ← isTrue c env (eval c env)
        if ok then
          let x ← eval i1 env
          standAt i1.pos
          let x ← foldedSetIterable i1 env x
          let _ ← runOwn (.compStart (.ListComp elt [⟨t0, i0, f0, 0⟩, ⟨t1, i1, f1, 0⟩, ⟨t2, i2, f2, 0⟩] scope pos) 1 (← holding [x] (pyIter x)) acc env) env
        again (.compLoop (.ListComp elt [⟨t0, i0, f0, 0⟩, ⟨t1, i1, f1, 0⟩, ⟨t2, i2, f2, 0⟩] scope pos) 0 it acc env)) := by rfl
theorem compTurn_n1 : compTurn (.ListComp elt [⟨t0, i0, f0, 0⟩, ⟨t1, i1, f1, 0⟩, ⟨t2, i2, f2, 0⟩] scope pos) 1 it acc env = (do
      standAt i1.pos
      match ← pyNext it with
      | none => pure (.done .next)
      | some v =>
        letOwnedTupleGo t1 it v
        assign t1 env v
        let mut ok := true
        for c in f1 do
          if ok then ok ← isTrue c env (eval c env)
        if ok then
          let x ← eval i2 env
          standAt i2.pos
          let x ← foldedSetIterable i2 env x
          let _ ← runOwn (.compStart (.ListComp elt [⟨t0, i0, f0, 0⟩, ⟨t1, i1, f1, 0⟩, ⟨t2, i2, f2, 0⟩] scope pos) 2 (← holding [x] (pyIter x)) acc env) env
        again (.compLoop (.ListComp elt [⟨t0, i0, f0, 0⟩, ⟨t1, i1, f1, 0⟩, ⟨t2, i2, f2, 0⟩] scope pos) 1 it acc env)) := by rfl
theorem compTurn_n2 : compTurn (.ListComp elt [⟨t0, i0, f0, 0⟩, ⟨t1, i1, f1, 0⟩, ⟨t2, i2, f2, 0⟩] scope pos) 2 it acc env = (do
      standAt i2.pos
      match ← pyNext it with
      | none => pure (.done .next)
      | some v =>
        letOwnedTupleGo t2 it v
        assign t2 env v
        let mut ok := true
        for c in f2 do
          if ok then ok ← isTrue c env (eval c env)
        if ok then
          (do let _ ← call (.builtin "list.append") [acc, ← eval elt env])
        again (.compLoop (.ListComp elt [⟨t0, i0, f0, 0⟩, ⟨t1, i1, f1, 0⟩, ⟨t2, i2, f2, 0⟩] scope pos) 2 it acc env)) := by rfl
variable {prog : Program} {w : World} {A : Around} {E : Value → Shared → Prop} {s : Shared} {R : Result → Shared → Prop}
noncomputable def kN4 (I : Nat → Shared → Prop) (n : Nat) (r : Result) (s : Shared) : Prop := match r with | .ok _ => Less I n s | .error _ => False
noncomputable def kN3 (prog : Program) (w : World) (A : Around) (env : Env) (e : Expr) (d : Nat) (acc : Value) (I : Nat → Shared → Prop) (n : Nat) (it' : Value) (s : Shared) : Prop := C prog w A (.compStart e d it' acc env) (kN4 I n) s
noncomputable def kN2 (prog : Program) (w : World) (A : Around) (env : Env) (e inner : Expr) (d : Nat) (acc : Value) (I : Nat → Shared → Prop) (n : Nat) (_ : Unit) (s : Shared) : Prop := W prog w A (eval inner env) (kO prog w A noE pyIter (kN3 prog w A env e d acc I n)) noE s
noncomputable def kNT (prog : Program) (w : World) (A : Around) (env : Env) (e target inner : Expr) (d : Nat) (acc : Value) (Fin : Shared → Prop) (I : Nat → Shared → Prop) (n : Nat) (r : Option Value) (s : Shared) : Prop := match r with
    | none => Fin s
    | some v => W prog w A (assign target env v) (kN2 prog w A env e inner d acc I n) noE s
/-- one turn of a for of a comprehension with another for under it -/
noncomputable def NTurn (prog : Program) (w : World) (A : Around) (env : Env) (e target inner : Expr) (d : Nat) (it acc : Value) (Fin : Shared → Prop) (I : Nat → Shared → Prop) (n : Nat) (s : Shared) : Prop :=
  W prog w A (pyNext it) (kNT prog w A env e target inner d acc Fin I n) noE s
theorem nest0 (I : Nat → Shared → Prop) (turn : ∀ n s, I n s → NTurn prog w A env (.ListComp elt [⟨t0, i0, [], 0⟩, ⟨t1, i1, f1, 0⟩, ⟨t2, i2, f2, 0⟩] scope pos) t0 i1 1 it acc (R (.ok .next)) I n s) (n : Nat) (h : I n s)
    (hs : autoParam (∀ x, foldedSetIterable i1 env x = Pure.pure x) Mine.aInt) (ht : autoParam (∀ v, letOwnedTupleGo t0 it v = Pure.pure ()) Mine.aInt) :
    C prog w A (.compLoop (.ListComp elt [⟨t0, i0, [], 0⟩, ⟨t1, i1, f1, 0⟩, ⟨t2, i2, f2, 0⟩] scope pos) 0 it acc env) R s := by
  refine ⟨codeAny_loop rfl I (fun n s hI => ?_) n h⟩
  show wpAny _ A ((compTurn (.ListComp elt [⟨t0, i0, [], 0⟩, ⟨t1, i1, f1, 0⟩, ⟨t2, i2, f2, 0⟩] scope pos) 0 it acc env).onRaise (fun x => do noteFrame x env; theTreesLotGoes x)) _ _ s
  refine wpAny_noted ?_
  rw [compTurn_n0]
  refine wpAny_bind (wpAny_standAt (wpAny_bind (wpAny_mono (turn n s hI).w (fun r s₁ h₁ => ?_) fun _ _ h' => h'.elim)))
  cases r with
  | none => exact wpAny_pure h₁
  | some v =>
    refine wpAny_bind (wpAny_of_eq (ht v) ?_)
    refine wpAny_bind (wpAny_mono (h₁ : W prog w A (assign t0 env v) _ _ s₁).w (fun _ s₂ h₂ => wpAny_bind (wpAny_pure ?_)) fun _ _ h' => h'.elim)
    refine wpAny_bind (wpAny_mono (h₂ : W prog w A (eval i1 env) _ _ s₂).w (fun x s₃ h₃ => wpAny_bind (wpAny_standAt (wpAny_bind (wpAny_of_eq (hs x) (wpAny_bind (wpAny_holding (wpAny_mono (h₃ : W prog w A (pyIter x) _ _ s₃).w (fun it' s₄ h₄ => ?_) fun _ _ h' => h'.elim))))))) fun _ _ h' => h'.elim)
    have h₄ : C prog w A _ (kN4 I n) s₄ := h₄
    refine wpAny_bind (wpAny_runOwn (codeAny_mono h₄.c fun r s₅ hr => ?_))
    cases r with
    | ok f => exact wpAny_pure ⟨rfl, less_ex hr⟩
    | error e => exact hr.elim
theorem nest1 (I : Nat → Shared → Prop) (turn : ∀ n s, I n s → NTurn prog w A env (.ListComp elt [⟨t0, i0, f0, 0⟩, ⟨t1, i1, [], 0⟩, ⟨t2, i2, f2, 0⟩] scope pos) t1 i2 2 it acc (R (.ok .next)) I n s) (n : Nat) (h : I n s)
    (hs : autoParam (∀ x, foldedSetIterable i2 env x = Pure.pure x) Mine.aInt) (ht : autoParam (∀ v, letOwnedTupleGo t1 it v = Pure.pure ()) Mine.aInt) :
    C prog w A (.compLoop (.ListComp elt [⟨t0, i0, f0, 0⟩, ⟨t1, i1, [], 0⟩, ⟨t2, i2, f2, 0⟩] scope pos) 1 it acc env) R s := by
  refine ⟨codeAny_loop rfl I (fun n s hI => ?_) n h⟩
  show wpAny _ A ((compTurn (.ListComp elt [⟨t0, i0, f0, 0⟩, ⟨t1, i1, [], 0⟩, ⟨t2, i2, f2, 0⟩] scope pos) 1 it acc env).onRaise (fun x => do noteFrame x env; theTreesLotGoes x)) _ _ s
  refine wpAny_noted ?_
  rw [compTurn_n1]
  refine wpAny_bind (wpAny_standAt (wpAny_bind (wpAny_mono (turn n s hI).w (fun r s₁ h₁ => ?_) fun _ _ h' => h'.elim)))
  cases r with
  | none => exact wpAny_pure h₁
  | some v =>
    refine wpAny_bind (wpAny_of_eq (ht v) ?_)
    refine wpAny_bind (wpAny_mono (h₁ : W prog w A (assign t1 env v) _ _ s₁).w (fun _ s₂ h₂ => wpAny_bind (wpAny_pure ?_)) fun _ _ h' => h'.elim)
    refine wpAny_bind (wpAny_mono (h₂ : W prog w A (eval i2 env) _ _ s₂).w (fun x s₃ h₃ => wpAny_bind (wpAny_standAt (wpAny_bind (wpAny_of_eq (hs x) (wpAny_bind (wpAny_holding (wpAny_mono (h₃ : W prog w A (pyIter x) _ _ s₃).w (fun it' s₄ h₄ => ?_) fun _ _ h' => h'.elim))))))) fun _ _ h' => h'.elim)
    have h₄ : C prog w A _ (kN4 I n) s₄ := h₄
    refine wpAny_bind (wpAny_runOwn (codeAny_mono h₄.c fun r s₅ hr => ?_))
    cases r with
    | ok f => exact wpAny_pure ⟨rfl, less_ex hr⟩
    | error e => exact hr.elim
theorem nest2 {D : Addr} (I : Nat → Shared → Prop) (turn : ∀ n s, I n s → LTurn prog w A env elt t2 [] it D (R (.ok .next)) I n s) (n : Nat) (h : I n s) (ht : autoParam (∀ v, letOwnedTupleGo t2 it v = Pure.pure ()) Mine.aInt) :
    C prog w A (.compLoop (.ListComp elt [⟨t0, i0, f0, 0⟩, ⟨t1, i1, f1, 0⟩, ⟨t2, i2, [], 0⟩] scope pos) 2 it (.ref D) env) R s := by
  refine ⟨codeAny_loop rfl I (fun n s hI => ?_) n h⟩
  show wpAny _ A ((compTurn (.ListComp elt [⟨t0, i0, f0, 0⟩, ⟨t1, i1, f1, 0⟩, ⟨t2, i2, [], 0⟩] scope pos) 2 it (.ref D) env).onRaise (fun x => do noteFrame x env; theTreesLotGoes x)) _ _ s
  refine wpAny_noted ?_
  rw [compTurn_n2]
  refine wpAny_bind (wpAny_standAt (wpAny_bind (wpAny_mono (turn n s hI).w (fun r s₁ h₁ => ?_) fun _ _ h' => h'.elim)))
  cases r with
  | none => exact wpAny_pure h₁
  | some v =>
    refine wpAny_bind (wpAny_of_eq (ht v) ?_)
    refine wpAny_bind (wpAny_mono (h₁ : W prog w A (assign t2 env v) _ _ s₁).w (fun _ s₂ h₂ => wpAny_bind (wpAny_mono (h₂ : W prog w A (tests [] env) _ _ s₂).w (fun ok s₃ h₃ => ?_) fun _ _ h' => h'.elim)) fun _ _ h' => h'.elim)
    cases ok with
    | false => exact wpAny_pure ⟨rfl, less_ex h₃⟩
    | true =>
      exact wpAny_bind (wpAny_bind (wpAny_mono (h₃ : W prog w A (eval elt env) _ _ s₃).w (fun x s₄ h₄ => wpAny_bind (wpAny_mono (h₄ : W prog w A _ _ _ s₄).w (fun _ s₅ h₅ => wpAny_pure (wpAny_pure ⟨rfl, less_ex h₅⟩)) fun _ _ h' => h'.elim)) fun _ _ h' => h'.elim))
/-- the iterator asked for twice -/
theorem startN {gens : List Comprehension} {d : Nat} {g : Comprehension} (hg : gens[d]? = some g) (ha : g.is_async = 0) (h0 : C prog w A (.compLoop (.ListComp elt gens scope pos) d it acc env) R s)
    (h : W prog w A (pyIter it) (fun it' s' => it' = it ∧ s' = s) (fun _ _ => False) s) : C prog w A (.compStart (.ListComp elt gens scope pos) d it acc env) R s := by
  refine ⟨codeAny_of_tree ?_⟩
  show wpAny _ _ ((compStart (.ListComp elt gens scope pos) d it acc env).onRaise (fun x => do noteFrame x env; standAt theWindowsPlace)) _ _ s
  refine wpAny_notedAt ?_
  unfold compStart
  have hc : clausesOf (.ListComp elt gens scope pos) = gens := rfl
  rw [hc, hg]
  simp only [Option.elim_some, ha, bne_self_eq_false, Bool.false_eq_true, if_false]
  refine wpAny_bind (wpAny_askSetting (wpAny_ite ?_))
  split
  · exact wpAny_pure (And.intro rfl h0.c)
  · exact wpAny_bind (wpAny_rule (wpAny_bind (wpAny_standAt (wpAny_bind (wpAny_mono h.w (fun it' s' ⟨e1, e2⟩ => by rw [e1, e2]; exact wpAny_pure (And.intro rfl h0.c)) fun _ _ x => x.elim)))))
end
end Mine
end

/-! part RulesJ -/
section
open PySem PySem.W PyProof.Rows PySem.Calls
set_option maxRecDepth 100000
set_option linter.unusedVariables false
namespace Mine
section
variable {prog : Program} {w : World} {A : Around} {E : Value → Shared → Prop} {s : Shared} {h₀ : Heap} {s₀ : Shared} {frs : List (Addr × Mp)} {led led' : List (Addr × Obj)} {env : Env} {L : Addr} {m : Mp}
/-! cells -/
theorem ldC {x : Str} {pos : Pos} {c : Addr} {o : Obj} {v : Value} {Q : Value → Shared → Prop} (h : At h₀ s₀ frs led s) (hm : (c, o) ∈ led) (hd : o.data = .cell (some v)) (k : Q v s)
    (hc : autoParam (env.cells.lookup x = some c) Mine.aRfl) (hk : autoParam (env.scope.kind = .function) Mine.aRfl) (hl : autoParam (env.kindOf x = some .cell) Mine.aRfl) (hdb : autoParam ((x == ("__debug__" : Str)) = false) Mine.aRfl) : W prog w A (eval (.Name x pos) env) Q E s :=
  ⟨wpAny_Name (wpAny_loadName_cell hk hl hc ⟨o, h.get _ hm, hd⟩ k) hdb⟩
theorem stC {x : Str} {c : Addr} {o : Obj} {v0 : Option Value} {v : Value} {Q : Unit → Shared → Prop} {led' : Obj → List (Addr × Obj)} (h : At h₀ s₀ frs led s) (r : ∀ o', Rep c o o' led (led' o')) (hd : o.data = .cell v0) (k : ∀ o' s', o'.data = .cell (some v) → At h₀ s₀ frs (led' o') s' → Q () s')
    (hc : autoParam (env.cells.lookup x = some c) Mine.aRfl) (hk : autoParam (env.scope.kind = .function) Mine.aRfl) (hl : autoParam (env.kindOf x = some .cell) Mine.aRfl) : W prog w A (storeName env x v) Q E s :=
  ⟨wpAny_storeName_cell hk hl hc ⟨o, h.get _ (r o).mem, hd⟩ fun h' ⟨o', h1, h2⟩ hs => k o' _ h2 (h.same (t := s.toks) (r o') hs h1)⟩
theorem xAsgT {elts : List Expr} {kk : Nat} {tpos pos : Pos} {value : Expr} {Q : Flow → Shared → Prop} (h : W prog w A (eval value env) (kO prog w A E (assign (.Tuple elts kk tpos) env) (kNx Q)) E s)
    (hs : autoParam (swapsWithSole [.Tuple elts kk tpos] value pos.line env = Pure.pure false) Mine.aRfl) (hw : autoParam (swappedStores [.Tuple elts kk tpos] value env = Pure.pure Option.none) Mine.aRfl) : W prog w A (exec (.Assign [.Tuple elts kk tpos] value pos) env) Q E s :=
  ⟨Assign_Tuple (up h fun _ _ h => h.w) hs hw⟩
noncomputable def kTw (prog : Program) (w : World) (A : Around) (E : Value → Shared → Prop) (env : Env) (y : Str) (vb : Value) (Q : Unit → Shared → Prop) (_ : Unit) (s : Shared) : Prop := W prog w A (storeName env y vb) Q E s
theorem aTwo {x y : Str} {px py pos : Pos} {kk n : Nat} {t : Addr} {va vb : Value} {Q : Unit → Shared → Prop} (h : At h₀ s₀ frs led s) (hh : A.handled = none) (ht : (t, tupOf ([va, vb] : List Value).toArray n) ∈ led)
    (k : ∀ s', At h₀ s₀ frs led s' → W prog w A (storeName env x va) (kTw prog w A E env y vb Q) E s') : W prog w A (assign (.Tuple [.Name x px, .Name y py] kk pos) env (.ref t)) Q E s := by
  refine ⟨assign_Tuple_tuple hh (h.isTup ht) rfl rfl fun h' he => ?_⟩
  have h1 := k _ (h.extBut (t := s.toks) he)
  exact wpAny_bind (wpAny_holding (assign_Name (wpAny_mono h1.w (fun _ s₂ (h2 : W prog w A (storeName env y vb) _ _ s₂) => wpAny_bind (wpAny_holding (assign_Name (wpAny_mono h2.w (fun _ _ z => wpAny_pure z) fun _ _ z => z)))) fun _ _ z => z)))
noncomputable def kCh1 (prog : Program) (w : World) (A : Around) (E : Value → Shared → Prop) (env : Env) (r2 : Expr) (op1 op2 : CmpOp) (Q : Bool → Shared → Prop) (a b : Value) (s : Shared) : Prop := W prog w A (compareOp op1 a b) (kO prog w A E truthy (fun t s₄ => if t = true then W prog w A (eval r2 env) (kO prog w A E (compareOp op2 b) (kO prog w A E truthy Q)) E s₄ else Q false s₄)) E s
noncomputable def kCh (prog : Program) (w : World) (A : Around) (E : Value → Shared → Prop) (env : Env) (r1 r2 : Expr) (op1 op2 : CmpOp) (Q : Bool → Shared → Prop) (a : Value) (s : Shared) : Prop := W prog w A (eval r1 env) (kCh1 prog w A E env r2 op1 op2 Q a) E s
/-- a <= b < c as a test -/
theorem tChain {l r1 r2 : Expr} {op1 op2 : CmpOp} {pos : Pos} {whole : Sem Value} {Q : Bool → Shared → Prop}
    (h : W prog w A (eval l env) (kCh prog w A E env r1 r2 op1 op2 Q) E s)
    (he : autoParam (markedEach [op1, op2] [r1, r2] (evalEach [r1, r2] env) = [eval r1 env, eval r2 env]) Mine.aRfl) : W prog w A (isTrue (.Compare l [op1, op2] [r1, r2] pos) env whole) Q E s := by
  constructor
  rw [arm_isTrue_Compare, he]
  refine wpAny_bind (wpAny_mono h.w (fun a s₁ h₁ => ?_) fun _ _ z => z)
  show wpAny _ _ (holding [a] (eval r1 env) >>= _) _ _ _
  have h₁ : W prog w A (eval r1 env) _ _ s₁ := h₁
  refine wpAny_bind (wpAny_holding (wpAny_mono h₁.w (fun b s₂ (h₂ : W prog w A (compareOp op1 a b) _ _ s₂) => wpAny_bind (wpAny_standAt (wpAny_bind (wpAny_holding (wpAny_mono h₂.w (fun c s₃ (h₃ : W prog w A (truthy c) _ _ s₃) => wpAny_bind (wpAny_release (wpAny_bind (wpAny_holding (wpAny_mono h₃.w (fun t s₄ h₄ => ?_) fun _ _ z => z))))) fun _ _ z => z))))) fun _ _ z => z))
  cases t with
  | false => exact wpAny_pure h₄
  | true =>
    show wpAny _ _ (testChain pos b [op2] [eval r2 env]) _ _ _
    show wpAny _ _ (holding [b] (eval r2 env) >>= _) _ _ _
    exact wpAny_bind (wpAny_holding (wpAny_mono (h₄ : W prog w A (eval r2 env) _ _ s₄).w (fun d s₅ (h₅ : W prog w A (compareOp op2 b d) _ _ s₅) => wpAny_bind (wpAny_standAt (wpAny_bind (wpAny_operating (wpAny_mono h₅.w (fun e s₆ (h₆ : W prog w A (truthy e) _ _ s₆) => wpAny_holding h₆.w) fun _ _ z => z))))) fun _ _ z => z))
/-- sum of a list of ints -/
theorem ints_pairs : ∀ {vs : List Value} {ns : List Int}, IntsAre vs ns → ∃ xs : List (Int × Tok), vs.toArray = intItems xs.toArray
  | _, _, .nil => ⟨[], by simp [intItems]⟩
  | _, _, .cons n t h => by
    obtain ⟨xs, e⟩ := ints_pairs h
    refine ⟨(n, t) :: xs, ?_⟩
    simp only [intItems, List.map_toArray, List.map_cons] at e ⊢
    have := congrArg Array.toList e
    simp at this
    rw [← this]
theorem fSum {l : Addr} {vs : List Value} {n : Nat} {ns : List Int} {Q : Value → Shared → Prop} (h : At h₀ s₀ frs led s) (hh : A.handled = none) (hl : (l, listOf vs.toArray n) ∈ led) (hi : IntsAre vs ns) (k : ∀ (i : Int) t s', At h₀ s₀ frs led s' → Q (.int i t) s') : W prog w A (call (.builtin "sum") [.ref l]) Q E s := by
  obtain ⟨xs, e⟩ := ints_pairs hi
  have hL := h.isList hl
  rw [e] at hL
  exact ⟨sum_intListG hh hL fun h' tk t' hk => k _ _ _ (h.grow (t := tk) hk)⟩
end
end Mine
end

/-! part RulesK -/
section
open PySem PySem.W PyProof.Rows PySem.Calls
set_option maxRecDepth 100000
set_option linter.unusedVariables false
namespace Mine
noncomputable abbrev cell0 : Obj := { cls := .type "cell", data := .cell none }
section
variable {prog : Program} {w : World} {A : Around} {E : Value → Shared → Prop} {s : Shared} {h₀ : Heap} {s₀ : Shared} {frs : List (Addr × Mp)} {led led' : List (Addr × Obj)} {env : Env} {L : Addr} {m : Mp}
/-- the names of a comprehension with one cell of its own -/
theorem newK {scope : Scope} {cl : List (Str × Addr)} {x : Str} {Q : Env → Shared → Prop} (h : At h₀ s₀ frs led s) (hcf : ∀ n, cellsFrom n scope.names cl = (x, n) :: cl) (hpc : ∀ hp, pushCells hp scope.names = hp.push cell0)
    (k : ∀ c cc s', At h₀ s₀ ((c, fun _ => none) :: frs) ((cc, cell0) :: led) s' → Q { scope := scope, locals := c, globals := env.globals, cells := (x, cc) :: cl, qual := env.qual, func := none, code := env.code, frame := env.frame, builtins := env.builtins } s') :
    wpAny (model prog w) A (newFunctionEnv scope env.globals cl [] env.qual none .none (some env)) Q E s := by
  simp only [newFunctionEnv]
  refine wpAny_bind (wpAny_alloc ?_)
  refine wpAny_bind (wpAny_layCells _ (fun name kind cells => by cases hkc : kind == NameKind.cell <;> simp [hkc]) _ _ _ _ ?_)
  have h1 : At h₀ s₀ ((s.heap.objs.size, fun _ => none) :: frs) led { s with heap := s.heap.push { cls := .type (if (some env).isSome then "dict" else "frame"), data := .dict #[] }, toks := s.toks } := h.frame (fun b o e => Heap.get?_push_of_some _ e) (Heap.Ns.new s.heap _) (Nat.le_refl _)
  have h2 := h1.push cell0 rfl s.toks
  rw [hcf, hpc]
  refine wpAny_bind (wpAny_pure (wpAny_pure ?_))
  exact k _ _ _ h2
noncomputable def kFin (h₀ : Heap) (s₀ : Shared) (c : Addr) (frs : List (Addr × Mp)) (P : Shared → Prop) (r : Result) (s : Shared) : Prop := match r with | .ok _ => FinK h₀ s₀ c frs P s | .error _ => False
inductive Lc3 (prog : Program) (w : World) (A : Around) (h₀ : Heap) (s₀ : Shared) (e : Expr) (scope : Scope) (cl : List (Str × Addr)) (env : Env) (Q : Value → Shared → Prop) (it : Value) (s : Shared) : Prop
  | mk (frs : List (Addr × Mp)) (led : List (Addr × Obj)) (h : At h₀ s₀ frs led s) (k : ∀ c D s₃, At h₀ s₀ ((c, fun _ => none) :: frs) ((D, listOf ([] : List Value).toArray 0) :: led) s₃ →
      W prog w A (pyIter it) (fun it' s' => it' = it ∧ s' = s₃) (fun _ _ => False) s₃ ∧ C prog w A (.compLoop e 0 it (.ref D) (compEnvC scope cl c env)) (kFin h₀ s₀ c frs (Q (.ref D))) s₃) : Lc3 prog w A h₀ s₀ e scope cl env Q it s
/-- a comprehension of three fors -/
theorem lComp3 {elt t0 i0 t1 i1 t2 i2 : Expr} {scope : Scope} {pos : Pos} {cl : List (Str × Addr)} {Q : Value → Shared → Prop}
    (h : W prog w A (eval i0 env) (kO prog w A E pyIter (Lc3 prog w A h₀ s₀ (.ListComp elt [⟨t0, i0, [], 0⟩, ⟨t1, i1, [], 0⟩, ⟨t2, i2, [], 0⟩] scope pos) scope cl env Q)) E s)
    (hclos : autoParam (closureFor scope env = Pure.pure cl) Mine.aRfl) (hcell : autoParam ((scope.names.all fun x => decide (x.2 ≠ .cell)) = true) Mine.aKer) (hkind : autoParam (scope.kind = .function) Mine.aRfl) (hnames : autoParam ((scope.names.all fun x => decide (x.2 = .local → scope.names.lookup x.1 = some .local)) = true) Mine.aKer)
    (hs : autoParam (∀ x, foldedSetIterable i0 env x = Pure.pure x) Mine.aInt) : W prog w A (eval (.ListComp elt [⟨t0, i0, [], 0⟩, ⟨t1, i1, [], 0⟩, ⟨t2, i2, [], 0⟩] scope pos) env) Q E s := by
  constructor
  rw [eval_ListComp]
  refine wpAny_comprehension_free (use := none) rfl hs hclos hkind (fun x hx => of_decide_eq_true (List.all_eq_true.mp hnames x hx)) (up h fun x s₁ h₁ => up h₁ fun it s₂ ⟨frs, led, hat, k⟩ => ?_)
  refine wpAny_newList ?_
  have h1 := hat.push (listOf ([] : List Value).toArray 0) rfl s₂.toks
  refine wpAny_newFunctionEnv (fun x hx => of_decide_eq_true (List.all_eq_true.mp hcell x hx)) (fun x hx => nomatch hx) (fun h₂ hns hsb => ?_) hkind
  have h2 := h1.frame (t := s₂.toks) (fun b o e => hsb.extBut b o (Nat.ne_of_lt (Heap.lt_size e)) (Heap.get?_push_of_some _ e)) hns (Nat.le_refl _)
  obtain ⟨k1, k2⟩ := k _ _ _ h2
  refine codeAny_mono (startN (g := ⟨t0, i0, [], 0⟩) rfl rfl k2 k1).c fun r s' hr => ?_
  cases r with
  | ok f =>
    obtain ⟨m, led', ha, hq⟩ := hr
    exact ⟨m, ha.ns _ (.head _), fun h' hs => hq _ (ha.letgo (t := s'.toks) hs)⟩
  | error e => exact hr.elim
noncomputable def kD2 (prog : Program) (w : World) (A : Around) (env : Env) (kx vx : Expr) (D : Addr) (I : Nat → Shared → Prop) (n : Nat) (_ : Unit) (s : Shared) : Prop := W prog w A (eval kx env) (kR prog w A noE env vx (fun kv vv => dictSet D kv vv) (kLs I n)) noE s
noncomputable def kDT (prog : Program) (w : World) (A : Around) (env : Env) (kx vx target : Expr) (D : Addr) (Fin : Shared → Prop) (I : Nat → Shared → Prop) (n : Nat) (r : Option Value) (s : Shared) : Prop := match r with
    | none => Fin s
    | some v => W prog w A (assign target env v) (kD2 prog w A env kx vx D I n) noE s
/-- one turn of a dict comprehension -/
noncomputable def DTurn (prog : Program) (w : World) (A : Around) (env : Env) (kx vx target : Expr) (it : Value) (D : Addr) (Fin : Shared → Prop) (I : Nat → Shared → Prop) (n : Nat) (s : Shared) : Prop :=
  W prog w A (pyNext it) (kDT prog w A env kx vx target D Fin I n) noE s
theorem compD {kx vx target iter : Expr} {scope : Scope} {pos : Pos} {Q : Value → Shared → Prop} {c D : Addr} {it : Value} {I : Nat → Shared → Prop} {n : Nat}
    (turn : ∀ n s, I n s → DTurn prog w A env kx vx target it D (FinK h₀ s₀ c frs (Q (.ref D))) I n s) (hI : I n s) (ht : ∀ it v, letOwnedTupleGo target it v = Pure.pure ()) :
    codeAny (model prog w) A (.compLoop (.DictComp kx vx [⟨target, iter, [], 0⟩] scope pos) 0 it (.ref D) env) (compPost (model prog w) A E none Q (.ref D) c) s := by
  refine codeAny_compLoop_testsD I (fun n s hI => ?_) n hI (ht it)
  refine wpAny_mono (turn n s hI).w (fun r s₁ hr => ?_) fun _ _ z => z.elim
  cases r with
  | none =>
    obtain ⟨m, led', ha, hq⟩ := hr
    exact ⟨m, ha.ns _ (.head _), fun h' hs => hq _ (ha.letgo (t := s₁.toks) hs)⟩
  | some v =>
    refine wpAny_mono (hr : W prog w A (assign target _ v) _ _ s₁).w (fun _ s₂ h₂ => wpAny_tests_nil ?_) fun _ _ z => z.elim
    rw [if_pos rfl]
    exact wpAny_mono (h₂ : W prog w A (eval kx _) _ _ s₂).w (fun kv s₃ h₃ => wpAny_mono (h₃ : W prog w A (eval vx _) _ _ s₃).w (fun vv s₄ h₄ => wpAny_mono (h₄ : W prog w A _ _ _ s₄).w (fun _ _ z => less_ex z) fun _ _ z => z.elim) fun _ _ z => z.elim) fun _ _ z => z.elim
inductive DcI (prog : Program) (w : World) (A : Around) (env : Env) (kx vx target : Expr) (it : Value) (D : Addr) (Fin : Shared → Prop) (s : Shared) : Prop
  | mk (i2 : W prog w A (pyIter it) (fun it' s' => it' = it ∧ s' = s) (fun _ _ => False) s) (I : Nat → Shared → Prop) (n : Nat) (h : I n s) (t : ∀ n s, I n s → DTurn prog w A env kx vx target it D Fin I n s) : DcI prog w A env kx vx target it D Fin s
inductive DcK (prog : Program) (w : World) (A : Around) (h₀ : Heap) (s₀ : Shared) (scope : Scope) (x : Str) (cl : List (Str × Addr)) (env : Env) (kx vx target : Expr) (Q : Value → Shared → Prop) (it : Value) (s : Shared) : Prop
  | mk (frs : List (Addr × Mp)) (led : List (Addr × Obj)) (h : At h₀ s₀ frs led s) (k : ∀ c cc D s₃, (D == sysModules) = false → At h₀ s₀ ((c, fun _ => none) :: frs) ((cc, cell0) :: (D, dictOf [] 0) :: led) s₃ → DcI prog w A (compEnvC scope ((x, cc) :: cl) c env) kx vx target it D (FinK h₀ s₀ c frs (Q (.ref D))) s₃) : DcK prog w A h₀ s₀ scope x cl env kx vx target Q it s
theorem dCompK (G : Gr w h₀) {kx vx target iter : Expr} {scope : Scope} {pos : Pos} {cl : List (Str × Addr)} {x : Str} {Q : Value → Shared → Prop}
    (h : W prog w A (eval iter env) (kO prog w A E pyIter (DcK prog w A h₀ s₀ scope x cl env kx vx target Q)) E s)
    (hclos : autoParam (closureFor scope env = Pure.pure cl) Mine.aRfl) (hcf : autoParam (∀ n, cellsFrom n scope.names cl = (x, n) :: cl) Mine.aInt) (hpc : autoParam (∀ hp, pushCells hp scope.names = hp.push cell0) Mine.aInt) (hkind : autoParam (scope.kind = .function) Mine.aRfl) (hnames : autoParam ((scope.names.all fun x => decide (x.2 = .local → scope.names.lookup x.1 = some .local)) = true) Mine.aKer)
    (hs : autoParam (∀ x, foldedSetIterable iter env x = Pure.pure x) Mine.aInt) (ht : autoParam (∀ it v, letOwnedTupleGo target it v = Pure.pure ()) Mine.aInt) : W prog w A (eval (.DictComp kx vx [⟨target, iter, [], 0⟩] scope pos) env) Q E s := by
  constructor
  rw [arm_eval_DictComp]
  refine wpAny_comprehension_free (use := none) rfl hs hclos hkind (fun x hx => of_decide_eq_true (List.all_eq_true.mp hnames x hx)) (up h fun xv s₁ h₁ => up h₁ fun it s₂ ⟨frs, led, hat, k⟩ => ?_)
  refine wpAny_bind (wpAny_alloc (wpAny_pure ?_))
  have h1 := hat.push (dictOf [] 0) rfl s₂.toks
  have hlow := modules_low (G.lim.keeps hat.keep)
  refine newK h1 hcf hpc fun c cc s' h2 => ?_
  obtain ⟨k1, I, n, hI, turn⟩ := k _ _ _ _ (beq_false_of_ne (Nat.ne_of_gt hlow)) h2
  exact codeAny_compStart_dict (compD turn hI ht) (wpAny_mono k1.w (fun it' s' ⟨e1, e2⟩ => by rw [e1, e2]; exact compD turn hI ht) fun _ _ z => z.elim)
variable {d : Addr} {o : Obj} {kvs : List (Int × Value)}
theorem dPut {k : Int} {t : Tok} {v : Value} {Q : Unit → Shared → Prop} {led' : Obj → List (Addr × Obj)} (h : At h₀ s₀ frs led s) (r : ∀ o', Rep d o o' led (led' o')) (ho : o.IsDictOf (intKind prog w) kvs) (hz : kvs.length ≤ 1000)
    (kk : ∀ o' s', o'.IsDictOf (intKind prog w) (stored kvs k v) → At h₀ s₀ frs (led' o') s' → Q () s') : W prog w A (dictSet d (.int k t) v) Q E s :=
  ⟨wpAny_dictSet_pairs (ik k t) (h.dict (r o).mem ho) (fun h' hd hs => by
    obtain ⟨o', h1, h2⟩ := Heap.dictOf_iff.mp hd
    exact kk o' _ h2 (h.same (t := s.toks + 1) (r o') hs h1)) (by rw [sizeLine_eq]; with_reducible exact Nat.le_trans ‹_› (by decide))⟩
end
end Mine
end

/-! part RulesL -/
section
open PySem PySem.W PyProof.Rows PySem.Calls
set_option maxRecDepth 100000
set_option linter.unusedVariables false
namespace Mine
section
variable {prog : Program} {w : World} {A : Around} {E : Value → Shared → Prop} {s : Shared} {h₀ : Heap} {s₀ : Shared} {frs : List (Addr × Mp)} {led led' : List (Addr × Obj)} {env : Env} {L : Addr} {m : Mp}
theorem At.frSwap {f g : Addr × Mp} (h : At h₀ s₀ (f :: g :: frs) led s) : At h₀ s₀ (g :: f :: frs) led s := by
  have hp : ((g :: f :: frs).map (·.1) ++ led.map (·.1)).Perm ((f :: g :: frs).map (·.1) ++ led.map (·.1)) := List.Perm.swap _ _ _
  refine ⟨h.gens, h.os, h.keep, fun x hx => h.ns x ((List.Perm.swap f g frs).mem_iff.mp hx), h.get, hp.nodup_iff.mpr h.nd, fun a ha => h.new a (hp.mem_iff.mp ha)⟩
inductive FinU (h₀ : Heap) (s₀ : Shared) (c L : Addr) (m : Mp) (frs : List (Addr × Mp)) (y : Str) (D : Addr) (P : Shared → Prop) (s : Shared) : Prop
  | mk (mc : Mp) (led' : List (Addr × Obj)) (h : At h₀ s₀ ((c, mc) :: (L, m) :: frs) led' s) (k : ∀ s'', At h₀ s₀ ((L, fun z => if z = y then some (.ref D) else m z) :: frs) led' s'' → P s'') : FinU h₀ s₀ c L m frs y D P s
inductive LcU (prog : Program) (w : World) (A : Around) (h₀ : Heap) (s₀ : Shared) (L : Addr) (y : Str) (scope : Scope) (x : Str) (cl : List (Str × Addr)) (env : Env) (elt target : Expr) (ifs : List Expr) (Q : Flow → Shared → Prop) (it : Value) (s : Shared) : Prop
  | mk (m : Mp) (frs : List (Addr × Mp)) (led : List (Addr × Obj)) (h : At h₀ s₀ ((L, m) :: frs) led s) (k : ∀ c cc D s₃, At h₀ s₀ ((c, fun _ => none) :: (L, m) :: frs) ((cc, cell0) :: (D, listOf ([] : List Value).toArray 0) :: led) s₃ → LcI prog w A (compEnvC scope ((x, cc) :: cl) c env) elt target ifs it D (FinU h₀ s₀ c L m frs y D (Q .next)) s₃) : LcU prog w A h₀ s₀ L y scope x cl env elt target ifs Q it s
theorem compLU {y : Str} {py : Pos} {env0 : Env} {elt target iter : Expr} {ifs : List Expr} {scope : Scope} {pos : Pos} {Q : Value → Shared → Prop} {c D : Addr} {it : Value} {I : Nat → Shared → Prop} {n : Nat}
    (turn : ∀ n s, I n s → LTurn prog w A env elt target ifs it D (FinU h₀ s₀ c L m frs y D (Q .none)) I n s) (hI : I n s) (ht : ∀ it v, letOwnedTupleGo target it v = Pure.pure ())
    (hL : env0.locals = L) (hl : env0.kindOf y = some .local) (hp : (env0.scope.kind == .class || (env0.scope.kind == .module && env0.locals != env0.globals)) = false) :
    codeAny (model prog w) A (.compLoop (.ListComp elt [⟨target, iter, ifs, 0⟩] scope pos) 0 it (.ref D) env) (compPost (model prog w) A E (some (assign (.Name y py) env0)) Q (.ref D) c) s := by
  refine codeAny_compLoop_tests I (fun n s hI => ?_) n hI (ht it)
  refine wpAny_mono (turn n s hI).w (fun r s₁ hr => ?_) fun _ _ z => z.elim
  cases r with
  | none =>
    obtain ⟨mc, led', ha, hq⟩ := hr
    show wpAny (model prog w) A (assign (.Name y py) env0 (.ref D)) _ _ _
    exact assign_Name (stL ha.frSwap (fun s h => ⟨mc, h.frSwap.ns _ (.head _), fun h' hs => hq _ (h.frSwap.letgo (t := s.toks) hs)⟩) hL hl hp).w
  | some v =>
    refine wpAny_mono (hr : W prog w A (assign target _ v) _ _ s₁).w (fun _ s₂ h₂ => wpAny_mono (h₂ : W prog w A (tests ifs _) _ _ s₂).w (fun ok s₃ h₃ => ?_) fun _ _ z => z.elim) fun _ _ z => z.elim
    cases ok with
    | false => exact less_ex h₃
    | true => exact wpAny_mono (h₃ : W prog w A (eval elt _) _ _ s₃).w (fun x s₄ h₄ => wpAny_mono (h₄ : W prog w A _ _ _ s₄).w (fun _ _ z => less_ex z) fun _ _ z => z.elim) fun _ _ z => z.elim
/-- a name bound to a comprehension that has one cell of its own -/
theorem xCompK {y : Str} {py spos : Pos} {elt target iter : Expr} {ifs : List Expr} {scope : Scope} {pos : Pos} {cl : List (Str × Addr)} {x : Str} {Q : Flow → Shared → Prop}
    (h : W prog w A (eval iter env) (kO prog w A E pyIter (LcU prog w A h₀ s₀ L y scope x cl env elt target ifs Q)) E s)
    (hsw : autoParam (swapsWith (.ListComp elt [⟨target, iter, ifs, 0⟩] scope pos) (some (.Name y py)) spos.line env = Pure.pure true) Mine.aRfl)
    (hclos : autoParam (closureFor scope env = Pure.pure cl) Mine.aRfl) (hcf : autoParam (∀ n, cellsFrom n scope.names cl = (x, n) :: cl) Mine.aInt) (hpc : autoParam (∀ hp, pushCells hp scope.names = hp.push cell0) Mine.aInt) (hkind : autoParam (scope.kind = .function) Mine.aRfl) (hnames : autoParam ((scope.names.all fun x => decide (x.2 = .local → scope.names.lookup x.1 = some .local)) = true) Mine.aKer)
    (hs : autoParam (∀ x, foldedSetIterable iter env x = Pure.pure x) Mine.aInt) (ht : autoParam (∀ it v, letOwnedTupleGo target it v = Pure.pure ()) Mine.aInt)
    (hL : autoParam (env.locals = L) Mine.aRfl) (hl : autoParam (env.kindOf y = some .local) Mine.aRfl) (hp : autoParam ((env.scope.kind == .class || (env.scope.kind == .module && env.locals != env.globals)) = false) Mine.aRfl) :
    W prog w A (exec (.Assign [.Name y py] (.ListComp elt [⟨target, iter, ifs, 0⟩] scope pos) spos) env) Q E s := by
  constructor
  rw [exec_Assign_Name_used _ _ _ _ hsw]
  refine wpAny_bind (wpAny_standAt (wpAny_bind ?_))
  show wpAny _ A (do let _ ← comprehension (.ListComp elt [⟨target, iter, ifs, 0⟩] scope pos) scope env _ (newList []) false (eval iter env) (some (assign (.Name y py) env))) _ _ s
  refine wpAny_bind (wpAny_mono (wpAny_comprehension_free (use := some (assign (.Name y py) env)) (Q := fun _ s' => Q .next s') rfl hs hclos hkind (fun x hx => of_decide_eq_true (List.all_eq_true.mp hnames x hx)) (up h fun xv s₁ h₁ => up h₁ fun it s₂ ⟨m, frs, led, hat, k⟩ => ?_)) (fun _ s' hq => wpAny_pure (wpAny_pure hq)) fun _ _ e => e)
  refine wpAny_newList ?_
  have h1 := hat.push (listOf ([] : List Value).toArray 0) rfl s₂.toks
  refine newK h1 hcf hpc fun c cc s' h2 => ?_
  obtain ⟨k1, I, n, hI, turn⟩ := k _ _ _ _ h2
  exact codeAny_compStart_list (compLU turn hI ht hL hl hp) (wpAny_mono k1.w (fun it' s' ⟨e1, e2⟩ => by rw [e1, e2]; exact compLU turn hI ht hL hl hp) fun _ _ z => z.elim)
end
end Mine
end

/-! part Law1 -/
section
open PySem PySem.W PyProof.Rows PySem.Calls
set_option maxRecDepth 100000
set_option linter.unusedVariables false
namespace Mine
noncomputable def lawEnv (P : Params) (L fa : Addr) (cd : Value) : Env := envOfC (Str.ofString "law") (fdAt P 193).scope L fa cd
theorem g155 (w : World) : nsIn (KK w.params) mainGlobals (Str.ofString "_law_drawn") = some (some (.ref 155)) := by kernel_rfl
theorem g162 (w : World) : nsIn (KK w.params) mainGlobals (Str.ofString "_law_table") = some (some (.ref 162)) := by kernel_rfl
theorem g176 (w : World) : nsIn (KK w.params) mainGlobals (Str.ofString "_law_rows") = some (some (.ref 176)) := by kernel_rfl
theorem g169 (w : World) : nsIn (KK w.params) mainGlobals (Str.ofString "_law_octets") = some (some (.ref 169)) := by kernel_rfl
theorem g181 (w : World) : nsIn (KK w.params) mainGlobals (Str.ofString "_law_order") = some (some (.ref 181)) := by kernel_rfl
theorem g188 (w : World) : nsIn (KK w.params) mainGlobals (Str.ofString "_law_within") = some (some (.ref 188)) := by kernel_rfl
theorem g_sum (w : World) : nsIn (KK w.params) mainGlobals (Str.ofString "sum") = some none := by kernel_rfl
theorem b_sum : bootBuiltins (Str.ofString "sum") = some (.builtin "sum") := by decide +kernel
section
variable {prog : Program} {w : World} {A : Around} {E : Value → Shared → Prop} {s : Shared} {h₀ : Heap} {s₀ : Shared} {frs : List (Addr × Mp)} {led led' : List (Addr × Obj)} {env : Env} {L : Addr} {m : Mp}
/-- a slice of a list that was there before -/
theorem slcO {value : Expr} {lower upper step : Option Expr} {p : Pos} {l : Addr} {Q : Value → Shared → Prop} {vs : List Value} (hl : h₀.IsList l vs.toArray) (hz : vs.length ≤ 1000)
    (h : W prog w A (evalPart lower env) (fun vl s₁ => W prog w A (evalPart upper env) (fun vu s₂ => W prog w A (evalPart step env) (fun vk s₃ =>
      ∃ (frs : List (Addr × Mp)) (led : List (Addr × Obj)) (lo hi st : Option Int), At h₀ s₀ frs led s₃ ∧ IsPart vl lo ∧ IsPart vu hi ∧ IsPart vk st ∧ st ≠ some 0 ∧
        ∀ d s', At h₀ s₀ frs ((d, listOf (slicePick vs.toArray lo hi st) 0) :: led) s' → Q (.ref d) s') E s₂) E s₁) E s) :
    W prog w A (eval (.Slice lower upper step p) env) (fun i s' => W prog w A (subscriptTail value (.Slice lower upper step p) (.ref l) i) Q E s') E s := by
  refine ⟨wpAny_Slice (up h fun vl s₁ h₁ => up h₁ fun vu s₂ h₂ => up h₂ fun vk s₃ h₃ => ⟨?_⟩)⟩
  obtain ⟨frs, led, lo, hi, st, a, pl, pu, pk, h0, k⟩ := h₃
  have a' := a.push { cls := .type "slice", data := .fields #[vl, vu, vk] } rfl s₃.toks
  obtain ⟨ol, hol, hr⟩ := hl
  have hl' : Heap.IsList (s₃.heap.push { cls := .type "slice", data := .fields #[vl, vu, vk] }) l vs.toArray := ⟨ol, a'.keep _ _ hol, hr⟩
  have hops : ∃ ops, subscripted (.Slice lower upper step p) false (.ref l) (.ref s₃.heap.objs.size) = operate ops (getItem (.ref l) (.ref s₃.heap.objs.size)) := by cases step <;> exact ⟨_, rfl⟩
  obtain ⟨ops, hops⟩ := hops
  refine tail_any hl'.typeIs list_getitem_lookup (wpAny_getItem_list_slice hl' (Heap.IsSliceOf.new ..) pl pu pk h0 ?_ (by rw [sizeLine_eq]; simp; with_reducible exact Nat.le_trans ‹_› (by decide))) hops
  refine k _ _ (At.sub (a'.push (listOf (slicePick vs.toArray lo hi st) 0) rfl s₃.toks) ?_)
  exact List.Sublist.cons_cons _ (List.sublist_cons_self _ _)
inductive nuI (h₀ : Heap) (s₀ : Shared) (c : Addr) (frs : List (Addr × Mp)) (led : List (Addr × Obj)) (D it : Addr) (N : Nat) (n : Nat) (s : Shared) : Prop
  | mk (m : _) (vs : _) (ns : _) (nD : _) (q1 : n ≤ N) (q2 : At h₀ s₀ ((c, m) :: frs) ((D, listOf (List.toArray vs) nD) :: (it, rIt N (N - n)) :: led) s) (q3 : IntsAre vs ns) (q4 : ns.length = N - n)
theorem pick7_len (vs : List Value) : ((slicePick vs.toArray none (some 7) none).size : Nat) ≤ 7 := by
  unfold slicePick
  rw [List.size_toArray]
  refine Nat.le_trans (List.length_filterMap_le _ _) (sliceRange_length_le _ _ _ 7 (fun _ => ⟨by simp [sliceBounds], ?_⟩) (fun q => absurd (by simp [sliceBounds]) q))
  simp only [sliceBounds, Option.getD_none]
  simp
  omega
theorem arr_list (x : Array Value) : x = x.toList.toArray := by simp
/-- the cells of the law's frame -/
noncomputable def cs (L : Addr) (o1 o2 o3 o4 o5 : Obj) : List (Addr × Obj) := [(L + 1, o1), (L + 2, o2), (L + 3, o3), (L + 4, o4), (L + 5, o5)]
/-- where the first line ends -/
structure L1 (h₀ : Heap) (s₀ : Shared) (L a : Addr) (nums : List Int) (m : Mp) (o1 o2 o3 o4 o5 : Obj) (aB aS : Addr) (segB segS : List (Addr × Obj)) (nB nS : Nat) (s : Shared) : Prop where
  at_ : At h₀ s₀ [(L, m)] (cs L o1 o2 o3 o4 o5 ++ (lsP aB segB nB :: lsP aS segS nS :: (segB ++ segS))) s
  b : Rows segB (drawn nums).bs
  st : Rows segS ((drawn nums).st.map natI)
  c2 : o2.data = .cell (some (.ref aB))
  c3 : o3.data = .cell none
  c4 : o4.data = .cell none
  c5 : o5.data = .cell none
  m1 : m (Str.ofString "stacks") = some (.ref aS)
  len : nums.length ≤ 18
/-- the first line -/
theorem law_1 (G : Gr w h₀) {fa : Addr} {cd : Value} {o1 o2 o3 o4 o5 : Obj} {a : Addr} {vs : List Value} {ns : List Int} (h : At h₀ s₀ [(L, m)] [(L + 1, o1), (L + 2, o2), (L + 3, o3), (L + 4, o4), (L + 5, o5)] s)
    (c1 : o1.data = .cell (some (.ref a))) (c2 : o2.data = .cell none) (c3 : o3.data = .cell none) (c4 : o4.data = .cell none) (c5 : o5.data = .cell none) (r : Rm A 30) (hF : Fo A [L]) (hL : h₀.IsList a vs.toArray) (hi : IntsAre vs ns) (hn : ns.length ≤ 63) {Q : Flow → Shared → Prop}
    (kk : ∀ nums m o2 aB aS segB segS nB nS s, L1 h₀ s₀ L a nums m o1 o2 o3 o4 o5 aB aS segB segS nB nS s → W prog w A (execs ((stmtsOf (fdAt w.params 193)).drop 1) (lawEnv w.params L fa cd)) Q (fun _ _ => False) s) :
    W prog w A (execs (stmtsOf (fdAt w.params 193)) (lawEnv w.params L fa cd)) Q (fun _ _ => False) s := by
  have hvl : vs.length ≤ 63 := by rw [hi.length]; exact hn
  refine xCons (xAsgT (cFn G (f155 w) h (g155 w) (iCons (eBin (dList ?_)))))
  refine iCons (cI h fun x1 s h => iCons (cI h fun x2 s h => iCons (cI h fun x3 s h => iCons (cI h fun x4 s h => iCons (cI h fun x5 s h => iCons (cI h fun x6 s h => iCons (cI h fun x7 s h => iCons (cI h fun x8 s h => iCons (cI h fun x9 s h => iCons (cI h fun x10 s h => iCons (cI h fun x11 s h => iNil ⟨Nat.le_of_ble_eq_true rfl, _, _, _, _, h, fun aH s h => ?_⟩)))))))))))
  obtain ⟨vH, hvH, hHi⟩ : ∃ vH, vH = ([.int 36873 x1, .int 5 x2, .int 117 x3, .int 2403 x4, .int 1 x5, .int 8 x6, .int 7 x7, .int 600 x8, .int 11 x9, .int 1180 x10, .int 30 x11] : List Value) ∧ IntsAre vH [36873, 5, 117, 2403, 1, 8, 7, 600, 11, 1180, 30] := ⟨_, rfl, .cons _ _ (.cons _ _ (.cons _ _ (.cons _ _ (.cons _ _ (.cons _ _ (.cons _ _ (.cons _ _ (.cons _ _ (.cons _ _ (.cons _ _ .nil))))))))))⟩
  rw [← hvH] at h
  clear hvH
  refine lComp (h₀ := h₀) (s₀ := s₀) (cl := [(Str.ofString "script", L + 1)]) (cT G h (g_range w) b_range (iCons (cB G h (g_len w) b_len (iCons (eSub (ldC h (.tail _ (.head _)) c1 (slcO (s₀ := s₀) hL (by with_reducible exact Nat.le_trans ‹_› (by decide)) (pNone (pSome (cI h fun _ s h => pNone ⟨_, _, _, _, _, h, .none, .int _ _, .none, by simp, fun d s h => iNil ?_⟩))))))))))
  have h7 := pick7_len vs
  rw [arr_list (slicePick vs.toArray none (some 7) none)] at h
  generalize (slicePick vs.toArray none (some 7) none) = pk at h h7
  have h7 : pk.toList.length ≤ 7 := by simpa using h7
  generalize pk.toList = ps at h h7
  refine fLen h (.head _) (by with_reducible exact Nat.le_trans ‹_› (by decide)) fun _ s h => iNil (fRange h fun rg tr1 tr2 tr3 s h => itR h (.head _) (by with_reducible exact ar16 ‹_› (by decide)) fun it s h => ⟨_, _, h, fun c D s h => ⟨it2R h (.tail _ (.head _)), nuI h₀ s₀ c [(L, m)] ((rg, rangeOf (ps.length : Int) tr1 tr2 tr3) :: (d, listOf ps.toArray 0) :: (aH, _) :: [(L + 1, o1), (L + 2, o2), (L + 3, o3), (L + 4, o4), (L + 5, o5)]) D it ps.length, ps.length, ⟨_, [], [], 0, Nat.le_refl _, by rw [Nat.sub_self]; exact h, .nil, by rw [Nat.sub_self]; rfl⟩, fun n s hI => ?_⟩⟩)
  obtain ⟨mc, us, ks, nD, hn', h, hus, hkl⟩ := hI
  by_cases hn0 : n = 0
  · subst hn0
    refine nxRend (h.perm (List.Perm.swap _ _ _)) r.handled (by with_reducible exact ar6) fun s h => ⟨_, _, h, fun s h => ?_⟩
    have hul := hus.length
    have h11 : vH.length = 11 := hHi.length
    refine lAdd h (vs := vH) (ws := us) (.tail _ (.tail _ (.tail _ (.head _)))) (.head _) (by rw [sizeLine_eq]; omega) fun nu s h => iNil ⟨h.keep, ?_⟩
    have hnums := hHi.append hus
    have hnl : ([36873, 5, 117, 2403, 1, 8, 7, 600, 11, 1180, 30] ++ ks).length ≤ 18 := by simp; with_reducible exact ar10b ‹_› ‹_› (by decide)
    generalize ([36873, 5, 117, 2403, 1, 8, 7, 600, 11, 1180, 30] ++ ks) = nums at hnums hnl
    refine drawn_spec G h r (.head _) hnums (by with_reducible exact Nat.le_trans ‹_› (by decide)) fun tp aB aS segB segS nB nS s h hB hS => ?_
    refine aTwo h r.handled (.head _) fun s h => ?_
    have h := (h.sub (led' := (lsP aB segB nB :: lsP aS segS nS :: (segB ++ segS)) ++ cs L o1 o2 o3 o4 o5) (by
      simp only [List.cons_append, List.append_assoc]
      exact ((((List.Sublist.refl segB).append ((List.Sublist.refl segS).append ((List.Sublist.refl _).cons _ |>.cons _ |>.cons _ |>.cons _ |>.cons _)))).cons_cons _ |>.cons_cons _).cons _)).perm List.perm_append_comm
    refine stC h (fun o' => .tail .head) c2 fun o2' s hc2 h => stL h fun s h => ?_
    exact kk nums _ o2' aB aS segB segS nB nS _ ⟨h, hB, hS, hc2, c3, c4, c5, rfl, hnl⟩
  · refine nxR (h.perm (List.Perm.swap _ _ _)) (by with_reducible exact ar5 ‹_› ‹_›) fun t s h => aName (stL h fun s h => tst0 ?_)
    first | refine iteT rfl ?_ | rw [if_pos rfl]
    refine cB G h (g_sum w) b_sum (iCons (eSub (ldC h (.tail _ (.tail _ (.tail _ (.tail _ (.tail _ (.head _)))))) c1 (slcO (s₀ := s₀) hL (by with_reducible exact Nat.le_trans ‹_› (by decide)) (pSome (ldL h rfl (pNone (pSome (cI h fun _ s h => ⟨_, _, _, _, _, h, .int _ _, .none, .int _ _, by simp, fun d2 s h => iNil ?_⟩)))))))))
    have hpk := hi.pick (some ((ps.length - n : Nat) : Int)) none (some 7)
    rw [arr_list (slicePick vs.toArray _ _ _)] at h
    refine fSum h r.handled (.head _) hpk fun i ti s h => fAppend (h.drop 1) (.tail .head) (by rw [sizeLine_eq]; have := hus.length; omega) fun s h => ?_
    have h := h.perm (List.Perm.swap _ _ _)
    rw [show ps.length - n + 1 = ps.length - (n - 1) by with_reducible exact ar2 ‹_› ‹_›] at h
    exact ⟨n - 1, by with_reducible exact ar3 ‹_›, _, us ++ [.int i ti], ks ++ [i], nD + 1, by with_reducible exact ar4 ‹_›, h, hus.append (.cons _ _ .nil), by simp; with_reducible exact ar17 ‹_› ‹_› ‹_›⟩
end
end Mine
end

/-! part Plain1 -/
section
set_option linter.unusedVariables false
namespace Mine
noncomputable def pB (bs : List (List Int)) (i : Nat) : Nat := ((bs.getD i []).headD 0).toNat
noncomputable def lB (bs : List (List Int)) (i : Nat) : Nat := ((bs.getD i []).getD 1 0).toNat
noncomputable def eB (bs : List (List Int)) (i : Nat) : Nat := pB bs i + lB bs i
structure DI (len q e N : Nat) (d : DSt) : Prop where
  form : ∀ i, i < d.bs.length → ∃ h m : Nat, d.bs.getD i [] = [(pB d.bs i : Int), (lB d.bs i : Int), (h : Int), (m : Int)] ∧ h < 262144 ∧ m < 128
  lo : ∀ i, i < d.bs.length → pB d.bs i < q ∧ 1 ≤ lB d.bs i ∧ eB d.bs i ≤ len
  opn : ∀ i ∈ d.now, i < d.bs.length ∧ eB d.bs i = len
  cls : ∀ i, i < d.bs.length → i ∉ d.now → eB d.bs i ≤ e
  inc : ∀ i j, i < j → j < d.bs.length → pB d.bs i < pB d.bs j
  now : d.now.Pairwise (· < ·)
  st : ∀ q' S, d.st[q']? = some S → (∀ i, i ∈ S ↔ i < d.bs.length ∧ pB d.bs i ≤ q' ∧ q' < eB d.bs i) ∧ S.Pairwise (fun i j => j < i ∧ eB d.bs i ≤ eB d.bs j)
  stl : d.st.length = N
theorem getD_app {bs : List (List Int)} {b : List Int} {i : Nat} (h : i < bs.length) : (bs ++ [b]).getD i [] = bs.getD i [] := by
  rw [List.getD_eq_getElem?_getD, List.getD_eq_getElem?_getD, List.getElem?_append_left h]
theorem getD_new {bs : List (List Int)} {b : List Int} : (bs ++ [b]).getD bs.length [] = b := by
  rw [List.getD_eq_getElem?_getD]; simp
theorem DI.open {len q : Nat} {d : DSt} (h : DI len q q q d) (hq : q < len) (x : Int) : DI len (q + 1) q q (dOpen len q x d) := by
  unfold dOpen
  split
  · have p1 : ∀ i, i < d.bs.length → pB (d.bs ++ [bNew len q x]) i = pB d.bs i := fun i hi => by unfold pB; rw [getD_app hi]
    have l1 : ∀ i, i < d.bs.length → lB (d.bs ++ [bNew len q x]) i = lB d.bs i := fun i hi => by unfold lB; rw [getD_app hi]
    have e1 : ∀ i, i < d.bs.length → eB (d.bs ++ [bNew len q x]) i = eB d.bs i := fun i hi => by unfold eB; rw [p1 i hi, l1 i hi]
    have p2 : pB (d.bs ++ [bNew len q x]) d.bs.length = q := by unfold pB; rw [getD_new]; simp [bNew]
    have l2 : lB (d.bs ++ [bNew len q x]) d.bs.length = len - q := by unfold lB; rw [getD_new]; simp [bNew]
    have e2 : eB (d.bs ++ [bNew len q x]) d.bs.length = len := by unfold eB; rw [p2, l2]; omega
    refine ⟨fun i hi => ?_, fun i hi => ?_, fun i hi => ?_, fun i hi hn => ?_, fun i j hij hj => ?_, ?_, fun q' S hS => ?_, h.stl⟩
    · simp only [List.length_append, List.length_singleton] at hi
      by_cases hl : i < d.bs.length
      · obtain ⟨a, b, c1, c2⟩ := h.form i hl
        exact ⟨a, b, by rw [getD_app hl, p1 i hl, l1 i hl]; exact c1, c2⟩
      · have : i = d.bs.length := by omega
        subst this
        have m1 : 0 ≤ (x.fdiv 9).fmod 262144 := Int.fmod_nonneg_of_pos _ (by decide)
        have m2 : (x.fdiv 9).fmod 262144 < 262144 := Int.fmod_lt_of_pos _ (by decide)
        have m3 : 0 ≤ (x.fdiv 3).fmod 128 := Int.fmod_nonneg_of_pos _ (by decide)
        have m4 : (x.fdiv 3).fmod 128 < 128 := Int.fmod_lt_of_pos _ (by decide)
        refine ⟨((x.fdiv 9).fmod 262144).toNat, ((x.fdiv 3).fmod 128).toNat, ?_, by omega, by omega⟩
        rw [getD_new, p2, l2]
        unfold bNew
        rw [Int.toNat_of_nonneg m1, Int.toNat_of_nonneg m3]
        congr 2
        omega
    · simp only [List.length_append, List.length_singleton] at hi
      by_cases hl : i < d.bs.length
      · have := h.lo i hl
        rw [p1 i hl, l1 i hl, e1 i hl]; exact ⟨Nat.lt_succ_of_lt this.1, this.2⟩
      · have : i = d.bs.length := by omega
        subst this
        rw [p2, l2, e2]; exact ⟨Nat.lt_succ_self q, Nat.sub_pos_of_lt hq, Nat.le_refl _⟩
    · simp only [List.length_append, List.length_singleton]
      rcases List.mem_append.mp hi with hi | hi
      · obtain ⟨a, b⟩ := h.opn i hi
        exact ⟨by omega, by rw [e1 i a]; exact b⟩
      · rw [List.mem_singleton.mp hi]; exact ⟨by omega, e2⟩
    · simp only [List.length_append, List.length_singleton] at hi
      rw [List.mem_append, not_or, List.mem_singleton] at hn
      have hl : i < d.bs.length := by omega
      rw [e1 i hl]; exact h.cls i hl hn.1
    · simp only [List.length_append, List.length_singleton] at hj
      have hi : i < d.bs.length := by omega
      rw [p1 i hi]
      by_cases hl : j < d.bs.length
      · rw [p1 j hl]; exact h.inc i j hij hl
      · have : j = d.bs.length := by omega
        subst this
        rw [p2]; exact (h.lo i hi).1
    · rw [List.pairwise_append]
      refine ⟨h.now, List.pairwise_singleton _ _, fun a ha b hb => ?_⟩
      rw [List.mem_singleton.mp hb]; exact (h.opn a ha).1
    · obtain ⟨a, b⟩ := h.st q' S hS
      have hq' : q' < q := by
        have a1 : q' < d.st.length := (List.getElem?_eq_some_iff.mp (show d.st[q']? = some S from hS)).1
        have a2 := h.stl
        omega
      refine ⟨fun i => ?_, ?_⟩
      · rw [a i]
        simp only [List.length_append, List.length_singleton]
        constructor
        · rintro ⟨c1, c2, c3⟩; exact ⟨by omega, by rw [p1 i c1]; exact c2, by rw [e1 i c1]; exact c3⟩
        · rintro ⟨c1, c2, c3⟩
          by_cases hl : i < d.bs.length
          · rw [p1 i hl] at c2; rw [e1 i hl] at c3; exact ⟨hl, c2, c3⟩
          · have : i = d.bs.length := by omega
            subst this
            rw [p2] at c2; omega
      · refine List.Pairwise.imp_of_mem (fun {i j} hi hj hij => ?_) b
        have hil := ((a i).mp hi).1
        have hjl := ((a j).mp hj).1
        rw [e1 i hil, e1 j hjl]; exact hij
  · exact ⟨h.form, fun i hi => ⟨Nat.lt_succ_of_lt (h.lo i hi).1, (h.lo i hi).2⟩, h.opn, h.cls, h.inc, h.now, h.st, h.stl⟩
theorem DI.note {len q : Nat} {d : DSt} (h : DI len (q + 1) q q d) (hq : q < len) : DI len (q + 1) q (q + 1) (dNote d) := by
  refine ⟨h.form, h.lo, h.opn, h.cls, h.inc, h.now, fun q' S hS => ?_, by simp [dNote, h.stl]⟩
  show _ ∧ _
  have hS' : (d.st ++ [d.now.reverse])[q']? = some S := hS
  by_cases hl : q' < d.st.length
  · rw [List.getElem?_append_left hl] at hS'; exact h.st q' S hS'
  · have : q' = d.st.length := by
      have := (List.getElem?_eq_some_iff.mp hS').1
      simp at this; omega
    subst this
    have : S = d.now.reverse := by simpa using hS'.symm
    subst this
    rw [h.stl]
    refine ⟨fun i => ?_, ?_⟩
    · show i ∈ d.now.reverse ↔ i < d.bs.length ∧ pB d.bs i ≤ q ∧ q < eB d.bs i
      rw [List.mem_reverse]
      constructor
      · intro hi
        obtain ⟨a, b⟩ := h.opn i hi
        have := h.lo i a
        exact ⟨a, by omega, by omega⟩
      · rintro ⟨a, b, c⟩
        by_cases hi : i ∈ d.now
        · exact hi
        · have := h.cls i a hi; omega
    · show d.now.reverse.Pairwise (fun i j => j < i ∧ eB d.bs i ≤ eB d.bs j)
      rw [List.pairwise_reverse]
      refine List.Pairwise.imp_of_mem (fun {i j} hi hj hij => ?_) h.now
      exact ⟨hij, by rw [(h.opn i hi).2, (h.opn j hj).2]; exact Nat.le_refl _⟩
theorem last_max {l : List Nat} (h : l.Pairwise (· < ·)) (hne : l ≠ []) : ∀ i ∈ l, i = l.getLastD 0 ∨ i < l.getLastD 0 := by
  obtain ⟨a, b, rfl⟩ : ∃ a b, l = a ++ [b] := ⟨l.dropLast, l.getLast hne, (List.dropLast_concat_getLast hne).symm⟩
  intro i hi
  have e : (a ++ [b]).getLastD 0 = b := by simp
  rw [e]
  rcases List.mem_append.mp hi with hi | hi
  · exact .inr ((List.pairwise_append.mp h).2.2 i hi b (.head _))
  · exact .inl (List.mem_singleton.mp hi)
theorem mem_dropLast {l : List Nat} (h : l.Pairwise (· < ·)) (hne : l ≠ []) (i : Nat) : i ∈ l.dropLast ↔ i ∈ l ∧ i ≠ l.getLastD 0 := by
  obtain ⟨a, b, rfl⟩ : ∃ a b, l = a ++ [b] := ⟨l.dropLast, l.getLast hne, (List.dropLast_concat_getLast hne).symm⟩
  have e : (a ++ [b]).getLastD 0 = b := by simp
  rw [e, List.dropLast_concat]
  constructor
  · intro hi
    have := (List.pairwise_append.mp h).2.2 i hi b (.head _)
    exact ⟨List.mem_append_left _ hi, by omega⟩
  · rintro ⟨hi, hn⟩
    rcases List.mem_append.mp hi with hi | hi
    · exact hi
    · exact absurd (List.mem_singleton.mp hi) hn
theorem DI.shut {len q : Nat} {d : DSt} (h : DI len (q + 1) q (q + 1) d) (hq : q < len) (x : Int) : DI len (q + 1) (q + 1) (q + 1) (dShut q x d) := by
  unfold dShut
  split
  · rename_i hx
    have hne := hx.2
    have hk : d.now.getLastD 0 ∈ d.now := by
      obtain ⟨a, b, e⟩ : ∃ a b, d.now = a ++ [b] := ⟨d.now.dropLast, d.now.getLast hne, (List.dropLast_concat_getLast hne).symm⟩
      rw [e]; simp
    have hmax := last_max h.now hne
    have hdl := mem_dropLast h.now hne
    generalize d.now.getLastD 0 = k at hk hmax hdl
    obtain ⟨hkl, hke⟩ := h.opn k hk
    obtain ⟨kh, km, kf, kh1, km1⟩ := h.form k hkl
    have klo := h.lo k hkl
    have g1 : ∀ i, i ≠ k → (d.bs.modify k (bEnd q)).getD i [] = d.bs.getD i [] := fun i hi => by
      rw [List.getD_eq_getElem?_getD, List.getD_eq_getElem?_getD, List.getElem?_modify]; simp [Ne.symm hi]
    have g2 : (d.bs.modify k (bEnd q)).getD k [] = [(pB d.bs k : Int), ((q + 1 - pB d.bs k : Nat) : Int), (kh : Int), (km : Int)] := by
      have e0 : d.bs[k]? = some (d.bs.getD k []) := by rw [List.getD_eq_getElem?_getD, List.getElem?_eq_getElem hkl]; rfl
      rw [List.getD_eq_getElem?_getD, List.getElem?_modify_eq, e0, kf]
      show bEnd q _ = _
      unfold bEnd
      simp only [List.headD_cons, List.set_cons_succ, List.set_cons_zero]
      congr 2
      omega
    have p1 : ∀ i, pB (d.bs.modify k (bEnd q)) i = pB d.bs i := fun i => by
      by_cases hi : i = k
      · subst hi
        have : pB (d.bs.modify i (bEnd q)) i = pB d.bs i := by
          show (((d.bs.modify i (bEnd q)).getD i []).headD 0).toNat = pB d.bs i
          rw [g2]; exact Int.toNat_natCast _
        exact this
      · unfold pB; rw [g1 i hi]
    have l1 : ∀ i, i ≠ k → lB (d.bs.modify k (bEnd q)) i = lB d.bs i := fun i hi => by unfold lB; rw [g1 i hi]
    have l2 : lB (d.bs.modify k (bEnd q)) k = q + 1 - pB d.bs k := by unfold lB; rw [g2]; simp
    have e1 : ∀ i, i ≠ k → eB (d.bs.modify k (bEnd q)) i = eB d.bs i := fun i hi => by unfold eB; rw [p1, l1 i hi]
    have e2 : eB (d.bs.modify k (bEnd q)) k = q + 1 := by unfold eB; rw [p1, l2]; omega
    refine ⟨fun i hi => ?_, fun i hi => ?_, fun i hi => ?_, fun i hi hn => ?_, fun i j hij hj => ?_, ?_, fun q' S hS => ?_, h.stl⟩
    · simp only [List.length_modify] at hi
      by_cases hik : i = k
      · subst hik
        exact ⟨kh, km, by rw [g2, p1, l2], kh1, km1⟩
      · obtain ⟨a, b, c1, c2⟩ := h.form i hi
        exact ⟨a, b, by rw [g1 i hik, p1, l1 i hik]; exact c1, c2⟩
    · simp only [List.length_modify] at hi
      have := h.lo i hi
      by_cases hik : i = k
      · subst hik; rw [p1, l2, e2]; exact ⟨klo.1, Nat.sub_pos_of_lt klo.1, hq⟩
      · rw [p1, l1 i hik, e1 i hik]; exact this
    · simp only [List.length_modify]
      obtain ⟨a, b⟩ := (hdl i).mp hi
      rw [e1 i b]; exact h.opn i a
    · simp only [List.length_modify] at hi
      by_cases hik : i = k
      · subst hik; rw [e2]; exact Nat.le_refl _
      · rw [e1 i hik]
        have := h.cls i hi fun q => hn ((hdl i).mpr ⟨q, hik⟩)
        omega
    · simp only [List.length_modify] at hj
      rw [p1, p1]; exact h.inc i j hij hj
    · exact h.now.sublist (List.dropLast_sublist _)
    · obtain ⟨a, b⟩ := h.st q' S hS
      have hq' : q' < q + 1 := by
        have a1 : q' < d.st.length := (List.getElem?_eq_some_iff.mp (show d.st[q']? = some S from hS)).1
        have a2 := h.stl
        omega
      refine ⟨fun i => ?_, ?_⟩
      · rw [a i, p1]
        simp only [List.length_modify]
        by_cases hik : i = k
        · subst hik; rw [e2, hke]
          constructor
          · rintro ⟨c1, c2, c3⟩; exact ⟨c1, c2, by omega⟩
          · rintro ⟨c1, c2, c3⟩; exact ⟨c1, c2, by omega⟩
        · rw [e1 i hik]
      · refine List.Pairwise.imp_of_mem (fun {i j} hi hj hij => ?_) b
        obtain ⟨hil, hip, hie⟩ := (a i).mp hi
        obtain ⟨hjl, hjp, hje⟩ := (a j).mp hj
        refine ⟨hij.1, ?_⟩
        by_cases hik : i = k
        · subst hik
          have hjk : j ≠ i := by omega
          rw [e2, e1 j hjk]
          have := hij.2
          rw [hke] at this
          have := (h.lo j hjl).2.2
          omega
        · rw [e1 i hik]
          by_cases hjk : j = k
          · subst hjk
            rw [e2]
            have hin : i ∉ d.now := fun z => by rcases hmax i z with z | z <;> omega
            have := h.cls i hil hin
            omega
          · rw [e1 j hjk]; exact hij.2
  · exact ⟨h.form, h.lo, h.opn, fun i hi hn => by have := h.cls i hi hn; omega, h.inc, h.now, h.st, h.stl⟩
theorem DI.run {len : Nat} : ∀ (ns : List Int) (q : Nat) (d : DSt), DI len q q q d → q + ns.length ≤ len → DI len (q + ns.length) (q + ns.length) (q + ns.length) (dRun len q ns d)
  | [], q, d, h, _ => h
  | x :: ns, q, d, h, hq => by
    rw [List.length_cons] at hq ⊢
    have h1 := ((h.open (by omega) x).note (by omega)).shut (by omega) x
    have := DI.run ns (q + 1) _ h1 (by omega)
    rw [show q + (ns.length + 1) = q + 1 + ns.length by omega]
    exact this
theorem drawn_ok (ns : List Int) : DI ns.length ns.length ns.length ns.length (drawn ns) := by
  have := DI.run (len := ns.length) ns 0 ⟨[], [], []⟩ ⟨fun i hi => absurd hi (Nat.not_lt_zero _), fun i hi => absurd hi (Nat.not_lt_zero _), (fun i hi => nomatch hi), fun i hi => absurd hi (Nat.not_lt_zero _), fun i j _ hj => absurd hj (Nat.not_lt_zero _), .nil, fun q' S hS => by simp at hS, rfl⟩ (by omega)
  rw [Nat.zero_add] at this
  exact this
end Mine
end

/-! part Plain2 -/
section
set_option linter.unusedVariables false
namespace Mine
/-- one lies within the other, as _law_within says -/
noncomputable def wi (b c : List Int) : Bool := decide (c.headD 0 < b.headD 0) && decide (b.headD 0 + b.getD 1 0 ≤ c.headD 0 + c.getD 1 0)
noncomputable def co (b : List Int) (p : Int) : Bool := decide (b.headD 0 ≤ p) && decide (p < b.headD 0 + b.getD 1 0)
noncomputable def needs (dats : List (List Int)) : List (List Nat) := (List.range dats.length).map fun k => (List.range dats.length).filter fun j => wi (dats.getD j []) (dats.getD k [])
theorem eq_of_two {α : Type} {R : α → α → Prop} (hR : ∀ a b, R a b → ¬ R b a) : ∀ {l l' : List α}, l.Pairwise R → l'.Pairwise R → (∀ x, x ∈ l ↔ x ∈ l') → l = l'
  | [], [], _, _, _ => rfl
  | [], b :: l', _, _, h => nomatch (h b).mpr (.head _)
  | a :: l, [], _, _, h => nomatch (h a).mp (.head _)
  | a :: l, b :: l', h1, h2, h => by
    rw [List.pairwise_cons] at h1 h2
    have irr : ∀ x, ¬ R x x := fun x q => hR x x q q
    have hab : a = b := by
      rcases List.mem_cons.mp ((h a).mp (.head _)) with q | q
      · exact q
      · rcases List.mem_cons.mp ((h b).mpr (.head _)) with z | z
        · exact z.symm
        · exact absurd (h2.1 a q) (hR _ _ (h1.1 b z))
    subst hab
    have : l = l' := eq_of_two hR h1.2 h2.2 fun x => by
      constructor
      · intro hx
        rcases List.mem_cons.mp ((h x).mp (.tail _ hx)) with q | q
        · subst q; exact absurd (h1.1 x hx) (irr x)
        · exact q
      · intro hx
        rcases List.mem_cons.mp ((h x).mpr (.tail _ hx)) with q | q
        · subst q; exact absurd (h2.1 x hx) (irr x)
        · exact q
    rw [this]
theorem topo_pair {pss : List (List Nat)} {ord : List Nat} (T : TopoOrd pss ord) : ord.Pairwise (fun k1 k2 => k2 ∉ pss.getD k1 []) := by
  have : ∀ (l a : List Nat), ord = a ++ l → l.Pairwise (fun k1 k2 => k2 ∉ pss.getD k1 []) := by
    intro l
    induction l with
    | nil => intro a _; exact .nil
    | cons k l ih =>
      intro a e
      refine List.pairwise_cons.mpr ⟨fun k2 hk2 q => ?_, ih (a ++ [k]) (by rw [e]; simp)⟩
      have h1 := T.topo a k l e k2 q
      have hnd := T.nd
      rw [e, List.nodup_append] at hnd
      exact hnd.2.2 k2 h1 k2 (.tail _ hk2) rfl
  exact this ord [] rfl
theorem hd_pB {len q e N : Nat} {d : DSt} (D : DI len q e N d) {i : Nat} (hi : i < d.bs.length) : (d.bs.getD i []).headD 0 = (pB d.bs i : Int) ∧ (d.bs.getD i []).getD 1 0 = (lB d.bs i : Int) := by
  obtain ⟨h, m, e, _⟩ := D.form i hi
  rw [e]; exact ⟨rfl, rfl⟩
theorem mem_getD {α : Type} {l : List α} {x dflt : α} : x ∈ l ↔ ∃ i, i < l.length ∧ l.getD i dflt = x := by
  constructor
  · intro h
    obtain ⟨i, hi, e⟩ := List.getElem_of_mem h
    exact ⟨i, hi, by rw [List.getD_eq_getElem?_getD, List.getElem?_eq_getElem hi]; exact e⟩
  · rintro ⟨i, hi, e⟩
    rw [List.getD_eq_getElem?_getD, List.getElem?_eq_getElem hi] at e
    rw [← e]; exact List.getElem_mem hi
theorem pw_or {α : Type} {R : α → α → Prop} : ∀ {l : List α}, l.Pairwise R → ∀ x ∈ l, ∀ y ∈ l, x ≠ y → R x y ∨ R y x
  | a :: l, h, x, hx, y, hy, hn => by
    rw [List.pairwise_cons] at h
    rcases List.mem_cons.mp hx with ex | hx'
    · rcases List.mem_cons.mp hy with ey | hy'
      · exact absurd (ex.trans ey.symm) hn
      · exact .inl (ex ▸ h.1 y hy')
    · rcases List.mem_cons.mp hy with ey | hy'
      · exact .inr (ey ▸ h.1 x hx')
      · exact pw_or h.2 x hx' y hy' hn
theorem getD_in {α : Type} {l : List α} {dflt : α} {i : Nat} (h : i < l.length) : l.getD i dflt = l[i] := by rw [List.getD_eq_getElem?_getD, List.getElem?_eq_getElem h]; rfl
theorem bs_nodup {len q e N : Nat} {d : DSt} (D : DI len q e N d) : d.bs.Nodup := by
  refine List.pairwise_iff_getElem.mpr fun i j hi hj hij q => ?_
  have h1 := D.inc i j hij hj
  have h2 := hd_pB D hi
  have h3 := hd_pB D hj
  rw [getD_in hi] at h2
  rw [getD_in hj] at h3
  rw [q, h3.1] at h2
  omega
theorem getD_inj {α : Type} {l : List α} {dflt : α} (hn : l.Nodup) {i j : Nat} (hi : i < l.length) (hj : j < l.length) (e : l.getD i dflt = l.getD j dflt) : i = j := by
  rw [getD_in hi, getD_in hj] at e
  have hp := List.pairwise_iff_getElem.mp hn
  rcases Nat.lt_trichotomy i j with h | h | h
  · exact absurd e (hp i j hi hj h)
  · exact h
  · exact absurd e.symm (hp j i hj hi h)
/-- the law, of the data alone -/
theorem plain {ns : List Int} {dats : List (List Int)} (hp : dats.Perm (drawn ns).bs) {ord : List Nat} (T : TopoOrd (needs dats) ord) {p : Nat} {S : List Nat} (hS : (drawn ns).st[p]? = some S) :
    (ord.filter fun k => co (dats.getD k []) p).map (fun k => (dats.getD k []).drop 2) = S.map fun i => ((drawn ns).bs.getD i []).drop 2 := by
  have D := drawn_ok ns
  generalize drawn ns = d at *
  obtain ⟨hm, hpw⟩ := D.st p S hS
  have hnl : (needs dats).length = dats.length := by simp [needs]
  have key : (ord.filter fun k => co (dats.getD k []) p).map (fun k => dats.getD k []) = S.map fun i => d.bs.getD i [] := by
    refine eq_of_two (R := fun b c => c.headD 0 < b.headD 0 ∧ b.headD 0 + b.getD 1 0 ≤ c.headD 0 + c.getD 1 0) (fun a b h1 h2 => by omega) ?_ ?_ ?_
    · rw [List.pairwise_map]
      refine List.Pairwise.imp_of_mem (fun {k1 k2} h1 h2 hk => ?_) (((topo_pair T).and T.nd).sublist List.filter_sublist)
      obtain ⟨h11, h12⟩ := List.mem_filter.mp h1
      obtain ⟨h21, h22⟩ := List.mem_filter.mp h2
      have l1 : k1 < dats.length := by rw [← hnl]; exact (T.mem k1).mp h11
      have l2 : k2 < dats.length := by rw [← hnl]; exact (T.mem k2).mp h21
      have hdn : dats.Nodup := hp.nodup_iff.mpr (bs_nodup D)
      obtain ⟨i1, hi1, e1⟩ := (mem_getD (dflt := [])).mp (hp.mem_iff.mp ((mem_getD (dflt := [])).mpr ⟨k1, l1, rfl⟩))
      obtain ⟨i2, hi2, e2⟩ := (mem_getD (dflt := [])).mp (hp.mem_iff.mp ((mem_getD (dflt := [])).mpr ⟨k2, l2, rfl⟩))
      have c1 := hd_pB D hi1
      have c2 := hd_pB D hi2
      rw [e1] at c1
      rw [e2] at c2
      simp only [co, Bool.and_eq_true, decide_eq_true_eq] at h12 h22
      have s1 : i1 ∈ S := (hm i1).mpr ⟨hi1, by omega, by unfold eB; omega⟩
      have s2 : i2 ∈ S := (hm i2).mpr ⟨hi2, by omega, by unfold eB; omega⟩
      have hne : i1 ≠ i2 := fun q => hk.2 (getD_inj (dflt := []) hdn l1 l2 (by rw [← e1, ← e2, q]))
      rcases pw_or hpw i1 s1 i2 s2 hne with ⟨z1, z2⟩ | ⟨z1, z2⟩
      · have := D.inc i2 i1 z1 hi1
        unfold eB at z2
        omega
      · exfalso
        have := D.inc i1 i2 z1 hi2
        unfold eB at z2
        refine hk.1 ?_
        have hg : (needs dats).getD k1 [] = (List.range dats.length).filter fun j => wi (dats.getD j []) (dats.getD k1 []) := by
          rw [getD_in (by rw [hnl]; exact l1)]; simp [needs]
        rw [hg]
        refine List.mem_filter.mpr ⟨List.mem_range.mpr l2, ?_⟩
        simp only [wi, Bool.and_eq_true, decide_eq_true_eq]
        omega
    · rw [List.pairwise_map]
      refine List.Pairwise.imp_of_mem (fun {i j} hi hj hij => ?_) hpw
      obtain ⟨hil, _, _⟩ := (hm i).mp hi
      obtain ⟨hjl, _, _⟩ := (hm j).mp hj
      obtain ⟨a1, a2⟩ := hd_pB D hil
      obtain ⟨b1, b2⟩ := hd_pB D hjl
      rw [a1, a2, b1, b2]
      have := D.inc j i hij.1 hil
      have := hij.2
      unfold eB at this
      omega
    · intro x
      rw [List.mem_map, List.mem_map]
      constructor
      · rintro ⟨k, hk, rfl⟩
        obtain ⟨h1, h2⟩ := List.mem_filter.mp hk
        have l1 : k < dats.length := by rw [← hnl]; exact (T.mem k).mp h1
        obtain ⟨i1, hi1, e1⟩ := (mem_getD (dflt := [])).mp (hp.mem_iff.mp ((mem_getD (dflt := [])).mpr ⟨k, l1, rfl⟩))
        have c1 := hd_pB D hi1
        rw [e1] at c1
        simp only [co, Bool.and_eq_true, decide_eq_true_eq] at h2
        exact ⟨i1, (hm i1).mpr ⟨hi1, by omega, by unfold eB; omega⟩, e1⟩
      · rintro ⟨i, hi, rfl⟩
        obtain ⟨h1, h2, h3⟩ := (hm i).mp hi
        obtain ⟨k, hk, e1⟩ := (mem_getD (dflt := [])).mp (hp.mem_iff.mpr ((mem_getD (dflt := [])).mpr ⟨i, h1, rfl⟩))
        have c1 := hd_pB D h1
        refine ⟨k, List.mem_filter.mpr ⟨(T.mem k).mpr (by rw [hnl]; exact hk), ?_⟩, e1⟩
        rw [e1]
        unfold eB at h3
        simp only [co, Bool.and_eq_true, decide_eq_true_eq]
        omega
  have := congrArg (List.map (List.drop 2)) key
  rw [List.map_map, List.map_map] at this
  exact this
end Mine
end

/-! part Law2 -/
section
open PySem PySem.W PyProof.Rows PySem.Calls
set_option maxRecDepth 100000
set_option linter.unusedVariables false
namespace Mine
theorem rows_dat : ∀ {seg : List (Addr × Obj)} {ds : List (List Int)}, Rows seg ds → (seg.map (·.1)).Nodup → ∃ dat : Addr → List Int, (∀ p ∈ seg, LI p.2 (dat p.1)) ∧ (seg.map (·.1)).map dat = ds
  | [], [], _, _ => ⟨fun _ => [], (fun _ q => nomatch q), rfl⟩
  | p :: seg, d :: ds, h, hn => by
    rw [List.map_cons, List.nodup_cons] at hn
    obtain ⟨dat, h1, h2⟩ := rows_dat h.2 hn.2
    have hne : ∀ q ∈ seg, q.1 ≠ p.1 := fun q hq e => hn.1 (e ▸ List.mem_map_of_mem hq)
    refine ⟨fun x => if x = p.1 then d else dat x, fun q hq => ?_, ?_⟩
    · rcases List.mem_cons.mp hq with rfl | hq
      · show LI q.2 (if q.1 = q.1 then d else dat q.1)
        rw [if_pos rfl]; exact h.1
      · show LI q.2 (if q.1 = p.1 then d else dat q.1)
        rw [if_neg (hne q hq)]; exact h1 q hq
    · rw [List.map_cons, List.map_cons, if_pos rfl]
      congr 1
      rw [← h2, List.map_map, List.map_map]
      apply List.map_congr_left
      intro q hq
      show (if q.1 = p.1 then d else dat q.1) = dat q.1
      rw [if_neg (hne q hq)]
  | [], _ :: _, h, _ => h.elim
  | _ :: _, [], h, _ => h.elim
section
variable {prog : Program} {w : World} {A : Around} {E : Value → Shared → Prop} {s : Shared} {h₀ : Heap} {s₀ : Shared} {frs : List (Addr × Mp)} {led led' : List (Addr × Obj)} {env : Env} {L : Addr} {m : Mp}
/-- where the second line ends -/
structure L2 (h₀ : Heap) (s₀ : Shared) (L : Addr) (nums : List Int) (m : Mp) (o1 o2 o3 o4 o5 : Obj) (aB aS aT : Addr) (segB segS : List (Addr × Obj)) (nB nS nT : Nat) (tab : List Addr) (dat : Addr → List Int) (s : Shared) : Prop where
  at_ : At h₀ s₀ [(L, m)] (cs L o1 o2 o3 o4 o5 ++ ((aT, listOf (refs tab).toArray nT) :: lsP aB segB nB :: lsP aS segS nS :: (segB ++ segS))) s
  b : Rows segB (drawn nums).bs
  st : Rows segS ((drawn nums).st.map natI)
  c2 : o2.data = .cell (some (.ref aB))
  c3 : o3.data = .cell none
  c4 : o4.data = .cell none
  c5 : o5.data = .cell none
  m1 : m (Str.ofString "stacks") = some (.ref aS)
  m2 : m (Str.ofString "table") = some (.ref aT)
  len : nums.length ≤ 18
  hd : ∀ p ∈ segB, LI p.2 (dat p.1)
  bs : (segB.map (·.1)).map dat = (drawn nums).bs
  perm : tab.Perm (segB.map (·.1))
theorem bs_len {ns : List Int} : (drawn ns).bs.length ≤ ns.length := by
  have D := drawn_ok ns
  have : ∀ n, n ≤ (drawn ns).bs.length → ∀ i, i < n → i ≤ pB (drawn ns).bs i := by
    intro n hn i
    induction i with
    | zero => intro _; exact Nat.zero_le _
    | succ i ih =>
      intro hi
      have h1 := ih (by omega)
      have h2 := D.inc i (i + 1) (by omega) (by omega)
      omega
  cases e : (drawn ns).bs.length with
  | zero => exact Nat.zero_le _
  | succ k =>
    have h1 := this (k + 1) (by omega) k (by omega)
    have h2 := (D.lo k (by omega)).1
    omega
theorem law_2 (G : Gr w h₀) {fa a : Addr} {cd : Value} {nums : List Int} {o1 o2 o3 o4 o5 : Obj} {aB aS : Addr} {segB segS : List (Addr × Obj)} {nB nS : Nat} (H : L1 h₀ s₀ L a nums m o1 o2 o3 o4 o5 aB aS segB segS nB nS s) (r : Rm A 30) {Q : Flow → Shared → Prop}
    (kk : ∀ m aT nT tab dat s, L2 h₀ s₀ L nums m o1 o2 o3 o4 o5 aB aS aT segB segS nB nS nT tab dat s → W prog w A (execs ((stmtsOf (fdAt w.params 193)).drop 2) (lawEnv w.params L fa cd)) Q (fun _ _ => False) s) :
    W prog w A (execs ((stmtsOf (fdAt w.params 193)).drop 1) (lawEnv w.params L fa cd)) Q (fun _ _ => False) s := by
  have h := H.at_
  have nd := (List.nodup_append.mp h.nd).2.1
  have hndB : (segB.map (·.1)).Nodup := by
    refine nd.sublist (List.Sublist.map _ ?_)
    exact (List.sublist_append_left segB segS).trans (((List.sublist_cons_self _ _).trans (List.sublist_cons_self _ _)).trans (List.sublist_append_right _ _))
  obtain ⟨dat, hd, hbs⟩ := rows_dat H.b hndB
  have hDI := drawn_ok nums
  have hblk : ∀ x ∈ segB.map (·.1), Blk (cs L o1 o2 o3 o4 o5 ++ (lsP aB segB nB :: lsP aS segS nS :: (segB ++ segS))) x (dat x) := by
    intro x hx
    obtain ⟨p, hp, rfl⟩ := List.mem_map.mp hx
    obtain ⟨vs, n, e, hi⟩ := hd p hp
    refine ⟨vs, n, ?_, hi, ?_⟩
    · rw [← e]; exact List.mem_append_right _ (.tail _ (.tail _ (List.mem_append_left _ hp)))
    · have : dat p.1 ∈ (drawn nums).bs := by rw [← hbs]; exact List.mem_map_of_mem hx
      obtain ⟨i, hi', e'⟩ := (mem_getD (dflt := [])).mp this
      obtain ⟨_, _, e2, _⟩ := hDI.form i hi'
      rw [← e', e2]; rfl
  have hlen : (segB.map (·.1)).length ≤ 18 := by
    have h1 := H.b.length
    have h2 := bs_len (ns := nums)
    have h3 := H.len
    rw [List.length_map]; with_reducible exact ar14 ‹_› ‹_› ‹_› (by decide)
  refine xCons (xAsg (cFn G (f162 w) h (g162 w) (iCons (ldC h (.tail _ (.head _)) H.c2 (iNil ⟨h.keep, ?_⟩)))))
  refine table_spec G h r (List.mem_append_right _ (.head _)) hblk (by with_reducible exact Nat.le_trans ‹_› (by decide)) fun aT tab nT s h hperm => stL h fun s h => ?_
  exact kk _ aT nT tab dat _ ⟨h.perm List.perm_middle, H.b, H.st, H.c2, H.c3, H.c4, H.c5, H.m1, rfl, H.len, hd, hbs, hperm⟩
end
end Mine
end

/-! part Law3 -/
section
open PySem PySem.W PyProof.Rows PySem.Calls
set_option maxRecDepth 100000
set_option linter.unusedVariables false
namespace Mine
theorem octLoop_len : ∀ (k : Nat) (acc : List Int) (n : Nat), n < 64 ^ k → (octLoop acc n).length ≤ acc.length + k
  | 0, acc, n, h => by
    have : n = 0 := by simpa using h
    subst this; rw [octLoop_eq]; simp
  | k + 1, acc, n, h => by
    rw [octLoop_eq]
    split
    · omega
    · have := octLoop_len k ((((n % 64 + 64 : Nat) : Int)) :: acc) (n / 64) (by rw [Nat.pow_succ] at h; omega)
      simp at this ⊢
      omega
theorem octs_len {n : Nat} (h : n < 2 ^ 20) : (octs n).length ≤ 6 := by
  have h1 := octLoop_len 3 [((n % 64 : Nat) : Int)] (n / 64) (by omega)
  have h2 : (List.replicate (n % 3) (64 : Int) ++ octLoop [((n % 64 : Nat) : Int)] (n / 64)).length ≤ 6 := by
    rw [List.length_append, List.length_replicate]
    simp only [List.length_singleton] at h1
    omega
  unfold octs
  generalize (List.replicate (n % 3) (64 : Int) ++ octLoop [((n % 64 : Nat) : Int)] (n / 64)) = l at h2
  cases l with
  | nil => exact Nat.zero_le _
  | cons x r => exact h2
theorem flat_len {α β : Type} {f : α → List β} {B : Nat} : ∀ (l : List α), (∀ x ∈ l, (f x).length ≤ B) → (l.flatMap f).length ≤ B * l.length
  | [], _ => Nat.le_refl _
  | x :: l, h => by
    have h1 := flat_len l fun y hy => h y (.tail _ hy)
    have h2 := h x (.head _)
    rw [List.flatMap_cons, List.length_append, List.length_cons, Nat.mul_succ]
    omega
theorem permL {aR : Addr × Obj} {segR c T3 Y : List (Addr × Obj)} : (c ++ (aR :: (T3 ++ (segR ++ Y)))).Perm (aR :: (segR ++ (c ++ (T3 ++ Y)))) := by
  refine List.perm_middle.trans (List.Perm.cons _ ?_)
  have h1 : (c ++ (T3 ++ (segR ++ Y))).Perm (c ++ (segR ++ (T3 ++ Y))) := by
    refine List.Perm.append_left c ?_
    have := (List.perm_append_comm (l₁ := T3) (l₂ := segR)).append_right Y
    rwa [List.append_assoc, List.append_assoc] at this
  have h2 : (c ++ (segR ++ (T3 ++ Y))).Perm (segR ++ (c ++ (T3 ++ Y))) := by
    have := (List.perm_append_comm (l₁ := c) (l₂ := segR)).append_right (T3 ++ Y)
    rwa [List.append_assoc, List.append_assoc] at this
  exact h1.trans h2
section
variable {prog : Program} {w : World} {A : Around} {E : Value → Shared → Prop} {s : Shared} {h₀ : Heap} {s₀ : Shared} {frs : List (Addr × Mp)} {led led' : List (Addr × Obj)} {env : Env} {L : Addr} {m : Mp}
theorem rot3 {d a b : Addr × Obj} {l : List (Addr × Obj)} : (d :: a :: b :: l).Perm (a :: b :: d :: l) := (List.Perm.swap _ _ _).trans ((List.Perm.swap _ _ _).cons _)
theorem rot4 {d a b c e : Addr × Obj} {l : List (Addr × Obj)} : (d :: a :: b :: c :: e :: l).Perm (a :: b :: c :: d :: e :: l) := (List.perm_middle (a := d) (l₁ := [a, b, c]) (l₂ := e :: l)).symm
/-- the octets so far -/
inductive oc0 (h₀ : Heap) (s₀ : Shared) (c : Addr) (frs : List (Addr × Mp)) (base : List (Addr × Obj)) (D it aT : Addr) (tab : List Addr) (dn : Addr → List Nat) (n : Nat) (s : Shared) : Prop
  | mk (m : _) (o : _) (us : _) (nD : _) (q1 : n ≤ tab.length) (q2 : At h₀ s₀ ((c, m) :: frs) ((D, listOf (List.toArray us) nD) :: (it, o) :: base) s) (q3 : LIt aT (tab.length - n) o) (q4 : IntsAre us ((tab.take (tab.length - n)).flatMap fun a => encRow (dn a)))
inductive oc1 (h₀ : Heap) (s₀ : Shared) (c : Addr) (frs : List (Addr × Mp)) (base : List (Addr × Obj)) (D it a : Addr) (d : List Nat) (A0 : List Int) (n : Nat) (s : Shared) : Prop
  | mk (m : _) (o : _) (us : _) (nD : _) (q1 : n ≤ d.length) (q2 : At h₀ s₀ ((c, m) :: frs) ((D, listOf (List.toArray us) nD) :: (it, o) :: base) s) (q3 : LIt a (d.length - n) o) (q4 : IntsAre us (A0 ++ (d.take (d.length - n)).flatMap octs))
inductive oc2 (h₀ : Heap) (s₀ : Shared) (c : Addr) (frs : List (Addr × Mp)) (base : List (Addr × Obj)) (D it a : Addr) (os A0 : List Int) (n : Nat) (s : Shared) : Prop
  | mk (m : _) (o : _) (us : _) (nD : _) (q1 : n ≤ os.length) (q2 : At h₀ s₀ ((c, m) :: frs) ((D, listOf (List.toArray us) nD) :: (it, o) :: base) s) (q3 : LIt a (os.length - n) o) (q4 : IntsAre us (A0 ++ os.take (os.length - n)))
/-- where the third line ends -/
structure L3 (h₀ : Heap) (s₀ : Shared) (L : Addr) (nums : List Int) (m : Mp) (o1 o2 o3 o4 o5 : Obj) (aB aS aT aR : Addr) (segB segS segR : List (Addr × Obj)) (nB nS nT nR : Nat) (tab : List Addr) (dat : Addr → List Int) (s : Shared) : Prop where
  at_ : At h₀ s₀ [(L, m)] (cs L o1 o2 o3 o4 o5 ++ (lsP aR segR nR :: (aT, listOf (refs tab).toArray nT) :: lsP aB segB nB :: lsP aS segS nS :: (segR ++ (segB ++ segS)))) s
  b : Rows segB (drawn nums).bs
  st : Rows segS ((drawn nums).st.map natI)
  rw : Rows segR (tab.map dat)
  c2 : o2.data = .cell (some (.ref aB))
  c3 : o3.data = .cell (some (.ref aR))
  c4 : o4.data = .cell none
  c5 : o5.data = .cell none
  m1 : m (Str.ofString "stacks") = some (.ref aS)
  m2 : m (Str.ofString "table") = some (.ref aT)
  len : nums.length ≤ 18
  hd : ∀ p ∈ segB, LI p.2 (dat p.1)
  bs : (segB.map (·.1)).map dat = (drawn nums).bs
  perm : tab.Perm (segB.map (·.1))
theorem law_3 (G : Gr w h₀) {fa : Addr} {cd : Value} {nums : List Int} {o1 o2 o3 o4 o5 : Obj} {aB aS aT : Addr} {segB segS : List (Addr × Obj)} {nB nS nT : Nat} {tab : List Addr} {dat : Addr → List Int} (H : L2 h₀ s₀ L nums m o1 o2 o3 o4 o5 aB aS aT segB segS nB nS nT tab dat s) (r : Rm A 30) (hF : Fo A [L]) {Q : Flow → Shared → Prop}
    (kk : ∀ m o3 aR nR segR s, L3 h₀ s₀ L nums m o1 o2 o3 o4 o5 aB aS aT aR segB segS segR nB nS nT nR tab dat s → W prog w A (execs ((stmtsOf (fdAt w.params 193)).drop 3) (lawEnv w.params L fa cd)) Q (fun _ _ => False) s) :
    W prog w A (execs ((stmtsOf (fdAt w.params 193)).drop 2) (lawEnv w.params L fa cd)) Q (fun _ _ => False) s := by
  have h := H.at_
  have hDI := drawn_ok nums
  have hmt : (aT, listOf (refs tab).toArray nT) ∈ cs L o1 o2 o3 o4 o5 ++ ((aT, listOf (refs tab).toArray nT) :: lsP aB segB nB :: lsP aS segS nS :: (segB ++ segS)) := List.mem_append_right _ (.head _)
  have htl : tab.length ≤ 18 := by
    have h1 := H.perm.length_eq
    have h2 := H.b.length
    have h3 := bs_len (ns := nums)
    have h4 := H.len
    rw [List.length_map] at h1
    omega
  let dn : Addr → List Nat := fun a => (dat a).map Int.toNat
  have hdn : ∀ a ∈ tab, natI (dn a) = dat a ∧ (dn a).length = 4 ∧ (∀ x ∈ dn a, x < 2 ^ 20) ∧ ∃ vs n, (a, listOf (List.toArray vs) n) ∈ segB ∧ IntsAre vs (natI (dn a)) := by
    intro a ha
    have ha' := H.perm.mem_iff.mp ha
    obtain ⟨p, hp, rfl⟩ := List.mem_map.mp ha'
    have hmem : dat p.1 ∈ (drawn nums).bs := by rw [← H.bs]; exact List.mem_map_of_mem ha'
    obtain ⟨i, hi, e⟩ := (mem_getD (dflt := [])).mp hmem
    obtain ⟨hh, mm, e2, b1, b2⟩ := hDI.form i hi
    have lo := hDI.lo i hi
    have hl := H.len
    unfold eB at lo
    rw [e] at e2
    have e3 : natI (dn p.1) = dat p.1 := by simp only [dn, natI]; rw [e2]; simp
    refine ⟨e3, by simp only [dn]; rw [e2]; rfl, fun x hx => ?_, ?_⟩
    · simp only [dn] at hx
      rw [e2] at hx
      simp at hx
      rcases hx with rfl | rfl | rfl | rfl <;> omega
    · obtain ⟨vs, n, q1, q2⟩ := H.hd p hp
      exact ⟨vs, n, by rw [← q1]; exact hp, by rw [e3]; exact q2⟩
  refine xCons (xAsg (cFn G (f176 w) h (g176 w) (iCons (lComp3 (h₀ := h₀) (s₀ := s₀) (cl := []) (ldL h H.m2 (itL h hmt fun it0 oi0 s hi0 h => ⟨_, _, h, fun c D s h => ⟨it2L h (.tail _ (.head _)) hi0, ?_⟩⟩))))))
  refine nest0 (oc0 h₀ s₀ c [(L, m)] (cs L o1 o2 o3 o4 o5 ++ ((aT, listOf (refs tab).toArray nT) :: lsP aB segB nB :: lsP aS segS nS :: (segB ++ segS))) D it0 aT tab dn) (fun n s hI => ?_) tab.length ⟨_, oi0, [], 0, Nat.le_refl _, h, by rw [Nat.sub_self]; exact hi0, by rw [Nat.sub_self]; exact .nil⟩
  obtain ⟨mc, o0, us, nD, hn, h, hi0, hus⟩ := hI
  by_cases hn0 : n = 0
  · subst hn0
    rw [Nat.sub_zero, List.take_length] at hus
    refine nxLend (h.perm (List.Perm.swap _ _ _)) r.handled hi0 (.tail _ hmt) (by rw [List.getElem?_eq_none_iff]; simp [refs]) fun s h => ⟨_, _, h, fun s h => iNil ⟨h.keep, ?_⟩⟩
    have e1 : (tab.map dn).flatMap encRow = tab.flatMap fun a => encRow (dn a) := by rw [List.flatMap_map]
    refine rows_spec G h r hF (.head _) (dats := tab.map dn) (by rw [e1]; exact hus) (fun d hd => ?_) (by rw [List.length_map]; with_reducible exact Nat.le_trans ‹_› (by decide)) fun aR segR nR s h hrows => ?_
    · obtain ⟨a, ha, rfl⟩ := List.mem_map.mp hd
      exact ⟨(hdn a ha).2.1, (hdn a ha).2.2.1⟩
    · have e2 : (tab.map dn).map nat4 = tab.map dat := by
        rw [List.map_map]
        exact List.map_congr_left fun a ha => (hdn a ha).1
      rw [e2] at hrows
      have h := h.sub (led' := lsP aR segR nR :: (segR ++ (cs L o1 o2 o3 o4 o5 ++ ([(aT, listOf (refs tab).toArray nT), lsP aB segB nB, lsP aS segS nS] ++ (segB ++ segS))))) (List.Sublist.cons_cons _ ((List.Sublist.refl segR).append ((List.Sublist.refl _).cons _)))
      have h := h.perm permL
      refine stC h (fun o' => .tail (.tail .head)) H.c3 fun o3' s hc3 h => ?_
      exact kk _ o3' aR nR segR _ ⟨h, H.b, H.st, hrows, H.c2, hc3, H.c4, H.c5, H.m1, H.m2, H.len, H.hd, H.bs, H.perm⟩
  · have hlt : tab.length - n < tab.length := by with_reducible exact ar5 ‹_› ‹_›
    have hka := List.getElem?_eq_getElem hlt
    have hkm : tab[tab.length - n] ∈ tab := List.getElem_mem hlt
    have htk : tab.take (tab.length - n + 1) = tab.take (tab.length - n) ++ [tab[tab.length - n]] := List.take_succ_eq_append_getElem hlt
    generalize tab[tab.length - n] = a at hka hkm htk
    obtain ⟨d1, d2, d3, vs, nv, hav, hiv⟩ := hdn a hkm
    have hvl : vs.length = 4 := by rw [hiv.length]; simp [natI, d2]
    have h := h.perm (List.Perm.swap (D, listOf (List.toArray us) nD) (it0, o0) _)
    refine nxL h hi0 (.tail _ hmt) (refs_get hka) fun o0' s hi0 h => aName (stL h fun s h => ldL h rfl ?_)
    have hab : (a, listOf (List.toArray vs) nv) ∈ (it0, o0') :: (D, listOf (List.toArray us) nD) :: (cs L o1 o2 o3 o4 o5 ++ ((aT, listOf (refs tab).toArray nT) :: lsP aB segB nB :: lsP aS segS nS :: (segB ++ segS))) := .tail _ (.tail _ (List.mem_append_right _ (.tail _ (.tail _ (.tail _ (List.mem_append_left _ hav))))))
    refine itL h hab fun it1 oi1 s hi1 h => startN (g := ⟨_, _, [], 0⟩) rfl rfl ?_ (it2L h (.head _) hi1)
    let base := cs L o1 o2 o3 o4 o5 ++ ((aT, listOf (refs tab).toArray nT) :: lsP aB segB nB :: lsP aS segS nS :: (segB ++ segS))
    have h := h.perm (led' := (D, listOf (List.toArray us) nD) :: (it1, oi1) :: (it0, o0') :: base) rot3
    refine nest1 (oc1 h₀ s₀ c [(L, m)] ((it0, o0') :: base) D it1 a (dn a) ((tab.take (tab.length - n)).flatMap fun a => encRow (dn a))) (fun n1 s hI => ?_) (dn a).length ⟨_, oi1, us, nD, Nat.le_refl _, h, by rw [Nat.sub_self]; exact hi1, by rw [Nat.sub_self]; simpa using hus⟩
    obtain ⟨mc1, p1, us1, nD1, hn1, h, hi1, hus1⟩ := hI
    have hab1 : (a, listOf (List.toArray vs) nv) ∈ (D, listOf (List.toArray us1) nD1) :: (it0, o0') :: base := .tail _ (.tail _ (List.mem_append_right _ (.tail _ (.tail _ (.tail _ (List.mem_append_left _ hav))))))
    by_cases hn10 : n1 = 0
    · subst hn10
      rw [Nat.sub_zero, List.take_length] at hus1
      refine nxLend (h.perm (List.Perm.swap _ _ _)) r.handled hi1 hab1 (by rw [List.getElem?_eq_none_iff]; omega) fun s h => ?_
      refine ⟨n - 1, by with_reducible exact ar3 ‹_›, _, o0', us1, nD1, by with_reducible exact ar4 ‹_›, h, ?_, ?_⟩
      · rw [show tab.length - (n - 1) = tab.length - n + 1 by with_reducible exact ar1 ‹_› ‹_›]; exact hi0
      · rw [show tab.length - (n - 1) = tab.length - n + 1 by with_reducible exact ar1 ‹_› ‹_›, htk, List.flatMap_append]
        simpa [encRow] using hus1
    · have hlt1 : (dn a).length - n1 < (dn a).length := by with_reducible exact ar5 ‹_› ‹_›
      have hkx := List.getElem?_eq_getElem hlt1
      have hxm : (dn a)[(dn a).length - n1] ∈ dn a := List.getElem_mem hlt1
      have htk1 : (dn a).take ((dn a).length - n1 + 1) = (dn a).take ((dn a).length - n1) ++ [(dn a)[(dn a).length - n1]] := List.take_succ_eq_append_getElem hlt1
      generalize (dn a)[(dn a).length - n1] = x at hkx hxm htk1
      obtain ⟨tx, hvx⟩ := natI_get hiv hkx
      refine nxL (h.perm (List.Perm.swap _ _ _)) hi1 hab1 hvx fun p1' s hi1 h => aName (stL h fun s h => ?_)
      refine cFn G (f169 w) h (g169 w) (iCons (ldL h rfl (iNil ⟨h.keep, ?_⟩)))
      refine octets_spec G h r (d3 x hxm) fun dO vo s h hvo => ?_
      refine itL h (.head _) fun it2 oi2 s hi2 h => startN (g := ⟨_, _, [], 0⟩) rfl rfl ?_ (it2L h (.head _) hi2)
      have hvol := hvo.length
      have h := h.perm (led' := (D, listOf (List.toArray us1) nD1) :: (it2, oi2) :: (dO, listOf (List.toArray vo) 0) :: (it1, p1') :: (it0, o0') :: base) rot4
      refine nest2 (oc2 h₀ s₀ c [(L, m)] ((dO, listOf (List.toArray vo) 0) :: (it1, p1') :: (it0, o0') :: base) D it2 dO (octs x) (((tab.take (tab.length - n)).flatMap fun a => encRow (dn a)) ++ ((dn a).take ((dn a).length - n1)).flatMap octs)) (fun n2 s hI => ?_) (octs x).length ⟨_, oi2, us1, nD1, Nat.le_refl _, h, by rw [Nat.sub_self]; exact hi2, by rw [Nat.sub_self]; simpa using hus1⟩
      obtain ⟨mc2, p2, us2, nD2, hn2, h, hi2, hus2⟩ := hI
      by_cases hn20 : n2 = 0
      · subst hn20
        rw [Nat.sub_zero, List.take_length] at hus2
        refine nxLend (h.perm (List.Perm.swap _ _ _)) r.handled hi2 (.tail _ (.head _)) (by rw [List.getElem?_eq_none_iff]; with_reducible exact ar6b ‹_›) fun s h => ?_
        refine ⟨n1 - 1, by with_reducible exact ar3 ‹_›, _, p1', us2, nD2, by with_reducible exact ar4 ‹_›, h.keep1 1, ?_, ?_⟩
        · rw [show (dn a).length - (n1 - 1) = (dn a).length - n1 + 1 by with_reducible exact ar1 ‹_› ‹_›]; exact hi1
        · rw [show (dn a).length - (n1 - 1) = (dn a).length - n1 + 1 by with_reducible exact ar1 ‹_› ‹_›, htk1, List.flatMap_append]
          simpa using hus2
      · have hlt2 : (octs x).length - n2 < (octs x).length := by with_reducible exact ar5 ‹_› ‹_›
        have hkz := List.getElem?_eq_getElem hlt2
        have htk2 : (octs x).take ((octs x).length - n2 + 1) = (octs x).take ((octs x).length - n2) ++ [(octs x)[(octs x).length - n2]] := List.take_succ_eq_append_getElem hlt2
        generalize (octs x)[(octs x).length - n2] = z at hkz htk2
        obtain ⟨tz, hvz⟩ := hvo.get _ _ hkz
        have hcap : us2.length ≤ sizeLine := by
          have b0 : ∀ q ∈ tab.take (tab.length - n), (encRow (dn q)).length ≤ 24 := by
            intro q hq
            have b2 := flat_len (B := 6) (f := octs) (dn q) fun y hy => octs_len ((hdn q (List.mem_of_mem_take hq)).2.2.1 y hy)
            rw [(hdn q (List.mem_of_mem_take hq)).2.1] at b2
            exact b2
          have b1 := flat_len (B := 24) (f := fun a => encRow (dn a)) (tab.take (tab.length - n)) b0
          have b3 := flat_len (B := 6) (f := octs) ((dn a).take ((dn a).length - n1)) fun y hy => octs_len (d3 y (List.mem_of_mem_take hy))
          have b4 := octs_len (d3 x hxm)
          have b5 := hus2.length
          rw [List.length_append, List.length_append] at b5
          rw [List.length_take] at b1 b3 b5
          have b6 : 24 * min (tab.length - n) tab.length ≤ 24 * 18 := Nat.mul_le_mul_left _ (by with_reducible exact arI2 ‹_›)
          rw [sizeLine_eq]; exact arT b5 b1 b6 b3 (Nat.le_trans (Nat.min_le_right _ _) (Nat.le_of_eq d2)) (Nat.le_trans (Nat.min_le_right _ _) b4)
        refine nxL (h.perm (List.Perm.swap _ _ _)) hi2 (.tail _ (.head _)) hvz fun p2' s hi2 h => aName (stL h fun s h => tst0 ?_)
        first | refine iteT rfl ?_ | rw [if_pos rfl]
        refine ldL h rfl (fAppend h (.tail .head) hcap fun s h => ?_)
        refine ⟨n2 - 1, by with_reducible exact ar3 ‹_›, _, p2', _, _, by with_reducible exact ar4 ‹_›, h.perm (List.Perm.swap _ _ _), ?_, ?_⟩
        · rw [show (octs x).length - (n2 - 1) = (octs x).length - n2 + 1 by with_reducible exact ar1 ‹_› ‹_›]; exact hi2
        · rw [show (octs x).length - (n2 - 1) = (octs x).length - n2 + 1 by with_reducible exact ar1 ‹_› ‹_›, htk2, ← List.append_assoc]
          exact hus2.append (.cons _ _ .nil)
end
end Mine
end

/-! part Law4 -/
section
open PySem PySem.W PyProof.Rows PySem.Calls
set_option maxRecDepth 100000
set_option linter.unusedVariables false
namespace Mine
section
variable {prog : Program} {w : World} {A : Around} {E : Value → Shared → Prop} {s : Shared} {h₀ : Heap} {s₀ : Shared} {frs : List (Addr × Mp)} {led led' : List (Addr × Obj)} {env : Env} {L : Addr} {m : Mp}
theorem At.newsAll (h : At h₀ s₀ ((L, m) :: frs) led s) : News noHeap L s.heap led := fun p hp => ⟨h.get p hp, h.neL hp, by simp [Heap.get?]⟩
noncomputable abbrev dI (d : List Int) : Dat := .list (d.map .int)
theorem dat_ints : ∀ {vs : List Value} {ns : List Int}, IntsAre vs ns → DatAll led vs (ns.map .int)
  | _, _, .nil => .nil
  | _, _, .cons n t h => .cons (.int n t) (dat_ints h)
theorem dat_tab {dat : Addr → List Int} : ∀ {tab : List Addr}, (∀ a ∈ tab, ∃ vs n, (a, listOf (List.toArray vs) n) ∈ led ∧ IntsAre vs (dat a)) → DatAll led (refs tab) (tab.map fun a => dI (dat a))
  | [], _ => .nil
  | a :: tab, h => by
    obtain ⟨vs, n, h1, h2⟩ := h a (.head _)
    exact .cons (.list h1 (dat_ints h2)) (dat_tab fun b hb => h b (.tail _ hb))
theorem dat_rows : ∀ {seg : List (Addr × Obj)} {ds : List (List Int)}, Rows seg ds → (∀ p ∈ seg, p ∈ led) → DatAll led (refs (seg.map (·.1))) (ds.map dI)
  | [], [], _, _ => .nil
  | (a, o) :: seg, d :: ds, h, hm => by
    obtain ⟨vs, n, e, h2⟩ := h.1
    have e' : o = listOf (List.toArray vs) n := e
    subst e'
    exact .cons (.list (hm _ (.head _)) (dat_ints h2)) (dat_rows h.2 fun p hp => hm p (.tail _ hp))
  | [], _ :: _, h, _ => h.elim
  | _ :: _, [], h, _ => h.elim
theorem ok_dI (d : List Int) (n : Nat) : kqdOk (n + 1) (dI d) = true := by
  unfold kqdOk
  rw [List.all_eq_true]
  intro x hx
  obtain ⟨i, _, rfl⟩ := List.mem_map.mp hx
  cases n <;> rfl
theorem qNe {a b : Addr} {xs ys : List Value} {ka kb : Nat} {ds es : List Dat} {Q : Value → Shared → Prop} (h : At h₀ s₀ ((L, m) :: frs) led s) (ma : (a, listOf xs.toArray ka) ∈ led) (mb : (b, listOf ys.toArray kb) ∈ led) (Da : DatAll led xs ds) (Db : DatAll led ys es) (ha : ∀ d ∈ ds, kqdOk 8 d = true) (hb : ∀ d ∈ es, kqdOk 8 d = true) (hu : A.units + 64 < cLine)
    (e : ds = es) (k : Q (.bool false) s) : W prog w A (compareOp .NotEq (.ref a) (.ref b)) Q E s :=
  ⟨kqd_ne h.newsAll ma rfl rfl Da (fun _ z => z) mb rfl rfl Db (fun _ z => z) ha hb hu (by simpa [e] using k)⟩
theorem qEq {a b : Addr} {xs ys : List Value} {ka kb : Nat} {ds es : List Dat} {Q : Value → Shared → Prop} (h : At h₀ s₀ ((L, m) :: frs) led s) (ma : (a, listOf xs.toArray ka) ∈ led) (mb : (b, listOf ys.toArray kb) ∈ led) (Da : DatAll led xs ds) (Db : DatAll led ys es) (ha : ∀ d ∈ ds, kqdOk 8 d = true) (hb : ∀ d ∈ es, kqdOk 8 d = true) (hu : A.units + 64 < cLine)
    (e : ds = es) (k : Q (.bool true) s) : W prog w A (compareOp .Eq (.ref a) (.ref b)) Q E s :=
  ⟨kqd_eq h.newsAll ma rfl rfl Da (fun _ z => z) mb rfl rfl Db (fun _ z => z) ha hb hu (by simpa [e] using k)⟩
end
end Mine
end

/-! part Law5 -/
section
open PySem PySem.W PyProof.Rows PySem.Calls
set_option maxRecDepth 100000
set_option linter.unusedVariables false
namespace Mine
section
variable {prog : Program} {w : World} {A : Around} {E : Value → Shared → Prop} {s : Shared} {h₀ : Heap} {s₀ : Shared} {frs : List (Addr × Mp)} {led led' : List (Addr × Obj)} {env : Env} {L : Addr} {m : Mp}
/-- where the fifth line ends: the data alone -/
structure L5 (h₀ : Heap) (s₀ : Shared) (L : Addr) (nums : List Int) (dats : List (List Int)) (m : Mp) (o1 o2 o3 o4 o5 : Obj) (aB aS aR aP : Addr) (segB segS segR : List (Addr × Obj)) (nB nS nR : Nat) (t u v : Tok) (s : Shared) : Prop where
  at_ : At h₀ s₀ [(L, m)] (cs L o1 o2 o3 o4 o5 ++ ((aP, rangeOf (dats.length : Int) t u v) :: lsP aR segR nR :: lsP aB segB nB :: lsP aS segS nS :: (segR ++ (segB ++ segS)))) s
  b : Rows segB (drawn nums).bs
  st : Rows segS ((drawn nums).st.map natI)
  rw : Rows segR dats
  c2 : o2.data = .cell (some (.ref aB))
  c3 : o3.data = .cell (some (.ref aR))
  c4 : o4.data = .cell (some (.ref aP))
  c5 : o5.data = .cell none
  m1 : m (Str.ofString "stacks") = some (.ref aS)
  len : nums.length ≤ 18
  perm : dats.Perm (drawn nums).bs
theorem law_5 (G : Gr w h₀) {fa : Addr} {cd : Value} {nums : List Int} {o1 o2 o3 o4 o5 : Obj} {aB aS aT aR : Addr} {segB segS segR : List (Addr × Obj)} {nB nS nT nR : Nat} {tab : List Addr} {dat : Addr → List Int} (H : L3 h₀ s₀ L nums m o1 o2 o3 o4 o5 aB aS aT aR segB segS segR nB nS nT nR tab dat s) (r : Rm A 30) {Q : Flow → Shared → Prop}
    (kk : ∀ dats m o4 aP t u v s, L5 h₀ s₀ L nums dats m o1 o2 o3 o4 o5 aB aS aR aP segB segS segR nB nS nR t u v s → W prog w A (execs ((stmtsOf (fdAt w.params 193)).drop 5) (lawEnv w.params L fa cd)) Q (fun _ _ => False) s) :
    W prog w A (execs ((stmtsOf (fdAt w.params 193)).drop 3) (lawEnv w.params L fa cd)) Q (fun _ _ => False) s := by
  have h := H.at_
  have hperm : (tab.map dat).Perm (drawn nums).bs := by rw [← H.bs]; exact H.perm.map dat
  have hrl : segR.length = tab.length := by have := H.rw.length; simpa using this
  have htl : tab.length ≤ 18 := by
    have h1 := hperm.length_eq
    have h3 := bs_len (ns := nums)
    have h4 := H.len
    rw [List.length_map] at h1
    with_reducible exact ar14 ‹_› ‹_› ‹_› (by decide)
  refine xCons (xIf (tCmp (ldC h (.tail _ (.tail _ (.head _))) H.c3 (ldL h H.m2 (qNe h (ds := (tab.map dat).map dI) (es := tab.map fun a => dI (dat a)) (List.mem_append_right _ (.head _)) (List.mem_append_right _ (.tail _ (.head _))) (dat_rows H.rw fun p hp => List.mem_append_right _ (.tail _ (.tail _ (.tail _ (.tail _ (List.mem_append_left _ hp)))))) (dat_tab fun a ha => ?_) ?_ ?_ r.cline (by rw [List.map_map]; rfl) (tBool ?_))))))
  · obtain ⟨p, hp, rfl⟩ := List.mem_map.mp (H.perm.mem_iff.mp ha)
    obtain ⟨vs, n, e, hi⟩ := H.hd p hp
    exact ⟨vs, n, by rw [← e]; exact List.mem_append_right _ (.tail _ (.tail _ (.tail _ (.tail _ (List.mem_append_right _ (List.mem_append_left _ hp)))))), hi⟩
  · intro d hd; obtain ⟨x, _, rfl⟩ := List.mem_map.mp hd; exact ok_dI x 7
  · intro d hd; obtain ⟨x, _, rfl⟩ := List.mem_map.mp hd; exact ok_dI _ 7
  first | refine ifF rfl ?_ | rw [if_neg (by decide)]
  refine xNil ?_
  refine xCons (xAsg (cT G h (g_range w) b_range (iCons (cB G h (g_len w) b_len (iCons (ldC h (.tail _ (.tail _ (.head _))) H.c3 (iNil ?_)))))))
  refine fLen h (List.mem_append_right _ (.head _)) (by rw [refs_len]; with_reducible exact ar8 ‹_› ‹_› (by decide)) fun _ s h => iNil (fRange h fun aP t u v s h => ?_)
  have h := h.perm (led' := cs L o1 o2 o3 o4 o5 ++ ((aP, rangeOf ((refs (segR.map (·.1))).length : Int) t u v) :: lsP aR segR nR :: (aT, listOf (refs tab).toArray nT) :: lsP aB segB nB :: lsP aS segS nS :: (segR ++ (segB ++ segS)))) List.perm_middle
  refine stC h (fun o' => .tail (.tail (.tail .head))) H.c4 fun o4' s hc4 h => ?_
  have e : (refs (segR.map (·.1))).length = (tab.map dat).length := by rw [refs_len, List.length_map, hrl]
  rw [e] at h
  have h := h.sub (led' := cs L o1 o2 o3 o4' o5 ++ ((aP, rangeOf ((tab.map dat).length : Int) t u v) :: lsP aR segR nR :: lsP aB segB nB :: lsP aS segS nS :: (segR ++ (segB ++ segS)))) ((List.Sublist.refl (cs L o1 o2 o3 o4' o5)).append (((List.Sublist.refl _).cons _).cons_cons _ |>.cons_cons _))
  exact kk (tab.map dat) _ o4' aP t u v _ ⟨h, H.b, H.st, H.rw, H.c2, H.c3, hc4, H.c5, H.m1, H.len, hperm⟩
end
end Mine
end

/-! part Law6 -/
section
open PySem PySem.W PyProof.Rows PySem.Calls
set_option maxRecDepth 100000
set_option linter.unusedVariables false
namespace Mine
/-- the pairs of the dict of needs -/
noncomputable def kvF (seg : List (Addr × Obj)) : List (Int × Value) := seg.zipIdx.map fun p => ((p.2 : Int), Value.ref p.1.1)
theorem kvF_len (seg : List (Addr × Obj)) : (kvF seg).length = seg.length := by simp [kvF]
theorem kvF_snoc (seg : List (Addr × Obj)) (p : Addr × Obj) : kvF (seg ++ [p]) = kvF seg ++ [((seg.length : Int), Value.ref p.1)] := by simp [kvF, List.zipIdx_append]
theorem kvF_stored (seg : List (Addr × Obj)) (p : Addr × Obj) : stored (kvF seg) (seg.length : Int) (.ref p.1) = kvF (seg ++ [p]) := by
  unfold stored
  rw [if_neg, kvF_snoc]
  intro q
  obtain ⟨kv, h1, h2⟩ := List.any_eq_true.mp q
  obtain ⟨x, hx, rfl⟩ := List.mem_map.mp h1
  have h3 := (List.mem_zipIdx hx).2.1
  have h4 : (x.2 : Int) = (seg.length : Int) := by simpa using h2
  omega
section
variable {prog : Program} {w : World} {A : Around} {E : Value → Shared → Prop} {s : Shared} {h₀ : Heap} {s₀ : Shared} {frs : List (Addr × Mp)} {led led' : List (Addr × Obj)} {env : Env} {L : Addr} {m : Mp}
theorem seg_item {seg : List (Addr × Obj)} {ds : List (List Int)} (h : Rows seg ds) {i : Nat} (hi : i < ds.length) : ∃ a vs n, (refs (seg.map (·.1)))[i]? = some (.ref a) ∧ (a, listOf (List.toArray vs) n) ∈ seg ∧ IntsAre vs (ds.getD i []) := by
  have e : ds[i]? = some (ds.getD i []) := by rw [getD_in hi, List.getElem?_eq_getElem hi]
  obtain ⟨p, h1, vs, n, h2, h3⟩ := h.get e
  refine ⟨p.1, vs, n, ?_, by rw [← h2]; exact List.mem_of_getElem? h1, h3⟩
  exact refs_get (by rw [List.getElem?_map, h1]; rfl)
theorem perm6 {d1 it cc D : Addr × Obj} {seg base : List (Addr × Obj)} : (cc :: D :: it :: ((seg ++ [d1]) ++ base)).Perm (d1 :: it :: cc :: D :: (seg ++ base)) := by
  have h1 : ((seg ++ [d1]) ++ base).Perm (d1 :: (seg ++ base)) := by rw [List.append_assoc]; exact List.perm_middle
  have h2 : (cc :: D :: it :: (d1 :: (seg ++ base))).Perm (d1 :: it :: cc :: D :: (seg ++ base)) := by
    refine (List.perm_middle (a := d1) (l₁ := [cc, D, it]) (l₂ := seg ++ base)).trans (List.Perm.cons _ ?_)
    exact (List.perm_middle (a := it) (l₁ := [cc, D]) (l₂ := seg ++ base))
  exact (((h1.cons it).cons D).cons cc).trans h2
/-- the outer loop of line 6 -/
inductive nd0 (prog : Program) (w : World) (h₀ : Heap) (s₀ : Shared) (c cc : Addr) (frs : List (Addr × Mp)) (base : List (Addr × Obj)) (D it : Addr) (dats : List (List Int)) (n : Nat) (s : Shared) : Prop
  | mk (m : _) (oc : _) (oD : _) (seg : _) (q1 : n ≤ dats.length) (q2 : At h₀ s₀ ((c, m) :: frs) ((cc, oc) :: (D, oD) :: (it, rIt dats.length (dats.length - n)) :: (seg ++ base)) s) (q3 : (∃ v, oc.data = .cell v)) (q4 : oD.IsDictOf (intKind prog w) (kvF seg)) (q5 : Rows seg (((needs dats).take (dats.length - n)).map natI))
/-- the inner loop of line 6 -/
inductive nd1 (h₀ : Heap) (s₀ : Shared) (c : Addr) (frs : List (Addr × Mp)) (base : List (Addr × Obj)) (D it : Addr) (dats : List (List Int)) (k : Nat) (n : Nat) (s : Shared) : Prop
  | mk (m : _) (us : _) (nD : _) (q1 : n ≤ dats.length) (q2 : At h₀ s₀ ((c, m) :: frs) ((D, listOf (List.toArray us) nD) :: (it, rIt dats.length (dats.length - n)) :: base) s) (q3 : IntsAre us (natI ((List.range (dats.length - n)).filter fun j => wi (dats.getD j []) (dats.getD k []))))
/-- where line 6 ends -/
structure L6 (h₀ : Heap) (s₀ : Shared) (L : Addr) (nums : List Int) (dats : List (List Int)) (ord : List Nat) (m : Mp) (o1 o2 o3 o4 o5 : Obj) (aB aS aR aO : Addr) (segB segS segR : List (Addr × Obj)) (nB nS nR nO : Nat) (us : List Value) (s : Shared) : Prop where
  at_ : At h₀ s₀ [(L, m)] (cs L o1 o2 o3 o4 o5 ++ ((aO, listOf us.toArray nO) :: lsP aR segR nR :: lsP aB segB nB :: lsP aS segS nS :: (segR ++ (segB ++ segS)))) s
  b : Rows segB (drawn nums).bs
  st : Rows segS ((drawn nums).st.map natI)
  rw : Rows segR dats
  c2 : o2.data = .cell (some (.ref aB))
  c3 : o3.data = .cell (some (.ref aR))
  c5 : o5.data = .cell (some (.ref aO))
  hord : IntsAre us (natI ord)
  topo : TopoOrd (needs dats) ord
  m1 : m (Str.ofString "stacks") = some (.ref aS)
  len : nums.length ≤ 18
  perm : dats.Perm (drawn nums).bs
theorem law_6 (G : Gr w h₀) {fa : Addr} {cd : Value} {nums : List Int} {dats : List (List Int)} {o1 o2 o3 o4 o5 : Obj} {aB aS aR aP : Addr} {segB segS segR : List (Addr × Obj)} {nB nS nR : Nat} {t u v : Tok} (H : L5 h₀ s₀ L nums dats m o1 o2 o3 o4 o5 aB aS aR aP segB segS segR nB nS nR t u v s) (r : Rm A 30) (hF : Fo A [L]) {Q : Flow → Shared → Prop}
    (kk : ∀ ord m o5 aO nO us s, L6 h₀ s₀ L nums dats ord m o1 o2 o3 o4 o5 aB aS aR aO segB segS segR nB nS nR nO us s → W prog w A (execs ((stmtsOf (fdAt w.params 193)).drop 6) (lawEnv w.params L fa cd)) Q (fun _ _ => False) s) :
    W prog w A (execs ((stmtsOf (fdAt w.params 193)).drop 5) (lawEnv w.params L fa cd)) Q (fun _ _ => False) s := by
  have h := H.at_
  have hdl : dats.length ≤ 18 := by
    have h1 := H.perm.length_eq
    have h3 := bs_len (ns := nums)
    have h4 := H.len
    with_reducible exact ar14 ‹_› ‹_› ‹_› (by decide)
  let base := cs L o1 o2 o3 o4 o5 ++ ((aP, rangeOf (dats.length : Int) t u v) :: lsP aR segR nR :: lsP aB segB nB :: lsP aS segS nS :: (segR ++ (segB ++ segS)))
  have hmp : (aP, rangeOf (dats.length : Int) t u v) ∈ base := List.mem_append_right _ (.head _)
  refine xCons (xAsg (cFn G (f181 w) h (g181 w) (iCons (dCompK G (s₀ := s₀) (cl := [(Str.ofString "rows", L + 3), (Str.ofString "places", L + 4)]) (x := Str.ofString "k") (ldC h (.tail _ (.tail _ (.tail _ (.head _)))) H.c4 (itR h hmp (by with_reducible exact ar16 ‹_› (by decide)) fun it s h => ⟨_, _, h, fun c cc D s hD h => ⟨it2R h (.tail _ (.tail _ (.head _))), nd0 prog w h₀ s₀ c cc [(L, m)] base D it dats, dats.length, ?_, fun n s hI => ?_⟩⟩))))))
  · refine ⟨_, cell0, dictOf [] 0, [], Nat.le_refl _, by rw [Nat.sub_self]; exact h, ⟨none, rfl⟩, isDict_nil, ?_⟩
    rw [Nat.sub_self, List.take_zero]; trivial
  obtain ⟨mc, oc, oD, seg, hn, h, ⟨vc, hoc⟩, hoD, hseg⟩ := hI
  have hnl : (needs dats).length = dats.length := by simp [needs]
  have hsl := hseg.length
  rw [List.length_map, List.length_take, hnl] at hsl
  by_cases hn0 : n = 0
  · subst hn0
    rw [Nat.sub_zero, List.take_of_length_le (by omega)] at hseg
    have h := h.perm (led' := (it, rIt dats.length (dats.length - 0)) :: (cc, oc) :: (D, oD) :: (seg ++ base)) (rot3 (d := (it, rIt dats.length (dats.length - 0))) (a := (cc, oc)) (b := (D, oD)))
    refine nxRend h r.handled (by with_reducible exact ar6) fun s h => ⟨_, _, h, fun s h => iNil ⟨h.keep, ?_⟩⟩
    have hgd : ∀ k, k < dats.length → (needs dats).getD k [] = (List.range dats.length).filter fun j => wi (dats.getD j []) (dats.getD k []) := fun k hk => by
      rw [getD_in (by rw [hnl]; exact hk)]; simp [needs]
    have hgn : ∀ k, ¬ k < dats.length → (needs dats).getD k [] = [] := fun k hk => by
      rw [List.getD_eq_getElem?_getD, List.getElem?_eq_none_iff.mpr (by with_reducible exact ar18b ‹_› ‹_›)]; rfl
    have hN : Needs prog w oD (kvF seg) (needs dats) ((cc, oc) :: (D, oD) :: (seg ++ base)) := by
      refine ⟨hoD, by rw [kvF_len]; have := hseg.length; rw [List.length_map] at this; exact this, fun i ps hps => ?_⟩
      have e : ((needs dats).map natI)[i]? = some (natI ps) := by rw [List.getElem?_map, hps]; rfl
      obtain ⟨p, h1, vs, nv, h2, h3⟩ := hseg.get e
      refine ⟨p.1, vs, nv, ?_, ?_, h3⟩
      · unfold kvF; rw [List.getElem?_map, List.getElem?_zipIdx, h1]; simp
      · rw [← h2]; exact .tail _ (.tail _ (List.mem_append_left _ (List.mem_of_getElem? h1)))
    refine order_spec G h r hF (.tail _ (.head _)) hD hN (ρ := fun k => 1000 - ((dats.getD k []).headD 0).toNat) (by with_reducible exact ar8 ‹_› ‹_› (by decide)) (fun ps hps => ?_) (fun k jj hj => ?_) (fun k jj hj => ?_) fun aO us nO ord s h hus T => ?_
    · obtain ⟨k, _, rfl⟩ := List.mem_map.mp hps
      exact Nat.le_trans (List.length_filter_le _ _) (by rw [List.length_range]; with_reducible exact Nat.le_trans ‹_› (by decide))
    · by_cases hk : k < dats.length
      · rw [hgd k hk] at hj
        rw [hnl]; exact List.mem_range.mp (List.mem_filter.mp hj).1
      · rw [hgn k hk] at hj; cases hj
    · by_cases hk : k < dats.length
      · rw [hgd k hk] at hj
        obtain ⟨h1, h2⟩ := List.mem_filter.mp hj
        have hj' := List.mem_range.mp h1
        have fa : ∀ i, i < dats.length → 0 ≤ (dats.getD i []).headD 0 ∧ (dats.getD i []).headD 0 < 18 := fun i hi => by
          obtain ⟨q, hq, e⟩ := (mem_getD (dflt := [])).mp (H.perm.mem_iff.mp ((mem_getD (dflt := [])).mpr ⟨i, hi, rfl⟩))
          have c1 := hd_pB (drawn_ok nums) hq
          have c2 := (drawn_ok nums).lo q hq
          have c3 := H.len
          rw [e] at c1
          omega
        have b1 := fa k hk
        have b2 := fa jj hj'
        simp only [wi, Bool.and_eq_true, decide_eq_true_eq] at h2
        show 1000 - _ < 1000 - _
        with_reducible exact arF ‹_› ‹_› ‹_›
      · rw [hgn k hk] at hj; cases hj
    · have h := h.sub (led' := (aO, listOf (List.toArray us) nO) :: (cs L o1 o2 o3 o4 o5 ++ (lsP aR segR nR :: lsP aB segB nB :: lsP aS segS nS :: (segR ++ (segB ++ segS))))) (List.Sublist.cons_cons _ (((((List.Sublist.refl (cs L o1 o2 o3 o4 o5)).append ((List.Sublist.refl _).cons _)).trans (List.sublist_append_right seg base)).cons _).cons _))
      have h := h.perm (led' := cs L o1 o2 o3 o4 o5 ++ ((aO, listOf (List.toArray us) nO) :: lsP aR segR nR :: lsP aB segB nB :: lsP aS segS nS :: (segR ++ (segB ++ segS)))) List.perm_middle
      refine stC h (fun o' => .tail (.tail (.tail (.tail .head)))) H.c5 fun o5' s hc5 h => ?_
      exact kk ord _ o5' aO nO us _ ⟨h, H.b, H.st, H.rw, H.c2, H.c3, hc5, hus, T, H.m1, H.len, H.perm⟩
  · have h := h.perm (led' := (it, rIt dats.length (dats.length - n)) :: (cc, oc) :: (D, oD) :: (seg ++ base)) (rot3 (d := (it, rIt dats.length (dats.length - n))) (a := (cc, oc)) (b := (D, oD)))
    refine nxR h (by with_reducible exact ar5 ‹_› ‹_›) fun tk s h => aName (stC h (fun o' => .tail .head) hoc fun oc' s hoc h => ldC h (.tail _ (.head _)) hoc ?_)
    have hmb : ∀ p ∈ base, p ∈ (it, rIt dats.length (dats.length - n + 1)) :: (cc, oc') :: (D, oD) :: (seg ++ base) := fun p hp => .tail _ (.tail _ (.tail _ (List.mem_append_right _ hp)))
    refine lComp (h₀ := h₀) (s₀ := s₀) (cl := [(Str.ofString "rows", L + 3), (Str.ofString "k", cc)]) (ldC h (hmb _ (.tail _ (.tail _ (.tail _ (.head _))))) H.c4 (itR h (hmb _ hmp) (by with_reducible exact ar16 ‹_› (by decide)) fun it1 s h => ⟨_, _, h, fun c1 D1 s h => ⟨it2R h (.tail _ (.head _)), nd1 h₀ s₀ c1 ((c, mc) :: [(L, m)]) ((it, rIt dats.length (dats.length - n + 1)) :: (cc, oc') :: (D, oD) :: (seg ++ base)) D1 it1 dats (dats.length - n), dats.length, ?_, fun n1 s hI => ?_⟩⟩))
    · refine ⟨_, [], 0, Nat.le_refl _, by rw [Nat.sub_self]; exact h, ?_⟩
      rw [Nat.sub_self]; exact .nil
    obtain ⟨mc1, us, nD, hn1, h, hus⟩ := hI
    by_cases hn10 : n1 = 0
    · subst hn10
      rw [Nat.sub_zero] at hus
      refine nxRend (h.perm (List.Perm.swap _ _ _)) r.handled (by with_reducible exact ar6) fun s h => ⟨_, _, h, fun s h => ?_⟩
      refine dPut h (fun o' => .tail (.tail (.tail .head))) hoD (by rw [kvF_len]; with_reducible exact ar10 ‹_› ‹_› (by decide)) fun oD' s hoD h => ?_
      have e1 : (dats.length - n : Nat) = seg.length := by with_reducible exact arG ‹_›
      have e2 : stored (kvF seg) ((dats.length - n : Nat) : Int) (.ref D1) = kvF (seg ++ [(D1, listOf (List.toArray us) nD)]) := by rw [e1]; exact kvF_stored seg (D1, listOf (List.toArray us) nD)
      rw [e2] at hoD
      have h := h.perm (led' := (cc, oc') :: (D, oD') :: (it, rIt dats.length (dats.length - n + 1)) :: ((seg ++ [(D1, listOf (List.toArray us) nD)]) ++ base)) perm6
      rw [show dats.length - n + 1 = dats.length - (n - 1) by with_reducible exact ar2 ‹_› ‹_›] at h
      refine ⟨n - 1, by with_reducible exact ar3 ‹_›, _, oc', oD', _, by with_reducible exact ar4 ‹_›, h, ⟨_, hoc⟩, hoD, ?_⟩
      rw [show dats.length - (n - 1) = dats.length - n + 1 by with_reducible exact ar1 ‹_› ‹_›, List.take_add_one, List.map_append]
      have hg : (needs dats)[dats.length - n]? = some ((List.range dats.length).filter fun j => wi (dats.getD j []) (dats.getD (dats.length - n) [])) := by
        unfold needs
        rw [List.getElem?_map, List.getElem?_range (by with_reducible exact ar5 ‹_› ‹_›)]; rfl
      rw [hg]
      exact hseg.append ⟨⟨us, nD, rfl, hus⟩, trivial⟩
    · have hj1 : dats.length - n1 < dats.length := by with_reducible exact ar5 ‹_› ‹_›
      have hk1 : dats.length - n < dats.length := by with_reducible exact ar5 ‹_› ‹_›
      obtain ⟨aj, vj, nj, g1, g2, g3⟩ := seg_item H.rw hj1
      obtain ⟨ak, vk, nk, f1, f2, f3⟩ := seg_item H.rw hk1
      have four : ∀ i, i < dats.length → ∃ a b x, dats.getD i [] = a :: b :: x := fun i hi => by
        have hm : dats.getD i [] ∈ (drawn nums).bs := H.perm.mem_iff.mp ((mem_getD (dflt := [])).mpr ⟨i, hi, rfl⟩)
        obtain ⟨q, hq, e⟩ := (mem_getD (dflt := [])).mp hm
        obtain ⟨_, _, e2, _⟩ := (drawn_ok nums).form q hq
        exact ⟨_, _, _, e.symm.trans e2⟩
      obtain ⟨pa, pb, px, ej⟩ := four _ hj1
      obtain ⟨pc, pd, py, ek⟩ := four _ hk1
      refine nxR (h.perm (List.Perm.swap _ _ _)) hj1 fun tj s h => aName (stL h fun s h => tst1 (tVal ?_))
      have hmb1 : ∀ p ∈ base, p ∈ (it1, rIt dats.length (dats.length - n1 + 1)) :: (D1, listOf (List.toArray us) nD) :: (it, rIt dats.length (dats.length - n + 1)) :: (cc, oc') :: (D, oD) :: (seg ++ base) := fun p hp => .tail _ (.tail _ (hmb p hp))
      have hmr := hmb1 _ (List.mem_append_right (cs L o1 o2 o3 o4 o5) (.tail _ (.head _)))
      have hms : ∀ p ∈ segR, p ∈ base := fun p hp => List.mem_append_right _ (.tail _ (.tail _ (.tail _ (.tail _ (List.mem_append_left _ hp)))))
      refine cFn G (f188 w) h (g188 w) (iCons (eSub (ldC h (hmb1 _ (.tail _ (.tail _ (.head _)))) H.c3 (ldL h rfl (lTail h hmr (by with_reducible exact ar12) (by omega) (by rw [Int.toNat_natCast]; exact g1) (iCons (eSub (ldC h (hmb1 _ (.tail _ (.tail _ (.head _)))) H.c3 (ldC h (.tail _ (.tail _ (.tail _ (.head _)))) hoc (lTail h hmr (by with_reducible exact ar12) (by omega) (by rw [Int.toNat_natCast]; exact f1) (iNil ⟨h.keep, ?_⟩)))))))))))
      refine within_spec G h r (hmb1 _ (hms _ g2)) (hmb1 _ (hms _ f2)) (by rw [← ej]; exact g3) (by rw [← ek]; exact f3) fun s h => tBool ?_
      have hwi : wi (dats.getD (dats.length - n1) []) (dats.getD (dats.length - n) []) = (decide (pc < pa) && decide (pa + pb ≤ pc + pd)) := by rw [ej, ek]; rfl
      rw [← hwi]
      have hul := hus.length
      have hfl : (natI ((List.range (dats.length - n1)).filter fun j => wi (dats.getD j []) (dats.getD (dats.length - n) []))).length ≤ dats.length := by
        simp only [natI, List.length_map]
        exact Nat.le_trans (List.length_filter_le _ _) (by rw [List.length_range]; omega)
      cases hw : wi (dats.getD (dats.length - n1) []) (dats.getD (dats.length - n) []) with
      | true =>
        first | refine iteT rfl ?_ | rw [if_pos rfl]
        refine ldL h rfl (fAppend h (.tail .head) (by rw [sizeLine_eq]; with_reducible exact ar14 ‹_› ‹_› ‹_› (by decide)) fun s h => ?_)
        have h := h.perm (List.Perm.swap _ _ _)
        rw [show dats.length - n1 + 1 = dats.length - (n1 - 1) by with_reducible exact ar2 ‹_› ‹_›] at h
        refine ⟨n1 - 1, by with_reducible exact ar3 ‹_›, _, _, _, by with_reducible exact ar4 ‹_›, h, ?_⟩
        rw [show dats.length - (n1 - 1) = dats.length - n1 + 1 by with_reducible exact ar1 ‹_› ‹_›, List.range_succ, List.filter_append, natI_app]
        refine hus.append ?_
        have ef : List.filter (fun j => wi (dats.getD j []) (dats.getD (dats.length - n) [])) [dats.length - n1] = [dats.length - n1] := List.filter_eq_self.mpr fun x hx => by rw [List.mem_singleton.mp hx]; exact hw
        rw [ef]
        exact .cons _ _ .nil
      | false =>
        first | refine ifF rfl ?_ | rw [if_neg (by decide)]
        have h := h.perm (List.Perm.swap _ _ _)
        rw [show dats.length - n1 + 1 = dats.length - (n1 - 1) by with_reducible exact ar2 ‹_› ‹_›] at h
        refine ⟨n1 - 1, by with_reducible exact ar3 ‹_›, _, us, nD, by with_reducible exact ar4 ‹_›, h, ?_⟩
        rw [show dats.length - (n1 - 1) = dats.length - n1 + 1 by with_reducible exact ar1 ‹_› ‹_›, List.range_succ, List.filter_append, List.filter_cons_of_neg (by rw [hw]; decide)]
        simpa using hus
end
end Mine
end

/-! part Law7 -/
section
open PySem PySem.W PyProof.Rows PySem.Calls
set_option maxRecDepth 100000
set_option linter.unusedVariables false
namespace Mine
theorem perm7 {d1 it cc D : Addr × Obj} {s1 s0 base : List (Addr × Obj)} : (cc :: D :: it :: ((d1 :: (s1 ++ s0)) ++ base)).Perm (d1 :: (s1 ++ (it :: cc :: D :: (s0 ++ base)))) := by
  rw [List.cons_append, List.append_assoc]
  exact rot3.symm.trans ((List.perm_middle (l₁ := [it, cc, D])).trans ((List.perm_append_comm_assoc [it, cc, D] s1 (s0 ++ base)).cons d1))
theorem perm7a {it D x : Addr × Obj} {s base : List (Addr × Obj)} : (D :: it :: ((s ++ [x]) ++ base)).Perm (x :: it :: D :: (s ++ base)) := by
  rw [List.append_assoc]
  exact (((List.perm_middle (a := x) (l₁ := s) (l₂ := base)).cons it).cons D).trans ((List.Perm.swap _ _ _).trans (List.perm_middle (l₁ := [it, D])))
theorem pick2 {a b c d : Value} : slicePick [a, b, c, d].toArray (some 2) none none = [c, d].toArray := by
  rw [kms_pick_eq]; rfl
theorem ints_un {vs : List Value} {n : Int} {ns : List Int} (h : IntsAre vs (n :: ns)) : ∃ t vs', vs = .int n t :: vs' ∧ IntsAre vs' ns := by
  cases h with
  | cons _ t h => exact ⟨t, _, rfl, h⟩
theorem ints4 {vs : List Value} {pa pb pc pd : Int} (h : IntsAre vs [pa, pb, pc, pd]) : ∃ ta tb tc td, vs = [.int pa ta, .int pb tb, .int pc tc, .int pd td] := by
  obtain ⟨ta, v1, e1, h⟩ := ints_un h
  obtain ⟨tb, v2, e2, h⟩ := ints_un h
  obtain ⟨tc, v3, e3, h⟩ := ints_un h
  obtain ⟨td, v4, e4, h⟩ := ints_un h
  have e5 : v4 = [] := List.length_eq_zero_iff.mp h.length
  exact ⟨ta, tb, tc, td, by rw [e1, e2, e3, e4, e5]⟩
theorem seg4 {seg : List (Addr × Obj)} {ds : List (List Int)} (h : Rows seg ds) {i : Nat} (hi : i < ds.length) {pa pb pc pd : Int} (e : ds.getD i [] = [pa, pb, pc, pd]) :
    ∃ a ta tb tc td n, (refs (seg.map (·.1)))[i]? = some (.ref a) ∧ (a, listOf (List.toArray [.int pa ta, .int pb tb, .int pc tc, .int pd td]) n) ∈ seg := by
  obtain ⟨a, vs, n, h1, h2, h3⟩ := seg_item h hi
  rw [e] at h3
  obtain ⟨ta, tb, tc, td, e2⟩ := ints4 h3
  exact ⟨a, ta, tb, tc, td, n, h1, e2 ▸ h2⟩
/-- what a place meets along the order -/
noncomputable def meet (dats : List (List Int)) (p : Nat) (l : List Nat) : List Dat := (l.filter fun k => co (dats.getD k []) p).map fun k => dI ((dats.getD k []).drop 2)
theorem meet_snoc (dats : List (List Int)) (p : Nat) (l : List Nat) (k : Nat) : meet dats p (l ++ [k]) = meet dats p l ++ (if co (dats.getD k []) p = true then [dI ((dats.getD k []).drop 2)] else []) := by
  unfold meet
  rw [List.filter_append, List.map_append]
  congr 1
  by_cases h : co (dats.getD k []) p = true
  · rw [if_pos h, List.filter_cons_of_pos (p := fun k => co (dats.getD k []) p) h]; rfl
  · rw [if_neg h, List.filter_cons_of_neg (p := fun k => co (dats.getD k []) p) h]; rfl
/-- the outer loop of line 7 -/
inductive mt0 (h₀ : Heap) (s₀ : Shared) (c cc : Addr) (frs : List (Addr × Mp)) (base : List (Addr × Obj)) (D it : Addr) (dats : List (List Int)) (ord : List Nat) (N : Nat) (n : Nat) (s : Shared) : Prop
  | mk (m : _) (oc : _) (us : _) (nD : _) (seg : _) (q1 : n ≤ N) (q2 : At h₀ s₀ ((c, m) :: frs) ((cc, oc) :: (D, listOf (List.toArray us) nD) :: (it, rIt N (N - n)) :: (seg ++ base)) s) (q3 : (∃ v, oc.data = .cell v)) (q4 : DatAll seg us ((List.range (N - n)).map fun p => .list (meet dats p ord)))
/-- the inner loop of line 7 -/
inductive mt1 (h₀ : Heap) (s₀ : Shared) (c : Addr) (frs : List (Addr × Mp)) (base : List (Addr × Obj)) (D it aO : Addr) (dats : List (List Int)) (ord : List Nat) (p : Nat) (n : Nat) (s : Shared) : Prop
  | mk (m : _) (o : _) (us : _) (nD : _) (seg : _) (q1 : n ≤ ord.length) (q2 : At h₀ s₀ ((c, m) :: frs) ((D, listOf (List.toArray us) nD) :: (it, o) :: (seg ++ base)) s) (q3 : LIt aO (ord.length - n) o) (q4 : DatAll seg us (meet dats p (ord.take (ord.length - n))))
section
variable {prog : Program} {w : World} {A : Around} {E : Value → Shared → Prop} {s : Shared} {h₀ : Heap} {s₀ : Shared} {frs : List (Addr × Mp)} {led led' : List (Addr × Obj)} {env : Env} {L : Addr} {m : Mp}
/-- where line 7 ends -/
structure L7 (h₀ : Heap) (s₀ : Shared) (L : Addr) (nums : List Int) (dats : List (List Int)) (ord : List Nat) (m : Mp) (o1 o2 o3 o4 o5 : Obj) (aB aS aM : Addr) (segB segS segM : List (Addr × Obj)) (nB nS nM : Nat) (us : List Value) (s : Shared) : Prop where
  at_ : At h₀ s₀ [(L, m)] (cs L o1 o2 o3 o4 o5 ++ ((aM, listOf us.toArray nM) :: lsP aB segB nB :: lsP aS segS nS :: (segM ++ (segB ++ segS)))) s
  b : Rows segB (drawn nums).bs
  st : Rows segS ((drawn nums).st.map natI)
  c2 : o2.data = .cell (some (.ref aB))
  met : DatAll segM us ((List.range (drawn nums).st.length).map fun p => .list (meet dats p ord))
  topo : TopoOrd (needs dats) ord
  m1 : m (Str.ofString "stacks") = some (.ref aS)
  m2 : m (Str.ofString "met") = some (.ref aM)
  len : nums.length ≤ 18
  perm : dats.Perm (drawn nums).bs
theorem law_7 (G : Gr w h₀) {fa : Addr} {cd : Value} {nums : List Int} {dats : List (List Int)} {ord : List Nat} {o1 o2 o3 o4 o5 : Obj} {aB aS aR aO : Addr} {segB segS segR : List (Addr × Obj)} {nB nS nR nO : Nat} {us : List Value} (H : L6 h₀ s₀ L nums dats ord m o1 o2 o3 o4 o5 aB aS aR aO segB segS segR nB nS nR nO us s) (r : Rm A 30) {Q : Flow → Shared → Prop}
    (kk : ∀ m aM nM segM us s, L7 h₀ s₀ L nums dats ord m o1 o2 o3 o4 o5 aB aS aM segB segS segM nB nS nM us s → W prog w A (execs ((stmtsOf (fdAt w.params 193)).drop 7) (lawEnv w.params L fa cd)) Q (fun _ _ => False) s) :
    W prog w A (execs ((stmtsOf (fdAt w.params 193)).drop 6) (lawEnv w.params L fa cd)) Q (fun _ _ => False) s := by
  have h := H.at_
  have hDI := drawn_ok nums
  have hdl : dats.length ≤ 18 := by
    have h1 := H.perm.length_eq
    have h3 := bs_len (ns := nums)
    have h4 := H.len
    with_reducible exact ar14 ‹_› ‹_› ‹_› (by decide)
  have hnl : (needs dats).length = dats.length := by simp [needs]
  have hol : ord.length ≤ 18 := by
    have := nodup_lt dats.length ord H.topo.nd fun k hk => by rw [← hnl]; exact (H.topo.mem k).mp hk
    with_reducible exact ar15 ‹_› ‹_› (by decide)
  have hstl : segS.length = (drawn nums).st.length := by have := H.st.length; simpa using this
  have hsl : (drawn nums).st.length ≤ 18 := by rw [hDI.stl]; exact H.len
  let base := cs L o1 o2 o3 o4 o5 ++ ((aO, listOf us.toArray nO) :: lsP aR segR nR :: lsP aB segB nB :: lsP aS segS nS :: (segR ++ (segB ++ segS)))
  have hmS : lsP aS segS nS ∈ base := List.mem_append_right _ (.tail _ (.tail _ (.tail _ (.head _))))
  refine xCons (xCompK (h₀ := h₀) (s₀ := s₀) (L := L) (cl := [(Str.ofString "rows", L + 3), (Str.ofString "order", L + 5)]) (x := Str.ofString "place") (cT G h (g_range w) b_range (iCons (cB G h (g_len w) b_len (iCons (ldL h H.m1 (iNil ?_)))))))
  refine fLen h hmS (by rw [refs_len]; with_reducible exact ar8 ‹_› ‹_› (by decide)) fun _ s h => iNil (fRange h fun aP t u v s h => ?_)
  have e : (refs (segS.map (·.1))).length = (drawn nums).st.length := by rw [refs_len, hstl]
  rw [e] at h
  generalize hN : (drawn nums).st.length = N at h hsl
  let base' := (aP, rangeOf (N : Int) t u v) :: base
  refine itR h (.head _) (by with_reducible exact ar16 ‹_› (by decide)) fun it s h => ⟨_, _, _, h, fun c cc D s h => ⟨it2R h (.tail _ (.tail _ (.head _))), mt0 h₀ s₀ c cc [(L, m)] base' D it dats ord N, N, ?_, fun n s hI => ?_⟩⟩
  · exact ⟨_, cell0, [], 0, [], Nat.le_refl _, by rw [Nat.sub_self]; exact h, ⟨none, rfl⟩, by rw [Nat.sub_self]; exact .nil⟩
  obtain ⟨mc, oc, us0, nD, seg, hn, h, ⟨vc, hoc⟩, hseg⟩ := hI
  have hu0 := hseg.length
  rw [List.length_map, List.length_range] at hu0
  have h := h.perm (led' := (it, rIt N (N - n)) :: (cc, oc) :: (D, listOf (List.toArray us0) nD) :: (seg ++ base')) rot3
  by_cases hn0 : n = 0
  · subst hn0
    rw [Nat.sub_zero] at hseg
    refine nxRend h r.handled (by with_reducible exact ar6) fun s h => ⟨_, _, h, fun s h => ?_⟩
    show W _ _ _ (execs _ _) _ _ _
    have h := h.sub (led' := (D, listOf (List.toArray us0) nD) :: (seg ++ (cs L o1 o2 o3 o4 o5 ++ ([lsP aB segB nB, lsP aS segS nS] ++ (segB ++ segS))))) (((List.Sublist.refl seg).append (((List.Sublist.refl (cs L o1 o2 o3 o4 o5)).append ((((List.sublist_append_right segR (segB ++ segS)).cons_cons _ |>.cons_cons _).cons _).cons _)).cons _)).cons_cons _ |>.cons _)
    have h := h.perm permL
    exact kk _ D nD seg us0 _ ⟨h, H.b, H.st, H.c2, by rw [hN]; exact hseg, H.topo, H.m1, rfl, H.len, H.perm⟩
  · refine nxR h (by with_reducible exact ar5 ‹_› ‹_›) fun tk s h => aName (stC h (fun o' => .tail .head) hoc fun oc' s hoc h => tst0 ?_)
    first | refine iteT rfl ?_ | rw [if_pos rfl]
    let base1 := (it, rIt N (N - n + 1)) :: (cc, oc') :: (D, listOf (List.toArray us0) nD) :: (seg ++ base')
    have hmb : ∀ p ∈ base, p ∈ base1 := fun p hp => .tail _ (.tail _ (.tail _ (List.mem_append_right _ (.tail _ hp))))
    have hmO : (aO, listOf us.toArray nO) ∈ base1 := hmb _ (List.mem_append_right _ (.head _))
    have hmR : lsP aR segR nR ∈ base1 := hmb _ (List.mem_append_right _ (.tail _ (.head _)))
    have hmX : ∀ p ∈ segR, p ∈ base1 := fun p hp => hmb _ (List.mem_append_right _ (.tail _ (.tail _ (.tail _ (.tail _ (List.mem_append_left _ hp))))))
    have hul := H.hord.length
    simp only [natI, List.length_map] at hul
    refine lComp (h₀ := h₀) (s₀ := s₀) (cl := [(Str.ofString "rows", L + 3), (Str.ofString "place", cc)]) (ldC h (hmb _ (.tail _ (.tail _ (.tail _ (.tail _ (.head _)))))) H.c5 (itL h hmO fun it1 oi s hi1 h => ⟨_, _, h, fun c1 D1 s h => ⟨it2L h (.tail _ (.head _)) hi1, mt1 h₀ s₀ c1 ((c, mc) :: [(L, m)]) base1 D1 it1 aO dats ord (N - n), ord.length, ?_, fun n1 s hI => ?_⟩⟩))
    · exact ⟨_, oi, [], 0, [], Nat.le_refl _, h, by rw [Nat.sub_self]; exact hi1, by rw [Nat.sub_self]; exact .nil⟩
    obtain ⟨mc1, oi, us1, nD1, seg1, hn1, h, hi1, hseg1⟩ := hI
    have h := h.perm (List.Perm.swap (D1, listOf (List.toArray us1) nD1) (it1, oi) _)
    have hm1 : ∀ p ∈ base1, p ∈ (D1, listOf (List.toArray us1) nD1) :: (seg1 ++ base1) := fun p hp => .tail _ (List.mem_append_right _ hp)
    by_cases hn10 : n1 = 0
    · subst hn10
      rw [Nat.sub_zero, List.take_length] at hseg1
      refine nxLend h r.handled hi1 (hm1 _ hmO) (by rw [List.getElem?_eq_none_iff]; with_reducible exact ar6b ‹_›) fun s h => ⟨_, _, h, fun s h => ?_⟩
      refine fAppend h (.tail (Rep.right seg1 (.tail (.tail .head)))) (by rw [sizeLine_eq]; with_reducible exact ar10b ‹_› ‹_› (by decide)) fun s h => ?_
      have h := h.perm (led' := (cc, oc') :: (D, listOf (us0 ++ [Value.ref D1]).toArray (nD + 1)) :: (it, rIt N (N - n + 1)) :: (((D1, listOf (List.toArray us1) nD1) :: (seg1 ++ seg)) ++ base')) perm7
      rw [show N - n + 1 = N - (n - 1) by with_reducible exact ar2 ‹_› ‹_›] at h
      refine ⟨n - 1, by with_reducible exact ar3 ‹_›, mc, oc', _, _, _, by with_reducible exact ar4 ‹_›, h, ⟨_, hoc⟩, ?_⟩
      rw [show N - (n - 1) = N - n + 1 by with_reducible exact ar1 ‹_› ‹_›, List.range_succ, List.map_append]
      exact (hseg.mono fun p hp => .tail _ (List.mem_append_right _ hp)).append (.one (.list (.head _) (hseg1.mono fun p hp => .tail _ (List.mem_append_left _ hp))))
    · have hlt1 : ord.length - n1 < ord.length := by with_reducible exact ar5 ‹_› ‹_›
      have hka := List.getElem?_eq_getElem hlt1
      have hkm : ord[ord.length - n1] ∈ ord := List.getElem_mem hlt1
      have htk : ord.take (ord.length - n1 + 1) = ord.take (ord.length - n1) ++ [ord[ord.length - n1]] := List.take_succ_eq_append_getElem hlt1
      generalize ord[ord.length - n1] = k at hka hkm htk
      have hkl : k < dats.length := by rw [← hnl]; exact (H.topo.mem k).mp hkm
      obtain ⟨pa, pb, pc, pd, ek⟩ : ∃ pa pb pc pd, dats.getD k [] = [pa, pb, pc, pd] := by
        obtain ⟨q, hq, e⟩ := (mem_getD (dflt := [])).mp (H.perm.mem_iff.mp ((mem_getD (dflt := [])).mpr ⟨k, hkl, rfl⟩))
        obtain ⟨_, _, e2, _⟩ := hDI.form q hq
        exact ⟨_, _, _, _, e.symm.trans e2⟩
      obtain ⟨ak, ta, tb, tc, td, nk, g1, g2⟩ := seg4 H.rw hkl ek
      obtain ⟨tk1, hvk⟩ := natI_get H.hord hka
      have hcap : us1.length ≤ sizeLine := by
        have b1 := hseg1.length
        unfold meet at b1
        rw [List.length_map] at b1
        have b2 := List.length_filter_le (fun k => co (dats.getD k []) ((N - n : Nat) : Int)) (ord.take (ord.length - n1))
        rw [List.length_take] at b2
        rw [sizeLine_eq]; with_reducible exact arJ ‹_› ‹_› ‹_› (by decide)
      have hlo : (k : Int) < 2 ^ 63 := by omega
      have hts : meet dats (N - n) (ord.take (ord.length - (n1 - 1))) = meet dats (N - n) (ord.take (ord.length - n1)) ++ (if co (dats.getD k []) (N - n : Nat) = true then [dI ((dats.getD k []).drop 2)] else []) := by
        rw [show ord.length - (n1 - 1) = ord.length - n1 + 1 by with_reducible exact ar1 ‹_› ‹_›, htk, meet_snoc]
      have hco : co (dats.getD k []) (N - n : Nat) = (decide (pa ≤ (N - n : Nat)) && decide (((N - n : Nat) : Int) < pa + pb)) := by rw [ek]; rfl
      refine nxL h hi1 (hm1 _ hmO) hvk fun oi' s hi1 h => aName (stL h fun s h => tst1 (tChain ?_))
      have hm2 : ∀ p ∈ base1, p ∈ (it1, oi') :: (D1, listOf (List.toArray us1) nD1) :: (seg1 ++ base1) := fun p hp => .tail _ (hm1 p hp)
      have hc3 : (L + 3, o3) ∈ (it1, oi') :: (D1, listOf (List.toArray us1) nD1) :: (seg1 ++ base1) := hm2 _ (hmb _ (.tail _ (.tail _ (.head _))))
      have hcc : (cc, oc') ∈ (it1, oi') :: (D1, listOf (List.toArray us1) nD1) :: (seg1 ++ base1) := hm2 _ (.tail _ (.head _))
      have hr2 := hm2 _ hmR
      have hk2 := hm2 _ (hmX _ g2)
      rw [show ord.length - n1 + 1 = ord.length - (n1 - 1) by with_reducible exact ar2 ‹_› ‹_›] at hi1
      refine eSub (eSub (ldC h hc3 H.c3 (ldL h rfl (lTail h hr2 (by with_reducible exact ar12) hlo (by rw [Int.toNat_natCast]; exact g1) (cI h fun _ s h => lTail h hk2 (by decide) (by decide) rfl (ldC h hcc hoc (kLe (tBool ?_))))))))
      by_cases hle : pa ≤ ((N - n : Nat) : Int)
      · rw [decide_eq_true hle] at hco ⊢
        first | refine iteT rfl ?_ | rw [if_pos rfl]
        refine eBin (eSub (eSub (ldC h hc3 H.c3 (ldL h rfl (lTail h hr2 (by with_reducible exact ar12) hlo (by rw [Int.toNat_natCast]; exact g1) (cI h fun _ s h => lTail h hk2 (by decide) (by decide) rfl (eSub (eSub (ldC h hc3 H.c3 (ldL h rfl (lTail h hr2 (by with_reducible exact ar12) hlo (by rw [Int.toNat_natCast]; exact g1) (cI h fun _ s h => lTail h hk2 (by decide) (by decide) rfl (iAdd h fun _ s h => kLt (tBool ?_))))))))))))))
        by_cases hlt : ((N - n : Nat) : Int) < pa + pb
        · rw [decide_eq_true hlt] at hco ⊢
          first | refine iteT rfl ?_ | rw [if_pos rfl]
          refine eSub (eSub (ldC h hc3 H.c3 (ldL h rfl (lTail h hr2 (by with_reducible exact ar12) hlo (by rw [Int.toNat_natCast]; exact g1) (slc (pSome (cI h fun _ s h => pNone (pNone ⟨_, _, _, _, _, _, _, _, _, h, hk2, Nat.le_of_ble_eq_true rfl, .int _ _, .none, .none, by simp, fun d s h => ?_⟩))))))))
          rw [pick2] at h
          refine fAppend h (.tail (.tail .head)) hcap fun s h => ?_
          have h := h.perm (led' := (D1, listOf (us1 ++ [Value.ref d]).toArray (nD1 + 1)) :: (it1, oi') :: ((seg1 ++ [(d, listOf [Value.int pc tc, Value.int pd td].toArray 0)]) ++ base1)) perm7a
          refine ⟨n1 - 1, by with_reducible exact ar3 ‹_›, _, oi', _, _, _, by with_reducible exact ar4 ‹_›, h, hi1, ?_⟩
          rw [hts, if_pos (by rw [hco]; rfl), ek]
          exact (hseg1.mono fun p hp => List.mem_append_left _ hp).append (.one (.list (List.mem_append_right _ (.head _)) (.cons (.int _ _) (.cons (.int _ _) .nil))))
        · rw [decide_eq_false hlt] at hco ⊢
          first | refine ifF rfl ?_ | rw [if_neg (by decide)]
          refine ⟨n1 - 1, by with_reducible exact ar3 ‹_›, _, oi', us1, nD1, seg1, by with_reducible exact ar4 ‹_›, h.perm (List.Perm.swap _ _ _), hi1, ?_⟩
          rw [hts, if_neg (by rw [hco]; decide), List.append_nil]
          exact hseg1
      · rw [decide_eq_false hle] at hco ⊢
        first | refine ifF rfl ?_ | rw [if_neg (by decide)]
        show (if (false : Bool) = true then _ else _)
        first | refine ifF rfl ?_ | rw [if_neg (by decide)]
        refine ⟨n1 - 1, by with_reducible exact ar3 ‹_›, _, oi', us1, nD1, seg1, by with_reducible exact ar4 ‹_›, h.perm (List.Perm.swap _ _ _), hi1, ?_⟩
        rw [hts, if_neg (by rw [hco, Bool.false_and]; decide), List.append_nil]
        exact hseg1
end
end Mine
end

/-! part Law8 -/
section
open PySem PySem.W PyProof.Rows PySem.Calls
set_option maxRecDepth 100000
set_option linter.unusedVariables false
namespace Mine
theorem perm8 {d1 it D : Addr × Obj} {s1 s0 base : List (Addr × Obj)} : (D :: it :: ((d1 :: (s1 ++ s0)) ++ base)).Perm (d1 :: (s1 ++ (it :: D :: (s0 ++ base)))) := by
  rw [List.cons_append, List.append_assoc]
  exact (List.Perm.swap _ _ _).trans ((List.perm_middle (l₁ := [it, D])).trans ((List.perm_append_comm_assoc [it, D] s1 (s0 ++ base)).cons d1))
/-- what a stack names -/
noncomputable def named (bs : List (List Int)) (T : List Nat) : List Dat := T.map fun i => dI ((bs.getD i []).drop 2)
theorem ok_dL {α : Type} (f : α → List Int) (l : List α) (n : Nat) : kqdOk (n + 2) (.list (l.map fun x => dI (f x))) = true := by
  unfold kqdOk
  rw [List.all_eq_true]
  intro x hx
  obtain ⟨i, _, rfl⟩ := List.mem_map.mp hx
  exact ok_dI _ n
/-- the loops of line 8 -/
inductive ft0 (h₀ : Heap) (s₀ : Shared) (c : Addr) (frs : List (Addr × Mp)) (base : List (Addr × Obj)) (D it aS : Addr) (bs : List (List Int)) (S : List (List Nat)) (n : Nat) (s : Shared) : Prop
  | mk (m : _) (o : _) (us : _) (nD : _) (seg : _) (q1 : n ≤ S.length) (q2 : At h₀ s₀ ((c, m) :: frs) ((D, listOf (List.toArray us) nD) :: (it, o) :: (seg ++ base)) s) (q3 : LIt aS (S.length - n) o) (q4 : DatAll seg us ((S.take (S.length - n)).map fun T => .list (named bs T)))
inductive ft1 (h₀ : Heap) (s₀ : Shared) (c : Addr) (frs : List (Addr × Mp)) (base : List (Addr × Obj)) (D it aT : Addr) (bs : List (List Int)) (T : List Nat) (n : Nat) (s : Shared) : Prop
  | mk (m : _) (o : _) (us : _) (nD : _) (seg : _) (q1 : n ≤ T.length) (q2 : At h₀ s₀ ((c, m) :: frs) ((D, listOf (List.toArray us) nD) :: (it, o) :: (seg ++ base)) s) (q3 : LIt aT (T.length - n) o) (q4 : DatAll seg us (named bs (T.take (T.length - n))))
theorem met_eq {nums : List Int} {dats : List (List Int)} {ord : List Nat} (hp : dats.Perm (drawn nums).bs) (T : TopoOrd (needs dats) ord) :
    ((List.range (drawn nums).st.length).map fun p => Dat.list (meet dats p ord)) = (drawn nums).st.map fun T => .list (named (drawn nums).bs T) := by
  refine List.ext_getElem (by simp) fun p h1 h2 => ?_
  have hp' : p < (drawn nums).st.length := by simpa using h1
  have hS := List.getElem?_eq_getElem hp'
  rw [List.getElem_map, List.getElem_map, List.getElem_range]
  have := plain hp T hS
  have := congrArg (List.map dI) this
  rw [List.map_map, List.map_map] at this
  unfold meet named
  exact congrArg Dat.list this
section
variable {prog : Program} {w : World} {A : Around} {E : Value → Shared → Prop} {s : Shared} {h₀ : Heap} {s₀ : Shared} {frs : List (Addr × Mp)} {led led' : List (Addr × Obj)} {env : Env} {L : Addr} {m : Mp}
theorem law_8 (G : Gr w h₀) {fa : Addr} {cd : Value} {nums : List Int} {dats : List (List Int)} {ord : List Nat} {o1 o2 o3 o4 o5 : Obj} {aB aS aM : Addr} {segB segS segM : List (Addr × Obj)} {nB nS nM : Nat} {us : List Value} (H : L7 h₀ s₀ L nums dats ord m o1 o2 o3 o4 o5 aB aS aM segB segS segM nB nS nM us s) (r : Rm A 30) {Q : Flow → Shared → Prop}
    (kk : ∀ m led s, At h₀ s₀ [(L, m)] led s → Q (.ret (.bool true)) s) :
    W prog w A (execs ((stmtsOf (fdAt w.params 193)).drop 7) (lawEnv w.params L fa cd)) Q (fun _ _ => False) s := by
  have h := H.at_
  have hDI := drawn_ok nums
  have hbl : (drawn nums).bs.length ≤ 18 := by
    have h3 := bs_len (ns := nums)
    have h4 := H.len
    with_reducible exact ar15 ‹_› ‹_› (by decide)
  have hstl : segS.length = (drawn nums).st.length := by have := H.st.length; simpa using this
  have hsl : (drawn nums).st.length ≤ 18 := by rw [hDI.stl]; exact H.len
  have heq := met_eq H.perm H.topo
  let base := cs L o1 o2 o3 o4 o5 ++ ((aM, listOf us.toArray nM) :: lsP aB segB nB :: lsP aS segS nS :: (segM ++ (segB ++ segS)))
  have hmM : (aM, listOf us.toArray nM) ∈ base := List.mem_append_right _ (.head _)
  have hmB : lsP aB segB nB ∈ base := List.mem_append_right _ (.tail _ (.head _))
  have hmS : lsP aS segS nS ∈ base := List.mem_append_right _ (.tail _ (.tail _ (.head _)))
  have hmXM : ∀ p ∈ segM, p ∈ base := fun p hp => List.mem_append_right _ (.tail _ (.tail _ (.tail _ (List.mem_append_left _ hp))))
  have hmXB : ∀ p ∈ segB, p ∈ base := fun p hp => List.mem_append_right _ (.tail _ (.tail _ (.tail _ (List.mem_append_right _ (List.mem_append_left _ hp)))))
  have hmXS : ∀ p ∈ segS, p ∈ base := fun p hp => List.mem_append_right _ (.tail _ (.tail _ (.tail _ (List.mem_append_right _ (List.mem_append_right _ hp)))))
  have hmet := H.met
  rw [heq] at hmet
  refine xCons (xRet (eCmp (ldL h H.m2 (lComp (h₀ := h₀) (s₀ := s₀) (cl := [(Str.ofString "blocks", L + 2)]) (ldL h H.m1 (itL h hmS fun it oi s hi h => ⟨_, _, h, fun c D s h => ⟨it2L h (.tail _ (.head _)) hi, ft0 h₀ s₀ c [(L, m)] base D it aS (drawn nums).bs (drawn nums).st, (drawn nums).st.length, ?_, fun n s hI => ?_⟩⟩))))))
  · exact ⟨_, oi, [], 0, [], Nat.le_refl _, h, by rw [Nat.sub_self]; exact hi, by rw [Nat.sub_self]; exact .nil⟩
  obtain ⟨mc, oi, us0, nD, seg, hn, h, hi, hseg⟩ := hI
  have hu0 := hseg.length
  rw [List.length_map, List.length_take] at hu0
  have h := h.perm (List.Perm.swap (D, listOf (List.toArray us0) nD) (it, oi) _)
  have hm0 : ∀ p ∈ base, p ∈ (D, listOf (List.toArray us0) nD) :: (seg ++ base) := fun p hp => .tail _ (List.mem_append_right _ hp)
  by_cases hn0 : n = 0
  · subst hn0
    rw [Nat.sub_zero, List.take_length] at hseg
    refine nxLend h r.handled hi (hm0 _ hmS) (by rw [List.getElem?_eq_none_iff, refs_len]; with_reducible exact ar6b ‹_›) fun s h => ⟨_, _, h, fun s h => ?_⟩
    exact qEq h (hm0 _ hmM) (.head _) (hmet.mono fun p hp => hm0 _ (hmXM _ hp)) (hseg.mono fun p hp => .tail _ (List.mem_append_left _ hp)) (fun d hd => by obtain ⟨T, _, rfl⟩ := List.mem_map.mp hd; exact ok_dL _ _ 6) (fun d hd => by obtain ⟨T, _, rfl⟩ := List.mem_map.mp hd; exact ok_dL _ _ 6) r.cline rfl (kk _ _ _ h)
  · have hlt : (drawn nums).st.length - n < (drawn nums).st.length := by with_reducible exact ar5 ‹_› ‹_›
    have hka := List.getElem?_eq_getElem hlt
    have htk : (drawn nums).st.take ((drawn nums).st.length - n + 1) = (drawn nums).st.take ((drawn nums).st.length - n) ++ [(drawn nums).st[(drawn nums).st.length - n]] := List.take_succ_eq_append_getElem hlt
    generalize (drawn nums).st[(drawn nums).st.length - n] = T at hka htk
    obtain ⟨hTm, hTp⟩ := hDI.st _ T hka
    have hTl : T.length ≤ 18 := by
      have := nodup_lt (drawn nums).bs.length T (hTp.imp fun h => by omega) fun i hi => ((hTm i).mp hi).1
      with_reducible exact ar15 ‹_› ‹_› (by decide)
    obtain ⟨p, hp1, vT, nT, hp2, hvT⟩ := H.st.get (i := (drawn nums).st.length - n) (d := natI T) (by rw [List.getElem?_map, hka]; rfl)
    obtain ⟨aT, oT⟩ := p
    have hp2 : oT = listOf (List.toArray vT) nT := hp2
    subst hp2
    have hmT := hmXS _ (List.mem_of_getElem? hp1)
    have hvl := hvT.length
    simp only [natI, List.length_map] at hvl
    refine nxL h hi (hm0 _ hmS) (refs_get (by rw [List.getElem?_map, hp1]; rfl)) fun oi' s hi h => aName (stL h fun s h => tst0 ?_)
    first | refine iteT rfl ?_ | rw [if_pos rfl]
    let base1 := (it, oi') :: (D, listOf (List.toArray us0) nD) :: (seg ++ base)
    have hmb : ∀ p ∈ base, p ∈ base1 := fun p hp => .tail _ (hm0 p hp)
    refine lComp (h₀ := h₀) (s₀ := s₀) (cl := [(Str.ofString "blocks", L + 2)]) (ldL h rfl (itL h (hmb _ hmT) fun it1 oj s hj h => ⟨_, _, h, fun c1 D1 s h => ⟨it2L h (.tail _ (.head _)) hj, ft1 h₀ s₀ c1 ((c, fun y => if y = Str.ofString "stack" then some (Value.ref aT) else mc y) :: [(L, m)]) base1 D1 it1 aT (drawn nums).bs T, T.length, ?_, fun n1 s hI => ?_⟩⟩))
    · exact ⟨_, oj, [], 0, [], Nat.le_refl _, h, by rw [Nat.sub_self]; exact hj, by rw [Nat.sub_self]; exact .nil⟩
    obtain ⟨mc1, oj, us1, nD1, seg1, hn1, h, hj, hseg1⟩ := hI
    have hu1 := hseg1.length
    unfold named at hu1
    rw [List.length_map, List.length_take] at hu1
    have h := h.perm (List.Perm.swap (D1, listOf (List.toArray us1) nD1) (it1, oj) _)
    have hm1 : ∀ p ∈ base1, p ∈ (D1, listOf (List.toArray us1) nD1) :: (seg1 ++ base1) := fun p hp => .tail _ (List.mem_append_right _ hp)
    by_cases hn10 : n1 = 0
    · subst hn10
      rw [Nat.sub_zero, List.take_length] at hseg1
      refine nxLend h r.handled hj (hm1 _ (hmb _ hmT)) (by rw [List.getElem?_eq_none_iff]; with_reducible exact ar6b ‹_›) fun s h => ⟨_, _, h, fun s h => ?_⟩
      refine fAppend h (.tail (Rep.right seg1 (.tail .head))) (by rw [sizeLine_eq]; with_reducible exact ar10 ‹_› ‹_› (by decide)) fun s h => ?_
      have h := h.perm (led' := (D, listOf (us0 ++ [Value.ref D1]).toArray (nD + 1)) :: (it, oi') :: (((D1, listOf (List.toArray us1) nD1) :: (seg1 ++ seg)) ++ base)) perm8
      rw [show (drawn nums).st.length - n + 1 = (drawn nums).st.length - (n - 1) by with_reducible exact ar2 ‹_› ‹_›] at hi
      refine ⟨n - 1, by with_reducible exact ar3 ‹_›, _, oi', _, _, _, by with_reducible exact ar4 ‹_›, h, hi, ?_⟩
      rw [show (drawn nums).st.length - (n - 1) = (drawn nums).st.length - n + 1 by with_reducible exact ar1 ‹_› ‹_›, htk, List.map_append]
      exact (hseg.mono fun p hp => .tail _ (List.mem_append_right _ hp)).append (.one (.list (.head _) (hseg1.mono fun p hp => .tail _ (List.mem_append_left _ hp))))
    · have hlt1 : T.length - n1 < T.length := by with_reducible exact ar5 ‹_› ‹_›
      have hkb := List.getElem?_eq_getElem hlt1
      have hkm : T[T.length - n1] ∈ T := List.getElem_mem hlt1
      have htk1 : T.take (T.length - n1 + 1) = T.take (T.length - n1) ++ [T[T.length - n1]] := List.take_succ_eq_append_getElem hlt1
      generalize T[T.length - n1] = k at hkb hkm htk1
      have hkl : k < (drawn nums).bs.length := ((hTm k).mp hkm).1
      obtain ⟨_, _, ek, _⟩ := hDI.form k hkl
      obtain ⟨ak, ta, tb, tc, td, nk, g1, g2⟩ := seg4 H.b hkl ek
      obtain ⟨tk1, hvk⟩ := natI_get hvT hkb
      have hlo : (k : Int) < 2 ^ 63 := by omega
      refine nxL h hj (hm1 _ (hmb _ hmT)) hvk fun oj' s hj h => aName (stL h fun s h => tst0 ?_)
      first | refine iteT rfl ?_ | rw [if_pos rfl]
      have hm2 : ∀ p ∈ base, p ∈ (it1, oj') :: (D1, listOf (List.toArray us1) nD1) :: (seg1 ++ base1) := fun p hp => .tail _ (hm1 p (hmb p hp))
      have hc2 : (L + 2, o2) ∈ (it1, oj') :: (D1, listOf (List.toArray us1) nD1) :: (seg1 ++ base1) := hm2 _ (.tail _ (.head _))
      rw [show T.length - n1 + 1 = T.length - (n1 - 1) by with_reducible exact ar2 ‹_› ‹_›] at hj
      refine eSub (eSub (ldC h hc2 H.c2 (ldL h rfl (lTail h (hm2 _ hmB) (by with_reducible exact ar12) hlo (by rw [Int.toNat_natCast]; exact g1) (slc (pSome (cI h fun _ s h => pNone (pNone ⟨_, _, _, _, _, _, _, _, _, h, hm2 _ (hmXB _ g2), Nat.le_of_ble_eq_true rfl, .int _ _, .none, .none, by simp, fun d s h => ?_⟩))))))))
      rw [pick2] at h
      refine fAppend h (.tail (.tail .head)) (by rw [sizeLine_eq]; with_reducible exact ar10 ‹_› ‹_› (by decide)) fun s h => ?_
      have h := h.perm (led' := (D1, listOf (us1 ++ [Value.ref d]).toArray (nD1 + 1)) :: (it1, oj') :: ((seg1 ++ [(d, _)]) ++ base1)) perm7a
      refine ⟨n1 - 1, by with_reducible exact ar3 ‹_›, _, oj', _, _, _, by with_reducible exact ar4 ‹_›, h, hj, ?_⟩
      rw [show T.length - (n1 - 1) = T.length - n1 + 1 by with_reducible exact ar1 ‹_› ‹_›, htk1]
      unfold named
      rw [List.map_append, List.map_singleton, ek]
      exact (hseg1.mono fun p hp => List.mem_append_left _ hp).append (.one (.list (List.mem_append_right _ (.head _)) (.cons (.int _ _) (.cons (.int _ _) .nil))))
end
end Mine
end

/-! part Law9 -/
section
open PySem PySem.W PyProof.Rows PySem.Calls
set_option maxRecDepth 100000
set_option linter.unusedVariables false
namespace Mine
section
variable {prog : Program} {w : World} {A : Around} {E : Value → Shared → Prop} {s : Shared} {h₀ : Heap} {s₀ : Shared} {L : Addr} {m : Mp}
theorem law_all (G : Gr w h₀) {fa : Addr} {cd : Value} {o1 o2 o3 o4 o5 : Obj} {a : Addr} {vs : List Value} {ns : List Int} (h : At h₀ s₀ [(L, m)] [(L + 1, o1), (L + 2, o2), (L + 3, o3), (L + 4, o4), (L + 5, o5)] s)
    (c1 : o1.data = .cell (some (.ref a))) (c2 : o2.data = .cell none) (c3 : o3.data = .cell none) (c4 : o4.data = .cell none) (c5 : o5.data = .cell none) (r : Rm A 30) (hF : Fo A [L]) (hL : h₀.IsList a vs.toArray) (hi : IntsAre vs ns) (hn : ns.length ≤ 63) {Q : Flow → Shared → Prop}
    (kk : ∀ m led s, At h₀ s₀ [(L, m)] led s → Q (.ret (.bool true)) s) : W prog w A (execs (stmtsOf (fdAt w.params 193)) (lawEnv w.params L fa cd)) Q (fun _ _ => False) s :=
  law_1 G h c1 c2 c3 c4 c5 r hF hL hi hn fun nums m o2 aB aS segB segS nB nS s H =>
    law_2 G H r fun m aT nT tab dat s H => law_3 G H r hF fun m o3 aR nR segR s H => law_5 G H r fun dats m o4 aP t u v s H =>
      law_6 G H r hF fun ord m o5 aO nO us s H => law_7 G H r fun m aM nM segM us s H => law_8 G H r kk
theorem law_end {h₁ : Heap} {s₁ : Shared} {mg mb : Str → Option Value} (KX : (KK w.params).In s₁.heap) (lim : s₁.heap.NoLimit) (hg : s₁.heap.Ns mainGlobals mg) (hb : s₁.heap.Ns builtinsNs mb) (hbb : ∀ x : Str, x ≠ "__name__" → mb x = bootBuiltins x)
    (F : Fr s₁.heap s₁.heap.objs.size h₁ m) {o1 o2 o3 o4 o5 : Obj} (N : News s₁.heap s₁.heap.objs.size h₁ [(s₁.heap.objs.size + 5, o5), (s₁.heap.objs.size + 4, o4), (s₁.heap.objs.size + 3, o3), (s₁.heap.objs.size + 2, o2), (s₁.heap.objs.size + 1, o1)])
    {a : Addr} {vs : List Value} {ns : List Int} (c1 : o1.data = .cell (some (.ref a))) (c2 : o2.data = .cell none) (c3 : o3.data = .cell none) (c4 : o4.data = .cell none) (c5 : o5.data = .cell none) (hL : s₁.heap.IsList a vs.toArray) (hi : IntsAre vs ns) (hn : ns.length ≤ 63)
    {fa : Addr} {cd : Value} {tk : Nat} {Q : Flow → Shared → Prop} (kk : ∀ (m : Mp) (s' : Shared), Fr s₁.heap s₁.heap.objs.size s'.heap m → s'.gens = s₁.gens → s'.os = s₁.os → Q (.ret (.bool true)) s') :
    wpAny (model prog w) (callerA.deeper (lawEnv w.params s₁.heap.objs.size fa cd)) (execs (stmtsOf (fdAt w.params 193)) (lawEnv w.params s₁.heap.objs.size fa cd)) Q E { heap := h₁, gens := s₁.gens, drawn := s₁.drawn, toks := tk, os := s₁.os } := by
  have h : At s₁.heap s₁ [(s₁.heap.objs.size, m)] [(s₁.heap.objs.size + 1, o1), (s₁.heap.objs.size + 2, o2), (s₁.heap.objs.size + 3, o3), (s₁.heap.objs.size + 4, o4), (s₁.heap.objs.size + 5, o5)] { heap := h₁, gens := s₁.gens, drawn := s₁.drawn, toks := tk, os := s₁.os } := by
    refine ⟨rfl, rfl, F.keep, fun f hf => ?_, fun p hp => (N p (List.mem_reverse.mp hp)).1, ?_, fun b hb => ?_⟩
    · rw [List.mem_singleton.mp hf]; exact F.ns
    · show (([0, 1, 2, 3, 4, 5] : List Nat).map (s₁.heap.objs.size + ·)).Nodup
      exact List.pairwise_map.mpr ((show ([0, 1, 2, 3, 4, 5] : List Nat).Nodup by decide).imp fun h e => h (Nat.add_left_cancel e))
    · have hle : s₁.heap.objs.size ≤ b := by
        have hb : b ∈ ([0, 1, 2, 3, 4, 5] : List Nat).map (s₁.heap.objs.size + ·) := hb
        obtain ⟨k, _, rfl⟩ := List.mem_map.mp hb
        exact Nat.le_add_right _ _
      cases q : s₁.heap.get? b with
      | none => rfl
      | some o => exact absurd (Heap.lt_size q) (Nat.not_lt.mpr hle)
  have r : Rm (callerA.deeper (lawEnv w.params s₁.heap.objs.size fa cd)) 30 := ⟨rfl, by show 1 + 300 + 1 + 30 ≤ 990; decide, by show 4 + 3 + 4 * 30 ≤ 9000; decide⟩
  have hF : Fo (callerA.deeper (lawEnv w.params s₁.heap.objs.size fa cd)) [s₁.heap.objs.size] := by
    refine ⟨_, rfl, fun e he => ?_⟩
    rw [List.mem_singleton.mp he]
    exact ⟨(fun q => nomatch q), s₁.heap.objs.size, rfl, .head _⟩
  exact wpAny_mono (law_all ⟨KX, lim, ⟨mg, hg⟩, ⟨mb, hb, hbb⟩⟩ h c1 c2 c3 c4 c5 r hF hL hi hn fun m led s h => kk m s ⟨h.ns _ (.head _), h.keep, F.above⟩ h.gens h.os).w (fun _ _ z => z) (fun _ _ z => False.elim z)
end
end Mine
end

/-! part End0 -/
open PySem PySem.W PyProof.Rows PySem.Calls
set_option maxRecDepth 100000 in
set_option maxHeartbeats 8000000 in
theorem PySem.Challenge.cw_oc0166_01_holds : PySem.Challenge.rw_oc0166_01.Holds := by
  refine Mine.hd ?_
  k_go0
  rename_i o5 o4 o3 o2 o1 c5 c4 c3 c2 c1 N X
  refine Mine.law_end ‹_› (Top.nolimit ‹_›) (Top.g ‹_›) (Top.b ‹_›) (Top.builtins ‹_›) ‹Fr _ _ _ _› N (c1.trans (by kernel_rfl)) (c2.trans (by kernel_rfl)) (c3.trans (by kernel_rfl)) (c4.trans (by kernel_rfl)) (c5.trans (by kernel_rfl)) ‹_› ‹_› (by omega) fun m s' F hgs hos => ?_
  exact goodW_bool F (hgs.trans ‹_›) (raisesW_false (by wrow_none_raised)) (by kc_post) hos
