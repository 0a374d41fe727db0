import PyProof.Rows.All
import Wide.All
import OpenK.AllK
import Wide.FinOn
import KE.KSortTup
import PySem.Challenge.RW_to0009_01
open PySem PySem.W PySem.Calls PyProof.Rows
set_option Elab.async false
set_option maxRecDepth 100000
set_option maxHeartbeats 8000000
set_option linter.unusedVariables false
set_option linter.unusedSimpArgs false
local macro_rules | `(tactic| walk_at "m") => `(tactic| repeat (first | with_reducible exact List.mem_cons_self | with_reducible refine List.mem_cons_of_mem _ ?_))
local macro_rules | `(tactic| walk_at "s") => `(tactic| repeat (first | exact List.forall_mem_nil _ | (refine List.forall_mem_cons.mpr ⟨by repeat (first | with_reducible exact List.mem_cons_self | with_reducible refine List.mem_cons_of_mem _ ?_), ?_⟩)))
namespace Mine

/-- plain values: what the text's values are, with no heap; a list is a place of the store -/
inductive PV where
  | none
  | bool (b : Bool)
  | int (i : Int)
  | flt (x : UInt64)
  | str (x : Str)
  | tup (l : List PV)
  | loc (i : Nat)
  | rng (lo hi : Int)
  | ext (a : Addr)

/-- what may change: lists, and piles (the text's own subclass of list) -/
inductive MO where
  | lst (l : List PV)
  | pil (k : Int) (l : List (Str × Str))

abbrev Mu := List MO
abbrev Iota := List Addr

abbrev tupOf (vs : List Value) (n : Nat) : Obj := { cls := .type "tuple", dict := none, data := .seq vs.toArray n, slots := #[] }
abbrev lstOf (vs : List Value) (n : Nat) : Obj := { cls := .type "list", dict := none, data := .seq vs.toArray n, slots := #[] }

mutual
def RepV (h : Heap) (ι : Iota) : PV → Value → Prop
  | .none, v => v = .none
  | .bool b, v => v = .bool b
  | .int i, v => ∃ t, v = .int i t
  | .flt x, v => ∃ t, v = .float x t ∧ t ≠ 0
  | .str x, v => ∃ t, v = .str x t
  | .tup ps, v => ∃ a vs n, v = .ref a ∧ h.get? a = some (tupOf vs n) ∧ RepL h ι ps vs
  | .loc i, v => ∃ a, v = .ref a ∧ ι[i]? = some a
  | .rng lo hi, v => ∃ a t u w, v = .ref a ∧ IsRange h a lo hi 1 t u w
  | .ext a, v => v = .ref a
def RepL (h : Heap) (ι : Iota) : List PV → List Value → Prop
  | [], vs => vs = []
  | p :: ps, vs => ∃ v r, vs = v :: r ∧ RepV h ι p v ∧ RepL h ι ps r
end

/-- the steady part of a run: the program, the heap that the law found, the code tables that may grow, the piles' class -/
structure Cx where
  prog : Program
  w : World
  hB : Heap
  os : OsState
  X : List Addr
  C : Addr
  mg : Str → Option Value
  mb : Str → Option Value
  T : Heap → Prop

def dictIs (h : Heap) (d : Addr) (k : Int) : Prop := ∃ hsh tk tk' m, h.get? d = some { cls := .type "dict", dict := none, data := .dict #[⟨hsh, .str "_initial_size" tk, .int k tk'⟩] m, slots := #[] }

def pairPV (p : Str × Str) : PV := .tup [.str p.1, .str p.2]

def MoAt (c : Cx) (h : Heap) (ι : Iota) (a : Addr) : MO → Prop
  | .lst ps => ∃ vs n, h.get? a = some (lstOf vs n) ∧ RepL h ι ps vs
  | .pil k its => ∃ d vs n, h.get? a = some { cls := .ref c.C, dict := some d, data := .seq vs.toArray n, slots := #[] } ∧ dictIs h d k ∧ c.hB.get? d = none ∧ RepL h ι (its.map pairPV) vs

structure Cx.Ok (c : Cx) : Prop where
  lim : c.hB.NoLimit
  g : c.hB.Ns mainGlobals c.mg
  b : c.hB.Ns builtinsNs c.mb
  nb : ∃ mc, c.hB.Ns cStatics mc ∧ mc sharingNotToldKey = none
  sX : cStatics ∉ c.X ∧ mainGlobals ∉ c.X ∧ builtinsNs ∉ c.X
  tX : ∀ h, c.T h → ∀ a ∈ c.X, ∃ vs, h.get? a = some { cls := .none, dict := none, data := .fields vs, slots := #[] }
  tk : ∀ (h h' : Heap), c.T h → (∀ b o, h.get? b = some o → (o.cls = .none ∨ o.cls = .type "code") → (∃ vs, o.data = .fields vs) → h'.get? b = some o) → c.T h'

structure Inv (c : Cx) (s : Shared) (ι : Iota) (μ : Mu) : Prop where
  old : ∀ b o, c.hB.get? b = some o → b ∉ c.X → s.heap.get? b = some o
  new : ∀ a ∈ ι, c.hB.get? a = none
  len : ι.length = μ.length
  nodup : ι.Nodup
  mo : ∀ (i : Nat) (a : Addr) (m : MO), ι[i]? = some a → μ[i]? = some m → MoAt c s.heap ι a m
  tab : c.T s.heap
  bare : AllBare s.gens
  os : s.os = c.os
  tp : 0 < s.toks

structure Step (c : Cx) (s : Shared) (ι : Iota) (s' : Shared) (ι' : Iota) : Prop where
  keep : ∀ b o, s.heap.get? b = some o → b ∉ ι → b ∉ c.X → s'.heap.get? b = some o
  there : ∀ b o, s.heap.get? b = some o → ∃ o', s'.heap.get? b = some o'
  ext : ∃ l, ι' = ι ++ l ∧ ∀ a ∈ l, s.heap.get? a = none

theorem Step.refl (c : Cx) (s : Shared) (ι : Iota) : Step c s ι s ι := ⟨fun _ _ e _ _ => e, fun _ o e => ⟨o, e⟩, [], by simp, by simp⟩
theorem Step.off {c : Cx} {s s' : Shared} {ι ι' : Iota} (x : Step c s ι s' ι') {b : Addr} {o : Obj} (e : s.heap.get? b = some o) (hb : b ∉ ι) : b ∉ ι' := fun hm => by
  obtain ⟨l, rfl, hl⟩ := x.ext
  rcases List.mem_append.mp hm with h | h
  · exact hb h
  · rw [hl b h] at e; cases e
theorem Step.trans {c : Cx} {s s₁ s₂ : Shared} {ι ι₁ ι₂ : Iota} (x : Step c s ι s₁ ι₁) (y : Step c s₁ ι₁ s₂ ι₂) : Step c s ι s₂ ι₂ := by
  refine ⟨fun b o e hb hX => y.keep b o (x.keep b o e hb hX) (x.off e hb) hX, fun b o e => ?_, ?_⟩
  · obtain ⟨o', e'⟩ := x.there b o e
    exact y.there b o' e'
  · obtain ⟨l, rfl, hl⟩ := x.ext
    obtain ⟨l', rfl, hl'⟩ := y.ext
    refine ⟨l ++ l', by simp, fun a ha => ?_⟩
    rcases List.mem_append.mp ha with h | h
    · exact hl a h
    · cases q : s.heap.get? a with
      | none => rfl
      | some o => obtain ⟨o', e'⟩ := x.there a o q; rw [hl' a h] at e'; cases e'

theorem getElem?_ext {α : Type} {l : List α} {i : Nat} {a : α} (e : l[i]? = some a) (l' : List α) : (l ++ l')[i]? = some a := by
  obtain ⟨h, _⟩ := List.getElem?_eq_some_iff.mp e
  rw [List.getElem?_append_left h]; exact e

/-- what never changes: tuples, ranges -/
def Imm (o : Obj) : Prop := (o.cls = .type "tuple" ∧ ∃ vs n, o.data = .seq vs n) ∨ (o.cls = .type "range" ∧ ∃ vs, o.data = .fields vs)
theorem Imm.ne {o : Obj} (x : Imm o) : o.cls ≠ .type "list" ∧ (∀ C, o.cls ≠ .ref C) ∧ o.cls ≠ .none ∧ (∀ es n, o.data ≠ .dict es n) ∧ ∀ v, o.data ≠ .cell v := by
  rcases x with ⟨h, vs, n, d⟩ | ⟨h, vs, d⟩ <;> rw [h, d] <;> refine ⟨by decide, fun C q => (by cases q), by decide, fun _ _ q => (by cases q), fun _ q => (by cases q)⟩

mutual
theorem RepV.mono {h h' : Heap} {ι : Iota} {l : Iota} (k : ∀ b o, h.get? b = some o → Imm o → h'.get? b = some o) : ∀ (p : PV) (v : Value), RepV h ι p v → RepV h' (ι ++ l) p v
  | .none, _, e => by simpa only [RepV] using e
  | .bool _, _, e => by simpa only [RepV] using e
  | .int _, _, e => by simpa only [RepV] using e
  | .flt _, _, e => by simpa only [RepV] using e
  | .str _, _, e => by simpa only [RepV] using e
  | .tup ps, _, e => by
    simp only [RepV] at e ⊢
    obtain ⟨a, vs, n, e1, e2, e3⟩ := e
    exact ⟨a, vs, n, e1, k _ _ e2 (.inl ⟨rfl, _, _, rfl⟩), RepL.mono k ps vs e3⟩
  | .loc i, _, e => by
    simp only [RepV] at e ⊢
    obtain ⟨a, e1, e2⟩ := e
    exact ⟨a, e1, getElem?_ext e2 l⟩
  | .rng lo hi, _, e => by
    simp only [RepV] at e ⊢
    obtain ⟨a, t, u, w, e1, e2⟩ := e
    exact ⟨a, t, u, w, e1, k _ _ e2 (.inr ⟨rfl, _, rfl⟩)⟩
  | .ext _, _, e => by simpa only [RepV] using e
theorem RepL.mono {h h' : Heap} {ι : Iota} {l : Iota} (k : ∀ b o, h.get? b = some o → Imm o → h'.get? b = some o) : ∀ (ps : List PV) (vs : List Value), RepL h ι ps vs → RepL h' (ι ++ l) ps vs
  | [], _, e => by simpa only [RepL] using e
  | p :: ps, _, e => by
    simp only [RepL] at e ⊢
    obtain ⟨v, r, e1, e2, e3⟩ := e
    exact ⟨v, r, e1, RepV.mono k p v e2, RepL.mono k ps r e3⟩
end

theorem RepL.length {h : Heap} {ι : Iota} : ∀ (ps : List PV) (vs : List Value), RepL h ι ps vs → vs.length = ps.length
  | [], vs, r => by simp only [RepL] at r; rw [r]; rfl
  | p :: ps, vs, r => by
    simp only [RepL] at r
    obtain ⟨v, r', rfl, _, h⟩ := r
    simp [RepL.length ps r' h]

theorem MoAt.cls {c : Cx} {h : Heap} {ι : Iota} {a : Addr} {m : MO} (x : MoAt c h ι a m) : ∃ o, h.get? a = some o ∧ (o.cls = .type "list" ∨ o.cls = .ref c.C) := by
  cases m with
  | lst ps => obtain ⟨vs, n, e, _⟩ := x; exact ⟨_, e, .inl rfl⟩
  | pil k its => obtain ⟨d, vs, n, e, _⟩ := x; exact ⟨_, e, .inr rfl⟩

theorem Inv.at {c : Cx} {s : Shared} {ι : Iota} {μ : Mu} (I : Inv c s ι μ) {a : Addr} (ha : a ∈ ι) : ∃ o, s.heap.get? a = some o ∧ (o.cls = .type "list" ∨ o.cls = .ref c.C) := by
  obtain ⟨i, hi⟩ := List.getElem?_of_mem ha
  have hl : i < μ.length := by rw [← I.len]; exact (List.getElem?_eq_some_iff.mp hi).1
  exact (I.mo i a μ[i] hi (by simp [hl])).cls

/-- an object of another class is none of the store's, nor a table -/
theorem Inv.off {c : Cx} (O : c.Ok) {s : Shared} {ι : Iota} {μ : Mu} (I : Inv c s ι μ) {b : Addr} {o : Obj} (e : s.heap.get? b = some o) (h1 : o.cls ≠ .type "list") (h2 : ∀ C, o.cls ≠ .ref C) (h3 : o.cls ≠ .none) : b ∉ ι ∧ b ∉ c.X := by
  refine ⟨fun hm => ?_, fun hm => ?_⟩
  · obtain ⟨o', e', hc⟩ := I.at hm
    rw [e] at e'; cases e'
    rcases hc with hc | hc
    · exact h1 hc
    · exact h2 _ hc
  · obtain ⟨vs, e'⟩ := O.tX _ I.tab b hm
    rw [e] at e'; cases e'
    exact h3 rfl

theorem Inv.rep {c : Cx} (O : c.Ok) {s s' : Shared} {ι ι' : Iota} {μ : Mu} (I : Inv c s ι μ) (S : Step c s ι s' ι') {p : PV} {v : Value} (r : RepV s.heap ι p v) : RepV s'.heap ι' p v := by
  obtain ⟨l, rfl, _⟩ := S.ext
  refine RepV.mono (fun b o e hc => ?_) p v r
  have := I.off O e hc.ne.1 hc.ne.2.1 hc.ne.2.2.1
  exact S.keep b o e this.1 this.2
theorem Inv.repL {c : Cx} (O : c.Ok) {s s' : Shared} {ι ι' : Iota} {μ : Mu} (I : Inv c s ι μ) (S : Step c s ι s' ι') {p : List PV} {v : List Value} (r : RepL s.heap ι p v) : RepL s'.heap ι' p v := by
  obtain ⟨l, rfl, _⟩ := S.ext
  refine RepL.mono (fun b o e hc => ?_) p v r
  have := I.off O e hc.ne.1 hc.ne.2.1 hc.ne.2.2.1
  exact S.keep b o e this.1 this.2

/-- a step that makes and changes nothing of the store -/
theorem Inv.grow {c : Cx} (O : c.Ok) {s : Shared} {ι : Iota} {μ : Mu} (I : Inv c s ι μ) {s' : Shared} (k : ∀ b o, s.heap.get? b = some o → s'.heap.get? b = some o) (hg : AllBare s'.gens) (ho : s'.os = s.os) (ht : 0 < s'.toks) : Inv c s' ι μ ∧ Step c s ι s' ι := by
  have S : Step c s ι s' ι := ⟨fun b o e _ _ => k b o e, fun b o e => ⟨o, k b o e⟩, [], by simp, by simp⟩
  refine ⟨⟨fun b o e hX => k _ _ (I.old b o e hX), I.new, I.len, I.nodup, fun i a m hi hm => ?_, O.tk _ _ I.tab fun b o e _ _ => k b o e, hg, ho.trans I.os, ht⟩, S⟩
  have x := I.mo i a m hi hm
  cases m with
  | lst ps => obtain ⟨vs, n, e, r⟩ := x; exact ⟨vs, n, k _ _ e, I.repL O S r⟩
  | pil q its =>
    obtain ⟨d, vs, n, e, ⟨hsh, tk, tk', m', ed⟩, hn, r⟩ := x
    exact ⟨d, vs, n, k _ _ e, ⟨hsh, tk, tk', m', k _ _ ed⟩, hn, I.repL O S r⟩
end Mine
namespace Mine

abbrev Rho := List (Str × PV)

theorem nn (n : Nat) : ¬ ((n : Int) < 0) := Int.not_lt.mpr (Int.natCast_nonneg n)
theorem max0 (n : Nat) : (max 0 (n : Int)).toNat = n := by rw [Int.max_eq_right (Int.natCast_nonneg n)]; rfl
theorem natB {n : Nat} (h : n ≤ 1000000) : -1000000 ≤ (n : Int) ∧ (n : Int) ≤ 1000000 := ⟨Int.le_trans (by decide) (Int.natCast_nonneg n), Int.ofNat_le.mpr h⟩
theorem fit62 {n : Int} (h : -1000000 ≤ n ∧ n ≤ 1000000) : ¬ n < -2 ^ 63 ∧ ¬ n ≥ 2 ^ 63 := ⟨Int.not_lt.mpr (Int.le_trans (by decide) h.1), Int.not_le.mpr (Int.lt_of_le_of_lt h.2 (by decide))⟩
theorem seq_nat {m n : Nat} (h : m < n) : seqIndex? (m : Int) n = some m := by
  unfold seqIndex?
  dsimp only
  rw [if_neg (nn m), if_pos (by rw [Bool.and_eq_true, decide_eq_true_eq, decide_eq_true_eq]; exact ⟨Int.natCast_nonneg m, Int.ofNat_lt.mpr h⟩)]
  rfl
theorem lt_subS {a j n : Nat} (h : a - j = n + 1) : j < a := Nat.lt_of_sub_pos (h ▸ Nat.succ_pos n)
theorem sub_next {a j n : Nat} (h : a - j = n + 1) : a - (j + 1) = n := by rw [Nat.sub_add_eq, h]; rfl
theorem eq_sub0 {a j : Nat} (hj : j ≤ a) (h : a - j = 0) : j = a := Nat.le_antisymm hj (Nat.sub_eq_zero_iff_le.mp h)
theorem lt_step {P : Nat → Prop} {n : Nat} (h : ∀ i, i < n → P i) (hn : P n) : ∀ i, i < n + 1 → P i := fun i hi => (Nat.lt_succ_iff_lt_or_eq.mp hi).elim (h i) fun e => e ▸ hn
theorem lt_none {P : Nat → Prop} : ∀ i, i < 0 → P i := fun i h => absurd h (Nat.not_lt_zero i)
structure AOk (n : Nat) (A : Around) : Prop where
  h : A.handled = none
  d : A.depth + n < 900
  u : A.units + 20 * n < 9000

theorem AOk.mono {n m : Nat} {A : Around} (a : AOk n A) (h : m ≤ n) : AOk m A := ⟨a.h, Nat.lt_of_le_of_lt (Nat.add_le_add_left h _) a.d, Nat.lt_of_le_of_lt (Nat.add_le_add_left (Nat.mul_le_mul_left 20 h) _) a.u⟩
theorem AOk.in1 {n : Nat} {A : Around} (a : AOk (n + 1) A) : AOk n A.in1 := ⟨a.h, Nat.lt_of_succ_lt a.d, by have := a.u; show A.units + 1 + 20 * n < 9000; omega⟩
theorem AOk.deeper {n : Nat} {A : Around} (a : AOk (n + 1) A) (env : Env) : AOk n (A.deeper env) := ⟨a.h, by have := a.d; show A.depth + 1 + n < 900; rw [Nat.add_assoc, Nat.add_comm 1]; exact this, by have := a.u; show A.units + 3 + 20 * n < 9000; omega⟩

/-- the name x of the frame stands for p -/
def NameIs (env : Env) (h : Heap) (ι : Iota) (m : Str → Option Value) (x : Str) (p : PV) : Prop :=
  (x == ("__debug__" : Str)) = false ∧ ((env.kindOf x = some .local ∧ ∃ v, m x = some v ∧ RepV h ι p v) ∨
  ((env.kindOf x = some .cell ∨ (env.kindOf x = some .free ∧ (x == ("__classdict__" : Str)) = false)) ∧ ∃ cc v, env.cells.lookup x = some cc ∧ h.IsCell cc (some v) ∧ RepV h ι p v))

structure EnvOk (c : Cx) (env : Env) (ρ : Rho) (s : Shared) (ι : Iota) : Prop where
  kind : env.scope.kind = .function
  glo : env.globals = mainGlobals
  bi : env.builtins = builtinsNs
  ini : env.kindOf ("_initial_size" : Str) = none
  ns : ∃ m, s.heap.Ns env.locals m ∧ m ("_initial_size" : Str) = none ∧ ∀ x p, (x, p) ∈ ρ → NameIs env s.heap ι m x p
  nd : (ρ.map (·.1)).Nodup
  loc : env.locals ∉ ι ∧ env.locals ∉ c.X ∧ c.hB.get? env.locals = none
  cell : ∀ x cc, env.cells.lookup x = some cc → (∃ v, s.heap.IsCell cc v) ∧ cc ∉ ι ∧ cc ∉ c.X ∧ cc ≠ env.locals ∧ c.hB.get? cc = none
  inj : ∀ x y cc, env.cells.lookup x = some cc → env.cells.lookup y = some cc → x = y

theorem NameIs.step {c : Cx} (O : c.Ok) {env : Env} {ρ : Rho} {s s' : Shared} {ι ι' : Iota} {μ : Mu} (I : Inv c s ι μ) (V : EnvOk c env ρ s ι) (S : Step c s ι s' ι') {m : Str → Option Value} {x : Str} {p : PV}
    (n : NameIs env s.heap ι m x p) : NameIs env s'.heap ι' m x p := by
  obtain ⟨h1, h2⟩ := n
  refine ⟨h1, ?_⟩
  rcases h2 with ⟨a, v, b, r⟩ | ⟨a, cc, v, b, ⟨o, e, d⟩, r⟩
  · exact .inl ⟨a, v, b, I.rep O S r⟩
  · have q := V.cell x cc b
    exact .inr ⟨a, cc, v, b, ⟨o, S.keep _ _ e q.2.1 q.2.2.1, d⟩, I.rep O S r⟩

theorem EnvOk.step {c : Cx} (O : c.Ok) {env : Env} {ρ : Rho} {s s' : Shared} {ι ι' : Iota} {μ : Mu} (V : EnvOk c env ρ s ι) (I : Inv c s ι μ) (S : Step c s ι s' ι') : EnvOk c env ρ s' ι' := by
  obtain ⟨m, hn, hi, hm⟩ := V.ns
  obtain ⟨oL, es, ep, eL, rL⟩ := hn
  refine ⟨V.kind, V.glo, V.bi, V.ini, ⟨m, ⟨oL, es, ep, S.keep _ _ eL V.loc.1 V.loc.2.1, rL⟩, hi, fun x p h => (hm x p h).step O I V S⟩, V.nd, ⟨S.off eL V.loc.1, V.loc.2⟩, fun x cc h => ?_, V.inj⟩
  obtain ⟨⟨v, o, e, d⟩, h1, h2, h3, h4⟩ := V.cell x cc h
  exact ⟨⟨v, o, S.keep _ _ e h1 h2, d⟩, S.off e h1, h2, h3, h4⟩

structure WE (c : Cx) (A : Around) (e : Expr) (env : Env) (ρ : Rho) (μ : Mu) (K : PV → Mu → Prop) : Prop where
  run : ∀ (s : Shared) (ι : Iota) (E Q : Value → Shared → Prop), Inv c s ι μ → EnvOk c env ρ s ι →
    (∀ v s' ι' p μ', Step c s ι s' ι' → Inv c s' ι' μ' → RepV s'.heap ι' p v → K p μ' → Q v s') → wpAny (model c.prog c.w) A (eval e env) Q E s
/-- a list of expressions, in order -/
structure WEs (c : Cx) (A : Around) (es : List Expr) (env : Env) (ρ : Rho) (μ : Mu) (K : List PV → Mu → Prop) : Prop where
  run : ∀ (s : Shared) (ι : Iota) (E : Value → Shared → Prop) (Q : List Value → Shared → Prop) (pos : Pos), Inv c s ι μ → EnvOk c env ρ s ι →
    (∀ vs s' ι' ps μ', Step c s ι s' ι' → Inv c s' ι' μ' → RepL s'.heap ι' ps vs → K ps μ' → Q vs s') → wpAny (model c.prog c.w) A (spliced (backTo pos (starEach es env))) Q E s
/-- a test -/
structure WB (c : Cx) (A : Around) (e : Expr) (env : Env) (ρ : Rho) (μ : Mu) (K : Bool → Mu → Prop) : Prop where
  run : ∀ (s : Shared) (ι : Iota) (E : Value → Shared → Prop) (Q : Bool → Shared → Prop), Inv c s ι μ → EnvOk c env ρ s ι →
    (∀ b s' ι' μ', Step c s ι s' ι' → Inv c s' ι' μ' → K b μ' → Q b s') → wpAny (model c.prog c.w) A (isTrue e env (eval e env)) Q E s
/-- a tree upon values in hand -/
structure WV (c : Cx) (A : Around) (f : List Value → Sem Value) (ps : List PV) (μ : Mu) (K : PV → Mu → Prop) : Prop where
  run : ∀ (s : Shared) (ι : Iota) (E Q : Value → Shared → Prop) (vs : List Value), Inv c s ι μ → RepL s.heap ι ps vs →
    (∀ v s' ι' p μ', Step c s ι s' ι' → Inv c s' ι' μ' → RepV s'.heap ι' p v → K p μ' → Q v s') → wpAny (model c.prog c.w) A (f vs) Q E s

abbrev f2 (f : Value → Value → Sem Value) : List Value → Sem Value := fun vs => match vs with | [a, b] => f a b | _ => unsupported ""
abbrev f1 (f : Value → Sem Value) : List Value → Sem Value := fun vs => match vs with | [a] => f a | _ => unsupported ""

section
variable {c : Cx} {A : Around} {env : Env} {ρ : Rho} {μ : Mu}

theorem WE.mono {e : Expr} {K K' : PV → Mu → Prop} (h : WE c A e env ρ μ K) (k : ∀ p m, K p m → K' p m) : WE c A e env ρ μ K' :=
  ⟨fun s ι E Q I V hQ => h.run s ι E Q I V fun v s' ι' p μ' S I' r x => hQ v s' ι' p μ' S I' r (k _ _ x)⟩
theorem toks_inv {s : Shared} {ι : Iota} (O : c.Ok) (I : Inv c s ι μ) (k : Nat) (hk : 0 < k := by exact Nat.succ_pos _) : Inv c { s with toks := k } ι μ ∧ Step c s ι { s with toks := k } ι := I.grow O (s' := { s with toks := k }) (fun _ _ e => e) I.bare rfl hk

theorem WE.int {i : Int} {k : Nat} {pos : Pos} {K : PV → Mu → Prop} (O : c.Ok) (h : K (.int i) μ) : WE c A (.Constant (.int i) k pos) env ρ μ K := ⟨fun s ι E Q I V hQ => by
  have t := toks_inv O I (s.toks + 1)
  exact wpAny_Constant_int (hQ _ _ ι (.int i) μ t.2 t.1 (by simp only [RepV]; exact ⟨_, rfl⟩) h)⟩
theorem WE.str {x : Str} {k : Nat} {pos : Pos} {K : PV → Mu → Prop} (O : c.Ok) (h : K (.str x) μ) : WE c A (.Constant (.str x) k pos) env ρ μ K := ⟨fun s ι E Q I V hQ => by
  have t := toks_inv O I (s.toks + 1)
  exact wpAny_Constant_str (hQ _ _ ι (.str x) μ t.2 t.1 (by simp only [RepV]; exact ⟨_, rfl⟩) h)⟩
theorem WE.flt {x : UInt64} {k : Nat} {pos : Pos} {K : PV → Mu → Prop} (O : c.Ok) (h : K (.flt x) μ) : WE c A (.Constant (.float x) k pos) env ρ μ K := ⟨fun s ι E Q I V hQ => by
  have t := toks_inv O I (s.toks + 1)
  exact wpAny_Constant_float (hQ _ _ ι (.flt x) μ t.2 t.1 (by simp only [RepV]; exact ⟨_, rfl, Nat.pos_iff_ne_zero.mp I.tp⟩) h)⟩
theorem WE.bool {b : Bool} {k : Nat} {pos : Pos} {K : PV → Mu → Prop} (h : K (.bool b) μ) : WE c A (.Constant (.bool b) k pos) env ρ μ K := ⟨fun s ι E Q I V hQ =>
  wpAny_Constant_bool (hQ _ _ ι (.bool b) μ (Step.refl ..) I (by simp only [RepV]) h)⟩
theorem name_run {x : Str} {p : PV} {s : Shared} {ι : Iota} {E Q : Value → Shared → Prop} (V : EnvOk c env ρ s ι) (hx : (x, p) ∈ ρ) (h : ∀ v, RepV s.heap ι p v → Q v s) : wpAny (model c.prog c.w) A (loadName env x) Q E s := by
  obtain ⟨m, hn, _, hm⟩ := V.ns
  obtain ⟨hd, h2⟩ := hm x p hx
  rcases h2 with ⟨a, v, b, r⟩ | ⟨a, cc, v, b, hc, r⟩
  · exact wpAny_loadName_local V.kind a hn b (h v r)
  · rcases a with a | ⟨a, a'⟩
    · exact wpAny_loadName_cell V.kind a b hc (h v r)
    · exact wpAny_loadName_free V.kind a b hc (h v r) a'
theorem WE.name {x : Str} {pos : Pos} {p : PV} {K : PV → Mu → Prop} (hx : (x, p) ∈ ρ) (h : K p μ) : WE c A (.Name x pos) env ρ μ K := ⟨fun s ι E Q I V hQ => by
  obtain ⟨m, hn, _, hm⟩ := V.ns
  exact wpAny_Name (name_run V hx fun v r => hQ _ _ ι p μ (Step.refl ..) I r h) (hm x p hx).1⟩

/-- a name of the text's top, or a built-in: the very value -/
theorem glob_ld (O : c.Ok) {x : Str} {pos : Pos} {v : Value} {s : Shared} {ι : Iota} {E Q : Value → Shared → Prop} (I : Inv c s ι μ) (V : EnvOk c env ρ s ι) (hk : env.kindOf x = some .globalImplicit) (hx : c.mg x = some v) (hd : (x == ("__debug__" : Str)) = false)
    (h : Q v s) : wpAny (model c.prog c.w) A (eval (.Name x pos) env) Q E s := by
  obtain ⟨o, es, ep, e, r⟩ := O.g
  exact Calls.Name_function_global V.kind hk (Calls.loadGlobal_global (mg := c.mg) (by rw [V.glo]; exact ⟨o, es, ep, I.old _ _ e O.sX.2.1, r⟩) hx h) hd
theorem buil_ld (O : c.Ok) {x : Str} {pos : Pos} {v : Value} {s : Shared} {ι : Iota} {E Q : Value → Shared → Prop} (I : Inv c s ι μ) (V : EnvOk c env ρ s ι) (hk : env.kindOf x = some .globalImplicit) (hn : c.mg x = .none) (hx : c.mb x = some v) (hd : (x == ("__debug__" : Str)) = false)
    (h : Q v s) : wpAny (model c.prog c.w) A (eval (.Name x pos) env) Q E s := by
  obtain ⟨o, es, ep, e, r⟩ := O.g
  obtain ⟨o', es', ep', e', r'⟩ := O.b
  exact Calls.Name_function_global V.kind hk (Calls.loadGlobal_builtin (mg := c.mg) (mb := c.mb) (by rw [V.glo]; exact ⟨o, es, ep, I.old _ _ e O.sX.2.1, r⟩) hn
    (by rw [V.bi]; exact ⟨o', es', ep', I.old _ _ e' O.sX.2.2, r'⟩) hx h) hd
/-- a text that stands at the top under a name -/
theorem WE.glob_str {x : Str} {pos : Pos} {y : Str} {t : Tok} {K : PV → Mu → Prop} (O : c.Ok) (hx : c.mg x = some (.str y t)) (hk : env.kindOf x = some .globalImplicit) (hd : (x == ("__debug__" : Str)) = false) (h : K (.str y) μ) : WE c A (.Name x pos) env ρ μ K := ⟨fun s ι E Q I V hQ =>
  glob_ld O I V hk hx hd (hQ _ _ ι (.str y) μ (Step.refl ..) I (by simp only [RepV]; exact ⟨_, rfl⟩) h)⟩

theorem WE.bin {l r : Expr} {op : Operator} {pos : Pos} {K : PV → Mu → Prop} (O : c.Ok)
    (h : WE c A l env ρ μ fun p μ₁ => WE c A r env ρ μ₁ fun q μ₂ => WV c A (f2 (binaryOp op)) [p, q] μ₂ K) : WE c A (.BinOp l op r pos) env ρ μ K := ⟨fun s ι E Q I V hQ => by
  refine wpAny_BinOp (h.run s ι E _ I V fun a s₁ ι₁ p μ₁ S₁ I₁ r₁ k₁ => ?_)
  refine k₁.run s₁ ι₁ E _ I₁ (V.step O I S₁) fun b s₂ ι₂ q μ₂ S₂ I₂ r₂ k₂ => ?_
  exact k₂.run s₂ ι₂ E _ [a, b] I₂ (by simp only [RepL]; exact ⟨_, _, rfl, I₁.rep O S₂ r₁, _, _, rfl, r₂, rfl⟩) fun v s₃ ι₃ x μ₃ S₃ I₃ r₃ k₃ => hQ v s₃ ι₃ x μ₃ ((S₁.trans S₂).trans S₃) I₃ r₃ k₃⟩
theorem WE.cmp1 {l r : Expr} {op : CmpOp} {pos : Pos} {K : PV → Mu → Prop} (O : c.Ok)
    (h : WE c A l env ρ μ fun p μ₁ => WE c A r env ρ μ₁ fun q μ₂ => WV c A (f2 (compareOp op)) [p, q] μ₂ K) (hb : behindInMarks op r = false) : WE c A (.Compare l [op] [r] pos) env ρ μ K := ⟨fun s ι E Q I V hQ => by
  refine wpAny_Compare1 (h.run s ι E _ I V fun a s₁ ι₁ p μ₁ S₁ I₁ r₁ k₁ => ?_) hb
  refine k₁.run s₁ ι₁ E _ I₁ (V.step O I S₁) fun b s₂ ι₂ q μ₂ S₂ I₂ r₂ k₂ => ?_
  exact k₂.run s₂ ι₂ E _ [a, b] I₂ (by simp only [RepL]; exact ⟨_, _, rfl, I₁.rep O S₂ r₁, _, _, rfl, r₂, rfl⟩) fun v s₃ ι₃ x μ₃ S₃ I₃ r₃ k₃ => hQ v s₃ ι₃ x μ₃ ((S₁.trans S₂).trans S₃) I₃ r₃ k₃⟩
theorem WE.una {e : Expr} {op : UnaryOp} {pos : Pos} {K : PV → Mu → Prop}
    (h : WE c A e env ρ μ fun p μ₁ => WV c A (f1 (unaryOp op)) [p] μ₁ K) : WE c A (.UnaryOp op e pos) env ρ μ K := ⟨fun s ι E Q I V hQ => by
  refine wpAny_UnaryOp (h.run s ι E _ I V fun a s₁ ι₁ p μ₁ S₁ I₁ r₁ k₁ => ?_)
  exact k₁.run s₁ ι₁ E _ [a] I₁ (by simp only [RepL]; exact ⟨_, _, rfl, r₁, rfl⟩) fun v s₃ ι₃ x μ₃ S₃ I₃ r₃ k₃ => hQ v s₃ ι₃ x μ₃ (S₁.trans S₃) I₃ r₃ k₃⟩
theorem WE.ife {t b e : Expr} {pos : Pos} {K : PV → Mu → Prop} (O : c.Ok)
    (h : WB c A t env ρ μ fun x μ₁ => if x = true then WE c A b env ρ μ₁ K else WE c A e env ρ μ₁ K) : WE c A (.IfExp t b e pos) env ρ μ K := ⟨fun s ι E Q I V hQ => by
  refine wpAny_IfExp (h.run s ι E _ I V fun x s₁ ι₁ μ₁ S₁ I₁ k₁ => ?_)
  cases x with
  | true => exact k₁.run s₁ ι₁ E _ I₁ (V.step O I S₁) fun v s₂ ι₂ q μ₂ S₂ I₂ r₂ k₂ => hQ v s₂ ι₂ q μ₂ (S₁.trans S₂) I₂ r₂ k₂
  | false => exact k₁.run s₁ ι₁ E _ I₁ (V.step O I S₁) fun v s₂ ι₂ q μ₂ S₂ I₂ r₂ k₂ => hQ v s₂ ι₂ q μ₂ (S₁.trans S₂) I₂ r₂ k₂⟩

def notStar : Expr → Bool
  | .Starred .. => false
  | _ => true
theorem starEach_cons {e : Expr} {es : List Expr} (h : notStar e = true) : starEach (e :: es) env = (false, eval e env) :: starEach es env := by
  cases e <;> first | rfl | cases h
theorem WEs.nil {K : List PV → Mu → Prop} (h : K [] μ) : WEs c A [] env ρ μ K := ⟨fun s ι E Q pos I V hQ =>
  Calls.spliced_nil (hQ [] s ι [] μ (Step.refl ..) I (by simp only [RepL]) h)⟩
theorem WEs.cons {e : Expr} {es : List Expr} {K : List PV → Mu → Prop} (O : c.Ok) (h : WE c A e env ρ μ fun p μ₁ => WEs c A es env ρ μ₁ fun ps μ₂ => K (p :: ps) μ₂) (hs : notStar e = true) : WEs c A (e :: es) env ρ μ K := ⟨fun s ι E Q pos I V hQ => by
  rw [starEach_cons hs]
  refine Calls.spliced_cons (h.run s ι E _ I V fun a s₁ ι₁ p μ₁ S₁ I₁ r₁ k₁ => ?_)
  refine k₁.run s₁ ι₁ E _ pos I₁ (V.step O I S₁) fun vs s₂ ι₂ ps μ₂ S₂ I₂ r₂ k₂ => ?_
  exact hQ _ s₂ ι₂ (p :: ps) μ₂ (S₁.trans S₂) I₂ (by simp only [RepL]; exact ⟨_, _, rfl, I₁.rep O S₂ r₁, r₂⟩) k₂⟩

/-- a new tuple of values in hand -/
theorem tup_new (O : c.Ok) {s : Shared} {ι : Iota} {ps : List PV} {vs : List Value} (I : Inv c s ι μ) (r : RepL s.heap ι ps vs) :
    Step c s ι { s with heap := s.heap.push (tupOf vs 0) } ι ∧ Inv c { s with heap := s.heap.push (tupOf vs 0) } ι μ ∧ RepV (s.heap.push (tupOf vs 0)) ι (.tup ps) (.ref s.heap.objs.size) := by
  have t := I.grow O (s' := { s with heap := s.heap.push (tupOf vs 0) }) (fun b o e => Heap.get?_push_of_some _ e) I.bare rfl I.tp
  refine ⟨t.2, t.1, ?_⟩
  simp only [RepV]
  exact ⟨_, vs, 0, rfl, Heap.get?_push_size _ rfl, I.repL O t.2 r⟩
theorem WE.tuple {es : List Expr} {k : Nat} {pos : Pos} {K : PV → Mu → Prop} (O : c.Ok) (h : WEs c A es env ρ μ fun ps μ₁ => ps.length ≤ 1000 ∧ K (.tup ps) μ₁) : WE c A (.Tuple es k pos) env ρ μ K := ⟨fun s ι E Q I V hQ => by
  refine wpAny_Tuple_spliced (h.run s ι E _ pos I V fun vs s₁ ι₁ ps μ₁ S₁ I₁ r₁ k₁ => ?_)
  have hl : vs.length = ps.length := RepL.length ps vs r₁
  have t := tup_new O I₁ r₁
  exact ⟨by rw [hl, sizeLine_eq]; exact Nat.le_trans k₁.1 (by decide), hQ _ _ ι₁ (.tup ps) μ₁ (S₁.trans t.1) t.2.1 t.2.2 k₁.2⟩⟩

/-- a new list of values in hand -/
theorem lst_new (O : c.Ok) {s : Shared} {ι : Iota} {ps : List PV} {vs : List Value} (I : Inv c s ι μ) (r : RepL s.heap ι ps vs) {h' : Heap} {D : Addr} {n : Nat} (hD : s.heap.get? D = .none) (e : h'.get? D = some (lstOf vs n)) (k : ∀ b o, s.heap.get? b = some o → h'.get? b = some o) {tk : Nat} (htk : 0 < tk) :
    Step c s ι { s with heap := h', toks := tk } (ι ++ [D]) ∧ Inv c { s with heap := h', toks := tk } (ι ++ [D]) (μ ++ [.lst ps]) ∧ RepV h' (ι ++ [D]) (.loc μ.length) (.ref D) := by
  have S : Step c s ι { s with heap := h', toks := tk } (ι ++ [D]) := ⟨fun b o e _ _ => k b o e, fun b o e => ⟨o, k b o e⟩, [D], rfl, fun a ha => by rw [List.mem_singleton.mp ha]; exact hD⟩
  have hB : c.hB.get? D = .none := by
    cases q : c.hB.get? D with
    | none => rfl
    | some o =>
      by_cases hx : D ∈ c.X
      · obtain ⟨vs', e'⟩ := O.tX _ I.tab D hx
        rw [hD] at e'; cases e'
      · rw [I.old D o q hx] at hD; cases hD
  have hDi : D ∉ ι := fun hm => by
    obtain ⟨o, e', _⟩ := I.at hm
    rw [hD] at e'; cases e'
  refine ⟨S, ⟨fun b o e hX => k _ _ (I.old b o e hX), fun a ha => ?_, by simp [I.len], ?_, fun i a m hi hm => ?_, O.tk _ _ I.tab fun b o e _ _ => k b o e, I.bare, I.os, htk⟩, ?_⟩
  · rcases List.mem_append.mp ha with h | h
    · exact I.new a h
    · rw [List.mem_singleton.mp h]; exact hB
  · rw [List.nodup_append]
    refine ⟨I.nodup, by simp, fun a ha b hb q => ?_⟩
    rw [List.mem_singleton.mp hb] at q
    exact hDi (q ▸ ha)
  · by_cases hl : i < ι.length
    · rw [List.getElem?_append_left hl] at hi
      rw [List.getElem?_append_left (by rw [← I.len]; exact hl)] at hm
      have x := I.mo i a m hi hm
      cases m with
      | lst ps => obtain ⟨vs, n, e, r⟩ := x; exact ⟨vs, n, k _ _ e, I.repL O S r⟩
      | pil q its =>
        obtain ⟨d, vs, n, e, ⟨hsh, tk, tk', m', ed⟩, hn, r⟩ := x
        exact ⟨d, vs, n, k _ _ e, ⟨hsh, tk, tk', m', k _ _ ed⟩, hn, I.repL O S r⟩
    · have hi' : i = ι.length := by
        have := (List.getElem?_eq_some_iff.mp hi).1
        simp at this; omega
      subst hi'
      simp at hi
      have hm' : (MO.lst ps) = m := by
        rw [List.getElem?_append_right (by rw [I.len]; exact Nat.le_refl _)] at hm
        simpa [I.len] using hm
      subst hi hm'
      exact ⟨vs, n, e, I.repL O S r⟩
  · simp only [RepV]
    exact ⟨D, rfl, by rw [← I.len]; simp⟩
theorem fresh_size (h : Heap) : h.get? h.objs.size = .none := by
  cases e : h.get? h.objs.size with
  | none => rfl
  | some o => exact absurd (Heap.lt_size e) (Nat.lt_irrefl _)
theorem WE.list {es : List Expr} {pos : Pos} {K : PV → Mu → Prop} (O : c.Ok) (h : WEs c A es env ρ μ fun ps μ₁ => ps.length ≤ 1000 ∧ K (.loc μ₁.length) (μ₁ ++ [.lst ps])) : WE c A (.List es pos) env ρ μ K := ⟨fun s ι E Q I V hQ => by
  refine wpAny_List_spliced (h.run s ι E _ pos I V fun vs s₁ ι₁ ps μ₁ S₁ I₁ r₁ k₁ => ?_)
  have hl : vs.length = ps.length := RepL.length ps vs r₁
  have t := lst_new O I₁ r₁ (h' := s₁.heap.push (lstOf vs 0)) (D := s₁.heap.objs.size) (n := 0) (tk := s₁.toks) (fresh_size _) (Heap.get?_push_size _ rfl) (fun b o e => Heap.get?_push_of_some _ e) I₁.tp
  exact ⟨by rw [hl, sizeLine_eq]; exact Nat.le_trans k₁.1 (by decide), hQ _ _ _ _ _ (S₁.trans t.1) t.2.1 t.2.2 k₁.2⟩⟩
end
end Mine
namespace Mine

inductive UpdI : Rho → Str → PV → Rho → Prop
  | nil {x p} : UpdI [] x p [(x, p)]
  | head {x p q r} : UpdI ((x, q) :: r) x p ((x, p) :: r)
  | tail {x y p q r r'} : y ≠ x → UpdI r x p r' → UpdI ((y, q) :: r) x p ((y, q) :: r')
theorem UpdI.keys {ρ ρ' : Rho} {x : Str} {p : PV} (u : UpdI ρ x p ρ') : ∀ y, y ∈ ρ'.map (·.1) → y = x ∨ y ∈ ρ.map (·.1) := by
  induction u with
  | nil => intro y hy; simp at hy; exact .inl hy
  | head => intro y hy; rw [List.map_cons, List.mem_cons] at hy ⊢; exact .inr hy
  | tail hne _ ih =>
    intro y hy
    rw [List.map_cons, List.mem_cons] at hy
    rcases hy with h | h
    · exact .inr (by rw [List.map_cons]; exact List.mem_cons.mpr (.inl h))
    · rcases ih y h with h | h
      · exact .inl h
      · exact .inr (by rw [List.map_cons]; exact List.mem_cons.mpr (.inr h))
theorem UpdI.nd {ρ ρ' : Rho} {x : Str} {p : PV} (u : UpdI ρ x p ρ') (h : (ρ.map (·.1)).Nodup) : (ρ'.map (·.1)).Nodup := by
  induction u with
  | nil => simp
  | head => simpa using h
  | tail hne u ih =>
    rw [List.map_cons, List.nodup_cons] at h ⊢
    refine ⟨fun hm => ?_, ih h.2⟩
    rcases u.keys _ hm with q | q
    · exact hne q
    · exact h.1 q
theorem UpdI.mem {ρ ρ' : Rho} {x : Str} {p : PV} (u : UpdI ρ x p ρ') (h : (ρ.map (·.1)).Nodup) : ∀ y q, (y, q) ∈ ρ' → (y = x ∧ q = p) ∨ (y ≠ x ∧ (y, q) ∈ ρ) := by
  induction u with
  | nil => intro y q hy; simp at hy; exact .inl hy
  | head =>
    intro y q hy
    rw [List.map_cons, List.nodup_cons] at h
    rcases List.mem_cons.mp hy with e | hy
    · cases e; exact .inl ⟨rfl, rfl⟩
    · refine .inr ⟨fun e => h.1 ?_, .tail _ hy⟩
      rw [← e]; exact List.mem_map.mpr ⟨_, hy, rfl⟩
  | tail hne u ih =>
    intro y q hy
    rw [List.map_cons, List.nodup_cons] at h
    rcases List.mem_cons.mp hy with e | hy
    · cases e; exact .inr ⟨hne, .head _⟩
    · rcases ih h.2 y q hy with h | ⟨a, b⟩
      · exact .inl h
      · exact .inr ⟨a, .tail _ b⟩

structure StepF (c : Cx) (env : Env) (s : Shared) (ι : Iota) (s' : Shared) (ι' : Iota) : Prop where
  keep : ∀ b o, s.heap.get? b = some o → b ∉ ι → b ∉ c.X → b ≠ env.locals → (∀ x, env.cells.lookup x ≠ some b) → s'.heap.get? b = some o
  there : ∀ b o, s.heap.get? b = some o → ∃ o', s'.heap.get? b = some o'
  ext : ∃ l, ι' = ι ++ l ∧ ∀ a ∈ l, s.heap.get? a = none
theorem Step.f {c : Cx} {env : Env} {s s' : Shared} {ι ι' : Iota} (S : Step c s ι s' ι') : StepF c env s ι s' ι' := ⟨fun b o e h1 h2 _ _ => S.keep b o e h1 h2, S.there, S.ext⟩
theorem StepF.refl (c : Cx) (env : Env) (s : Shared) (ι : Iota) : StepF c env s ι s ι := (Step.refl ..).f
theorem StepF.off {c : Cx} {env : Env} {s s' : Shared} {ι ι' : Iota} (x : StepF c env s ι s' ι') {b : Addr} {o : Obj} (e : s.heap.get? b = some o) (hb : b ∉ ι) : b ∉ ι' := fun hm => by
  obtain ⟨l, rfl, hl⟩ := x.ext
  rcases List.mem_append.mp hm with h | h
  · exact hb h
  · rw [hl b h] at e; cases e
theorem StepF.trans {c : Cx} {env : Env} {s s₁ s₂ : Shared} {ι ι₁ ι₂ : Iota} (x : StepF c env s ι s₁ ι₁) (y : StepF c env s₁ ι₁ s₂ ι₂) : StepF c env s ι s₂ ι₂ := by
  refine ⟨fun b o e hb hX hL hC => y.keep b o (x.keep b o e hb hX hL hC) (x.off e hb) hX hL hC, fun b o e => ?_, ?_⟩
  · obtain ⟨o', e'⟩ := x.there b o e
    exact y.there b o' e'
  · obtain ⟨l, rfl, hl⟩ := x.ext
    obtain ⟨l', rfl, hl'⟩ := y.ext
    refine ⟨l ++ l', by simp, fun a ha => ?_⟩
    rcases List.mem_append.mp ha with h | h
    · exact hl a h
    · cases q : s.heap.get? a with
      | none => rfl
      | some o => obtain ⟨o', e'⟩ := x.there a o q; rw [hl' a h] at e'; cases e'

theorem Inv.immF {c : Cx} (O : c.Ok) {env : Env} {ρ : Rho} {s s' : Shared} {ι ι' : Iota} {μ : Mu} (I : Inv c s ι μ) (V : EnvOk c env ρ s ι) (S : StepF c env s ι s' ι') (b : Addr) (o : Obj) (e : s.heap.get? b = some o) (hc : Imm o) : s'.heap.get? b = some o := by
  have h := I.off O e hc.ne.1 hc.ne.2.1 hc.ne.2.2.1
  refine S.keep b o e h.1 h.2 (fun q => ?_) fun x q => ?_
  · obtain ⟨m, ⟨oL, es, ep, eL, hd, _⟩, _, _⟩ := V.ns
    rw [q, eL] at e; cases e
    exact hc.ne.2.2.2.1 _ _ hd
  · obtain ⟨⟨v, o', e', d'⟩, _⟩ := V.cell x b q
    rw [e] at e'; cases e'
    exact hc.ne.2.2.2.2 _ d'
theorem Inv.repF {c : Cx} (O : c.Ok) {env : Env} {ρ : Rho} {s s' : Shared} {ι ι' : Iota} {μ : Mu} (I : Inv c s ι μ) (V : EnvOk c env ρ s ι) (S : StepF c env s ι s' ι') {p : PV} {v : Value} (r : RepV s.heap ι p v) : RepV s'.heap ι' p v := by
  obtain ⟨l, rfl, _⟩ := S.ext
  exact RepV.mono (I.immF O V S) p v r
theorem Inv.repLF {c : Cx} (O : c.Ok) {env : Env} {ρ : Rho} {s s' : Shared} {ι ι' : Iota} {μ : Mu} (I : Inv c s ι μ) (V : EnvOk c env ρ s ι) (S : StepF c env s ι s' ι') {p : List PV} {v : List Value} (r : RepL s.heap ι p v) : RepL s'.heap ι' p v := by
  obtain ⟨l, rfl, _⟩ := S.ext
  exact RepL.mono (I.immF O V S) p v r

theorem dict_ne {c : Cx} {env : Env} {ρ : Rho} {s : Shared} {ι : Iota} (V : EnvOk c env ρ s ι) {d : Addr} {k : Int} (h : dictIs s.heap d k) : d ≠ env.locals ∧ ∀ x, env.cells.lookup x ≠ some d := by
  obtain ⟨hsh, tk, tk', m', ed⟩ := h
  refine ⟨fun q => ?_, fun x q => ?_⟩
  · obtain ⟨m, ⟨oL, es, ep, eL, hd, _, hf⟩, hi, _⟩ := V.ns
    rw [q, eL] at ed; cases ed
    cases hd
    have := hf ("_initial_size" : Str)
    rw [hi] at this
    simp [nsFind, findBy, Value.isStr] at this
  · obtain ⟨⟨v, o', e', d'⟩, _⟩ := V.cell x d q
    rw [ed] at e'; cases e'
    cases d'

/-- the frame's own things turn -/
theorem Inv.frame {c : Cx} (O : c.Ok) {env : Env} {ρ : Rho} {s s' : Shared} {ι : Iota} {μ : Mu} (I : Inv c s ι μ) (V : EnvOk c env ρ s ι) (S : StepF c env s ι s' ι)
    (k : ∀ b o, s.heap.get? b = some o → b ≠ env.locals → (∀ x, env.cells.lookup x ≠ some b) → s'.heap.get? b = some o) (hg : AllBare s'.gens) (ho : s'.os = s.os) (ht : 0 < s'.toks) : Inv c s' ι μ := by
  have nl : ∀ b, b ∈ ι → b ≠ env.locals ∧ ∀ x, env.cells.lookup x ≠ some b := fun b hb => ⟨fun q => V.loc.1 (q ▸ hb), fun x q => (V.cell x b q).2.1 hb⟩
  refine ⟨fun b o e hX => k _ _ (I.old b o e hX) (fun q => ?_) fun x q => ?_, I.new, I.len, I.nodup, fun i a m hi hm => ?_, O.tk _ _ I.tab fun b o e _ hc => k b o e (fun q => ?_) fun x q => ?_, hg, ho.trans I.os, ht⟩
  · rw [q, V.loc.2.2] at e; cases e
  · rw [(V.cell x b q).2.2.2.2] at e; cases e
  · have x := I.mo i a m hi hm
    have na := nl a (List.mem_of_getElem? hi)
    cases m with
    | lst ps => obtain ⟨vs, n, e, r⟩ := x; exact ⟨vs, n, k _ _ e na.1 na.2, I.repLF O V S r⟩
    | pil q its =>
      obtain ⟨d, vs, n, e, hd, hn, r⟩ := x
      have nd := dict_ne V hd
      obtain ⟨hsh, tk, tk', m', ed⟩ := hd
      exact ⟨d, vs, n, k _ _ e na.1 na.2, ⟨hsh, tk, tk', m', k _ _ ed nd.1 nd.2⟩, hn, I.repLF O V S r⟩
  · obtain ⟨m, ⟨oL, es, ep, eL, hd, _⟩, _, _⟩ := V.ns
    rw [q, eL] at e; cases e
    obtain ⟨vs, hc⟩ := hc
    rw [hd] at hc; cases hc
  · obtain ⟨⟨v, o', e', d'⟩, _⟩ := V.cell x b q
    rw [e] at e'; cases e'
    obtain ⟨vs, hc⟩ := hc
    rw [d'] at hc; cases hc

/-- a store under a name of the frame -/
theorem store_run {c : Cx} (O : c.Ok) {A : Around} {env : Env} {ρ ρ' : Rho} {s : Shared} {ι : Iota} {μ : Mu} {x : Str} {p : PV} {v : Value} {E : Value → Shared → Prop} {Q : Unit → Shared → Prop}
    (I : Inv c s ι μ) (V : EnvOk c env ρ s ι) (r : RepV s.heap ι p v) (u : UpdI ρ x p ρ')
    (hk : env.kindOf x = some .local ∨ (env.kindOf x = some .cell ∧ (env.cells.lookup x).isSome = true)) (hd : (x == ("__debug__" : Str)) = false)
    (h : ∀ s', StepF c env s ι s' ι → Inv c s' ι μ → EnvOk c env ρ' s' ι → Q () s') : wpAny (model c.prog c.w) A (storeName env x v) Q E s := by
  obtain ⟨m, hn, hi, hm⟩ := V.ns
  have xi : x ≠ ("_initial_size" : Str) := fun q => by
    have := V.ini
    rcases hk with a | ⟨a, _⟩ <;> rw [q, this] at a <;> cases a
  rcases hk with hk | ⟨hk, hc⟩
  · have hp : (env.scope.kind == .class || (env.scope.kind == .module && env.locals != env.globals)) = false := by rw [V.kind]; rfl
    refine wpAny_storeName_local hk hn (fun h' hn' hs' => ?_) hp
    have S : StepF c env s ι { s with heap := h', toks := s.toks + 1 } ι := ⟨fun b o e _ _ hb _ => hs'.extBut b o hb e, fun b o e => by
      by_cases hb : b = env.locals
      · subst hb; obtain ⟨o', _, _, e', _⟩ := hn'; exact ⟨o', e'⟩
      · exact ⟨o, hs'.extBut b o hb e⟩, [], by simp, by simp⟩
    have I' := I.frame O V S (fun b o e hb _ => hs'.extBut b o hb e) I.bare rfl (Nat.succ_pos _)
    refine h _ S I' ⟨V.kind, V.glo, V.bi, V.ini, ⟨_, hn', by rw [if_neg (Ne.symm xi)]; exact hi, fun y q hy => ?_⟩, u.nd V.nd, V.loc, fun y cc hcc => ?_, V.inj⟩
    · rcases u.mem V.nd y q hy with ⟨rfl, rfl⟩ | ⟨hne, hy⟩
      · exact ⟨hd, .inl ⟨hk, v, by simp, I.repF O V S r⟩⟩
      · obtain ⟨h1, h2⟩ := hm y q hy
        refine ⟨h1, ?_⟩
        rcases h2 with ⟨a, v', b, r'⟩ | ⟨a, cc, v', b, ⟨o, e, d⟩, r'⟩
        · exact .inl ⟨a, v', (if_neg hne).trans b, I.repF O V S r'⟩
        · exact .inr ⟨a, cc, v', b, ⟨o, hs'.extBut _ _ (V.cell y cc b).2.2.2.1 e, d⟩, I.repF O V S r'⟩
    · obtain ⟨⟨v', o, e, d⟩, h1, h2, h3, h4⟩ := V.cell y cc hcc
      exact ⟨⟨v', o, hs'.extBut _ _ h3 e, d⟩, h1, h2, h3, h4⟩
  · obtain ⟨cc, hcc⟩ := Option.isSome_iff_exists.mp hc
    obtain ⟨⟨v₀, hv₀⟩, c1, c2, c3, c4⟩ := V.cell x cc hcc
    refine wpAny_storeName_cell V.kind hk hcc hv₀ fun h' hv' hs' => ?_
    have S : StepF c env s ι { s with heap := h' } ι := ⟨fun b o e _ _ _ hb => hs'.extBut b o (fun q => hb x (q ▸ hcc)) e, fun b o e => by
      by_cases hb : b = cc
      · subst hb; obtain ⟨o', e', _⟩ := hv'; exact ⟨o', e'⟩
      · exact ⟨o, hs'.extBut b o hb e⟩, [], by simp, by simp⟩
    have I' := I.frame O V S (fun b o e _ hb => hs'.extBut b o (fun q => hb x (q ▸ hcc)) e) I.bare rfl I.tp
    refine h _ S I' ⟨V.kind, V.glo, V.bi, V.ini, ⟨m, hn.sameBut hs' (Ne.symm c3), hi, fun y q hy => ?_⟩, u.nd V.nd, V.loc, fun y cc' hcc' => ?_, V.inj⟩
    · rcases u.mem V.nd y q hy with ⟨rfl, rfl⟩ | ⟨hne, hy⟩
      · exact ⟨hd, .inr ⟨.inl hk, cc, v, hcc, hv', I.repF O V S r⟩⟩
      · obtain ⟨h1, h2⟩ := hm y q hy
        refine ⟨h1, ?_⟩
        rcases h2 with ⟨a, v', b, r'⟩ | ⟨a, cc', v', b, ⟨o, e, d⟩, r'⟩
        · exact .inl ⟨a, v', b, I.repF O V S r'⟩
        · exact .inr ⟨a, cc', v', b, ⟨o, hs'.extBut _ _ (fun q => hne (V.inj y x cc (q ▸ b) hcc)) e, d⟩, I.repF O V S r'⟩
    · obtain ⟨⟨v', o, e, d⟩, h1, h2, h3, h4⟩ := V.cell y cc' hcc'
      by_cases q : cc' = cc
      · subst q; exact ⟨⟨_, hv'⟩, h1, h2, h3, h4⟩
      · exact ⟨⟨v', o, hs'.extBut _ _ q e, d⟩, h1, h2, h3, h4⟩

/-- fewer names -/
theorem EnvOk.less {c : Cx} {env : Env} {ρ ρ' : Rho} {s : Shared} {ι : Iota} (V : EnvOk c env ρ s ι) (h : ∀ y ∈ ρ', y ∈ ρ) (nd : (ρ'.map (·.1)).Nodup) : EnvOk c env ρ' s ι := by
  obtain ⟨m, hn, hi, hm⟩ := V.ns
  exact ⟨V.kind, V.glo, V.bi, V.ini, ⟨m, hn, hi, fun x p hx => hm x p (h _ hx)⟩, nd, V.loc, V.cell, V.inj⟩

inductive PF where
  | next | brk | cont
  | ret (p : PV)
def RepF (h : Heap) (ι : Iota) : PF → Flow → Prop
  | .next, f => f = .next
  | .brk, f => f = .brk
  | .cont, f => f = .cont
  | .ret p, f => ∃ v, f = .ret v ∧ RepV h ι p v

structure WS (c : Cx) (A : Around) (st : Stmt) (env : Env) (ρ : Rho) (μ : Mu) (K : PF → Rho → Mu → Prop) : Prop where
  run : ∀ (s : Shared) (ι : Iota) (E : Value → Shared → Prop) (Q : Flow → Shared → Prop), Inv c s ι μ → EnvOk c env ρ s ι →
    (∀ f s' ι' pf ρ' μ', StepF c env s ι s' ι' → Inv c s' ι' μ' → EnvOk c env ρ' s' ι' → RepF s'.heap ι' pf f → K pf ρ' μ' → Q f s') → wpAny (model c.prog c.w) A (exec st env) Q E s
structure WSs (c : Cx) (A : Around) (st : List Stmt) (env : Env) (ρ : Rho) (μ : Mu) (K : PF → Rho → Mu → Prop) : Prop where
  run : ∀ (s : Shared) (ι : Iota) (E : Value → Shared → Prop) (Q : Flow → Shared → Prop), Inv c s ι μ → EnvOk c env ρ s ι →
    (∀ f s' ι' pf ρ' μ', StepF c env s ι s' ι' → Inv c s' ι' μ' → EnvOk c env ρ' s' ι' → RepF s'.heap ι' pf f → K pf ρ' μ' → Q f s') → wpAny (model c.prog c.w) A (execs st env) Q E s
/-- an assignment of a value in hand to a target -/
structure WA (c : Cx) (A : Around) (t : Expr) (env : Env) (p : PV) (ρ : Rho) (μ : Mu) (K : Rho → Prop) : Prop where
  run : ∀ (s : Shared) (ι : Iota) (E : Value → Shared → Prop) (Q : Unit → Shared → Prop) (v : Value), Inv c s ι μ → EnvOk c env ρ s ι → RepV s.heap ι p v →
    (∀ s' ρ', StepF c env s ι s' ι → Inv c s' ι μ → EnvOk c env ρ' s' ι → K ρ' → Q () s') → wpAny (model c.prog c.w) A (assign t env v) Q E s

section
variable {c : Cx} {A : Around} {env : Env} {ρ : Rho} {μ : Mu} {K : PF → Rho → Mu → Prop}

theorem WS.mono {st : Stmt} {K K' : PF → Rho → Mu → Prop} (h : WS c A st env ρ μ K) (k : ∀ f p m, K f p m → K' f p m) : WS c A st env ρ μ K' :=
  ⟨fun s ι E Q I V hQ => h.run s ι E Q I V fun f s' ι' pf ρ' μ' S I' V' r x => hQ f s' ι' pf ρ' μ' S I' V' r (k _ _ _ x)⟩
theorem WSs.mono {st : List Stmt} {K K' : PF → Rho → Mu → Prop} (h : WSs c A st env ρ μ K) (k : ∀ f p m, K f p m → K' f p m) : WSs c A st env ρ μ K' :=
  ⟨fun s ι E Q I V hQ => h.run s ι E Q I V fun f s' ι' pf ρ' μ' S I' V' r x => hQ f s' ι' pf ρ' μ' S I' V' r (k _ _ _ x)⟩

theorem WSs.nil (h : K .next ρ μ) : WSs c A [] env ρ μ K := ⟨fun s ι E Q I V hQ => wpAny_execs_nil (hQ _ s ι .next ρ μ (StepF.refl ..) I V rfl h)⟩
abbrev thenK (c : Cx) (A : Around) (rest : List Stmt) (env : Env) (K : PF → Rho → Mu → Prop) (f : PF) (ρ : Rho) (μ : Mu) : Prop := match f with
  | .next => WSs c A rest env ρ μ K
  | f => K f ρ μ
theorem WSs.cons {st : Stmt} {rest : List Stmt} (O : c.Ok) (h : WS c A st env ρ μ (thenK c A rest env K)) : WSs c A (st :: rest) env ρ μ K := ⟨fun s ι E Q I V hQ => by
  refine wpAny_execs_cons (h.run s ι E _ I V fun f s₁ ι₁ pf ρ₁ μ₁ S₁ I₁ V₁ r₁ k₁ => ?_)
  cases pf with
  | next =>
    simp only [RepF] at r₁; subst r₁
    exact WSs.run k₁ s₁ ι₁ E Q I₁ V₁ fun f s₂ ι₂ pf ρ₂ μ₂ S₂ I₂ V₂ r₂ k₂ => hQ f s₂ ι₂ pf ρ₂ μ₂ (S₁.trans S₂) I₂ V₂ r₂ k₂
  | brk => simp only [RepF] at r₁; subst r₁; exact hQ _ s₁ ι₁ .brk ρ₁ μ₁ S₁ I₁ V₁ rfl k₁
  | cont => simp only [RepF] at r₁; subst r₁; exact hQ _ s₁ ι₁ .cont ρ₁ μ₁ S₁ I₁ V₁ rfl k₁
  | ret p =>
    simp only [RepF] at r₁
    obtain ⟨v, rfl, r₁⟩ := r₁
    exact hQ _ s₁ ι₁ (.ret p) ρ₁ μ₁ S₁ I₁ V₁ ⟨v, rfl, r₁⟩ k₁⟩

theorem WS.ret {e : Expr} {pos : Pos} (O : c.Ok) (h : WE c A e env ρ μ fun p μ' => K (.ret p) ρ μ') : WS c A (.Return (some e) pos) env ρ μ K := ⟨fun s ι E Q I V hQ =>
  wpAny_Return_some (h.run s ι E _ I V fun v s' ι' p μ' S I' r k => hQ _ s' ι' (.ret p) ρ μ' S.f I' (V.step O I S) ⟨v, rfl, r⟩ k)⟩
theorem WS.ite {t : Expr} {b e : List Stmt} {pos : Pos} (O : c.Ok) (h : WB c A t env ρ μ fun x μ₁ => if x = true then WSs c A b env ρ μ₁ K else WSs c A e env ρ μ₁ K) : WS c A (.If t b e pos) env ρ μ K := ⟨fun s ι E Q I V hQ => by
  refine wpAny_If (h.run s ι E _ I V fun x s₁ ι₁ μ₁ S₁ I₁ k₁ => ?_)
  cases x with
  | true => exact WSs.run k₁ s₁ ι₁ E Q I₁ (V.step O I S₁) fun f s₂ ι₂ pf ρ₂ μ₂ S₂ I₂ V₂ r₂ k₂ => hQ f s₂ ι₂ pf ρ₂ μ₂ (S₁.f.trans S₂) I₂ V₂ r₂ k₂
  | false => exact WSs.run k₁ s₁ ι₁ E Q I₁ (V.step O I S₁) fun f s₂ ι₂ pf ρ₂ μ₂ S₂ I₂ V₂ r₂ k₂ => hQ f s₂ ι₂ pf ρ₂ μ₂ (S₁.f.trans S₂) I₂ V₂ r₂ k₂⟩
theorem WS.assert_ {t : Expr} {msg : Option Expr} {pos : Pos} (O : c.Ok) (h : WB c A t env ρ μ fun x μ₁ => x = true ∧ K .next ρ μ₁) : WS c A (.Assert t msg pos) env ρ μ K := ⟨fun s ι E Q I V hQ =>
  wpAny_Assert_holds (h.run s ι E _ I V fun x s₁ ι₁ μ₁ S₁ I₁ k₁ => ⟨k₁.1, hQ _ s₁ ι₁ .next ρ μ₁ S₁.f I₁ (V.step O I S₁) rfl k₁.2⟩)⟩

theorem WA.name {x : Str} {pos : Pos} {p : PV} {K : Rho → Prop} {ρ' : Rho} (O : c.Ok) (u : UpdI ρ x p ρ')
    (hk : env.kindOf x = some .local ∨ (env.kindOf x = some .cell ∧ (env.cells.lookup x).isSome = true)) (hd : (x == ("__debug__" : Str)) = false) (h : K ρ') : WA c A (.Name x pos) env p ρ μ K := ⟨fun s ι E Q v I V r hQ =>
  wpAny_assign_Name (store_run O I V r u hk hd fun s' S I' V' => hQ s' ρ' S I' V' h)⟩

theorem WS.assign_name {x : Str} {pos' pos : Pos} {e : Expr} (O : c.Ok) 
    (h : WE c A e env ρ μ fun p μ' => ∃ ρ', UpdI ρ x p ρ' ∧ K .next ρ' μ') (hk : env.kindOf x = some .local ∨ (env.kindOf x = some .cell ∧ (env.cells.lookup x).isSome = true)) (hd : (x == ("__debug__" : Str)) = false)
    (hs : swapsWith e (some (.Name x pos')) pos.line env = pure false) : WS c A (.Assign [.Name x pos'] e pos) env ρ μ K := ⟨fun s ι E Q I V hQ => by
  refine wpAny_Assign_Name (h.run s ι E _ I V fun v s' ι' p μ' S I' r k => ?_) hs
  obtain ⟨ρ', u, k⟩ := k
  exact store_run O I' (V.step O I S) r u hk hd fun s₂ S₂ I₂ V₂ => hQ _ s₂ ι' .next ρ' μ' (S.f.trans S₂) I₂ V₂ rfl k⟩
theorem WS.aug_name {x : Str} {pos' pos : Pos} {op : Operator} {e : Expr} {q : PV} (O : c.Ok) (hx : (x, q) ∈ ρ)
    (h : WE c A e env ρ μ fun p μ' => WV c A (f2 (inplaceOp op)) [q, p] μ' fun r μ'' => ∃ ρ', UpdI ρ x r ρ' ∧ K .next ρ' μ'') (hk : env.kindOf x = some .local ∨ (env.kindOf x = some .cell ∧ (env.cells.lookup x).isSome = true)) (hd : (x == ("__debug__" : Str)) = false) :
    WS c A (.AugAssign (.Name x pos') op e pos) env ρ μ K := ⟨fun s ι E Q I V hQ => by
  refine wpAny_AugAssign_Name (name_run V hx fun v₀ r₀ => ?_)
  refine h.run s ι E _ I V fun v s₁ ι₁ p μ₁ S₁ I₁ r₁ k₁ => ?_
  refine k₁.run s₁ ι₁ E _ [v₀, v] I₁ (by simp only [RepL]; exact ⟨_, _, rfl, I.rep O S₁ r₀, _, _, rfl, r₁, rfl⟩) fun v₂ s₂ ι₂ p₂ μ₂ S₂ I₂ r₂ k₂ => ?_
  obtain ⟨ρ', u, k⟩ := k₂
  exact store_run O I₂ ((V.step O I S₁).step O I₁ S₂) r₂ u hk hd fun s₃ S₃ I₃ V₃ => hQ _ s₃ ι₂ .next ρ' μ₂ ((S₁.trans S₂).f.trans S₃) I₃ V₃ rfl k⟩
end
end Mine
local macro_rules | `(tactic| walk_at "u") => `(tactic| repeat (first | with_reducible exact Mine.UpdI.nil | with_reducible exact Mine.UpdI.head | (apply Mine.UpdI.tail; (· with_unfolding_all decide))))
namespace Mine

def signPV (n : Nat) : PV := .str ⟨#[n]⟩
def itemsOf (μ : Mu) : PV → Option (List PV)
  | .loc i => match μ[i]? with
    | some (.lst l) => some l
    | some (.pil _ l) => some (l.map pairPV)
    | none => none
  | .str x => some (x.cps.toList.map signPV)
  | .rng lo hi => some ((List.range (hi - lo).toNat).map fun (k : Nat) => .int (lo + (k : Int)))
  | .tup l => some l
  | _ => none

/-- the iterator I over p stands at place j -/
def IterAt (h : Heap) (ι : Iota) (I : Addr) (j : Nat) : PV → Prop
  | .loc i => ∃ a, ι[i]? = some a ∧ h.IsListIter I a j
  | .str x => ∃ T t, (T = "str_ascii_iterator" ∨ T = "str_iterator") ∧ h.IsStrIter I T x t j
  | .rng lo hi => IsRangeIter h I (lo + j) (((hi - lo).toNat : Int) - j) 1
  | .tup ps => ∃ a vs n, h.IsTupleIter I a j ∧ h.get? a = some (tupOf vs n) ∧ RepL h ι ps vs
  | _ => False

/-- an iterator's object -/
def isIter (o : Obj) : Prop := (∃ T, o.cls = .type T ∧ (T = "list_iterator" ∨ T = "str_ascii_iterator" ∨ T = "str_iterator" ∨ T = "range_iterator" ∨ T = "tuple_iterator")) ∧ ∃ vs, o.data = .fields vs
theorem IterAt.obj {h : Heap} {ι : Iota} {I : Addr} {j : Nat} {p : PV} (x : IterAt h ι I j p) : ∃ o, h.get? I = some o ∧ isIter o := by
  cases p <;> simp only [IterAt] at x
  case loc i => obtain ⟨a, _, o, e, hc, hd⟩ := x; exact ⟨o, e, ⟨_, hc, .inl rfl⟩, _, hd⟩
  case str y => obtain ⟨T, t, hT, o, e, hc, hd⟩ := x; exact ⟨o, e, ⟨T, hc, by rcases hT with h | h <;> simp [h]⟩, _, hd⟩
  case rng lo hi => exact ⟨_, x, ⟨_, rfl, by simp⟩, _, rfl⟩
  case tup ps => obtain ⟨a, vs, n, ⟨o, e, hc, hd⟩, _⟩ := x; exact ⟨o, e, ⟨_, hc, by simp⟩, _, hd⟩
theorem isIter.ne {o : Obj} (x : isIter o) : o.cls ≠ .type "list" ∧ (∀ C, o.cls ≠ .ref C) ∧ o.cls ≠ .none ∧ o.cls ≠ .type "code" ∧ o.cls ≠ .type "dict" ∧ ¬ Imm o ∧ (∀ es n, o.data ≠ .dict es n) ∧ ∀ v, o.data ≠ .cell v := by
  obtain ⟨⟨T, hc, hT⟩, vs, hd⟩ := x
  have hT' : T ≠ "list" ∧ T ≠ "code" ∧ T ≠ "dict" ∧ T ≠ "tuple" ∧ T ≠ "range" := by rcases hT with h | h | h | h | h <;> subst h <;> decide
  refine ⟨fun q => hT'.1 (by rw [hc] at q; exact Value.type.inj q), fun C q => (by rw [hc] at q; cases q), fun q => (by rw [hc] at q; cases q), fun q => hT'.2.1 (by rw [hc] at q; exact Value.type.inj q), fun q => hT'.2.2.1 (by rw [hc] at q; exact Value.type.inj q), fun q => ?_, fun es n q => (by rw [hd] at q; cases q), fun v q => (by rw [hd] at q; cases q)⟩
  rcases q with ⟨q, _⟩ | ⟨q, _⟩
  · exact hT'.2.2.2.1 (by rw [hc] at q; exact Value.type.inj q)
  · exact hT'.2.2.2.2 (by rw [hc] at q; exact Value.type.inj q)

section
variable {c : Cx} {A : Around} {env : Env} {ρ : Rho} {μ : Mu}

/-- only a scratch object turned -/
theorem Inv.scratch (O : c.Ok) {s : Shared} {ι : Iota} (I : Inv c s ι μ) {J : Addr} {oJ : Obj} (eJ : s.heap.get? J = some oJ) (hJ : isIter oJ) (nB : c.hB.get? J = none) {s' : Shared}
    (k : ∀ b o, s.heap.get? b = some o → b ≠ J → s'.heap.get? b = some o) (hg : AllBare s'.gens) (ho : s'.os = s.os) (ht : 0 < s'.toks) :
    Inv c s' ι μ ∧ (∀ p v, RepV s.heap ι p v → RepV s'.heap ι p v) ∧ (∀ p v, RepL s.heap ι p v → RepL s'.heap ι p v) ∧ (EnvOk c env ρ s ι → EnvOk c env ρ s' ι) := by
  have hne := hJ.ne
  have imm : ∀ b o, s.heap.get? b = some o → Imm o → s'.heap.get? b = some o := fun b o e hi => k b o e fun q => by rw [q, eJ] at e; cases e; exact hne.2.2.2.2.2.1 hi
  have rv : ∀ p v, RepV s.heap ι p v → RepV s'.heap ι p v := fun p v r => by have := RepV.mono (l := []) imm p v r; rwa [List.append_nil] at this
  have rl : ∀ p v, RepL s.heap ι p v → RepL s'.heap ι p v := fun p v r => by have := RepL.mono (l := []) imm p v r; rwa [List.append_nil] at this
  have ji : ∀ a ∈ ι, a ≠ J := fun a ha q => by
    obtain ⟨o, e, hc⟩ := I.at ha
    rw [q, eJ] at e; cases e
    rcases hc with h | h
    · exact hne.1 h
    · exact hne.2.1 _ h
  refine ⟨⟨fun b o e hX => k _ _ (I.old b o e hX) (fun q => by rw [q, nB] at e; cases e), I.new, I.len, I.nodup, fun i a m hi hm => ?_, O.tk _ _ I.tab fun b o e hc _ => k b o e fun q => ?_, hg, ho.trans I.os, ht⟩, rv, rl, fun V => ?_⟩
  · have x := I.mo i a m hi hm
    have na := ji a (List.mem_of_getElem? hi)
    cases m with
    | lst ps => obtain ⟨vs, n, e, r⟩ := x; exact ⟨vs, n, k _ _ e na, rl _ _ r⟩
    | pil q its =>
      obtain ⟨d, vs, n, e, ⟨hsh, tk, tk', m', ed⟩, hn, r⟩ := x
      exact ⟨d, vs, n, k _ _ e na, ⟨hsh, tk, tk', m', k _ _ ed fun q => by rw [q, eJ] at ed; cases ed; exact hne.2.2.2.2.1 rfl⟩, hn, rl _ _ r⟩
  · rw [q, eJ] at e; cases e
    rcases hc with h | h
    · exact hne.2.2.1 h
    · exact hne.2.2.2.1 h
  · obtain ⟨m, hn, hi, hm⟩ := V.ns
    have nl : env.locals ≠ J := fun q => by obtain ⟨o, es, ep, e, hd, _⟩ := hn; rw [q, eJ] at e; cases e; exact hne.2.2.2.2.2.2.1 _ _ hd
    have nc : ∀ x cc, env.cells.lookup x = some cc → cc ≠ J := fun x cc h q => by obtain ⟨⟨v, o, e, hd⟩, _⟩ := V.cell x cc h; rw [q, eJ] at e; cases e; exact hne.2.2.2.2.2.2.2 _ hd
    obtain ⟨oL, es, ep, eL, rL⟩ := hn
    refine ⟨V.kind, V.glo, V.bi, V.ini, ⟨m, ⟨oL, es, ep, k _ _ eL nl, rL⟩, hi, fun x p h => ?_⟩, V.nd, V.loc, fun x cc h => ?_, V.inj⟩
    · obtain ⟨h1, h2⟩ := hm x p h
      refine ⟨h1, ?_⟩
      rcases h2 with ⟨a, v, b, r⟩ | ⟨a, cc, v, b, ⟨o, e, d⟩, r⟩
      · exact .inl ⟨a, v, b, rv _ _ r⟩
      · exact .inr ⟨a, cc, v, b, ⟨o, k _ _ e (nc x cc b), d⟩, rv _ _ r⟩
    · obtain ⟨⟨v, o, e, d⟩, h1, h2, h3, h4⟩ := V.cell x cc h
      exact ⟨⟨v, o, k _ _ e (nc x cc h), d⟩, h1, h2, h3, h4⟩

theorem RepL.get {h : Heap} {ι : Iota} : ∀ (ps : List PV) (vs : List Value) (j : Nat), RepL h ι ps vs → (∀ q, ps[j]? = some q → ∃ v, vs[j]? = some v ∧ RepV h ι q v) ∧ (ps[j]? = none → vs[j]? = none)
  | [], vs, j, r => by simp only [RepL] at r; subst r; exact ⟨fun q e => by simp at e, fun _ => by simp⟩
  | p :: ps, vs, j, r => by
    simp only [RepL] at r
    obtain ⟨v, r', rfl, h1, h2⟩ := r
    cases j with
    | zero => exact ⟨fun q e => by simp at e; subst e; exact ⟨v, rfl, h1⟩, fun e => by simp at e⟩
    | succ j => simpa using RepL.get ps r' j h2

theorem next_run (O : c.Ok) (a : A.handled = none) {s : Shared} {ι : Iota} {J : Addr} {j : Nat} {p : PV} {its : List PV} {E : Value → Shared → Prop} {Q : Option Value → Shared → Prop}
    (I : Inv c s ι μ) (x : IterAt s.heap ι J j p) (hits : itemsOf μ p = some its) (hp : ∀ i, p = .loc i → ∃ l, μ[i]? = some (.lst l))
    (h1 : ∀ q v h' tk, s.toks ≤ tk → its[j]? = some q → (∀ b o, s.heap.get? b = some o → b ≠ J → h'.get? b = some o) → IterAt h' ι J (j + 1) p → RepV s.heap ι q v → Q (some v) { s with heap := h', toks := tk })
    (h2 : ∀ h' tk, s.toks ≤ tk → its[j]? = none → (∀ b o, s.heap.get? b = some o → b ≠ J → h'.get? b = some o) → Q none { s with heap := h', toks := tk }) :
    wpAny (model c.prog c.w) A (pyNext (.ref J)) Q E s := by
  cases p <;> simp only [IterAt] at x
  case loc i =>
    obtain ⟨l, hl⟩ := hp i rfl
    obtain ⟨a', ha, hit⟩ := x
    obtain ⟨vs, n, e, r⟩ := I.mo i a' _ ha hl
    simp only [itemsOf, hl] at hits
    cases hits
    have hL : s.heap.IsList a' vs.toArray := ⟨_, e, rfl, n, rfl⟩
    have g := RepL.get its vs j r
    have na : a' ≠ J := fun q => by
      obtain ⟨o, e', hc, _⟩ := hit
      rw [← q, e] at e'; cases e'
      exact absurd (show Value.type "list" = Value.type "list_iterator" from hc) (by decide)
    cases q : its[j]? with
    | some q' =>
      obtain ⟨v, hv, r'⟩ := g.1 q' q
      refine wpAny_pyNext_list_item hit hL (x := v) (by simpa using hv) fun h' hit' hs' => ?_
      exact h1 q' v h' s.toks (Nat.le_refl _) q (fun b o e hb => hs'.extBut b o hb e) ⟨a', ha, hit'⟩ r'
    | none => exact wpAny_pyNext_list_end a hit hL (by simpa using g.2 q) fun h' he' => h2 h' s.toks (Nat.le_refl _) q fun b o e hb => he' b o hb e
  case str y =>
    obtain ⟨T, t, hT, hit⟩ := x
    simp only [itemsOf] at hits
    cases hits
    have hg : (y.cps.toList.map signPV)[j]? = (y.cps[j]?).map signPV := by simp
    cases q : y.cps[j]? with
    | some n =>
      rw [q] at hg
      rcases hT with rfl | rfl
      · refine wpAny_pyNext_ascii_item hit q fun h' hit' hs' => ?_
        exact h1 (signPV n) _ h' _ (Nat.le_succ _) hg (fun b o e hb => hs'.extBut b o hb e) ⟨_, t, .inl rfl, hit'⟩ (by simp only [signPV, RepV]; exact ⟨_, rfl⟩)
      · refine wpAny_pyNext_wide_item hit q fun h' hit' hs' => ?_
        exact h1 (signPV n) _ h' _ (Nat.le_succ _) hg (fun b o e hb => hs'.extBut b o hb e) ⟨_, t, .inr rfl, hit'⟩ (by simp only [signPV, RepV]; exact ⟨_, rfl⟩)
    | none =>
      rw [q] at hg
      rcases hT with rfl | rfl
      · exact wpAny_pyNext_ascii_end a hit q fun h' he' => h2 h' s.toks (Nat.le_refl _) hg fun b o e hb => he' b o hb e
      · exact wpAny_pyNext_wide_end a hit q fun h' he' => h2 h' s.toks (Nat.le_refl _) hg fun b o e hb => he' b o hb e
  case rng lo hi =>
    simp only [itemsOf] at hits
    cases hits
    by_cases hj : j < (hi - lo).toNat
    · refine wpAny_pyNext_range_item x (Int.sub_pos_of_lt (Int.ofNat_lt.mpr hj)) fun h' hit' hs' => ?_
      refine h1 (.int (lo + (j : Int))) _ h' _ (Nat.le_succ _) (by simp [hj]) (fun b o e hb => hs'.extBut b o hb e) ?_ (by simp only [RepV]; exact ⟨_, rfl⟩)
      have e1 : lo + (j : Int) + 1 = lo + ((j + 1 : Nat) : Int) := Int.add_assoc ..
      have e2 : ((hi - lo).toNat : Int) - (j : Int) - 1 = ((hi - lo).toNat : Int) - ((j + 1 : Nat) : Int) := Int.sub_sub ..
      rw [e1, e2] at hit'
      exact hit'
    · exact wpAny_pyNext_range_end a x (Int.sub_nonpos_of_le (Int.ofNat_le.mpr (Nat.not_lt.mp hj))) fun h' he' => h2 h' s.toks (Nat.le_refl _) (by simpa using hj) fun b o e hb => he' b o hb e
  case tup ps =>
    obtain ⟨a', vs, n, hit, e, r⟩ := x
    simp only [itemsOf] at hits
    cases hits
    have hL : s.heap.IsTuple a' vs.toArray := ⟨_, e, rfl, n, rfl⟩
    have g := RepL.get its vs j r
    have na : a' ≠ J := fun q => by
      obtain ⟨o, e', hc, _⟩ := hit
      rw [← q, e] at e'; cases e'
      exact absurd (show Value.type "tuple" = Value.type "tuple_iterator" from hc) (by decide)
    cases q : its[j]? with
    | some q' =>
      obtain ⟨v, hv, r'⟩ := g.1 q' q
      refine wpAny_pyNext_tuple_item hit hL (x := v) (by simpa using hv) fun h' hit' hs' => ?_
      have k : ∀ b o, s.heap.get? b = some o → b ≠ J → h'.get? b = some o := fun b o e hb => hs'.extBut b o hb e
      refine h1 q' v h' s.toks (Nat.le_refl _) q k ⟨a', vs, n, hit', k _ _ e na, ?_⟩ r'
      have := RepL.mono (l := []) (fun b o e hi => k b o e fun q => by
        obtain ⟨o', e', hc, hd⟩ := hit
        rw [q, e'] at e; cases e
        rcases hi with ⟨h, _⟩ | ⟨h, _⟩ <;> rw [hc] at h <;> exact absurd h (by decide)) its vs r
      rwa [List.append_nil] at this
    | none => exact wpAny_pyNext_tuple_end a hit hL (by simpa using g.2 q) fun h' he' => h2 h' s.toks (Nat.le_refl _) q fun b o e hb => he' b o hb e

/-- an iterator over what p stands for -/
theorem iter_run (O : c.Ok) {s : Shared} {ι : Iota} {p : PV} {v : Value} {its : List PV} {E Q : Value → Shared → Prop} (I : Inv c s ι μ) (r : RepV s.heap ι p v) (hits : itemsOf μ p = some its) (hp : ∀ i, p = .loc i → ∃ l, μ[i]? = some (.lst l))
    (hr : ∀ lo hi, p = .rng lo hi → -1000000 ≤ lo ∧ lo ≤ 1000000 ∧ -1000000 ≤ hi ∧ hi ≤ 1000000)
    (h : ∀ h' J, s.heap.get? J = none → (∀ b o, s.heap.get? b = some o → h'.get? b = some o) → IterAt h' ι J 0 p → Q (.ref J) { s with heap := h' }) : wpAny (model c.prog c.w) A (pyIter v) Q E s := by
  cases p <;> simp only [RepV] at r <;> simp only [itemsOf] at hits
  case none => cases hits
  case bool => cases hits
  case int => cases hits
  case flt => cases hits
  case ext => cases hits
  case str x =>
    obtain ⟨t, rfl⟩ := r
    cases ha : x.cps.all (· < 128)
    · exact wpAny_pyIter_wide ha (h _ _ (fresh_size _) (fun b o e => Heap.get?_push_of_some _ e) ⟨_, t, .inr rfl, _, Heap.get?_push_size _ rfl, rfl, rfl⟩)
    · exact wpAny_pyIter_ascii ha (h _ _ (fresh_size _) (fun b o e => Heap.get?_push_of_some _ e) ⟨_, t, .inl rfl, _, Heap.get?_push_size _ rfl, rfl, rfl⟩)
  case tup ps =>
    obtain ⟨a, vs, n, rfl, e, rl⟩ := r
    refine wpAny_pyIter_tuple (items := vs.toArray) ⟨_, e, rfl, n, rfl⟩ (h _ _ (fresh_size _) (fun b o e => Heap.get?_push_of_some _ e) ⟨a, vs, n, ⟨_, Heap.get?_push_size _ rfl, rfl, rfl⟩, Heap.get?_push_of_some _ e, ?_⟩)
    have := RepL.mono (l := []) (fun b o e _ => Heap.get?_push_of_some { cls := .type "tuple_iterator", data := .fields #[.ref a, .int 0 0] } e) ps vs rl
    rwa [List.append_nil] at this
  case loc i =>
    obtain ⟨a, rfl, ha⟩ := r
    obtain ⟨l, hl⟩ := hp i rfl
    obtain ⟨vs, n, e, rl⟩ := I.mo i a _ ha hl
    exact wpAny_pyIter_list (items := vs.toArray) ⟨_, e, rfl, n, rfl⟩ (h _ _ (fresh_size _) (fun b o e => Heap.get?_push_of_some _ e) ⟨a, ha, _, Heap.get?_push_size _ rfl, rfl, rfl⟩)
  case rng lo hi =>
    obtain ⟨a, t, u, w, rfl, e⟩ := r
    have hb := hr lo hi rfl
    have hz : Builtin.Range.rangeSize lo hi 1 = ((hi - lo).toNat : Int) := by
      unfold Builtin.Range.rangeSize
      rw [if_pos (by decide)]
      by_cases hlt : lo < hi
      · rw [if_pos hlt, Int.ediv_one, Int.sub_add_cancel, Int.toNat_of_nonneg (Int.sub_nonneg_of_le (Int.le_of_lt hlt))]
      · rw [if_neg hlt, Int.toNat_eq_zero.mpr (Int.sub_nonpos_of_le (Int.not_lt.mp hlt))]; rfl
    have fit : ∀ x : Int, -2000002 ≤ x → x ≤ 2000002 → Builtin.Range.rangeFitsLong x = true := fun x h1 h2 => by
      unfold Builtin.Range.rangeFitsLong
      simp only [Bool.and_eq_true, decide_eq_true_eq]
      exact ⟨Int.le_trans (by decide) h1, Int.lt_of_le_of_lt h2 (by decide)⟩
    have hs : Builtin.Range.small lo hi 1 = true := by
      unfold Builtin.Range.small
      have fh := fit hi (Int.le_trans (by decide) hb.2.2.1) (Int.le_trans hb.2.2.2 (by decide))
      rw [hz, fit lo (Int.le_trans (by decide) hb.1) (Int.le_trans hb.2.1 (by decide)), fh, fit 1 (by decide) (by decide), fit _ (Int.le_trans (by decide) (Int.natCast_nonneg _)) (Int.ofNat_le.mpr (Int.toNat_le.mpr (Int.le_trans (Int.sub_le_sub hb.2.2.2 hb.1) (by decide)) : (hi - lo).toNat ≤ 2000002)), if_pos (by decide), show hi + (1 - 1) = hi from Int.add_zero hi, fh]
      simp
    refine wpAny_pyIter_range e hs (h _ _ (fresh_size _) (fun b o e => Heap.get?_push_of_some _ e) ?_)
    simp only [IterAt]
    have e1 : lo + ((0 : Nat) : Int) = lo := Int.add_zero lo
    have e2 : ((hi - lo).toNat : Int) - ((0 : Nat) : Int) = ((hi - lo).toNat : Int) := Int.sub_zero _
    rw [e1, e2, ← hz]
    exact Heap.get?_push_size _ rfl

structure StepJ (c : Cx) (env : Env) (J : Addr) (s : Shared) (ι : Iota) (s' : Shared) (ι' : Iota) : Prop where
  keep : ∀ b o, s.heap.get? b = some o → b ∉ ι → b ∉ c.X → b ≠ env.locals → (∀ x, env.cells.lookup x ≠ some b) → b ≠ J → s'.heap.get? b = some o
  there : ∀ b o, s.heap.get? b = some o → ∃ o', s'.heap.get? b = some o'
  ext : ∃ l, ι' = ι ++ l ∧ ∀ a ∈ l, s.heap.get? a = none
theorem StepF.j {J : Addr} {s s' : Shared} {ι ι' : Iota} (S : StepF c env s ι s' ι') : StepJ c env J s ι s' ι' := ⟨fun b o e h1 h2 h3 h4 _ => S.keep b o e h1 h2 h3 h4, S.there, S.ext⟩
theorem StepJ.off {J : Addr} {s s' : Shared} {ι ι' : Iota} (x : StepJ c env J s ι s' ι') {b : Addr} {o : Obj} (e : s.heap.get? b = some o) (hb : b ∉ ι) : b ∉ ι' := fun hm => by
  obtain ⟨l, rfl, hl⟩ := x.ext
  rcases List.mem_append.mp hm with h | h
  · exact hb h
  · rw [hl b h] at e; cases e
theorem StepJ.trans {J : Addr} {s s₁ s₂ : Shared} {ι ι₁ ι₂ : Iota} (x : StepJ c env J s ι s₁ ι₁) (y : StepJ c env J s₁ ι₁ s₂ ι₂) : StepJ c env J s ι s₂ ι₂ := by
  refine ⟨fun b o e hb hX hL hC hJ => y.keep b o (x.keep b o e hb hX hL hC hJ) (x.off e hb) hX hL hC hJ, fun b o e => ?_, ?_⟩
  · obtain ⟨o', e'⟩ := x.there b o e
    exact y.there b o' e'
  · obtain ⟨l, rfl, hl⟩ := x.ext
    obtain ⟨l', rfl, hl'⟩ := y.ext
    refine ⟨l ++ l', by simp, fun a ha => ?_⟩
    rcases List.mem_append.mp ha with h | h
    · exact hl a h
    · cases q : s.heap.get? a with
      | none => rfl
      | some o => obtain ⟨o', e'⟩ := x.there a o q; rw [hl' a h] at e'; cases e'
structure StepW (c : Cx) (env : Env) (J : Addr) (s : Shared) (ι : Iota) (s' : Shared) (ι' : Iota) : Prop where
  keep : ∀ b o, s.heap.get? b = some o → b ∉ ι → b ∉ c.X → b ≠ env.locals → (∀ x, env.cells.lookup x ≠ some b) → b ≠ J → s'.heap.get? b = some o
  there : ∀ b o, s.heap.get? b = some o → b ≠ J → ∃ o', s'.heap.get? b = some o'
  ext : ∃ l, ι' = ι ++ l ∧ ∀ a ∈ l, s.heap.get? a = none
theorem StepJ.w {J : Addr} {s s' : Shared} {ι ι' : Iota} (S : StepJ c env J s ι s' ι') : StepW c env J s ι s' ι' := ⟨S.keep, fun b o e _ => S.there b o e, S.ext⟩
theorem StepJ.transW {J : Addr} {s s₁ s₂ : Shared} {ι ι₁ ι₂ : Iota} (x : StepJ c env J s ι s₁ ι₁) (y : StepW c env J s₁ ι₁ s₂ ι₂) : StepW c env J s ι s₂ ι₂ := by
  refine ⟨fun b o e hb hX hL hC hJ => y.keep b o (x.keep b o e hb hX hL hC hJ) (x.off e hb) hX hL hC hJ, fun b o e hb => ?_, ?_⟩
  · obtain ⟨o', e'⟩ := x.there b o e
    exact y.there b o' e' hb
  · obtain ⟨l, rfl, hl⟩ := x.ext
    obtain ⟨l', rfl, hl'⟩ := y.ext
    refine ⟨l ++ l', by simp, fun a ha => ?_⟩
    rcases List.mem_append.mp ha with h | h
    · exact hl a h
    · cases q : s.heap.get? a with
      | none => rfl
      | some o => obtain ⟨o', e'⟩ := x.there a o q; rw [hl' a h] at e'; cases e'
/-- behind a loop: the iterator was not there ahead of it -/
theorem StepW.f {J : Addr} {s s₁ s₂ : Shared} {ι ι₁ : Iota} (hJ : s.heap.get? J = none) (k : ∀ b o, s.heap.get? b = some o → s₁.heap.get? b = some o) (y : StepW c env J s₁ ι s₂ ι₁) : StepF c env s ι s₂ ι₁ := by
  have nJ : ∀ b o, s.heap.get? b = some o → b ≠ J := fun b o e q => by rw [q, hJ] at e; cases e
  refine ⟨fun b o e hb hX hL hC => y.keep b o (k b o e) hb hX hL hC (nJ b o e), fun b o e => y.there b o (k b o e) (nJ b o e), ?_⟩
  obtain ⟨l, rfl, hl⟩ := y.ext
  refine ⟨l, rfl, fun a ha => ?_⟩
  cases q : s.heap.get? a with
  | none => rfl
  | some o => have := k a o q; rw [hl a ha] at this; cases this

/-- the iterator stays where it is while a frame works -/
theorem IterAt.stepF (O : c.Ok) {s s' : Shared} {ι ι' : Iota} {J : Addr} {j : Nat} {p : PV} (I : Inv c s ι μ) (V : EnvOk c env ρ s ι) (S : StepF c env s ι s' ι') (x : IterAt s.heap ι J j p) : IterAt s'.heap ι' J j p := by
  obtain ⟨oJ, eJ, hJ⟩ := x.obj
  have hne := hJ.ne
  have off := I.off O eJ hne.1 hne.2.1 hne.2.2.1
  have nl : J ≠ env.locals := fun q => by obtain ⟨m, ⟨o, es, ep, e, hd, _⟩, _⟩ := V.ns; rw [← q, eJ] at e; cases e; exact hne.2.2.2.2.2.2.1 _ _ hd
  have nc : ∀ x, env.cells.lookup x ≠ some J := fun x h => by obtain ⟨⟨v, o, e, hd⟩, _⟩ := V.cell x J h; rw [eJ] at e; cases e; exact hne.2.2.2.2.2.2.2 _ hd
  have kJ : s'.heap.get? J = some oJ := S.keep J oJ eJ off.1 off.2 nl nc
  obtain ⟨l, rfl, _⟩ := S.ext
  cases p <;> simp only [IterAt] at x ⊢
  case loc i =>
    obtain ⟨a, ha, o, e, hc, hd⟩ := x
    rw [eJ] at e; cases e
    exact ⟨a, getElem?_ext ha l, _, kJ, hc, hd⟩
  case str y =>
    obtain ⟨T, t, hT, o, e, hc, hd⟩ := x
    rw [eJ] at e; cases e
    exact ⟨T, t, hT, _, kJ, hc, hd⟩
  case rng lo hi => exact S.keep J _ x off.1 off.2 nl nc
  case tup ps =>
    obtain ⟨a, vs, n, ⟨o, e, hc, hd⟩, e2, r⟩ := x
    rw [eJ] at e; cases e
    exact ⟨a, vs, n, ⟨_, kJ, hc, hd⟩, I.immF O V S _ _ e2 (.inl ⟨rfl, _, _, rfl⟩), RepL.mono (I.immF O V S) ps vs r⟩

theorem letGo_run {s : Shared} {J : Addr} {o : Obj} {tgt : Expr} {v : Value} {E : Value → Shared → Prop} {Q : Unit → Shared → Prop} (e : s.heap.get? J = some o) (hi : isIter o) (h : Q () s) : wpAny (model c.prog c.w) A (letOwnedTupleGo tgt (.ref J) v) Q E s := by
  obtain ⟨⟨T, hc, hT⟩, vs, hd⟩ := hi
  have hno : (["enumerate", "zip", "dict_itemiterator", "dict_reverseitemiterator", "odict_iterator", "itertools.zip_longest", "itertools.pairwise"] : List String).contains T = false := by
    rcases hT with h | h | h | h | h <;> subst h <;> decide
  have go : ∀ a, wpAny (model c.prog c.w) A (do
      let o ← load J
      match o.cls, o.data with
      | .type n, .fields vs =>
        if (["enumerate", "zip", "dict_itemiterator", "dict_reverseitemiterator", "odict_iterator", "itertools.zip_longest", "itertools.pairwise"] : List String).contains n && vs[0]? == some (rawInt a) then
          rule "for.unpacks-the-owned-tuple"
          updateField J 0 .none
      | _, _ => pure ()) Q E s := fun a => by
    refine wpAny_bind (wpAny_load e ?_)
    rw [hc, hd]
    dsimp only
    rw [hno]
    exact wpAny_pure h
  have two : ∀ v, wpAny (model c.prog c.w) A (letOwnedTupleGo (.Tuple [] 0 default) (.ref J) v) Q E s := fun v => by
    cases v <;> first | exact wpAny_pure h | exact go _
  cases tgt <;> first | exact wpAny_pure h | exact two v

abbrev loopK (L : Nat → Rho → Mu → Prop) (K : PF → Rho → Mu → Prop) (j : Nat) (f : PF) (ρ : Rho) (μ : Mu) : Prop := match f with
  | .next => L (j + 1) ρ μ
  | .cont => L (j + 1) ρ μ
  | .brk => K .next ρ μ
  | .ret v => K (.ret v) ρ μ
/-- a for's turns from place j on -/
structure WL (c : Cx) (A : Around) (tgt : Expr) (body : List Stmt) (env : Env) (p : PV) (K : PF → Rho → Mu → Prop) (j : Nat) (ρ : Rho) (μ : Mu) : Prop where
  run : ∀ (s : Shared) (ι : Iota) (J : Addr) (R : Result → Shared → Prop), Inv c s ι μ → EnvOk c env ρ s ι → IterAt s.heap ι J j p → c.hB.get? J = none →
    (∀ f s' ι' pf ρ' μ', StepW c env J s ι s' ι' → Inv c s' ι' μ' → EnvOk c env ρ' s' ι' → RepF s'.heap ι' pf f → K pf ρ' μ' → R (.ok f) s') → codeAny (model c.prog c.w) A (.forLoop tgt (.ref J) body [] env) R s

theorem forLoop_turn {tgt : Expr} {it : Value} {body : List Stmt} {R : Result → Shared → Prop} {s : Shared}
    (h : ∀ E, wpAny (model c.prog c.w) A (pyNext it) (fun r s₁ => match r with
      | none => R (.ok .next) s₁
      | some v => wpAny (model c.prog c.w) A (letOwnedTupleGo tgt it v) (fun _ s₁' => wpAny (model c.prog c.w) A (assign tgt env v) (fun _ s₂ => wpAny (model c.prog c.w) A (execs body env) (fun f s₃ => match f with
            | .next | .cont => codeAny (model c.prog c.w) A (.forLoop tgt it body [] env) R s₃
            | .brk => R (.ok .next) s₃
            | .ret v => R (.ok (.ret v)) s₃) E s₂) E s₁') E s₁) E s) : codeAny (model c.prog c.w) A (.forLoop tgt it body [] env) R s := by
  refine codeAny_of_tree ?_
  show wpAny _ A ((forTurn tgt it body [] env).onRaise (fun x => do noteFrame x env; theTreesLotGoes x)) _ _ s
  refine wpAny_noted ?_
  simp only [forTurn]
  refine wpAny_bind (wpAny_standAt (wpAny_bind (wpAny_onRaise (wpAny_mono (h _) (fun r s₁ h₁ => ?_) fun _ _ h' => wpAny_standAt h'))))
  cases r with
  | none => exact wpAny_pure ⟨rfl, codeAny_block (wpAny_execs_nil h₁)⟩
  | some v =>
    refine wpAny_bind (wpAny_mono h₁ (fun _ s₁' h₁' => ?_) fun _ _ h' => h')
    refine wpAny_bind (wpAny_mono h₁' (fun _ s₂ h₂ => wpAny_bind (wpAny_mono h₂ (fun f s₃ h₃ => ?_) fun _ _ h' => h')) fun _ _ h' => h')
    cases f with
    | next => exact wpAny_pure ⟨rfl, h₃⟩
    | cont => exact wpAny_pure ⟨rfl, h₃⟩
    | brk => exact wpAny_pure h₃
    | ret v => exact wpAny_pure h₃

theorem WL.step {tgt : Expr} {body : List Stmt} {p : PV} {K : PF → Rho → Mu → Prop} {j : Nat} {its : List PV} {q : PV} (O : c.Ok) (a : A.handled = none) (hits : itemsOf μ p = some its) (hq : its[j]? = some q)
    (h : WA c A tgt env q ρ μ fun ρ' => WSs c A body env ρ' μ (loopK (WL c A tgt body env p K) K j)) (hp : ∀ i, p = .loc i → ∃ l, μ[i]? = some (.lst l)) : WL c A tgt body env p K j ρ μ := ⟨fun s ι J R I V x nB hR => by
  refine forLoop_turn fun E => ?_
  refine next_run O a I x hits hp (fun q' v h' tk htk hq' k x' r => ?_) (fun h' tk _ hn _ => by rw [hq] at hn; cases hn)
  rw [hq] at hq'; cases hq'
  obtain ⟨oJ, eJ, hJ⟩ := x.obj
  have sc := I.scratch (env := env) (ρ := ρ) O eJ hJ nB (s' := { s with heap := h', toks := tk }) k I.bare rfl (Nat.lt_of_lt_of_le I.tp htk)
  obtain ⟨oJ', eJ', hJ'⟩ := x'.obj
  refine letGo_run eJ' hJ' ?_
  have S0 : StepJ c env J s ι { s with heap := h', toks := tk } ι := ⟨fun b o e _ _ _ _ hb => k b o e hb, fun b o e => by
    by_cases hb : b = J
    · subst hb; exact ⟨_, eJ'⟩
    · exact ⟨o, k b o e hb⟩, [], by simp, by simp⟩
  refine h.run _ ι E _ v sc.1 (sc.2.2.2 V) (sc.2.1 _ _ r) fun s₂ ρ₂ S₂ I₂ V₂ k₂ => ?_
  refine WSs.run k₂ s₂ ι E _ I₂ V₂ fun f s₃ ι₃ pf ρ₃ μ₃ S₃ I₃ V₃ r₃ k₃ => ?_
  have x₂ : IterAt s₂.heap ι J (j + 1) p := IterAt.stepF O sc.1 (sc.2.2.2 V) S₂ x'
  have x₃ : IterAt s₃.heap ι₃ J (j + 1) p := IterAt.stepF O I₂ V₂ S₃ x₂
  have S : StepJ c env J s ι s₃ ι₃ := S0.trans (S₂.j.trans S₃.j)
  cases pf with
  | next =>
    simp only [RepF] at r₃; subst r₃
    exact WL.run k₃ s₃ ι₃ J R I₃ V₃ x₃ nB fun f s' ι' pf ρ' μ' S' I' V' r' k' => hR f s' ι' pf ρ' μ' (S.transW S') I' V' r' k'
  | cont =>
    simp only [RepF] at r₃; subst r₃
    exact WL.run k₃ s₃ ι₃ J R I₃ V₃ x₃ nB fun f s' ι' pf ρ' μ' S' I' V' r' k' => hR f s' ι' pf ρ' μ' (S.transW S') I' V' r' k'
  | brk =>
    simp only [RepF] at r₃; subst r₃
    exact hR _ s₃ ι₃ .next ρ₃ μ₃ S.w I₃ V₃ rfl k₃
  | ret v =>
    simp only [RepF] at r₃
    obtain ⟨v', rfl, r₃⟩ := r₃
    exact hR _ s₃ ι₃ (.ret v) ρ₃ μ₃ S.w I₃ V₃ ⟨v', rfl, r₃⟩ k₃⟩
theorem WL.done {tgt : Expr} {body : List Stmt} {p : PV} {K : PF → Rho → Mu → Prop} {j : Nat} {its : List PV} (O : c.Ok) (a : A.handled = none) (hits : itemsOf μ p = some its) (hq : its[j]? = none) (h : K .next ρ μ)
    (hp : ∀ i, p = .loc i → ∃ l, μ[i]? = some (.lst l)) : WL c A tgt body env p K j ρ μ := ⟨fun s ι J R I V x nB hR => by
  refine forLoop_turn fun E => ?_
  refine next_run O a I x hits hp (fun q' v h' tk _ hq' k x' r => by rw [hq] at hq'; cases hq') (fun h' tk htk hn k => ?_)
  obtain ⟨oJ, eJ, hJ⟩ := x.obj
  have sc := I.scratch (env := env) (ρ := ρ) O eJ hJ nB (s' := { s with heap := h', toks := tk }) k I.bare rfl (Nat.lt_of_lt_of_le I.tp htk)
  exact hR _ _ ι .next ρ μ ⟨fun b o e _ _ _ _ hb => k b o e hb, fun b o e hb => ⟨o, k b o e hb⟩, [], by simp, by simp⟩ sc.1 (sc.2.2.2 V) rfl h⟩

theorem WS.for_ {tgt iter : Expr} {body : List Stmt} {pos : Pos} {K : PF → Rho → Mu → Prop} (O : c.Ok)
    (h : WE c A iter env ρ μ fun p μ₁ => (∃ its, itemsOf μ₁ p = some its) ∧ (∀ i, p = .loc i → ∃ l, μ₁[i]? = some (.lst l)) ∧ (∀ lo hi, p = .rng lo hi → -1000000 ≤ lo ∧ lo ≤ 1000000 ∧ -1000000 ≤ hi ∧ hi ≤ 1000000) ∧ WL c A tgt body env p K 0 ρ μ₁)
    (hs : ∀ x, foldedSetIterable iter env x = pure x) : WS c A (.For tgt iter body [] pos) env ρ μ K := ⟨fun s ι E Q I V hQ => by
  refine wpAny_For (h.run s ι E _ I V fun v s₁ ι₁ p μ₁ S₁ I₁ r₁ k₁ => ?_) hs
  obtain ⟨⟨its, hits⟩, hp, hr, k₁⟩ := k₁
  refine iter_run O I₁ r₁ hits hp hr fun h' J hJ k x => ?_
  have g := I₁.grow O (s' := { s₁ with heap := h' }) k I₁.bare rfl I₁.tp
  have nB : c.hB.get? J = none := by
    cases q : c.hB.get? J with
    | none => rfl
    | some o =>
      by_cases hx : J ∈ c.X
      · obtain ⟨vs', e'⟩ := O.tX _ I₁.tab J hx
        rw [hJ] at e'; cases e'
      · rw [I₁.old J o q hx] at hJ; cases hJ
  refine k₁.run _ ι₁ J _ g.1 ((V.step O I S₁).step O I₁ g.2) x nB fun f s' ι' pf ρ' μ' S' I' V' r' k' => ?_
  have SF : StepF c env s₁ ι₁ s' ι' := StepW.f hJ k S'
  exact hQ f s' ι' pf ρ' μ' (S₁.f.trans SF) I' V' r' k'⟩
end
end Mine
namespace Mine
section
variable {c : Cx} {A : Around} {env : Env} {ρ : Rho} {μ : Mu}

theorem WV.of1 {f : Value → Sem Value} {p : PV} {K : PV → Mu → Prop}
    (h : ∀ (s : Shared) (ι : Iota) (E Q : Value → Shared → Prop) (v : Value), Inv c s ι μ → RepV s.heap ι p v → (∀ v s' ι' p μ', Step c s ι s' ι' → Inv c s' ι' μ' → RepV s'.heap ι' p v → K p μ' → Q v s') → wpAny (model c.prog c.w) A (f v) Q E s) :
    WV c A (f1 f) [p] μ K := ⟨fun s ι E Q vs I r hQ => by
  simp only [RepL] at r
  obtain ⟨v, _, rfl, r1, rfl⟩ := r
  exact h s ι E Q v I r1 hQ⟩
theorem WV.of2 {f : Value → Value → Sem Value} {p q : PV} {K : PV → Mu → Prop}
    (h : ∀ (s : Shared) (ι : Iota) (E Q : Value → Shared → Prop) (v w : Value), Inv c s ι μ → RepV s.heap ι p v → RepV s.heap ι q w → (∀ v s' ι' p μ', Step c s ι s' ι' → Inv c s' ι' μ' → RepV s'.heap ι' p v → K p μ' → Q v s') → wpAny (model c.prog c.w) A (f v w) Q E s) :
    WV c A (f2 f) [p, q] μ K := ⟨fun s ι E Q vs I r hQ => by
  simp only [RepL] at r
  obtain ⟨v, _, rfl, r1, w, _, rfl, r2, rfl⟩ := r
  exact h s ι E Q v w I r1 r2 hQ⟩

/-- upon two ints, an int -/
theorem WV.ii {f : Value → Value → Sem Value} {a b r : Int} {K : PV → Mu → Prop} (O : c.Ok)
    (h : ∀ (s : Shared) (t u : Tok) (E Q : Value → Shared → Prop), Q (.int r s.toks) { s with toks := s.toks + 1 } → wpAny (model c.prog c.w) A (f (.int a t) (.int b u)) Q E s) (k : K (.int r) μ) : WV c A (f2 f) [.int a, .int b] μ K :=
  WV.of2 fun s ι E Q v w I r1 r2 hQ => by
    simp only [RepV] at r1 r2
    obtain ⟨t, rfl⟩ := r1
    obtain ⟨u, rfl⟩ := r2
    have g := toks_inv O I (s.toks + 1)
    exact h s t u E Q (hQ _ _ ι (.int r) μ g.2 g.1 (by simp only [RepV]; exact ⟨_, rfl⟩) k)
theorem WV.add_int {a b : Int} {K : PV → Mu → Prop} (O : c.Ok) (k : K (.int (a + b)) μ) : WV c A (f2 (binaryOp .Add)) [.int a, .int b] μ K := WV.ii O (fun s t u E Q h => PyProof.Rows.add_int h) k
theorem WV.sub_int {a b : Int} {K : PV → Mu → Prop} (O : c.Ok) (k : K (.int (a - b)) μ) : WV c A (f2 (binaryOp .Sub)) [.int a, .int b] μ K := WV.ii O (fun s t u E Q h => PyProof.Rows.sub_int h) k
theorem WV.mul_int {a b : Int} {K : PV → Mu → Prop} (O : c.Ok) (hb : -(2 ^ 64) < a ∧ a < 2 ^ 64) (k : K (.int (a * b)) μ) : WV c A (f2 (binaryOp .Mult)) [.int a, .int b] μ K := WV.ii O (fun s t u E Q h => PyProof.Rows.mul_int h (IntMulOk.of_left (intBits_le_64 hb.1 hb.2))) k
theorem WV.mod_int {a b : Int} {K : PV → Mu → Prop} (O : c.Ok) (hb : b ≠ 0) (k : K (.int (a.fmod b)) μ) : WV c A (f2 (binaryOp .Mod)) [.int a, .int b] μ K := WV.ii O (fun s t u E Q h => PyProof.Rows.mod_int' hb h) k
theorem WV.pow_int {a b : Int} {K : PV → Mu → Prop} (O : c.Ok) (hb : 0 ≤ b ∧ b ≤ 1000000 ∧ a.natAbs < 2 ^ 64) (k : K (.int (a ^ b.toNat)) μ) : WV c A (f2 (binaryOp .Pow)) [.int a, .int b] μ K := WV.ii O (fun s t u E Q h => PyProof.Rows.pow_int_small hb.1 hb.2.1 hb.2.2 h) k
theorem WV.iadd_int {a b : Int} {K : PV → Mu → Prop} (O : c.Ok) (k : K (.int (a + b)) μ) : WV c A (f2 (inplaceOp .Add)) [.int a, .int b] μ K := WV.ii O (fun s t u E Q h => PyProof.Rows.iadd_int h) k
theorem WV.isub_int {a b : Int} {K : PV → Mu → Prop} (O : c.Ok) (k : K (.int (a - b)) μ) : WV c A (f2 (inplaceOp .Sub)) [.int a, .int b] μ K := WV.ii O (fun s t u E Q h => PyProof.Rows.isub_int h) k
theorem WV.neg_int {a : Int} {K : PV → Mu → Prop} (O : c.Ok) (k : K (.int (-a)) μ) : WV c A (f1 (unaryOp .USub)) [.int a] μ K := WV.of1 fun s ι E Q v I r1 hQ => by
  simp only [RepV] at r1
  obtain ⟨t, rfl⟩ := r1
  have g := toks_inv O I (s.toks + 1)
  exact PyProof.Rows.neg_int (hQ _ _ ι (.int (-a)) μ g.2 g.1 (by simp only [RepV]; exact ⟨_, rfl⟩) k)

/-- a bool of two values, nothing turned -/
theorem WV.cmp {f : Value → Value → Sem Value} {p q : PV} {b : Bool} {K : PV → Mu → Prop}
    (h : ∀ (s : Shared) (ι : Iota) (v w : Value) (E Q : Value → Shared → Prop), RepV s.heap ι p v → RepV s.heap ι q w → Q (.bool b) s → wpAny (model c.prog c.w) A (f v w) Q E s) (k : K (.bool b) μ) : WV c A (f2 f) [p, q] μ K :=
  WV.of2 fun s ι E Q v w I r1 r2 hQ => h s ι v w E Q r1 r2 (hQ _ _ ι (.bool b) μ (Step.refl ..) I (by simp only [RepV]) k)
theorem WV.cii {f : Value → Value → Sem Value} {a b : Int} {r : Bool} {K : PV → Mu → Prop}
    (h : ∀ (s : Shared) (t u : Tok) (E Q : Value → Shared → Prop), Q (.bool r) s → wpAny (model c.prog c.w) A (f (.int a t) (.int b u)) Q E s) (k : K (.bool r) μ) : WV c A (f2 f) [.int a, .int b] μ K :=
  WV.cmp (fun s ι v w E Q r1 r2 hq => by
    simp only [RepV] at r1 r2
    obtain ⟨t, rfl⟩ := r1
    obtain ⟨u, rfl⟩ := r2
    exact h s t u E Q hq) k
theorem WV.eq_int {a b : Int} {K : PV → Mu → Prop} (k : K (.bool (a == b)) μ) : WV c A (f2 (compareOp .Eq)) [.int a, .int b] μ K := WV.cii (fun s t u E Q h => PyProof.Rows.eq_int h) k
theorem WV.lt_int {a b : Int} {K : PV → Mu → Prop} (k : K (.bool (decide (a < b))) μ) : WV c A (f2 (compareOp .Lt)) [.int a, .int b] μ K := WV.cii (fun s t u E Q h => PyProof.Rows.lt_int h) k
theorem WV.le_int {a b : Int} {K : PV → Mu → Prop} (k : K (.bool (decide (a ≤ b))) μ) : WV c A (f2 (compareOp .LtE)) [.int a, .int b] μ K := WV.cii (fun s t u E Q h => PyProof.Rows.le_int h) k
theorem WV.gt_int {a b : Int} {K : PV → Mu → Prop} (k : K (.bool (decide (b < a))) μ) : WV c A (f2 (compareOp .Gt)) [.int a, .int b] μ K := WV.cii (fun s t u E Q h => PyProof.Rows.gt_int h) k
theorem WV.ge_int {a b : Int} {K : PV → Mu → Prop} (k : K (.bool (decide (b ≤ a))) μ) : WV c A (f2 (compareOp .GtE)) [.int a, .int b] μ K := WV.cii (fun s t u E Q h => PyProof.Rows.ge_int h) k

theorem WV.css {f : Value → Value → Sem Value} {a b : Str} {r : Bool} {K : PV → Mu → Prop}
    (h : ∀ (s : Shared) (t u : Tok) (E Q : Value → Shared → Prop), Q (.bool r) s → wpAny (model c.prog c.w) A (f (.str a t) (.str b u)) Q E s) (k : K (.bool r) μ) : WV c A (f2 f) [.str a, .str b] μ K :=
  WV.cmp (fun s ι v w E Q r1 r2 hq => by
    simp only [RepV] at r1 r2
    obtain ⟨t, rfl⟩ := r1
    obtain ⟨u, rfl⟩ := r2
    exact h s t u E Q hq) k
/-- y in x -/
def inB (y x : Str) : Bool := !(Builtin.Str.occurrences x y 0 x.length 1).isEmpty
theorem WV.eq_str {a b : Str} {K : PV → Mu → Prop} (k : K (.bool (a == b)) μ) : WV c A (f2 (compareOp .Eq)) [.str a, .str b] μ K := WV.css (fun s t u E Q h => PyProof.Rows.eq_str h) k
theorem WV.ne_str {a b : Str} {K : PV → Mu → Prop} (k : K (.bool (a != b)) μ) : WV c A (f2 (compareOp .NotEq)) [.str a, .str b] μ K := WV.css (fun s t u E Q h => PyProof.Rows.ne_str h) k
theorem WV.in_str {a b : Str} {K : PV → Mu → Prop} (k : K (.bool (inB a b)) μ) : WV c A (f2 (compareOp .In)) [.str a, .str b] μ K := WV.css (fun s t u E Q h => PyProof.Rows.in_str h) k
theorem WV.notin_str {a b : Str} {K : PV → Mu → Prop} (k : K (.bool (!inB a b)) μ) : WV c A (f2 (compareOp .NotIn)) [.str a, .str b] μ K := WV.css (fun s t u E Q h => PyProof.Rows.notIn_str h) k
theorem WV.isnot_bool {a b : Bool} {K : PV → Mu → Prop} (k : K (.bool (a != b)) μ) : WV c A (f2 (compareOp .IsNot)) [.bool a, .bool b] μ K :=
  WV.cmp (fun s ι v w E Q r1 r2 hq => by simp only [RepV] at r1 r2; subst r1 r2; exact PyProof.Rows.isnot_bool hq) k
theorem WV.cff {f : Value → Value → Sem Value} {a b : UInt64} {r : Bool} {K : PV → Mu → Prop}
    (h : ∀ (s : Shared) (t u : Tok) (E Q : Value → Shared → Prop), Q (.bool r) s → wpAny (model c.prog c.w) A (f (.float a t) (.float b u)) Q E s) (k : K (.bool r) μ) : WV c A (f2 f) [.flt a, .flt b] μ K :=
  WV.cmp (fun s ι v w E Q r1 r2 hq => by
    simp only [RepV] at r1 r2
    obtain ⟨t, rfl, _⟩ := r1
    obtain ⟨u, rfl, _⟩ := r2
    exact h s t u E Q hq) k
theorem WV.eq_flt {a b : UInt64} {K : PV → Mu → Prop} (k : K (.bool (Float64.cmp a b == some .eq)) μ) : WV c A (f2 (compareOp .Eq)) [.flt a, .flt b] μ K := WV.cff (fun s t u E Q h => PySem.AutoFloatOps.eq_0 h) k
theorem WV.add_str {a b : Str} {K : PV → Mu → Prop} (O : c.Ok) (hb : a.length ≤ 1000000 ∧ b.length ≤ 1000000) (k : K (.str (a ++ b)) μ) : WV c A (f2 (binaryOp .Add)) [.str a, .str b] μ K :=
  WV.of2 fun s ι E Q v w I r1 r2 hQ => by
    simp only [RepV] at r1 r2
    obtain ⟨t, rfl⟩ := r1
    obtain ⟨u, rfl⟩ := r2
    refine wpAny_with_toks (Nat.le_refl s.toks) (PyProof.Rows.add_str (fun t' tk htk => ?_) (by rw [sizeLine_eq]; omega))
    have g := toks_inv O I tk (Nat.lt_of_lt_of_le I.tp htk)
    exact hQ _ _ ι (.str (a ++ b)) μ g.2 g.1 (by simp only [RepV]; exact ⟨_, rfl⟩) k
theorem WV.mul_str {a : Str} {n : Int} {K : PV → Mu → Prop} (O : c.Ok) (hb : a.length ≤ 1000000 ∧ 1 ≤ n ∧ n ≤ 10) (k : K (.str (Txt.mul a n)) μ) : WV c A (f2 (binaryOp .Mult)) [.str a, .int n] μ K :=
  WV.of2 fun s ι E Q v w I r1 r2 hQ => by
    simp only [RepV] at r1 r2
    obtain ⟨t, rfl⟩ := r1
    obtain ⟨u, rfl⟩ := r2
    refine wpAny_with_toks (Nat.le_refl s.toks) (SB.mul ⟨?_, fun _ _ => ?_, fun _ _ => ?_⟩ (fun t' tk htk => ?_))
    · simp only [Bool.or_eq_false_iff, decide_eq_false_iff_not]; omega
    · obtain ⟨h1, h2, h3⟩ := hb
      exact Int.not_lt.mpr (Int.le_ediv_of_mul_le (Int.lt_of_lt_of_le (by decide) h2) (Int.le_trans (Int.mul_le_mul (Int.ofNat_le.mpr h1) h3 (Int.le_trans (by decide) h2) (by decide)) (by decide)))
    · unfold Builtin.Str.tooLong
      rw [decide_eq_false_iff_not]
      have h5 : a.length * n.toNat ≤ 1000000 * 10 := Nat.mul_le_mul hb.1 (by omega)
      rw [sizeLine_eq]
      omega
    · have g := toks_inv O I tk (Nat.lt_of_lt_of_le I.tp htk)
      exact hQ _ _ ι (.str (Txt.mul a n)) μ g.2 g.1 (by simp only [RepV]; exact ⟨_, rfl⟩) k
end
end Mine
namespace Mine
section
variable {c : Cx} {A : Around} {env : Env} {ρ : Rho} {μ : Mu}

theorem WV.div_int {a b : Int} {K : PV → Mu → Prop} (O : c.Ok) (hb : b ≠ 0 ∧ b.natAbs < 2 ^ 64) (k : K (.int (a.fdiv b)) μ) : WV c A (f2 (binaryOp .FloorDiv)) [.int a, .int b] μ K :=
  WV.ii O (fun s t u E Q h => PyProof.Rows.floordiv_int hb.1 h (.inl (PyProof.noPylong_of_log2 (by
    have h1 : b.natAbs ≠ 0 := by have := hb.1; omega
    have h2 : b.natAbs.log2 < 64 := (Nat.log2_lt h1).mpr hb.2
    omega)))) k
theorem WV.ff {f : Value → Value → Sem Value} {a b r : UInt64} {K : PV → Mu → Prop} (O : c.Ok)
    (h : ∀ (s : Shared) (t u : Tok) (E Q : Value → Shared → Prop), Q (.float r s.toks) { s with toks := s.toks + 1 } → wpAny (model c.prog c.w) A (f (.float a t) (.float b u)) Q E s) (k : K (.flt r) μ) : WV c A (f2 f) [.flt a, .flt b] μ K :=
  WV.of2 fun s ι E Q v w I r1 r2 hQ => by
    simp only [RepV] at r1 r2
    obtain ⟨t, rfl, _⟩ := r1
    obtain ⟨u, rfl, _⟩ := r2
    have g := toks_inv O I (s.toks + 1)
    exact h s t u E Q (hQ _ _ ι (.flt r) μ g.2 g.1 (by simp only [RepV]; exact ⟨_, rfl, Nat.pos_iff_ne_zero.mp I.tp⟩) k)
theorem WV.add_flt {a b : UInt64} {K : PV → Mu → Prop} (O : c.Ok) (k : K (.flt (Float64.add a b)) μ) : WV c A (f2 (binaryOp .Add)) [.flt a, .flt b] μ K := WV.ff O (fun s t u E Q h => PyProof.Rows.add_float h) k
theorem WV.sub_flt {a b : UInt64} {K : PV → Mu → Prop} (O : c.Ok) (k : K (.flt (Float64.sub a b)) μ) : WV c A (f2 (binaryOp .Sub)) [.flt a, .flt b] μ K := WV.ff O (fun s t u E Q h => PyProof.Rows.sub_float h) k
theorem WV.mul_flt {a b : UInt64} {K : PV → Mu → Prop} (O : c.Ok) (k : K (.flt (Float64.mul a b)) μ) : WV c A (f2 (binaryOp .Mult)) [.flt a, .flt b] μ K := WV.ff O (fun s t u E Q h => PyProof.Rows.mul_float h) k
theorem WV.div_flt {a b : UInt64} {K : PV → Mu → Prop} (O : c.Ok) (hb : ¬Float64.isZero b = true) (k : K (.flt (Float64.div a b)) μ) : WV c A (f2 (binaryOp .Div)) [.flt a, .flt b] μ K := WV.ff O (fun s t u E Q h => PySem.AutoFloatOps.truediv_1 hb h) k
theorem WV.mod_flt {a b : UInt64} {K : PV → Mu → Prop} (O : c.Ok) (hb : ¬Float64.isZero b = true) (k : K (.flt (Float64.divmod a b).2) μ) : WV c A (f2 (binaryOp .Mod)) [.flt a, .flt b] μ K := WV.ff O (fun s t u E Q h => PySem.AutoFloatOps.mod_1 hb h) k
theorem WV.sub_fi {a : UInt64} {n : Int} {K : PV → Mu → Prop} (O : c.Ok) (hb : n.natAbs < 2 ^ 1023) (k : K (.flt (Float64.sub a (Float64.ofInt n))) μ) : WV c A (f2 (binaryOp .Sub)) [.flt a, .int n] μ K :=
  WV.of2 fun s ι E Q v w I r1 r2 hQ => by
    simp only [RepV] at r1 r2
    obtain ⟨t, rfl, _⟩ := r1
    obtain ⟨u, rfl⟩ := r2
    have g := toks_inv O I (s.toks + 1)
    exact PyProof.Rows.sub_fi_fits hb (hQ _ _ ι (.flt _) μ g.2 g.1 (by simp only [RepV]; exact ⟨_, rfl, Nat.pos_iff_ne_zero.mp I.tp⟩) k)
/-- a / b of two ints -/
def fdiv (a b : Int) : UInt64 := Float64.ofFrac (decide (a < 0) != decide (b < 0)) a.natAbs b.natAbs
theorem WV.tdiv_int {a b : Int} {K : PV → Mu → Prop} (O : c.Ok) (ha : A.handled = none) (hb : a.natAbs < 2 ^ 1023 ∧ b ≠ 0) (k : K (.flt (fdiv a b)) μ) : WV c A (f2 (binaryOp .Div)) [.int a, .int b] μ K :=
  WV.of2 fun s ι E Q v w I r1 r2 hQ => by
    simp only [RepV] at r1 r2
    obtain ⟨t, rfl⟩ := r1
    obtain ⟨u, rfl⟩ := r2
    have g := toks_inv O I (s.toks + 1)
    exact PySem.Flt.div_ii_fits ha hb.1 (fun h => absurd h hb.2) (fun _ _ => hQ _ _ ι (.flt _) μ g.2 g.1 (by simp only [RepV]; exact ⟨_, rfl, Nat.pos_iff_ne_zero.mp I.tp⟩) k)

/-- two lists, one behind the other -/
theorem RepL.append {h : Heap} {ι : Iota} : ∀ (ps qs : List PV) (vs ws : List Value), RepL h ι ps vs → RepL h ι qs ws → RepL h ι (ps ++ qs) (vs ++ ws)
  | [], qs, vs, ws, r, r' => by simp only [RepL] at r; subst r; exact r'
  | p :: ps, qs, vs, ws, r, r' => by
    simp only [RepL] at r
    obtain ⟨v, r0, rfl, h1, h2⟩ := r
    simp only [List.cons_append, RepL]
    exact ⟨_, _, rfl, h1, RepL.append ps qs r0 ws h2 r'⟩
theorem Inv.lst {c : Cx} {s : Shared} {ι : Iota} {μ : Mu} (I : Inv c s ι μ) {i : Nat} {ps : List PV} (hm : μ[i]? = some (.lst ps)) {v : Value} (r : RepV s.heap ι (.loc i) v) :
    ∃ a vs n, v = .ref a ∧ ι[i]? = some a ∧ s.heap.get? a = some (lstOf vs n) ∧ RepL s.heap ι ps vs := by
  simp only [RepV] at r
  obtain ⟨a, rfl, ha⟩ := r
  obtain ⟨vs, n, e, rl⟩ := I.mo i a _ ha hm
  exact ⟨a, vs, n, rfl, ha, e, rl⟩
theorem WV.add_lst {i j : Nat} {ps qs : List PV} {K : PV → Mu → Prop} (O : c.Ok) (hi : μ[i]? = some (.lst ps)) (hj : μ[j]? = some (.lst qs)) (hb : ps.length ≤ 1000000 ∧ qs.length ≤ 1000000) (k : K (.loc μ.length) (μ ++ [.lst (ps ++ qs)])) :
    WV c A (f2 (binaryOp .Add)) [.loc i, .loc j] μ K := WV.of2 fun s ι E Q v w I r1 r2 hQ => by
  obtain ⟨a, vs, n, rfl, ha, ea, ra⟩ := I.lst hi r1
  obtain ⟨b, ws, m, rfl, hb', eb, rb⟩ := I.lst hj r2
  have t := lst_new O I (RepL.append ps qs vs ws ra rb) (h' := s.heap.push (lstOf (vs ++ ws) 0)) (D := s.heap.objs.size) (n := 0) (tk := s.toks) (fresh_size _) (Heap.get?_push_size _ rfl) (fun b o e => Heap.get?_push_of_some _ e) I.tp
  refine PySem.P.add_list (items := vs.toArray) (items2 := ws.toArray) (n := n) (n2 := m) ea eb ?_ ?_
  · have := hQ _ _ _ _ _ t.1 t.2.1 t.2.2 k
    simpa [lstOf] using this
  · have h1 := RepL.length ps vs ra
    have h2 := RepL.length qs ws rb
    rw [sizeLine_eq]
    simp only [List.size_toArray]
    omega

/- ---- tests ---- -/
theorem WB.cmp1 {l r : Expr} {op : CmpOp} {pos : Pos} {K : Bool → Mu → Prop} (O : c.Ok)
    (h : WE c A l env ρ μ fun p μ₁ => WE c A r env ρ μ₁ fun q μ₂ => WV c A (f2 (compareOp op)) [p, q] μ₂ fun x μ₃ => ∃ b, x = .bool b ∧ K b μ₃) (hb : behindInMarks op r = false) : WB c A (.Compare l [op] [r] pos) env ρ μ K := ⟨fun s ι E Q I V hQ => by
  refine wpAny_isTrue_Compare1 (h.run s ι E _ I V fun a s₁ ι₁ p μ₁ S₁ I₁ r₁ k₁ => ?_) hb
  refine k₁.run s₁ ι₁ E _ I₁ (V.step O I S₁) fun b s₂ ι₂ q μ₂ S₂ I₂ r₂ k₂ => ?_
  refine k₂.run s₂ ι₂ E _ [a, b] I₂ (by simp only [RepL]; exact ⟨_, _, rfl, I₁.rep O S₂ r₁, _, _, rfl, r₂, rfl⟩) fun v s₃ ι₃ x μ₃ S₃ I₃ r₃ k₃ => ?_
  obtain ⟨b', rfl, k₃⟩ := k₃
  simp only [RepV] at r₃
  subst r₃
  exact wpAny_truthy_bool (hQ b' s₃ ι₃ μ₃ ((S₁.trans S₂).trans S₃) I₃ k₃)⟩
/-- all of them (and), or one of them (or) -/
structure WAll (c : Cx) (A : Around) (op : BoolOp) (es : List Expr) (env : Env) (ρ : Rho) (μ : Mu) (K : Bool → Mu → Prop) : Prop where
  run : ∀ (s : Shared) (ι : Iota) (E : Value → Shared → Prop) (Q : Bool → Shared → Prop), Inv c s ι μ → EnvOk c env ρ s ι →
    (∀ b s' ι' μ', Step c s ι s' ι' → Inv c s' ι' μ' → K b μ' → Q b s') → wpAny (model c.prog c.w) A (allTrue op es env) Q E s
theorem WB.boolop {op : BoolOp} {es : List Expr} {pos : Pos} {K : Bool → Mu → Prop} (h : WAll c A op es env ρ μ K) : WB c A (.BoolOp op es pos) env ρ μ K := ⟨fun s ι E Q I V hQ =>
  wpAny_isTrue_BoolOp (h.run s ι E Q I V hQ)⟩
theorem WAll.and_nil {K : Bool → Mu → Prop} (h : K true μ) : WAll c A .And [] env ρ μ K := ⟨fun s ι E Q I V hQ => wpAny_allTrue_And_nil (hQ _ s ι μ (Step.refl ..) I h)⟩
theorem WAll.or_nil {K : Bool → Mu → Prop} (h : K false μ) : WAll c A .Or [] env ρ μ K := ⟨fun s ι E Q I V hQ => wpAny_allTrue_Or_nil (hQ _ s ι μ (Step.refl ..) I h)⟩
theorem WAll.and {e : Expr} {es : List Expr} {K : Bool → Mu → Prop} (O : c.Ok) (h : WB c A e env ρ μ fun b μ₁ => if b = true then WAll c A .And es env ρ μ₁ K else K false μ₁) : WAll c A .And (e :: es) env ρ μ K := ⟨fun s ι E Q I V hQ => by
  refine wpAny_allTrue_And_cons (h.run s ι E _ I V fun b s₁ ι₁ μ₁ S₁ I₁ k₁ => ?_)
  cases b with
  | true => exact WAll.run k₁ s₁ ι₁ E Q I₁ (V.step O I S₁) fun b s₂ ι₂ μ₂ S₂ I₂ k₂ => hQ b s₂ ι₂ μ₂ (S₁.trans S₂) I₂ k₂
  | false => exact hQ _ s₁ ι₁ μ₁ S₁ I₁ k₁⟩
theorem WAll.or {e : Expr} {es : List Expr} {K : Bool → Mu → Prop} (O : c.Ok) (h : WB c A e env ρ μ fun b μ₁ => if b = true then K true μ₁ else WAll c A .Or es env ρ μ₁ K) : WAll c A .Or (e :: es) env ρ μ K := ⟨fun s ι E Q I V hQ => by
  refine wpAny_allTrue_Or_cons (h.run s ι E _ I V fun b s₁ ι₁ μ₁ S₁ I₁ k₁ => ?_)
  cases b with
  | true => exact hQ _ s₁ ι₁ μ₁ S₁ I₁ k₁
  | false => exact WAll.run k₁ s₁ ι₁ E Q I₁ (V.step O I S₁) fun b s₂ ι₂ μ₂ S₂ I₂ k₂ => hQ b s₂ ι₂ μ₂ (S₁.trans S₂) I₂ k₂⟩
/-- what a value is taken for -/
inductive TruthIs : PV → Bool → Prop
  | bool (b : Bool) : TruthIs (.bool b) b
  | int (i : Int) : TruthIs (.int i) (i != 0)
  | str (x : Str) : x.length ≤ 1000000000 → TruthIs (.str x) ((x.length : Int) != 0)
theorem truth_run (O : c.Ok) {p : PV} {b : Bool} {s : Shared} {ι : Iota} {E : Value → Shared → Prop} {Q : Bool → Shared → Prop} {v : Value} (I : Inv c s ι μ) (r : RepV s.heap ι p v) (t : TruthIs p b)
    (h : ∀ s', Step c s ι s' ι → Inv c s' ι μ → Q b s') : wpAny (model c.prog c.w) A (truthy v) Q E s := by
  cases t with
  | bool b => simp only [RepV] at r; subst r; exact wpAny_truthy_bool (h _ (Step.refl ..) I)
  | int i => simp only [RepV] at r; obtain ⟨t, rfl⟩ := r; exact PyProof.Rows.truthy_int (h _ (Step.refl ..) I)
  | str x hx =>
    simp only [RepV] at r; obtain ⟨t, rfl⟩ := r
    have g := toks_inv O I (s.toks + 1 + 1)
    refine PySem.P.truthy_str (by omega) (h _ g.2 g.1)
abbrev plainTest (e : Expr) (env : Env) : Prop := ∀ whole, isTrue e env whole = (do let v ← whole; standAt e.pos; holding [v] (truthy v))
theorem WB.value {e : Expr} {K : Bool → Mu → Prop} (O : c.Ok) (h : WE c A e env ρ μ fun p μ₁ => ∃ b, TruthIs p b ∧ K b μ₁) (hp : plainTest e env) : WB c A e env ρ μ K := ⟨fun s ι E Q I V hQ => by
  refine wpAny_isTrue_value (h.run s ι E _ I V fun v s₁ ι₁ p μ₁ S₁ I₁ r₁ k₁ => ?_) (hp _)
  obtain ⟨b, t, k₁⟩ := k₁
  exact truth_run O I₁ r₁ t fun s' S I' => hQ b s' ι₁ μ₁ (S₁.trans S) I' k₁⟩

/- ---- and / or as a value ---- -/
theorem WE.bool_one {op : BoolOp} {e : Expr} {pos : Pos} {K : PV → Mu → Prop} (h : WE c A e env ρ μ K) : WE c A (.BoolOp op [e] pos) env ρ μ K := ⟨fun s ι E Q I V hQ => PyProof.Rows.BoolOp_one (h.run s ι E Q I V hQ)⟩
theorem WE.and {e₁ e₂ : Expr} {es : List Expr} {pos : Pos} {K : PV → Mu → Prop} (O : c.Ok) (h : WE c A e₁ env ρ μ fun p μ₁ => ∃ b, TruthIs p b ∧ (if b = true then WE c A (.BoolOp .And (e₂ :: es) pos) env ρ μ₁ K else K p μ₁)) : WE c A (.BoolOp .And (e₁ :: e₂ :: es) pos) env ρ μ K := ⟨fun s ι E Q I V hQ => by
  refine PyProof.Rows.BoolOp_and (h.run s ι E _ I V fun v s₁ ι₁ p μ₁ S₁ I₁ r₁ k₁ => ?_)
  obtain ⟨b, t, k₁⟩ := k₁
  refine truth_run O I₁ r₁ t fun s' S I' => ?_
  cases b with
  | true => exact WE.run k₁ s' ι₁ E Q I' (V.step O I (S₁.trans S)) fun v s₂ ι₂ q μ₂ S₂ I₂ r₂ k₂ => hQ v s₂ ι₂ q μ₂ ((S₁.trans S).trans S₂) I₂ r₂ k₂
  | false => exact hQ v s' ι₁ p μ₁ (S₁.trans S) I' (I₁.rep O S r₁) k₁⟩
end
end Mine
namespace Mine

section
open SeqAt
variable {A : Around} {s : Shared}
theorem rc_flt (a b : UInt64) (t u : Tok) : RcAt A s (.float a t) (.float b u) (Float64.cmp a b == some .eq) := fun prog w E Q h => PySem.AutoFloatOps.eq_0 h
theorem eq_flt (hb : NoneBooked s.heap) (a b : UInt64) (t u : Tok) (h0 : t ≠ 0 ∧ u ≠ 0) (hc : (Float64.cmp a b == some .eq) = true) : EqAt A s (.float a t) (.float b u) true := fun prog w E Q hq => by
  have rc : wpAny (model prog w) A (do truthOfDropped (← richCompare .Eq (.float a t) (.float b u))) Q E s := wpAny_bind (rc_flt a b t u prog w E _ (wpAny_truthy_bool (by rw [hc]; exact hq)))
  unfold eqBool
  refine wpAny_holding ?_
  refine wpAny_ite_split (fun hab => wpAny_bind (wpAny_rule (wpAny_pure hq))) (fun _ => ?_)
  have hs : wpAny (model prog w) A (isSame.created (a == b && !Float64.isNaN a) t u) (fun b' s' => s' = s) E s := by
    unfold isSame.created
    refine wpAny_ite ?_
    split
    · rename_i h; simp at h; exact absurd h (by rintro (h | h); exact h0.1 h; exact h0.2 h)
    refine wpAny_ite ?_
    split
    · exact wpAny_pure rfl
    refine wpAny_ite ?_
    split
    · exact wpAny_pure rfl
    refine wpAny_bind (wpAny_sharingNotTold_none hb ?_)
    first | rw [if_neg Bool.false_ne_true] | simp only [Bool.false_eq_true, if_false]
    refine wpAny_bind (wpAny_sharingNotTold_none hb ?_)
    first | rw [if_neg Bool.false_ne_true] | simp only [Bool.false_eq_true, if_false]
    exact wpAny_bind (wpAny_rule (wpAny_bind (wpAny_askSetting (wpAny_pure rfl))))
  refine wpAny_bind (wpAny_mono hs (fun b' s' e => ?_) fun _ _ h => h)
  subst e
  cases b' with
  | true => exact wpAny_pure hq
  | false => exact rc
end

theorem lst_isList {h : Heap} {a : Addr} {vs : List Value} {n : Nat} (e : h.get? a = some (lstOf vs n)) : h.IsList a vs.toArray := ⟨_, e, rfl, n, rfl⟩
theorem tup_isTuple {h : Heap} {a : Addr} {vs : List Value} {n : Nat} (e : h.get? a = some (tupOf vs n)) : h.IsTuple a vs.toArray := ⟨_, e, rfl, n, rfl⟩

theorem allT (n : Nat) : (List.range n).all (fun _ => true) = true := List.all_eq_true.mpr fun _ _ => rfl
theorem Inv.noneBooked {c : Cx} (O : c.Ok) {s : Shared} {ι : Iota} {μ : Mu} (I : Inv c s ι μ) : NoneBooked s.heap := by
  obtain ⟨mc, ⟨o, es, ep, e, r⟩, hk⟩ := O.nb
  exact ⟨mc, ⟨o, es, ep, I.old _ _ e O.sX.1, r⟩, hk⟩
/-- p == q, told true, u units deep at most -/
def EqOk (c : Cx) (μ : Mu) (u : Nat) (p q : PV) : Prop := ∀ (A : Around) (s : Shared) (ι : Iota) (v w : Value), A.units + u < cLine → Inv c s ι μ → RepV s.heap ι p v → RepV s.heap ι q w → SeqAt.EqAt A s v w true
def EqsOk (c : Cx) (μ : Mu) (u : Nat) (ps qs : List PV) : Prop := ps.length = qs.length ∧ ∀ (j : Nat) (p q : PV), ps[j]? = some p → qs[j]? = some q → EqOk c μ u p q
section
variable {c : Cx} {A : Around} {env : Env} {ρ : Rho} {μ : Mu} {u : Nat}
theorem EqsOk.nil : EqsOk c μ u [] [] := ⟨rfl, fun j p q h => nomatch h⟩
theorem EqsOk.cons {p q : PV} {ps qs : List PV} (h : EqOk c μ u p q) (hs : EqsOk c μ u ps qs) : EqsOk c μ u (p :: ps) (q :: qs) := by
  refine ⟨congrArg (· + 1) hs.1, fun j x y h1 h2 => ?_⟩
  cases j with
  | zero => cases h1; cases h2; exact h
  | succ j => exact hs.2 j x y h1 h2
theorem EqOk.str (x : Str) : EqOk c μ u (.str x) (.str x) := fun A s ι v w _ _ r1 r2 => by
  simp only [RepV] at r1 r2
  obtain ⟨t, rfl⟩ := r1
  obtain ⟨t', rfl⟩ := r2
  have := SeqAt.EqAt.str_str (A := A) (s := s) x t x t'
  rwa [beq_self_eq_true] at this
theorem EqOk.int (x : Int) : EqOk c μ u (.int x) (.int x) := fun A s ι v w _ _ r1 r2 => by
  simp only [RepV] at r1 r2
  obtain ⟨t, rfl⟩ := r1
  obtain ⟨t', rfl⟩ := r2
  have := SeqAt.EqAt.int_int (A := A) (s := s) x t x t'
  rwa [beq_self_eq_true] at this
theorem EqOk.flt (O : c.Ok) {a b : UInt64} (h : (Float64.cmp a b == some .eq) = true) : EqOk c μ u (.flt a) (.flt b) := fun A s ι v w _ I r1 r2 => by
  simp only [RepV] at r1 r2
  obtain ⟨t, rfl, h1⟩ := r1
  obtain ⟨t', rfl, h2⟩ := r2
  exact eq_flt (I.noneBooked O) _ _ _ _ ⟨h1, h2⟩ h
theorem EqsOk.at {ps qs : List PV} {s : Shared} {ι : Iota} {vs ws : List Value} (e : EqsOk c μ u ps qs) (hu : A.units + u < cLine) (I : Inv c s ι μ) (r1 : RepL s.heap ι ps vs) (r2 : RepL s.heap ι qs ws) (j : Nat) (h1 : j < vs.toArray.size) (h2 : j < ws.toArray.size) : SeqAt.EqAt A s vs.toArray[j] ws.toArray[j] true := by
  rw [List.size_toArray] at h1 h2
  obtain ⟨v, ev, rv⟩ := (RepL.get ps vs j r1).1 _ (List.getElem?_eq_getElem (RepL.length ps vs r1 ▸ h1))
  obtain ⟨w, ew, rw'⟩ := (RepL.get qs ws j r2).1 _ (List.getElem?_eq_getElem (RepL.length qs ws r2 ▸ h2))
  rw [List.getElem?_eq_getElem h1] at ev
  rw [List.getElem?_eq_getElem h2] at ew
  cases ev
  cases ew
  exact e.2 j _ _ (List.getElem?_eq_getElem _) (List.getElem?_eq_getElem _) A s ι _ _ hu I rv rw'
theorem EqsOk.size {ps qs : List PV} {s : Shared} {ι : Iota} {vs ws : List Value} (e : EqsOk c μ u ps qs) (r1 : RepL s.heap ι ps vs) (r2 : RepL s.heap ι qs ws) : vs.toArray.size = ws.toArray.size :=
  (RepL.length ps vs r1).trans (e.1.trans (RepL.length qs ws r2).symm)
theorem unitsLt {a u n : Nat} (h : a + 1 + u < n) : a < n := Nat.lt_of_le_of_lt (Nat.le_trans (Nat.le_add_right a 1) (Nat.le_add_right _ u)) h
theorem EqsOk.rc {ps qs : List PV} {s : Shared} {ι : Iota} {vs ws : List Value} {x y : Addr} {m m' : Nat} (e : EqsOk c μ u ps qs) (hu : A.units + 1 + u < cLine) (I : Inv c s ι μ) (ea : s.heap.get? x = some (lstOf vs m)) (eb : s.heap.get? y = some (lstOf ws m')) (r1 : RepL s.heap ι ps vs) (r2 : RepL s.heap ι qs ws) : SeqAt.RcAt A s (.ref x) (.ref y) true := by
  have := SeqAt.RcAt.lists (A := A) (e := fun _ => true) (lst_isList ea) (lst_isList eb) (e.size r1 r2) (unitsLt hu) (e.at (A := A.in1) hu I r1 r2)
  rwa [allT] at this
theorem EqOk.lists {i j : Nat} {ps qs : List PV} (e : EqsOk c μ u ps qs) (hi : μ[i]? = some (.lst ps)) (hj : μ[j]? = some (.lst qs)) : EqOk c μ (1 + u) (.loc i) (.loc j) := fun A s ι v w hu I r1 r2 => by
  obtain ⟨x, vs, m, rfl, ha, ea, ra⟩ := I.lst hi r1
  obtain ⟨y, ws, m', rfl, hb, eb, rb⟩ := I.lst hj r2
  rw [← Nat.add_assoc] at hu
  by_cases hne : x = y
  · subst hne
    exact SeqAt.EqAt.same _
  · exact SeqAt.EqAt.of_refs hne (e.rc hu I ea eb ra rb)
theorem AOk.eqU {A : Around} (a : AOk 1 A) : A.units + 1 + 8 < cLine := by have := a.u; unfold cLine; omega
theorem WV.eq_lst {i j : Nat} {ps qs : List PV} {K : PV → Mu → Prop} (O : c.Ok) (a : AOk 1 A) (hi : μ[i]? = some (.lst ps)) (hj : μ[j]? = some (.lst qs)) (e : EqsOk c μ 8 ps qs) (k : K (.bool true) μ) : WV c A (f2 (compareOp .Eq)) [.loc i, .loc j] μ K :=
  WV.of2 fun s ι E Q v w I r1 r2 hQ => by
    obtain ⟨x, vs, m, rfl, ha, ea, ra⟩ := I.lst hi r1
    obtain ⟨y, ws, m', rfl, hb, eb, rb⟩ := I.lst hj r2
    have hq := hQ (.bool true) s ι (.bool true) μ (Step.refl ..) I (by simp only [RepV]) k
    exact e.rc a.eqU I ea eb ra rb c.prog c.w E Q hq
theorem WV.ne_lst {i j : Nat} {ps qs : List PV} {K : PV → Mu → Prop} (O : c.Ok) (a : AOk 1 A) (hi : μ[i]? = some (.lst ps)) (hj : μ[j]? = some (.lst qs)) (e : EqsOk c μ 8 ps qs) (k : K (.bool false) μ) : WV c A (f2 (compareOp .NotEq)) [.loc i, .loc j] μ K :=
  WV.of2 fun s ι E Q v w I r1 r2 hQ => by
    obtain ⟨x, vs, m, rfl, ha, ea, ra⟩ := I.lst hi r1
    obtain ⟨y, ws, m', rfl, hb, eb, rb⟩ := I.lst hj r2
    have hq := hQ (.bool false) s ι (.bool false) μ (Step.refl ..) I (by simp only [RepV]) k
    have := SeqAt.RcNeAt.lists (A := A) (e := fun _ => true) (lst_isList ea) (lst_isList eb) (e.size ra rb) (unitsLt a.eqU) (e.at (A := A.in1) a.eqU I ra rb)
    rw [allT] at this
    exact this c.prog c.w E Q hq
theorem WV.ne_tup {ps qs : List PV} {K : PV → Mu → Prop} (O : c.Ok) (a : AOk 1 A) (e : EqsOk c μ 8 ps qs) (k : K (.bool false) μ) : WV c A (f2 (compareOp .NotEq)) [.tup ps, .tup qs] μ K :=
  WV.of2 fun s ι E Q v w I r1 r2 hQ => by
    simp only [RepV] at r1 r2
    obtain ⟨x, vs, m, rfl, ea, ra⟩ := r1
    obtain ⟨y, ws, m', rfl, eb, rb⟩ := r2
    have hq := hQ (.bool false) s ι (.bool false) μ (Step.refl ..) I (by simp only [RepV]) k
    have := SeqAt.RcNeAt.tuples (A := A) (e := fun _ => true) (tup_isTuple ea) (tup_isTuple eb) (unitsLt a.eqU) (e.at (A := A.in1) a.eqU I ra rb)
    rw [allT, beq_iff_eq.mpr (e.size ra rb)] at this
    exact this c.prog c.w E Q hq
/-- a bool in a list of bools -/
theorem RepL.bools {h : Heap} {ι : Iota} : ∀ (bs : List Bool) (ws : List Value), RepL h ι (bs.map .bool) ws → ws = bs.map .bool := by
  intro bs
  induction bs with
  | nil => intro ws r; simpa only [List.map_nil, RepL] using r
  | cons b bs ih =>
    intro ws r
    simp only [List.map_cons, RepL] at r
    obtain ⟨v, r', rfl, hv, hr⟩ := r
    simp only [RepV] at hv
    rw [hv, ih _ hr]; rfl
/- ---- chains ---- -/
theorem WB.chain2 {l r₁ r₂ : Expr} {op₁ op₂ : CmpOp} {pos : Pos} {K : Bool → Mu → Prop} (O : c.Ok)
    (h : WE c A l env ρ μ fun p μ₁ => WE c A r₁ env ρ μ₁ fun q μ₂ => WV c A (f2 (compareOp op₁)) [p, q] μ₂ fun x μ₃ => ∃ b, x = .bool b ∧
      (if b = true then WE c A r₂ env ρ μ₃ fun z μ₄ => WV c A (f2 (compareOp op₂)) [q, z] μ₄ fun x μ₅ => ∃ b, x = .bool b ∧ K b μ₅ else K false μ₃)) (hb : lastMarks [op₁, op₂] [r₁, r₂] = false) :
    WB c A (.Compare l [op₁, op₂] [r₁, r₂] pos) env ρ μ K := ⟨fun s ι E Q I V hQ => by
  refine PyProof.Rows.isTrue_chain (h.run s ι E _ I V fun a s₁ ι₁ p μ₁ S₁ I₁ r₁ k₁ => ?_) hb
  refine PyProof.Rows.test_link (k₁.run s₁ ι₁ E _ I₁ (V.step O I S₁) fun b s₂ ι₂ q μ₂ S₂ I₂ r₂ k₂ => ?_)
  refine k₂.run s₂ ι₂ E _ [a, b] I₂ (by simp only [RepL]; exact ⟨_, _, rfl, I₁.rep O S₂ r₁, _, _, rfl, r₂, rfl⟩) fun v s₃ ι₃ x μ₃ S₃ I₃ r₃ k₃ => ?_
  obtain ⟨b', rfl, k₃⟩ := k₃
  simp only [RepV] at r₃
  subst r₃
  refine wpAny_truthy_bool ?_
  cases b' with
  | false => exact hQ false s₃ ι₃ μ₃ ((S₁.trans S₂).trans S₃) I₃ k₃
  | true =>
    refine PyProof.Rows.test_last (WE.run k₃ s₃ ι₃ E _ I₃ (V.step O I ((S₁.trans S₂).trans S₃)) fun z s₄ ι₄ zp μ₄ S₄ I₄ r₄ k₄ => ?_)
    refine k₄.run s₄ ι₄ E _ [b, z] I₄ (by simp only [RepL]; exact ⟨_, _, rfl, I₂.rep O (S₃.trans S₄) r₂, _, _, rfl, r₄, rfl⟩) fun v s₅ ι₅ x μ₅ S₅ I₅ r₅ k₅ => ?_
    obtain ⟨b'', rfl, k₅⟩ := k₅
    simp only [RepV] at r₅
    subst r₅
    exact wpAny_truthy_bool (hQ b'' s₅ ι₅ μ₅ ((((S₁.trans S₂).trans S₃).trans S₄).trans S₅) I₅ k₅)⟩
end
end Mine
namespace Mine

/-- a text of these signs -/
abbrev S (l : List Nat) : Str := ⟨l.toArray⟩
theorem S_length (l : List Nat) : (S l).length = l.length := by simp [Str.length]
theorem S_append (a b : List Nat) : S a ++ S b = S (a ++ b) := by
  show (⟨a.toArray ++ b.toArray⟩ : Str) = _
  simp
theorem S_inj {a b : List Nat} : S a = S b ↔ a = b := by
  constructor
  · intro h; injection h with h; simpa using h
  · rintro rfl; rfl
theorem S_beq (a b : List Nat) : (S a == S b) = (a == b) := by
  rw [Bool.eq_iff_iff, beq_iff_eq, beq_iff_eq]; exact S_inj
/-- the part of a row, as a slice picks it -/
def cutL {α : Type} (xs : List α) (lo hi : Option Int) : List α := (xs.drop (lo.elim 0 (clipAt xs.length))).take (hi.elim xs.length (clipAt xs.length) - lo.elim 0 (clipAt xs.length))
theorem cutL_pick (vs : List Value) (lo hi : Option Int) : slicePick vs.toArray lo hi none = (cutL vs lo hi).toArray := by
  rw [slicePick_plain]; simp [cutL]
theorem cutL_str (l : List Nat) (lo hi : Option Int) : Txt.slice (S l) lo hi = S (cutL l lo hi) := by
  have h1 : ((1 : Int) > 0) := by decide
  have e : Builtin.Str.strSliceIndices lo hi 1 l.length = (List.range ((hi.elim l.length (clipAt l.length)) - (lo.elim 0 (clipAt l.length)))).map ((lo.elim 0 (clipAt l.length)) + ·) := by
    rw [← sliceRange_one]
    unfold Builtin.Str.strSliceIndices
    simp only [h1, if_true]
    congr 1
    · cases lo <;> simp [clipAt_cast]
    · cases hi <;> simp [clipAt_cast]
  have e2 : (Builtin.Str.strSliceIndices lo hi 1 l.length).filterMap ((S l).cps[·]?) = cutL l lo hi := by
    rw [e, pick_run]; rfl
  unfold Txt.slice
  rw [show (S l).length = l.length from S_length l]
  split
  · rename_i hc
    simp only [beq_self_eq_true, Bool.true_and, beq_iff_eq] at hc
    have hc' := hc
    rw [e] at hc'
    simp only [List.length_map, List.length_range] at hc'
    have hle : hi.elim l.length (clipAt l.length) ≤ l.length := by
      cases hi with
      | none => exact Nat.le_refl _
      | some i => have := clipAt_cast l.length i; simp only [Option.elim]; omega
    have e3 : (cutL l lo hi).length = l.length := by
      unfold cutL
      simp only [List.length_take, List.length_drop]
      omega
    have e4 : (cutL l lo hi).Sublist l := ((List.take_sublist _ _).trans (List.drop_sublist _ _))
    rw [e4.eq_of_length e3]
  · rw [e2]

theorem RepL.drop {h : Heap} {ι : Iota} : ∀ (n : Nat) (ps : List PV) (vs : List Value), RepL h ι ps vs → RepL h ι (ps.drop n) (vs.drop n)
  | 0, ps, vs, r => r
  | n + 1, [], vs, r => by simp only [RepL] at r; subst r; simp only [List.drop_nil, RepL]
  | n + 1, p :: ps, vs, r => by
    simp only [RepL] at r
    obtain ⟨v, r', rfl, h1, h2⟩ := r
    exact RepL.drop n ps r' h2
theorem RepL.take {h : Heap} {ι : Iota} : ∀ (n : Nat) (ps : List PV) (vs : List Value), RepL h ι ps vs → RepL h ι (ps.take n) (vs.take n)
  | 0, ps, vs, r => by simp only [List.take_zero, RepL]
  | n + 1, [], vs, r => by simp only [RepL] at r; subst r; simp only [List.take_nil, RepL]
  | n + 1, p :: ps, vs, r => by
    simp only [RepL] at r
    obtain ⟨v, r', rfl, h1, h2⟩ := r
    simp only [List.take_succ_cons, RepL]
    exact ⟨v, _, rfl, h1, RepL.take n ps r' h2⟩
theorem RepL.cut {h : Heap} {ι : Iota} {ps : List PV} {vs : List Value} (r : RepL h ι ps vs) (lo hi : Option Int) : RepL h ι (cutL ps lo hi) (cutL vs lo hi) := by
  unfold cutL
  rw [RepL.length ps vs r]
  exact RepL.take _ _ _ (RepL.drop _ _ _ r)
theorem RepL.reverse {h : Heap} {ι : Iota} : ∀ (ps : List PV) (vs : List Value), RepL h ι ps vs → RepL h ι ps.reverse vs.reverse
  | [], vs, r => by simp only [RepL] at r; subst r; simp only [List.reverse_nil, RepL]
  | p :: ps, vs, r => by
    simp only [RepL] at r
    obtain ⟨v, r', rfl, h1, h2⟩ := r
    simp only [List.reverse_cons]
    exact RepL.append _ _ _ _ (RepL.reverse ps r' h2) (by simp only [RepL]; exact ⟨v, _, rfl, h1, rfl⟩)

section
variable {c : Cx} {A : Around} {env : Env} {ρ : Rho} {μ : Mu}

/-- a subscript's base of one of the built-in kinds -/
def SubOk (μ : Mu) : PV → Prop
  | .str _ => True
  | .tup _ => True
  | .loc i => ∃ ps, μ[i]? = some (.lst ps)
  | _ => False
theorem SubOk.type {s : Shared} {ι : Iota} {p : PV} {v : Value} (I : Inv c s ι μ) (h : SubOk μ p) (r : RepV s.heap ι p v) : ∃ T id, typeLookup (.type T) "__getitem__" = pure (some (.builtin id)) ∧ s.TypeIs v T := by
  cases p <;> simp only [SubOk] at h
  case str x => simp only [RepV] at r; obtain ⟨t, rfl⟩ := r; exact ⟨"str", _, F.slot_str_getitem.lookup, rfl⟩
  case tup ps => simp only [RepV] at r; obtain ⟨a, vs, n, rfl, e, _⟩ := r; exact ⟨"tuple", _, F.slot_tuple_getitem.lookup, _, e, rfl⟩
  case loc i =>
    obtain ⟨ps, h⟩ := h
    obtain ⟨a, vs, n, rfl, _, e, _⟩ := I.lst h r
    exact ⟨"list", _, F.slot_list_getitem.lookup, _, e, rfl⟩

theorem subTail {value slice : Expr} {o i : Value} {T id : String} {s : Shared} {E Q : Value → Shared → Prop} (hT : s.TypeIs o T)
    (hl : typeLookup (.type T) "__getitem__" = pure (some (.builtin id))) (h : wpAny (model c.prog c.w) A (getItem o i) Q E s)
    (hs : subscripted slice false o i = operate [o, i] (getItem o i) ∨ subscripted slice false o i = operate [i, o] (getItem o i)) :
    wpAny (model c.prog c.w) A (subscriptTail value slice o i) Q E s := by
  unfold subscriptTail
  refine wpAny_bind ?_
  rw [getitemInPython_of_ne hT.not_modules]
  refine wpAny_bind (wpAny_specialOf hT hl ?_)
  have fin : wpAny (model c.prog c.w) A (subscripted slice false o i) (fun r s₃ => wpAny (model c.prog c.w) A (letTemporaryGo value o r >>= fun _ => pure r) Q E s₃) E s := by
    rcases hs with hs | hs <;> rw [hs] <;> exact wpAny_operating (wpAny_mono h (fun r s₃ h₃ => wpAny_bind (wpAny_letTemporaryGo (wpAny_pure h₃))) fun _ _ x => x)
  first
    | exact wpAny_pure (wpAny_bind fin)
    | exact wpAny_bind (wpAny_pure (wpAny_bind fin))
    | exact wpAny_bind fin
abbrev plainIdx (e : Expr) : Prop := ∀ o i, subscripted e false o i = operate [o, i] (getItem o i)
theorem WE.sub {value idx : Expr} {pos : Pos} {K : PV → Mu → Prop} (O : c.Ok)
    (h : WE c A value env ρ μ fun p μ₁ => WE c A idx env ρ μ₁ fun q μ₂ => SubOk μ₂ p ∧ WV c A (f2 getItem) [p, q] μ₂ K) (hs : plainIdx idx) : WE c A (.Subscript value idx pos) env ρ μ K := ⟨fun s ι E Q I V hQ => by
  refine PyProof.Rows.Subscript_ (h.run s ι E _ I V fun o s₁ ι₁ p μ₁ S₁ I₁ r₁ k₁ => ?_)
  refine k₁.run s₁ ι₁ E _ I₁ (V.step O I S₁) fun i s₂ ι₂ q μ₂ S₂ I₂ r₂ k₂ => ?_
  obtain ⟨hb, k₂⟩ := k₂
  have r₁' := I₁.rep O S₂ r₁
  obtain ⟨T, id, hl, hT⟩ := hb.type I₂ r₁'
  exact subTail hT hl (k₂.run s₂ ι₂ E _ [o, i] I₂ (by simp only [RepL]; exact ⟨_, _, rfl, r₁', _, _, rfl, r₂, rfl⟩) fun v s₃ ι₃ x μ₃ S₃ I₃ r₃ k₃ => hQ v s₃ ι₃ x μ₃ ((S₁.trans S₂).trans S₃) I₃ r₃ k₃) (.inl (hs _ _))⟩

theorem WV.item_lst {i : Nat} {n : Int} {ps : List PV} {k : Nat} {q : PV} {K : PV → Mu → Prop} (hi : μ[i]? = some (.lst ps)) (hk : seqIndex? n ps.length = some k) (hq : ps[k]? = some q) (hb : ps.length ≤ 1000000) (h : K q μ) : WV c A (f2 getItem) [.loc i, .int n] μ K :=
  WV.of2 fun s ι E Q v w I r1 r2 hQ => by
    obtain ⟨a, vs, m, rfl, ha, ea, ra⟩ := I.lst hi r1
    simp only [RepV] at r2
    obtain ⟨t, rfl⟩ := r2
    have hl := RepL.length ps vs ra
    obtain ⟨v, hv, rv⟩ := (RepL.get ps vs k ra).1 q hq
    have hk' : (if n < 0 then n + (ps.length : Int) else n) = k ∧ 0 ≤ (if n < 0 then n + (ps.length : Int) else n) ∧ (if n < 0 then n + (ps.length : Int) else n) < (ps.length : Int) := by
      unfold seqIndex? at hk
      dsimp only at hk
      generalize (if n < 0 then n + (ps.length : Int) else n) = j at hk ⊢
      split at hk
      · rename_i h
        simp only [Bool.and_eq_true, decide_eq_true_eq] at h
        have e : j = ((j.toNat : Nat) : Int) := (Int.toNat_of_nonneg h.1).symm
        cases hk
        exact ⟨e, h⟩
      · cases hk
    have hf := hQ v s ι q μ (Step.refl ..) I rv h
    by_cases hn : n < 0
    · rw [if_pos hn] at hk'
      refine wpAny_getItem_list_neg (items := vs.toArray) (lst_isList ea) hn (by simp only [List.size_toArray]; rw [hl, ← Int.zero_sub]; exact Int.sub_left_le_of_le_add (Int.add_comm n _ ▸ hk'.2.1)) (by omega) (x := v) ?_ hf
      have : (n + (vs.toArray.size : Int)).toNat = k := by rw [List.size_toArray, hl, hk'.1]; rfl
      rw [this]; simpa using hv
    · rw [if_neg hn] at hk'
      refine wpAny_getItem_list (items := vs.toArray) (lst_isList ea) hk'.2.1 (Int.lt_trans hk'.2.2 (Int.ofNat_lt.mpr (Nat.lt_of_le_of_lt hb (by decide : 1000000 < 2 ^ 63)))) (x := v) ?_ hf
      have : n.toNat = k := by rw [hk'.1]; rfl
      rw [this]; simpa using hv
theorem WV.item_tup {n : Int} {ps : List PV} {k : Nat} {q : PV} {K : PV → Mu → Prop} (hk : seqIndex? n ps.length = some k) (hq : ps[k]? = some q) (hb : -1000000 ≤ n ∧ n ≤ 1000000) (h : K q μ) : WV c A (f2 getItem) [.tup ps, .int n] μ K :=
  WV.of2 fun s ι E Q v w I r1 r2 hQ => by
    simp only [RepV] at r1 r2
    obtain ⟨a, vs, m, rfl, ea, ra⟩ := r1
    obtain ⟨t, rfl⟩ := r2
    have hl := RepL.length ps vs ra
    obtain ⟨v, hv, rv⟩ := (RepL.get ps vs k ra).1 q hq
    exact PySem.P.getItem_tuple (items := vs.toArray) (n := m) (k := k) (y := v) ea (by omega) (by omega) (by rw [show vs.toArray.size = ps.length by simp [hl]]; exact hk) (by simpa using hv) (hQ v s ι q μ (Step.refl ..) I rv h)
theorem WV.item_str {l : List Nat} {n : Int} {k : Nat} {q : Nat} {K : PV → Mu → Prop} (O : c.Ok) (hk : seqIndex? n l.length = some k) (hq : l[k]? = some q) (hb : -1000000 ≤ n ∧ n ≤ 1000000) (h : K (.str (S [q])) μ) : WV c A (f2 getItem) [.str (S l), .int n] μ K :=
  WV.of2 fun s ι E Q v w I r1 r2 hQ => by
    simp only [RepV] at r1 r2
    obtain ⟨t, rfl⟩ := r1
    obtain ⟨u, rfl⟩ := r2
    have g := toks_inv O I (s.toks + 1)
    refine PyProof.Rows.getItem_str (c := q) ?_ ?_ (hQ _ _ ι (.str (S [q])) μ g.2 g.1 (by simp only [RepV]; exact ⟨_, rfl⟩) h)
    · simp only [Bool.or_eq_false_iff, decide_eq_false_iff_not]; omega
    · rw [S_length, hk]; simpa [S] using hq

/- ---- slices ---- -/
def partIs (l : Option Int) (v : Value) : Prop := match l with
  | none => v = .none
  | some i => ∃ t, v = .int i t
/-- a slice's part -/
structure WPart (c : Cx) (A : Around) (e : Option Expr) (env : Env) (ρ : Rho) (μ : Mu) (K : Option Int → Mu → Prop) : Prop where
  run : ∀ (s : Shared) (ι : Iota) (E Q : Value → Shared → Prop), Inv c s ι μ → EnvOk c env ρ s ι →
    (∀ v s' ι' p μ', Step c s ι s' ι' → Inv c s' ι' μ' → partIs p v → K p μ' → Q v s') → wpAny (model c.prog c.w) A (evalPart e env) Q E s
theorem WPart.none {K : Option Int → Mu → Prop} (h : K .none μ) : WPart c A .none env ρ μ K := ⟨fun s ι E Q I V hQ => wpAny_evalPart_none (hQ _ s ι .none μ (Step.refl ..) I rfl h)⟩
theorem WPart.some {e : Expr} {K : Option Int → Mu → Prop} (h : WE c A e env ρ μ fun p μ₁ => ∃ i, p = .int i ∧ K (.some i) μ₁) : WPart c A (.some e) env ρ μ K := ⟨fun s ι E Q I V hQ => by
  refine wpAny_evalPart_some (h.run s ι E _ I V fun v s₁ ι₁ p μ₁ S₁ I₁ r₁ k₁ => ?_)
  obtain ⟨i, rfl, k₁⟩ := k₁
  simp only [RepV] at r₁
  exact hQ v s₁ ι₁ (.some i) μ₁ S₁ I₁ r₁ k₁⟩
theorem partIs.isPart {l : Option Int} {v : Value} (h : partIs l v) : IsPart v l := by
  cases l with
  | none => simp only [partIs] at h; subst h; exact IsPart.none
  | some i => obtain ⟨t, rfl⟩ := h; exact IsPart.int i t
theorem partIs.val {l : Option Int} {v : Value} (h : partIs l v) : ∃ x : Option (Int × Tok), v = partValue x ∧ x.map (·.1) = l := by
  cases l with
  | none => simp only [partIs] at h; subst h; exact ⟨Option.none, rfl, rfl⟩
  | some i => obtain ⟨t, rfl⟩ := h; exact ⟨Option.some (i, t), rfl, rfl⟩

/-- x[lo:hi] -/
inductive CutIs (μ : Mu) (lo hi : Option Int) : PV → PV → Mu → Prop
  | str (l : List Nat) : l.length ≤ 1000000 → CutIs μ lo hi (.str (S l)) (.str (S (cutL l lo hi))) μ
  | lst (i : Nat) (ps : List PV) : μ[i]? = some (.lst ps) → ps.length ≤ 1000000 → CutIs μ lo hi (.loc i) (.loc μ.length) (μ ++ [.lst (cutL ps lo hi)])
theorem WE.slice {value : Expr} {lo hi : Option Expr} {p pos : Pos} {K : PV → Mu → Prop} (O : c.Ok)
    (h : WE c A value env ρ μ fun b μ₁ => WPart c A lo env ρ μ₁ fun l μ₂ => WPart c A hi env ρ μ₂ fun u μ₃ => ∃ r μ₄, CutIs μ₃ l u b r μ₄ ∧ K r μ₄) : WE c A (.Subscript value (.Slice lo hi .none p) pos) env ρ μ K := ⟨fun s ι E Q I V hQ => by
  refine PyProof.Rows.Subscript_ (h.run s ι E _ I V fun o s₁ ι₁ b μ₁ S₁ I₁ r₁ k₁ => ?_)
  refine wpAny_Slice (k₁.run s₁ ι₁ E _ I₁ (V.step O I S₁) fun vl s₂ ι₂ l μ₂ S₂ I₂ r₂ k₂ => ?_)
  refine k₂.run s₂ ι₂ E _ I₂ (V.step O I (S₁.trans S₂)) fun vu s₃ ι₃ u μ₃ S₃ I₃ r₃ k₃ => ?_
  refine wpAny_evalPart_none ?_
  obtain ⟨r, μ₄, hc, k₄⟩ := k₃
  have g := I₃.grow O (s' := { s₃ with heap := s₃.heap.push { cls := .type "slice", data := .fields #[vl, vu, .none] } }) (fun b o e => Heap.get?_push_of_some _ e) I₃.bare rfl I₃.tp
  have r₁' := (I₁.rep O ((S₂.trans S₃).trans g.2) r₁)
  cases hc with
  | str x hx =>
    simp only [RepV] at r₁'
    obtain ⟨t, rfl⟩ := r₁'
    obtain ⟨xl, rfl, hl⟩ := r₂.val
    obtain ⟨xu, rfl, hu⟩ := r₃.val
    refine subTail (T := "str") rfl F.slot_str_getitem.lookup ?_ (.inr rfl)
    refine wpAny_with_toks (Nat.le_refl _) (wpAny_getItem_str_slice (l := xl) (u := xu) (st := .none) ⟨_, Heap.get?_push_size _ rfl, rfl, rfl⟩ rfl
      (post_val_or_str ⟨Nat.le_trans (Txt.slice_le (S x) _ _) (by rw [S_length, sizeLine_eq]; omega), fun t' tk htk => ?_⟩))
    have g' := toks_inv O g.1 tk (Nat.lt_of_lt_of_le g.1.tp htk)
    have e : Txt.slice (S x) (xl.map (·.1)) (xu.map (·.1)) = S (cutL x l u) := by rw [hl, hu]; exact cutL_str x l u
    have := hQ (.str (S (cutL x l u)) t') _ ι₃ _ _ ((((S₁.trans S₂).trans S₃).trans g.2).trans g'.2) g'.1 (by simp only [RepV]; exact ⟨_, rfl⟩) k₄
    rw [← e] at this
    exact this
  | lst i ps hi hx =>
    obtain ⟨a, vs, n, rfl, ha, ea, ra⟩ := g.1.lst hi r₁'
    have hl := RepL.length ps vs ra
    refine subTail (T := "list") ⟨_, ea, rfl⟩ F.slot_list_getitem.lookup ?_ (.inr rfl)
    have t := lst_new O g.1 (ra.cut l u) (h' := (s₃.heap.push { cls := .type "slice", data := .fields #[vl, vu, .none] }).push (lstOf (cutL vs l u) 0)) (D := s₃.heap.objs.size + 1) (n := 0) (tk := s₃.toks) (by
        have := fresh_size (s₃.heap.push { cls := .type "slice", data := .fields #[vl, vu, .none] })
        simpa [Heap.push] using this) (by
        have := Heap.get?_push_size (s₃.heap.push { cls := .type "slice", data := .fields #[vl, vu, .none] }) (o := lstOf (cutL vs l u) 0) rfl
        simpa [Heap.push] using this) (fun b o e => Heap.get?_push_of_some _ e) I₃.tp
    refine wpAny_getItem_list_slice (items := vs.toArray) (lo := l) (hi := u) (st := .none) (lst_isList ea) ⟨_, Heap.get?_push_size _ rfl, rfl, rfl⟩ r₂.isPart r₃.isPart (partIs.isPart (l := .none) rfl) (by simp) ?_ (by simp only [List.size_toArray]; rw [hl, sizeLine_eq]; omega)
    rw [cutL_pick]
    have := hQ _ _ _ _ _ ((((S₁.trans S₂).trans S₃).trans g.2).trans t.1) t.2.1 t.2.2 k₄
    simpa [Heap.push, lstOf] using this⟩
end
end Mine
namespace Mine
section
variable {c : Cx} {A : Around} {env : Env} {ρ : Rho} {μ : Mu}

/-- an object of the store is put anew -/
theorem Inv.put {c : Cx} (O : c.Ok) {s : Shared} {ι : Iota} {μ : Mu} (I : Inv c s ι μ) {i : Nat} {a : Addr} {m : MO} (ha : ι[i]? = some a) {s' : Shared}
    (k : ∀ b o, s.heap.get? b = some o → b ≠ a → s'.heap.get? b = some o) (there : ∃ o, s'.heap.get? a = some o) (hm : (∀ p v, RepV s.heap ι p v → RepV s'.heap ι p v) → (∀ p v, RepL s.heap ι p v → RepL s'.heap ι p v) → MoAt c s'.heap ι a m) (hg : AllBare s'.gens) (ho : s'.os = s.os) (ht : 0 < s'.toks) :
    Inv c s' ι (μ.set i m) ∧ Step c s ι s' ι := by
  have hai : a ∈ ι := List.mem_of_getElem? ha
  obtain ⟨oa, ea, hca⟩ := I.at hai
  have S : Step c s ι s' ι := ⟨fun b o e hb _ => k b o e fun q => hb (q ▸ hai), fun b o e => by
    by_cases hb : b = a
    · subst hb; exact there
    · exact ⟨o, k b o e hb⟩, [], by simp, by simp⟩
  have rv : ∀ p v, RepV s.heap ι p v → RepV s'.heap ι p v := fun p v r => I.rep O S r
  have rl : ∀ p v, RepL s.heap ι p v → RepL s'.heap ι p v := fun p v r => I.repL O S r
  refine ⟨⟨fun b o e hX => k _ _ (I.old b o e hX) fun q => ?_, I.new, by simp [I.len], I.nodup, fun j b m' hj hm' => ?_, O.tk _ _ I.tab fun b o e hc _ => k b o e fun q => ?_, hg, ho.trans I.os, ht⟩, S⟩
  · rw [q, I.new a hai] at e; cases e
  · by_cases hij : j = i
    · subst hij
      rw [ha] at hj; cases hj
      have hl : j < μ.length := by rw [← I.len]; exact (List.getElem?_eq_some_iff.mp ha).1
      rw [List.getElem?_set_self hl] at hm'
      cases hm'
      exact hm rv rl
    · rw [List.getElem?_set_ne (Ne.symm hij)] at hm'
      have hb : b ≠ a := fun q => hij ((List.getElem?_inj (List.getElem?_eq_some_iff.mp hj).1 I.nodup).mp (by rw [hj, ha, q]))
      have x := I.mo j b m' hj hm'
      cases m' with
      | lst ps => obtain ⟨vs, n, e, r⟩ := x; exact ⟨vs, n, k _ _ e hb, rl _ _ r⟩
      | pil q its =>
        obtain ⟨d, vs, n, e, ⟨hsh, tk, tk', mm, ed⟩, hn, r⟩ := x
        refine ⟨d, vs, n, k _ _ e hb, ⟨hsh, tk, tk', mm, k _ _ ed fun q => ?_⟩, hn, rl _ _ r⟩
        subst q
        rw [ea] at ed; cases ed
        rcases hca with h | h <;> exact absurd h (by simp)
  · subst q
    rw [ea] at e; cases e
    rcases hca with h | h <;> rw [h] at hc <;> rcases hc with hc | hc <;> exact absurd hc (by simp)

/- ---- calls ---- -/
/-- f called with values in hand -/
abbrev WC (c : Cx) (A : Around) (f : Value) (ps : List PV) (μ : Mu) (K : PV → Mu → Prop) : Prop := WV c A (fun vs => call f vs) ps μ K

theorem starEach_plain {es : List Expr} (h : es.all notStar = true) (pos : Pos) : (backTo pos (starEach es env)).any (·.1) = false := by
  have h1 : ∀ es : List Expr, es.all notStar = true → (starEach es env).any (·.1) = false := by
    intro es
    induction es with
    | nil => intro _; rfl
    | cons e es ih =>
      intro h
      rw [List.all_cons, Bool.and_eq_true] at h
      rw [starEach_cons h.1, List.any_cons, ih h.2]; rfl
  have h2 : ∀ l : List (Bool × Sem Value), l.any (·.1) = false → (backTo pos l).any (·.1) = false := by
    intro l hl
    simpa [backTo, List.any_map, Function.comp_def] using hl
  exact h2 _ (h1 es h)
theorem WEs.args {e : Expr} {es : List Expr} {K : List PV → Mu → Prop} {f : Value} {pos : Pos} (h : WEs c A (e :: es) env ρ μ K) (hs : (e :: es).all notStar = true) {s : Shared} {ι : Iota} {E : Value → Shared → Prop} {Q : Args → Shared → Prop} (I : Inv c s ι μ) (V : EnvOk c env ρ s ι)
    (hQ : ∀ vs s' ι' ps μ', Step c s ι s' ι' → Inv c s' ι' μ' → RepL s'.heap ι' ps vs → K ps μ' → Q ⟨vs, []⟩ s') : wpAny (model c.prog c.w) A (evalArgs f true (backTo pos (starEach (e :: es) env)) []) Q E s := by
  have h' := h.run s ι E (fun vs s' => Q ⟨vs, []⟩ s') pos I V hQ
  rw [List.all_cons, Bool.and_eq_true] at hs
  rw [starEach_cons hs.1] at h' ⊢
  exact Calls.evalArgs_plain h'

/-- what stands at a function's address -/
structure FnAt (c : Cx) (a : Addr) (fd : FuncData) : Prop where
  at' : ∃ o, c.hB.get? a = some o ∧ o.data = .func fd
  off : a ∉ c.X
theorem FnAt.here {a : Addr} {fd : FuncData} (F : FnAt c a fd) {s : Shared} {ι : Iota} {μ : Mu} (I : Inv c s ι μ) : ∃ o, s.heap.get? a = some o ∧ o.data = .func fd := by
  obtain ⟨o, e, d⟩ := F.at'
  exact ⟨o, I.old _ _ e F.off, d⟩

/-- a call, the called in hand -/
abbrev callsPlain (func : Expr) (args : List Expr) (pos : Pos) (env : Env) : Prop :=
  eval (.Call func args [] pos) env = (do callWith pos (← eval func env) [] (backTo pos (starEach args env)) (backToKw pos (keywordEach [] env)))
theorem callWith_bi {pos : Pos} {id : String} {first : List Value} {e : Expr} {es : List Expr} {K : List PV → Mu → Prop} {s : Shared} {ι : Iota} {E Q : Value → Shared → Prop} (h : WEs c A (e :: es) env ρ μ K) (hs : (e :: es).all notStar = true) (I : Inv c s ι μ) (V : EnvOk c env ρ s ι)
    (hQ : ∀ vs s' ι' ps μ', Step c s ι s' ι' → Inv c s' ι' μ' → RepL s'.heap ι' ps vs → K ps μ' → wpAny (model c.prog c.w) A (call (.builtin id) (first ++ vs)) Q E s') : wpAny (model c.prog c.w) A (callWith pos (.builtin id) first (backTo pos (starEach (e :: es) env)) []) Q E s :=
  Calls.callWith_builtin (starEach_plain hs pos) (h.args hs I V hQ)
theorem callWith_ty {pos : Pos} {id : String} {e : Expr} {es : List Expr} {K : List PV → Mu → Prop} {s : Shared} {ι : Iota} {E Q : Value → Shared → Prop} (h : WEs c A (e :: es) env ρ μ K) (hs : (e :: es).all notStar = true) (I : Inv c s ι μ) (V : EnvOk c env ρ s ι)
    (hQ : ∀ vs s' ι' ps μ', Step c s ι s' ι' → Inv c s' ι' μ' → RepL s'.heap ι' ps vs → K ps μ' → wpAny (model c.prog c.w) A (call (.type id) vs) Q E s') : wpAny (model c.prog c.w) A (callWith pos (.type id) [] (backTo pos (starEach (e :: es) env)) []) Q E s :=
  PySem.callWith_type (first := []) (starEach_plain hs pos) (h.args hs I V hQ)

theorem WE.call_def {x : Str} {p pos : Pos} {e : Expr} {es : List Expr} {a : Addr} {fd : FuncData} {K : PV → Mu → Prop} (O : c.Ok) (hx : c.mg x = some (.ref a)) (F : FnAt c a fd)
    (h : WEs c A (e :: es) env ρ μ fun ps μ₁ => WC c A (.ref a) ps μ₁ K) (hs : (e :: es).all notStar = true) (hk : env.kindOf x = some .globalImplicit) (hd : (x == ("__debug__" : Str)) = false) (hc : callsPlain (.Name x p) (e :: es) pos env) : WE c A (.Call (.Name x p) (e :: es) [] pos) env ρ μ K := ⟨fun s ι E Q I V hQ => by
  refine PyProof.Rows.Call_ (glob_ld O I V hk hx hd ?_) hc
  obtain ⟨o, eo, d⟩ := F.at'
  refine Calls.callWith_function (o := o) (fd := fd) (h.args hs I V fun vs s₁ ι₁ ps μ₁ S₁ I₁ r₁ k₁ => ⟨⟨I₁.old _ _ eo F.off, d⟩, ?_⟩)
  exact k₁.run s₁ ι₁ E Q vs I₁ r₁ fun v s₂ ι₂ q μ₂ S₂ I₂ r₂ k₂ => hQ v s₂ ι₂ q μ₂ (S₁.trans S₂) I₂ r₂ k₂⟩
theorem WE.call_bi {x : Str} {p pos : Pos} {e : Expr} {es : List Expr} {id : String} {K : PV → Mu → Prop} (O : c.Ok) (hn : c.mg x = .none) (hx : c.mb x = some (.builtin id))
    (h : WEs c A (e :: es) env ρ μ fun ps μ₁ => WC c A (.builtin id) ps μ₁ K) (hs : (e :: es).all notStar = true) (hk : env.kindOf x = some .globalImplicit) (hd : (x == ("__debug__" : Str)) = false) (hc : callsPlain (.Name x p) (e :: es) pos env) : WE c A (.Call (.Name x p) (e :: es) [] pos) env ρ μ K := ⟨fun s ι E Q I V hQ => by
  refine PyProof.Rows.Call_ (buil_ld O I V hk hn hx hd ?_) hc
  refine callWith_bi (first := []) h hs I V fun vs s₁ ι₁ ps μ₁ S₁ I₁ r₁ k₁ => ?_
  exact k₁.run s₁ ι₁ E Q vs I₁ r₁ fun v s₂ ι₂ q μ₂ S₂ I₂ r₂ k₂ => hQ v s₂ ι₂ q μ₂ (S₁.trans S₂) I₂ r₂ k₂⟩
theorem WE.call_ty {x : Str} {p pos : Pos} {e : Expr} {es : List Expr} {id : String} {K : PV → Mu → Prop} (O : c.Ok) (hn : c.mg x = .none) (hx : c.mb x = some (.type id))
    (h : WEs c A (e :: es) env ρ μ fun ps μ₁ => WC c A (.type id) ps μ₁ K) (hs : (e :: es).all notStar = true) (hk : env.kindOf x = some .globalImplicit) (hd : (x == ("__debug__" : Str)) = false) (hc : callsPlain (.Name x p) (e :: es) pos env) : WE c A (.Call (.Name x p) (e :: es) [] pos) env ρ μ K := ⟨fun s ι E Q I V hQ => by
  refine PyProof.Rows.Call_ (buil_ld O I V hk hn hx hd ?_) hc
  refine callWith_ty h hs I V fun vs s₁ ι₁ ps μ₁ S₁ I₁ r₁ k₁ => ?_
  exact k₁.run s₁ ι₁ E Q vs I₁ r₁ fun v s₂ ι₂ q μ₂ S₂ I₂ r₂ k₂ => hQ v s₂ ι₂ q μ₂ (S₁.trans S₂) I₂ r₂ k₂⟩

/-- a method's call reads its base, then its method -/
abbrev callsMethod (o : Expr) (name : Str) (apos : Pos) (args : List Expr) (pos : Pos) (env : Env) : Prop :=
  ∃ pl, eval (.Call (.Attribute o name apos) args [] pos) env = (do
      let ov ← eval o env
      standAt apos.atName
      let (f, first) ← holding [ov] (getMethod ov name pl)
      callWith pos f first (backTo pos (starEach args env)) [])
/-- a value of a built-in kind with no own dictionary -/
def KindIs (μ : Mu) (T : String) : PV → Prop
  | .str _ => T = "str"
  | .loc i => T = "list" ∧ ∃ ps, μ[i]? = some (.lst ps)
  | _ => False
theorem KindIs.type {T : String} {s : Shared} {ι : Iota} {p : PV} {v : Value} (I : Inv c s ι μ) (h : KindIs μ T p) (r : RepV s.heap ι p v) : s.TypeIs v T ∧ ∀ a, v = .ref a → ∃ o, s.heap.get? a = some o ∧ o.dict = none := by
  cases p <;> simp only [KindIs] at h
  case str x => simp only [RepV] at r; obtain ⟨t, rfl⟩ := r; subst h; exact ⟨rfl, fun a q => nomatch q⟩
  case loc i =>
    obtain ⟨rfl, ps, h⟩ := h
    obtain ⟨a, vs, n, rfl, _, e, _⟩ := I.lst h r
    exact ⟨⟨_, e, rfl⟩, fun b q => by cases q; exact ⟨_, e, rfl⟩⟩
theorem WE.meth {o : Expr} {name : Str} {apos pos : Pos} {e : Expr} {es : List Expr} {T id : String} {K : PV → Mu → Prop} (O : c.Ok) (pa : PlainAttrs T) (sl : Slot T name id) (ty : typeOf (.builtin id) = pure (.type "method_descriptor"))
    (h : WE c A o env ρ μ fun p μ₁ => KindIs μ₁ T p ∧ WEs c A (e :: es) env ρ μ₁ fun ps μ₂ => WC c A (.builtin id) (p :: ps) μ₂ K) (hs : (e :: es).all notStar = true) (hc : callsMethod o name apos (e :: es) pos env) : WE c A (.Call (.Attribute o name apos) (e :: es) [] pos) env ρ μ K := ⟨fun s ι E Q I V hQ => by
  obtain ⟨pl, hc⟩ := hc
  refine PyProof.Rows.MethodCall_ (h.run s ι E _ I V fun ov s₁ ι₁ p μ₁ S₁ I₁ r₁ k₁ => ?_) hc
  obtain ⟨kd, k₁⟩ := k₁
  have kt := kd.type I₁ r₁
  refine getMethod_builtin kt.1 pa sl ty kt.2 ?_
  refine callWith_bi k₁ hs I₁ (V.step O I S₁) fun vs s₂ ι₂ ps μ₂ S₂ I₂ r₂ k₂ => ?_
  exact k₂.run s₂ ι₂ E Q (ov :: vs) I₂ (by simp only [RepL]; exact ⟨_, _, rfl, I₁.rep O S₂ r₁, r₂⟩) fun v s₃ ι₃ q μ₃ S₃ I₃ r₃ k₃ => hQ v s₃ ι₃ q μ₃ ((S₁.trans S₂).trans S₃) I₃ r₃ k₃⟩
/- ---- statements ---- -/
variable {KS : PF → Rho → Mu → Prop}
theorem WS.expr {e : Expr} {pos : Pos} (O : c.Ok) (h : WE c A e env ρ μ fun _ μ' => KS .next ρ μ') (hi : interactive env = false) (hs : swapsWith e none pos.line env = pure false) : WS c A (.Expr e pos) env ρ μ KS := ⟨fun s ι E Q I V hQ =>
  wpAny_Expr_any (h.run s ι E _ I V fun v s' ι' p μ' S I' r k => hQ _ s' ι' .next ρ μ' S.f I' (V.step O I S) rfl k) hi hs⟩
theorem WS.del1 {o i : Expr} {p pos : Pos} (O : c.Ok)
    (h : WE c A o env ρ μ fun p μ₁ => WE c A i env ρ μ₁ fun q μ₂ => ∃ j n ps k, p = .loc j ∧ q = .int n ∧ μ₂[j]? = some (.lst ps) ∧ seqIndex? n ps.length = some k ∧ ps.length ≤ 1000000 ∧ -1000000 ≤ n ∧ n ≤ 1000000 ∧ KS .next ρ (μ₂.set j (.lst (ps.eraseIdx k)))) : WS c A (.Delete [.Subscript o i p] pos) env ρ μ KS := ⟨fun s ι E Q I V hQ => by
  refine wpAny_Delete (wpAny_deleteEach_cons (wpAny_delete_Subscript (h.run s ι E _ I V fun ov s₁ ι₁ p μ₁ S₁ I₁ r₁ k₁ => ?_)))
  refine k₁.run s₁ ι₁ E _ I₁ (V.step O I S₁) fun iv s₂ ι₂ q μ₂ S₂ I₂ r₂ k₂ => ?_
  obtain ⟨j, n, ps, k, rfl, rfl, hj, hk, hb, hn1, hn2, k₂⟩ := k₂
  obtain ⟨a, vs, m, rfl, ha, ea, ra⟩ := I₂.lst hj (I₁.rep O S₂ r₁)
  simp only [RepV] at r₂
  obtain ⟨t, rfl⟩ := r₂
  have hl := RepL.length ps vs ra
  refine wpAny_delItem_plain (items := vs.toArray) (k := k) ⟨m, ea⟩ ?_ (by rw [show vs.toArray.size = ps.length by simp [hl]]; exact hk) (fun h' e' sb => ?_) (by simp only [List.size_toArray]; rw [hl, sizeLine_eq]; omega)
  · unfold Builtin.List.listFitsIndex; simp only [Bool.and_eq_true, decide_eq_true_eq]; omega
  · obtain ⟨m', e'⟩ := e'
    have rr : ∀ (ps : List PV) (vs : List Value) (k : Nat), RepL s₂.heap ι₂ ps vs → RepL s₂.heap ι₂ (ps.eraseIdx k) (vs.eraseIdx k) := by
      intro ps
      induction ps with
      | nil => intro vs k r; simp only [RepL] at r; subst r; simp only [List.eraseIdx_nil, RepL]
      | cons p ps ih =>
        intro vs k r
        simp only [RepL] at r
        obtain ⟨v, r', rfl, h1, h2⟩ := r
        cases k with
        | zero => simpa only [List.eraseIdx_cons_zero] using h2
        | succ k => simp only [List.eraseIdx_cons_succ, RepL]; exact ⟨v, _, rfl, h1, ih _ _ h2⟩
    have ev : (vs.toArray.eraseIdxIfInBounds k) = (vs.eraseIdx k).toArray := by simp
    rw [ev] at e'
    have g := I₂.put O ha (s' := { s₂ with heap := h' }) (m := .lst (ps.eraseIdx k)) (fun b o e hb => sb.extBut b o hb e) ⟨_, e'⟩ (fun _ rl => ⟨_, m', e', rl _ _ (rr ps vs k ra)⟩) I₂.bare rfl I₂.tp
    exact wpAny_deleteEach_nil (hQ _ _ ι₂ .next ρ _ ((S₁.trans S₂).trans g.2).f g.1 (((V.step O I S₁).step O I₁ S₂).step O I₂ g.2) rfl k₂)⟩
theorem WC.append {i : Nat} {ps : List PV} {p : PV} {K : PV → Mu → Prop} (O : c.Ok) (hi : μ[i]? = some (.lst ps)) (hb : ps.length ≤ 1000000) (k : K .none (μ.set i (.lst (ps ++ [p])))) : WC c A (.builtin "list.append") [.loc i, p] μ K := ⟨fun s ι E Q vs I r hQ => by
  simp only [RepL] at r
  obtain ⟨v, _, rfl, r1, w, _, rfl, r2, rfl⟩ := r
  obtain ⟨a, vs, m, rfl, ha, ea, ra⟩ := I.lst hi r1
  have hl := RepL.length ps vs ra
  refine wpAny_list_append_plain (items := vs.toArray) ⟨m, ea⟩ (fun h' e' sb => ?_) (by simp only [List.size_toArray]; rw [hl, sizeLine_eq]; omega)
  obtain ⟨m', e'⟩ := e'
  have ev : vs.toArray.push w = (vs ++ [w]).toArray := by simp
  rw [ev] at e'
  have g := I.put O ha (s' := { s with heap := h' }) (m := .lst (ps ++ [p])) (fun b o e hb => sb.extBut b o hb e) ⟨_, e'⟩ (fun rv rl => ⟨_, m', e', RepL.append _ _ _ _ (rl _ _ ra) (by simp only [RepL]; exact ⟨_, _, rfl, rv _ _ r2, rfl⟩)⟩) I.bare rfl I.tp
  exact hQ _ _ ι .none _ g.2 g.1 (by simp only [RepV]) k⟩

/- ---- tuples as targets ---- -/
/-- stores of values in hand, one after the other -/
structure WAs (c : Cx) (A : Around) (ts : List (Value → Sem Unit)) (env : Env) (ps : List PV) (ρ : Rho) (μ : Mu) (K : Rho → Prop) : Prop where
  run : ∀ (s : Shared) (ι : Iota) (E : Value → Shared → Prop) (Q : Unit → Shared → Prop) (vs : List Value), Inv c s ι μ → EnvOk c env ρ s ι → RepL s.heap ι ps vs →
    (∀ s' ρ', StepF c env s ι s' ι → Inv c s' ι μ → EnvOk c env ρ' s' ι → K ρ' → Q () s') → wpAny (model c.prog c.w) A (assignInOrder ts vs) Q E s
theorem WAs.nil {K : Rho → Prop} (h : K ρ) : WAs c A [] env [] ρ μ K := ⟨fun s ι E Q vs I V r hQ => by
  simp only [RepL] at r; subst r
  exact wpAny_assignInOrder_none (hQ s ρ (StepF.refl ..) I V h)⟩
theorem WAs.cons {t : Expr} {ts : List (Value → Sem Unit)} {p : PV} {ps : List PV} {K : Rho → Prop} (O : c.Ok) (h : WA c A t env p ρ μ fun ρ' => WAs c A ts env ps ρ' μ K) : WAs c A ((fun v => assign t env v) :: ts) env (p :: ps) ρ μ K := ⟨fun s ι E Q vs I V r hQ => by
  simp only [RepL] at r
  obtain ⟨v, r', rfl, h1, h2⟩ := r
  refine wpAny_assignInOrder_more (h.run s ι E _ v I V h1 fun s₁ ρ₁ S₁ I₁ V₁ k₁ => ?_)
  exact k₁.run s₁ ι E Q r' I₁ V₁ (I.repLF O V S₁ h2) fun s₂ ρ₂ S₂ I₂ V₂ k₂ => hQ s₂ ρ₂ (S₁.trans S₂) I₂ V₂ k₂⟩
theorem WAs.bind {x : Str} {ts : List (Value → Sem Unit)} {p : PV} {ps : List PV} {ρ' : Rho} {K : Rho → Prop} (O : c.Ok) (u : UpdI ρ x p ρ')
    (hk : env.kindOf x = some .local ∨ (env.kindOf x = some .cell ∧ (env.cells.lookup x).isSome = true)) (hd : (x == ("__debug__" : Str)) = false) (h : WAs c A ts env ps ρ' μ K) : WAs c A ((fun v => bindName env x v) :: ts) env (p :: ps) ρ μ K := ⟨fun s ι E Q vs I V r hQ => by
  simp only [RepL] at r
  obtain ⟨v, r', rfl, h1, h2⟩ := r
  refine wpAny_assignInOrder_more (wpAny_bindName (store_run O I V h1 u hk hd fun s₁ S₁ I₁ V₁ => ?_))
  exact h.run s₁ ι E Q r' I₁ V₁ (I.repLF O V S₁ h2) fun s₂ ρ₂ S₂ I₂ V₂ k₂ => hQ s₂ ρ₂ (S₁.trans S₂) I₂ V₂ k₂⟩
theorem extBut_new {h h' : Heap} (e : Heap.ExtBut h.objs.size h h') (b : Addr) (o : Obj) (x : h.get? b = some o) : h'.get? b = some o :=
  e b o (fun q => by rw [q, fresh_size] at x; cases x) x
theorem WA.tuple {elts : List Expr} {k : Nat} {pos : Pos} {ps : List PV} {K : Rho → Prop} (O : c.Ok) (a : A.handled = none) (hl : elts.all notStar = true) (hn : elts.length = ps.length)
    (h : WAs c A (elts.map fun t v => assign t env v) env ps ρ μ K) : WA c A (.Tuple elts k pos) env (.tup ps) ρ μ K := ⟨fun s ι E Q v I V r hQ => by
  simp only [RepV] at r
  obtain ⟨b, vs, n, rfl, e, rl⟩ := r
  have hlen := RepL.length ps vs rl
  have ea : ∀ es : List Expr, es.all notStar = true → assignEach es env = es.map fun t => (false, fun v => assign t env v) := by
    intro es
    induction es with
    | nil => intro _; rfl
    | cons x xs ih =>
      intro hx
      rw [List.all_cons, Bool.and_eq_true] at hx
      rw [List.map_cons, ← ih hx.2]
      cases x <;> first | rfl | (exact absurd hx.1 (by simp [notStar]))
  have e1 := ea elts hl
  refine wpAny_assign_Tuple (items := vs.toArray) a (tup_isTuple e) (by rw [e1]; simp [hlen, hn]) (by
    rw [e1]
    simp [List.findIdx?_map, Function.comp_def]) fun h' eb => ?_
  have g := I.grow O (s' := { s with heap := h' }) (extBut_new eb) I.bare rfl I.tp
  rw [e1, List.map_map]
  exact h.run _ ι E Q vs g.1 (V.step O I g.2) (I.repL O g.2 rl) fun s₂ ρ₂ S₂ I₂ V₂ k₂ => hQ s₂ ρ₂ (g.2.f.trans S₂) I₂ V₂ k₂⟩
theorem WS.assign_tup {elts : List Expr} {k : Nat} {tpos pos : Pos} {e : Expr} (O : c.Ok)
    (h : WE c A e env ρ μ fun p μ' => WA c A (.Tuple elts k tpos) env p ρ μ' fun ρ' => KS .next ρ' μ')
    (h1 : swapsWithSole [.Tuple elts k tpos] e pos.line env = pure false) (h2 : swappedStores [.Tuple elts k tpos] e env = pure none) : WS c A (.Assign [.Tuple elts k tpos] e pos) env ρ μ KS := ⟨fun s ι E Q I V hQ => by
  refine PyProof.Rows.Assign_Tuple (h.run s ι E _ I V fun v s₁ ι₁ p μ₁ S₁ I₁ r₁ k₁ => ?_) h1 h2
  exact k₁.run s₁ ι₁ E _ v I₁ (V.step O I S₁) r₁ fun s₂ ρ₂ S₂ I₂ V₂ k₂ => hQ _ s₂ ι₁ .next ρ₂ μ₁ (S₁.f.trans S₂) I₂ V₂ rfl k₂⟩
theorem RepL.rev {h : Heap} {ι : Iota} {ps : List PV} {vs : List Value} (r : RepL h ι ps vs) : RepL h ι ps.reverse vs.reverse := RepL.reverse ps vs r
theorem WS.assign_swap {elts : List Expr} {k : Nat} {tpos pos : Pos} {e : Expr} {names : List Str} (O : c.Ok) (a : A.handled = none)
    (h : WE c A e env ρ μ fun p μ' => ∃ ps, p = .tup ps ∧ ps.length = names.length ∧ WAs c A (names.reverse.map fun n v => bindName env n v) env ps.reverse ρ μ' fun ρ' => KS .next ρ' μ')
    (h1 : swapsWithSole [.Tuple elts k tpos] e pos.line env = pure false) (h2 : swappedStores [.Tuple elts k tpos] e env = pure (some names)) : WS c A (.Assign [.Tuple elts k tpos] e pos) env ρ μ KS := ⟨fun s ι E Q I V hQ => by
  refine PyProof.Rows.Assign_Tuple_swapped (h.run s ι E _ I V fun v s₁ ι₁ p μ₁ S₁ I₁ r₁ k₁ => ?_) h1 h2
  obtain ⟨ps, rfl, hl, k₁⟩ := k₁
  simp only [RepV] at r₁
  obtain ⟨b, vs, n, rfl, eb, rl⟩ := r₁
  have hlen := RepL.length ps vs rl
  have hn : names.length = vs.toArray.size := by simp [hlen, hl]
  rw [hn]
  refine wpAny_unpackItems_tuple a (tup_isTuple eb) fun h' ex => ?_
  have g := I₁.grow O (s' := { s₁ with heap := h' }) (extBut_new ex) I₁.bare rfl I₁.tp
  exact k₁.run _ ι₁ E _ vs.reverse g.1 (V.step O I (S₁.trans g.2)) (I₁.repL O g.2 rl).rev fun s₂ ρ₂ S₂ I₂ V₂ k₂ => hQ _ s₂ ι₁ .next ρ₂ μ₁ ((S₁.trans g.2).f.trans S₂) I₂ V₂ rfl k₂⟩
end
end Mine
namespace Mine

/-- what a comprehension may touch: the store, its own variables (L), its iterator (J) -/
structure StepC (c : Cx) (L J : Addr) (s : Shared) (ι : Iota) (s' : Shared) (ι' : Iota) : Prop where
  keep : ∀ b o, s.heap.get? b = some o → b ∉ ι → b ∉ c.X → b ≠ L → b ≠ J → s'.heap.get? b = some o
  there : ∀ b o, s.heap.get? b = some o → b ≠ J → ∃ o', s'.heap.get? b = some o'
  ext : ∃ l, ι' = ι ++ l ∧ ∀ a ∈ l, s.heap.get? a = none
theorem StepC.off {c : Cx} {L J : Addr} {s s' : Shared} {ι ι' : Iota} (x : StepC c L J s ι s' ι') {b : Addr} {o : Obj} (e : s.heap.get? b = some o) (hb : b ∉ ι) : b ∉ ι' := fun hm => by
  obtain ⟨l, rfl, hl⟩ := x.ext
  rcases List.mem_append.mp hm with h | h
  · exact hb h
  · rw [hl b h] at e; cases e
/-- the iterator is still there in the midst -/
theorem StepC.trans {c : Cx} {L J : Addr} {s s₁ s₂ : Shared} {ι ι₁ ι₂ : Iota} (x : StepC c L J s ι s₁ ι₁) (hJ : ∃ o, s₁.heap.get? J = some o) (y : StepC c L J s₁ ι₁ s₂ ι₂) : StepC c L J s ι s₂ ι₂ := by
  refine ⟨fun b o e hb hX hL hJ => y.keep b o (x.keep b o e hb hX hL hJ) (x.off e hb) hX hL hJ, fun b o e hb => ?_, ?_⟩
  · obtain ⟨o', e'⟩ := x.there b o e hb
    exact y.there b o' e' hb
  · obtain ⟨l, rfl, hl⟩ := x.ext
    obtain ⟨l', rfl, hl'⟩ := y.ext
    refine ⟨l ++ l', by simp, fun a ha => ?_⟩
    rcases List.mem_append.mp ha with h | h
    · exact hl a h
    · cases q : s.heap.get? a with
      | none => rfl
      | some o =>
        by_cases hq : a = J
        · subst hq; obtain ⟨o', e'⟩ := hJ; rw [hl' a h] at e'; cases e'
        · obtain ⟨o', e'⟩ := x.there a o q hq; rw [hl' a h] at e'; cases e'
theorem Step.c {c : Cx} {L J : Addr} {s s' : Shared} {ι ι' : Iota} (S : Step c s ι s' ι') : StepC c L J s ι s' ι' := ⟨fun b o e h1 h2 _ _ => S.keep b o e h1 h2, fun b o e _ => S.there b o e, S.ext⟩

/-- stores into the frame's own variables alone -/
structure StepL (c : Cx) (L : Addr) (s : Shared) (ι : Iota) (s' : Shared) (ι' : Iota) : Prop where
  keep : ∀ b o, s.heap.get? b = some o → b ∉ ι → b ∉ c.X → b ≠ L → s'.heap.get? b = some o
  there : ∀ b o, s.heap.get? b = some o → ∃ o', s'.heap.get? b = some o'
  ext : ∃ l, ι' = ι ++ l ∧ ∀ a ∈ l, s.heap.get? a = none
theorem StepL.c {c : Cx} {L J : Addr} {s s' : Shared} {ι ι' : Iota} (S : StepL c L s ι s' ι') : StepC c L J s ι s' ι' := ⟨fun b o e h1 h2 h3 _ => S.keep b o e h1 h2 h3, fun b o e _ => S.there b o e, S.ext⟩
theorem StepL.f {c : Cx} {env : Env} {s s' : Shared} {ι ι' : Iota} (S : StepL c env.locals s ι s' ι') : StepF c env s ι s' ι' := ⟨fun b o e h1 h2 h3 _ => S.keep b o e h1 h2 h3, S.there, S.ext⟩
theorem StepL.refl (c : Cx) (L : Addr) (s : Shared) (ι : Iota) : StepL c L s ι s ι := ⟨fun _ _ e _ _ _ => e, fun _ o e => ⟨o, e⟩, [], by simp, by simp⟩
theorem Step.l {c : Cx} {L : Addr} {s s' : Shared} {ι ι' : Iota} (S : Step c s ι s' ι') : StepL c L s ι s' ι' := ⟨fun b o e h1 h2 _ => S.keep b o e h1 h2, S.there, S.ext⟩
theorem StepL.trans {c : Cx} {L : Addr} {s s₁ s₂ : Shared} {ι ι₁ ι₂ : Iota} (x : StepL c L s ι s₁ ι₁) (y : StepL c L s₁ ι₁ s₂ ι₂) : StepL c L s ι s₂ ι₂ := by
  have off : ∀ b o, s.heap.get? b = some o → b ∉ ι → b ∉ ι₁ := fun b o e hb hm => by
    obtain ⟨l, rfl, hl⟩ := x.ext
    rcases List.mem_append.mp hm with h | h
    · exact hb h
    · rw [hl b h] at e; cases e
  refine ⟨fun b o e hb hX hL => y.keep b o (x.keep b o e hb hX hL) (off b o e hb) hX hL, fun b o e => ?_, ?_⟩
  · obtain ⟨o', e'⟩ := x.there b o e
    exact y.there b o' e'
  · obtain ⟨l, rfl, hl⟩ := x.ext
    obtain ⟨l', rfl, hl'⟩ := y.ext
    refine ⟨l ++ l', by simp, fun a ha => ?_⟩
    rcases List.mem_append.mp ha with h | h
    · exact hl a h
    · cases q : s.heap.get? a with
      | none => rfl
      | some o => obtain ⟨o', e'⟩ := x.there a o q; rw [hl' a h] at e'; cases e'

section
variable {c : Cx} {A : Around} {env : Env} {ρ : Rho} {μ : Mu}

/-- an assignment that touches the frame's own variables alone -/
structure WAL (c : Cx) (A : Around) (t : Expr) (env : Env) (p : PV) (ρ : Rho) (μ : Mu) (K : Rho → Prop) : Prop where
  run : ∀ (s : Shared) (ι : Iota) (E : Value → Shared → Prop) (Q : Unit → Shared → Prop) (v : Value), Inv c s ι μ → EnvOk c env ρ s ι → RepV s.heap ι p v →
    (∀ s' ρ', StepL c env.locals s ι s' ι → Inv c s' ι μ → EnvOk c env ρ' s' ι → K ρ' → Q () s') → wpAny (model c.prog c.w) A (assign t env v) Q E s

theorem store_runL (O : c.Ok) {ρ' : Rho} {s : Shared} {ι : Iota} {x : Str} {p : PV} {v : Value} {E : Value → Shared → Prop} {Q : Unit → Shared → Prop}
    (I : Inv c s ι μ) (V : EnvOk c env ρ s ι) (r : RepV s.heap ι p v) (u : UpdI ρ x p ρ') (hk : env.kindOf x = some .local) (hd : (x == ("__debug__" : Str)) = false)
    (h : ∀ s', StepL c env.locals s ι s' ι → Inv c s' ι μ → EnvOk c env ρ' s' ι → Q () s') : wpAny (model c.prog c.w) A (storeName env x v) Q E s := by
  obtain ⟨m, hn, hi, hm⟩ := V.ns
  have xi : x ≠ ("_initial_size" : Str) := fun q => by
    have := V.ini
    rw [q, this] at hk; cases hk
  have hp : (env.scope.kind == .class || (env.scope.kind == .module && env.locals != env.globals)) = false := by rw [V.kind]; rfl
  refine wpAny_storeName_local hk hn (fun h' hn' hs' => ?_) hp
  have S : StepL c env.locals s ι { s with heap := h', toks := s.toks + 1 } ι := ⟨fun b o e _ _ hb => hs'.extBut b o hb e, fun b o e => by
    by_cases hb : b = env.locals
    · subst hb; obtain ⟨o', _, _, e', _⟩ := hn'; exact ⟨o', e'⟩
    · exact ⟨o, hs'.extBut b o hb e⟩, [], by simp, by simp⟩
  have I' := I.frame O V S.f (fun b o e hb _ => hs'.extBut b o hb e) I.bare rfl (Nat.succ_pos _)
  refine h _ S I' ⟨V.kind, V.glo, V.bi, V.ini, ⟨_, hn', by rw [if_neg (Ne.symm xi)]; exact hi, fun y q hy => ?_⟩, u.nd V.nd, V.loc, fun y cc hcc => ?_, V.inj⟩
  · rcases u.mem V.nd y q hy with ⟨rfl, rfl⟩ | ⟨hne, hy⟩
    · exact ⟨hd, .inl ⟨hk, v, by simp, I.repF O V S.f r⟩⟩
    · obtain ⟨h1, h2⟩ := hm y q hy
      refine ⟨h1, ?_⟩
      rcases h2 with ⟨a, v', b, r'⟩ | ⟨a, cc, v', b, ⟨o, e, d⟩, r'⟩
      · exact .inl ⟨a, v', (if_neg hne).trans b, I.repF O V S.f r'⟩
      · exact .inr ⟨a, cc, v', b, ⟨o, hs'.extBut _ _ (V.cell y cc b).2.2.2.1 e, d⟩, I.repF O V S.f r'⟩
  · obtain ⟨⟨v', o, e, d⟩, h1, h2, h3, h4⟩ := V.cell y cc hcc
    exact ⟨⟨v', o, hs'.extBut _ _ h3 e, d⟩, h1, h2, h3, h4⟩
theorem WAL.name {x : Str} {pos : Pos} {p : PV} {K : Rho → Prop} {ρ' : Rho} (O : c.Ok) (u : UpdI ρ x p ρ') (hk : env.kindOf x = some .local) (hd : (x == ("__debug__" : Str)) = false) (h : K ρ') : WAL c A (.Name x pos) env p ρ μ K := ⟨fun s ι E Q v I V r hQ =>
  wpAny_assign_Name (store_runL O I V r u hk hd fun s' S I' V' => hQ s' ρ' S I' V' h)⟩
structure WALs (c : Cx) (A : Around) (ts : List (Value → Sem Unit)) (env : Env) (ps : List PV) (ρ : Rho) (μ : Mu) (K : Rho → Prop) : Prop where
  run : ∀ (s : Shared) (ι : Iota) (E : Value → Shared → Prop) (Q : Unit → Shared → Prop) (vs : List Value), Inv c s ι μ → EnvOk c env ρ s ι → RepL s.heap ι ps vs →
    (∀ s' ρ', StepL c env.locals s ι s' ι → Inv c s' ι μ → EnvOk c env ρ' s' ι → K ρ' → Q () s') → wpAny (model c.prog c.w) A (assignInOrder ts vs) Q E s
theorem WALs.nil {K : Rho → Prop} (h : K ρ) : WALs c A [] env [] ρ μ K := ⟨fun s ι E Q vs I V r hQ => by
  simp only [RepL] at r; subst r
  exact wpAny_assignInOrder_none (hQ s ρ (StepL.refl ..) I V h)⟩
theorem WALs.cons {t : Expr} {ts : List (Value → Sem Unit)} {p : PV} {ps : List PV} {K : Rho → Prop} (O : c.Ok) (h : WAL c A t env p ρ μ fun ρ' => WALs c A ts env ps ρ' μ K) : WALs c A ((fun v => assign t env v) :: ts) env (p :: ps) ρ μ K := ⟨fun s ι E Q vs I V r hQ => by
  simp only [RepL] at r
  obtain ⟨v, r', rfl, h1, h2⟩ := r
  refine wpAny_assignInOrder_more (h.run s ι E _ v I V h1 fun s₁ ρ₁ S₁ I₁ V₁ k₁ => ?_)
  exact k₁.run s₁ ι E Q r' I₁ V₁ (I.repLF O V S₁.f h2) fun s₂ ρ₂ S₂ I₂ V₂ k₂ => hQ s₂ ρ₂ (S₁.trans S₂) I₂ V₂ k₂⟩
theorem assignEach_plain : ∀ es : List Expr, es.all notStar = true → assignEach es env = es.map fun t => (false, fun v => assign t env v) := by
  intro es
  induction es with
  | nil => intro _; rfl
  | cons x xs ih =>
    intro hx
    rw [List.all_cons, Bool.and_eq_true] at hx
    rw [List.map_cons, ← ih hx.2]
    cases x <;> first | rfl | (exact absurd hx.1 (by simp [notStar]))
theorem WAL.tuple {elts : List Expr} {k : Nat} {pos : Pos} {ps : List PV} {K : Rho → Prop} (O : c.Ok) (a : A.handled = none) (hl : elts.all notStar = true) (hn : elts.length = ps.length)
    (h : WALs c A (elts.map fun t v => assign t env v) env ps ρ μ K) : WAL c A (.Tuple elts k pos) env (.tup ps) ρ μ K := ⟨fun s ι E Q v I V r hQ => by
  simp only [RepV] at r
  obtain ⟨b, vs, n, rfl, e, rl⟩ := r
  have hlen := RepL.length ps vs rl
  have e1 := assignEach_plain (env := env) elts hl
  refine wpAny_assign_Tuple (items := vs.toArray) a (tup_isTuple e) (by rw [e1]; simp [hlen, hn]) (by
    rw [e1]
    simp [List.findIdx?_map, Function.comp_def]) fun h' eb => ?_
  have g := I.grow O (s' := { s with heap := h' }) (extBut_new eb) I.bare rfl I.tp
  rw [e1, List.map_map]
  exact h.run _ ι E Q vs g.1 (V.step O I g.2) (I.repL O g.2 rl) fun s₂ ρ₂ S₂ I₂ V₂ k₂ => hQ s₂ ρ₂ (g.2.l.trans S₂) I₂ V₂ k₂⟩

/-- a comprehension's tests -/
structure WIfs (c : Cx) (A : Around) (ifs : List Expr) (env : Env) (ρ : Rho) (μ : Mu) (K : Bool → Mu → Prop) : Prop where
  run : ∀ (s : Shared) (ι : Iota) (E : Value → Shared → Prop) (Q : Bool → Shared → Prop), Inv c s ι μ → EnvOk c env ρ s ι →
    (∀ b s' ι' μ', Step c s ι s' ι' → Inv c s' ι' μ' → K b μ' → Q b s') → wpAny (model c.prog c.w) A (forIn ifs true fun t r => if r = true then do let ok ← isTrue t env (eval t env); pure (ForInStep.yield ok) else pure (ForInStep.yield r)) Q E s
theorem WIfs.nil {K : Bool → Mu → Prop} (h : K true μ) : WIfs c A [] env ρ μ K := ⟨fun s ι E Q I V hQ => wpAny_tests_nil (hQ true s ι μ (Step.refl ..) I h)⟩
theorem WIfs.one {t : Expr} {K : Bool → Mu → Prop} (h : WB c A t env ρ μ K) : WIfs c A [t] env ρ μ K := ⟨fun s ι E Q I V hQ => wpAny_tests_one (h.run s ι E Q I V hQ)⟩

theorem compLoop_turn {elt target iter : Expr} {ifs : List Expr} {scope : Scope} {pos : Pos} {it acc : Value} {cenv : Env} {R : Result → Shared → Prop} {s : Shared}
    (h : ∀ E, wpAny (model c.prog c.w) A (pyNext it) (fun r s₁ => match r with
      | none => R (.ok .next) s₁
      | some v => wpAny (model c.prog c.w) A (letOwnedTupleGo target it v) (fun _ s₁' => wpAny (model c.prog c.w) A (assign target cenv v) (fun _ s₂ =>
          wpAny (model c.prog c.w) A (forIn ifs true fun t r => if r = true then do let ok ← isTrue t cenv (eval t cenv); pure (ForInStep.yield ok) else pure (ForInStep.yield r)) (fun ok s₃ =>
            if ok = true then wpAny (model c.prog c.w) A (eval elt cenv) (fun x s₄ =>
              wpAny (model c.prog c.w) A (call (.builtin "list.append") [acc, x]) (fun _ s₅ => codeAny (model c.prog c.w) A (.compLoop (.ListComp elt [⟨target, iter, ifs, 0⟩] scope pos) 0 it acc cenv) R s₅) E s₄) E s₃
            else codeAny (model c.prog c.w) A (.compLoop (.ListComp elt [⟨target, iter, ifs, 0⟩] scope pos) 0 it acc cenv) R s₃) E s₂) E s₁') E s₁) E s) :
    codeAny (model c.prog c.w) A (.compLoop (.ListComp elt [⟨target, iter, ifs, 0⟩] scope pos) 0 it acc cenv) R s := by
  refine codeAny_of_tree ?_
  show wpAny _ A ((compTurn (.ListComp elt [⟨target, iter, ifs, 0⟩] scope pos) 0 it acc cenv).onRaise (fun x => do noteFrame x cenv; theTreesLotGoes x)) _ _ s
  refine wpAny_noted ?_
  rw [compTurn_list]
  refine wpAny_bind (wpAny_standAt (wpAny_bind (wpAny_mono (h _) (fun r s₁ h₁ => ?_) fun _ _ h' => h')))
  cases r with
  | none => exact wpAny_pure h₁
  | some v =>
    refine wpAny_bind (wpAny_mono h₁ (fun _ s₁' h₁' => ?_) fun _ _ h' => h')
    refine wpAny_bind (wpAny_mono h₁' (fun _ s₂ h₂ => wpAny_bind (wpAny_mono h₂ (fun ok s₃ h₃ => ?_) fun _ _ h' => h')) fun _ _ h' => h')
    cases ok with
    | false => exact wpAny_pure ⟨rfl, h₃⟩
    | true =>
      exact wpAny_bind (wpAny_bind (wpAny_mono h₃ (fun x s₄ h₄ => wpAny_bind (wpAny_mono h₄ (fun _ s₅ h₅ => wpAny_pure (wpAny_pure ⟨rfl, h₅⟩)) fun _ _ h' => h')) fun _ _ h' => h'))

/-- next of an iterator over p -/
def NextOk (c : Cx) (A : Around) (μ : Mu) (p : PV) (its : List PV) : Prop := ∀ (s : Shared) (ι : Iota) (J : Addr) (j : Nat) (E : Value → Shared → Prop) (Q : Option Value → Shared → Prop), Inv c s ι μ → IterAt s.heap ι J j p →
    (∀ q v h' tk, s.toks ≤ tk → its[j]? = some q → (∀ b o, s.heap.get? b = some o → b ≠ J → h'.get? b = some o) → IterAt h' ι J (j + 1) p → RepV s.heap ι q v → Q (some v) { s with heap := h', toks := tk }) →
    (∀ h' tk, s.toks ≤ tk → its[j]? = none → (∀ b o, s.heap.get? b = some o → b ≠ J → h'.get? b = some o) → Q none { s with heap := h', toks := tk }) → wpAny (model c.prog c.w) A (pyNext (.ref J)) Q E s
theorem NextOk.std {p : PV} {its : List PV} (O : c.Ok) (a : A.handled = none) (hits : itemsOf μ p = some its) (hp : ∀ i, p = .loc i → ∃ l, μ[i]? = some (.lst l)) : NextOk c A μ p its :=
  fun s ι J j E Q I x h1 h2 => next_run O a I x hits hp h1 h2
/-- iter of p -/
def ItOk (c : Cx) (A : Around) (μ : Mu) (p : PV) : Prop := ∀ (s : Shared) (ι : Iota) (v : Value) (E Q : Value → Shared → Prop), Inv c s ι μ → RepV s.heap ι p v →
    (∀ h' J, s.heap.get? J = none → (∀ b o, s.heap.get? b = some o → h'.get? b = some o) → IterAt h' ι J 0 p → Q (.ref J) { s with heap := h' }) → wpAny (model c.prog c.w) A (pyIter v) Q E s
theorem ItOk.std {p : PV} (O : c.Ok) (h : (∃ its, itemsOf μ p = some its) ∧ (∀ i, p = .loc i → ∃ l, μ[i]? = some (.lst l)) ∧ (∀ lo hi, p = .rng lo hi → -1000000 ≤ lo ∧ lo ≤ 1000000 ∧ -1000000 ≤ hi ∧ hi ≤ 1000000)) : ItOk c A μ p :=
  fun s ι v E Q I r hQ => iter_run O I r h.1.choose_spec h.2.1 h.2.2 hQ

/-- a comprehension's turns from place j on; the list under way stands at place i of the store -/
structure WCL (c : Cx) (A : Around) (e : Expr) (cenv : Env) (p : PV) (i : Nat) (ρ : Rho) (K : Mu → Prop) (j : Nat) (μ : Mu) : Prop where
  run : ∀ (s : Shared) (ι : Iota) (J D : Addr) (R : Result → Shared → Prop), Inv c s ι μ → EnvOk c cenv ρ s ι → IterAt s.heap ι J j p → c.hB.get? J = none → ι[i]? = some D →
    (∀ s' ι' μ', StepC c cenv.locals J s ι s' ι' → Inv c s' ι' μ' → EnvOk c cenv ρ s' ι' → K μ' → R (.ok .next) s') → codeAny (model c.prog c.w) A (.compLoop e 0 (.ref J) (.ref D) cenv) R s

theorem WCL.stepN {elt tgt iter : Expr} {ifs : List Expr} {scope : Scope} {pos : Pos} {cenv : Env} {p : PV} {i j : Nat} {K : Mu → Prop} {its : List PV} {q : PV} (O : c.Ok) (hn : NextOk c A μ p its) (hq : its[j]? = some q)
    (h : WAL c A tgt cenv q ρ μ fun ρ' => (∀ y ∈ ρ, y ∈ ρ') ∧ WIfs c A ifs cenv ρ' μ fun ok μ₁ => if ok = true then
        WE c A elt cenv ρ' μ₁ fun x μ₂ => ∃ ps, μ₂[i]? = some (.lst ps) ∧ ps.length ≤ 1000000 ∧ WCL c A (.ListComp elt [⟨tgt, iter, ifs, 0⟩] scope pos) cenv p i ρ K (j + 1) (μ₂.set i (.lst (ps ++ [x])))
      else WCL c A (.ListComp elt [⟨tgt, iter, ifs, 0⟩] scope pos) cenv p i ρ K (j + 1) μ₁) : WCL c A (.ListComp elt [⟨tgt, iter, ifs, 0⟩] scope pos) cenv p i ρ K j μ := ⟨fun s ι J D R I V x nB hD hR => by
  refine compLoop_turn fun E => ?_
  refine hn s ι J j _ _ I x (fun q' v h' tk htk hq' k x' r => ?_) (fun h' tk _ hn _ => by rw [hq] at hn; cases hn)
  rw [hq] at hq'; cases hq'
  obtain ⟨oJ, eJ, hJ⟩ := x.obj
  have sc := I.scratch (env := cenv) (ρ := ρ) O eJ hJ nB (s' := { s with heap := h', toks := tk }) k I.bare rfl (Nat.lt_of_lt_of_le I.tp htk)
  obtain ⟨oJ', eJ', hJ'⟩ := x'.obj
  refine letGo_run eJ' hJ' ?_
  have S0 : StepC c cenv.locals J s ι { s with heap := h', toks := tk } ι := ⟨fun b o e _ _ _ hb => k b o e hb, fun b o e hb => ⟨o, k b o e hb⟩, [], by simp, by simp⟩
  refine h.run _ ι E _ v sc.1 (sc.2.2.2 V) (sc.2.1 _ _ r) fun s₂ ρ₂ S₂ I₂ V₂ k₂ => ?_
  obtain ⟨hsub, k₂⟩ := k₂
  have x₂ : IterAt s₂.heap ι J (j + 1) p := IterAt.stepF O sc.1 (sc.2.2.2 V) S₂.f x'
  refine k₂.run s₂ ι E _ I₂ V₂ fun ok s₃ ι₃ μ₃ S₃ I₃ k₃ => ?_
  have x₃ : IterAt s₃.heap ι₃ J (j + 1) p := IterAt.stepF O I₂ V₂ S₃.f x₂
  have V₃ := V₂.step O I₂ S₃
  have nd := V.nd
  have ex₂ := x₂.obj
  have S02 : StepC c cenv.locals J s ι s₂ ι := S0.trans ⟨_, eJ'⟩ S₂.c
  have hJ₂ : ∃ o, s₂.heap.get? J = some o := ⟨_, ex₂.choose_spec.1⟩
  have S03 := S02.trans hJ₂ (S₃.c (L := cenv.locals) (J := J))
  have hJ₃ : ∃ o, s₃.heap.get? J = some o := ⟨_, x₃.obj.choose_spec.1⟩
  have hD₃ : ι₃[i]? = some D := by obtain ⟨l, rfl, _⟩ := S₃.ext; exact getElem?_ext hD l
  cases ok with
  | false =>
    exact WCL.run k₃ s₃ ι₃ J D R I₃ (V₃.less hsub nd) x₃ nB hD₃ fun s' ι' μ' S' I' V' k' => hR s' ι' μ' (S03.trans hJ₃ S') I' V' k'
  | true =>
    refine WE.run k₃ s₃ ι₃ E _ I₃ V₃ fun xv s₄ ι₄ xp μ₄ S₄ I₄ r₄ k₄ => ?_
    obtain ⟨ps, hps, hb, k₄⟩ := k₄
    have x₄ : IterAt s₄.heap ι₄ J (j + 1) p := IterAt.stepF O I₃ V₃ S₄.f x₃
    have V₄ := V₃.step O I₃ S₄
    have hJ₄ : ∃ o, s₄.heap.get? J = some o := ⟨_, x₄.obj.choose_spec.1⟩
    have S04 := S03.trans hJ₃ (S₄.c (L := cenv.locals) (J := J))
    have hD₄ : ι₄[i]? = some D := by obtain ⟨l, rfl, _⟩ := S₄.ext; exact getElem?_ext hD₃ l
    refine (WC.append (p := xp) (K := fun _ m => m = μ₄.set i (.lst (ps ++ [xp]))) O hps hb rfl).run s₄ ι₄ E _ [.ref D, xv] I₄ (by simp only [RepL, RepV]; exact ⟨_, _, rfl, ⟨D, rfl, hD₄⟩, _, _, rfl, r₄, rfl⟩) fun v₅ s₅ ι₅ p₅ μ₅ S₅ I₅ r₅ k₅ => ?_
    subst k₅
    have x₅ : IterAt s₅.heap ι₅ J (j + 1) p := IterAt.stepF O I₄ V₄ S₅.f x₄
    have hD₅ : ι₅[i]? = some D := by obtain ⟨l, rfl, _⟩ := S₅.ext; exact getElem?_ext hD₄ l
    have hJ₅ : ∃ o, s₅.heap.get? J = some o := ⟨_, x₅.obj.choose_spec.1⟩
    have S05 := S04.trans hJ₄ (S₅.c (L := cenv.locals) (J := J))
    exact WCL.run k₄ s₅ ι₅ J D R I₅ ((V₄.step O I₄ S₅).less hsub nd) x₅ nB hD₅ fun s' ι' μ' S' I' V' k' => hR s' ι' μ' (S05.trans hJ₅ S') I' V' k'⟩
theorem WCL.doneN {elt tgt iter : Expr} {ifs : List Expr} {scope : Scope} {pos : Pos} {cenv : Env} {p : PV} {i j : Nat} {K : Mu → Prop} {its : List PV} (O : c.Ok) (hn : NextOk c A μ p its) (hq : its[j]? = none) (h : K μ) : WCL c A (.ListComp elt [⟨tgt, iter, ifs, 0⟩] scope pos) cenv p i ρ K j μ := ⟨fun s ι J D R I V x nB hD hR => by
  refine compLoop_turn fun E => ?_
  refine hn s ι J j _ _ I x (fun q' v h' tk _ hq' k x' r => by rw [hq] at hq'; cases hq') (fun h' tk htk _ k => ?_)
  obtain ⟨oJ, eJ, hJ⟩ := x.obj
  have sc := I.scratch (env := cenv) (ρ := ρ) O eJ hJ nB (s' := { s with heap := h', toks := tk }) k I.bare rfl (Nat.lt_of_lt_of_le I.tp htk)
  exact hR _ ι μ ⟨fun b o e _ _ _ hb => k b o e hb, fun b o e hb => ⟨o, k b o e hb⟩, [], by simp, by simp⟩ sc.1 (sc.2.2.2 V) h⟩
/-- iter of an iterator is itself -/
theorem selfIter_run {s : Shared} {ι : Iota} {J : Addr} {j : Nat} {p : PV} {E Q : Value → Shared → Prop} (x : IterAt s.heap ι J j p) (h : Q (.ref J) s) : wpAny (model c.prog c.w) A (pyIter (.ref J)) Q E s := by
  cases p <;> simp only [IterAt] at x
  case loc i => obtain ⟨a, _, hx⟩ := x; exact wpAny_pyIter_listiter hx h
  case str y =>
    obtain ⟨T, t, hT, hx⟩ := x
    rcases hT with rfl | rfl
    · exact wpAny_pyIter_striter_ascii hx h
    · exact wpAny_pyIter_striter_wide hx h
  case rng lo hi => exact wpAny_pyIter_rangeiter x h
  case tup ps => obtain ⟨a, vs, n, hx, _⟩ := x; exact wpAny_pyIter_tupleiter hx h

/-- what a comprehension's own frame must be -/
structure CompOk (scope : Scope) (env : Env) (cl : List (Str × Addr)) (ρ ρc : Rho) : Prop where
  clos : closureFor scope env = pure cl
  kind : scope.kind = .function
  names : ∀ x ∈ scope.names, x.2 = .local → scope.names.lookup x.1 = some .local
  nocell : ∀ x ∈ scope.names, x.2 ≠ .cell
  ini : ∀ C, (compEnvC scope cl C env).kindOf ("_initial_size" : Str) = none
  sub : ∀ x cc, cl.lookup x = some cc → env.cells.lookup x = some cc
  rho : ∀ x p, (x, p) ∈ ρc → (x, p) ∈ ρ ∧ (cl.lookup x).isSome = true ∧ (∀ C, (compEnvC scope cl C env).kindOf x = some .cell) ∧ (env.kindOf x = some .cell ∨ env.kindOf x = some .free)
  nd : (ρc.map (·.1)).Nodup

theorem Inv.fresh (O : c.Ok) {s : Shared} {ι : Iota} (I : Inv c s ι μ) {a : Addr} (h : s.heap.get? a = none) : a ∉ ι ∧ a ∉ c.X ∧ c.hB.get? a = none := by
  refine ⟨fun hm => ?_, fun hm => ?_, ?_⟩
  · obtain ⟨o, e', _⟩ := I.at hm
    rw [h] at e'; cases e'
  · obtain ⟨vs', e'⟩ := O.tX _ I.tab a hm
    rw [h] at e'; cases e'
  · cases q : c.hB.get? a with
    | none => rfl
    | some o =>
      by_cases hx : a ∈ c.X
      · obtain ⟨vs', e'⟩ := O.tX _ I.tab a hx
        rw [h] at e'; cases e'
      · rw [I.old a o q hx] at h; cases h

theorem comp_core {elt tgt iter : Expr} {ifs : List Expr} {gs : List Comprehension} {scope : Scope} {pos cpos : Pos} {cl : List (Str × Addr)} {ρc : Rho} {use : Option (Value → Sem Unit)} {K : Nat → Mu → Prop} (O : c.Ok) (ok : CompOk scope env cl ρ ρc)
    (hfold : ∀ x, foldedSetIterable iter env x = pure x)
    (h : WE c A iter env ρ μ fun p μ₁ => ItOk c A μ₁ p ∧
      ∀ C, WCL c A (.ListComp elt (⟨tgt, iter, ifs, 0⟩ :: gs) scope pos) (compEnvC scope cl C env) p μ₁.length ρc (K μ₁.length) 0 (μ₁ ++ [.lst []]))
    {s : Shared} {ι : Iota} {E Q : Value → Shared → Prop} (I : Inv c s ι μ) (V : EnvOk c env ρ s ι)
    (hQ : ∀ D C s' ι' i μ', Step c s ι s' ι' → Inv c s' ι' μ' → ι'[i]? = some D → K i μ' → s.heap.get? C = none → EnvOk c (compEnvC scope cl C env) ρc s' ι' → compPost (model c.prog c.w) A E use Q (.ref D) C (.ok .next) s') :
    wpAny (model c.prog c.w) A (comprehension (.ListComp elt (⟨tgt, iter, ifs, 0⟩ :: gs) scope pos) scope env cpos (newList []) false (eval iter env) use) Q E s := by
  refine wpAny_comprehension_free (g := ⟨tgt, iter, ifs, 0⟩) (gs := gs) rfl hfold ok.clos ok.kind ok.names ?_
  refine h.run s ι E _ I V fun v s₁ ι₁ p μ₁ S₁ I₁ r₁ k₁ => ?_
  obtain ⟨hit, k₁⟩ := k₁
  refine hit s₁ ι₁ v _ _ I₁ r₁ fun h₁ J hJ kJ xJ => ?_
  have g₁ := I₁.grow O (s' := { s₁ with heap := h₁ }) kJ I₁.bare rfl I₁.tp
  have nJ := (I₁.fresh O hJ).2.2
  have V₁ := V.step O I S₁
  have V₂ := V₁.step O I₁ g₁.2
  refine wpAny_newObj_type ?_
  have t := lst_new O g₁.1 (ps := []) (vs := []) (by simp only [RepL]) (h' := h₁.push (lstOf [] 0)) (D := h₁.objs.size) (n := 0) (tk := s₁.toks) (fresh_size _) (Heap.get?_push_size _ rfl) (fun b o e => Heap.get?_push_of_some _ e) I₁.tp
  refine wpAny_newFunctionEnv ok.nocell (by intro y hy; simp at hy) (fun h₂ hn₂ sb₂ => ?_) ok.kind
  dsimp only at hn₂ sb₂ ⊢
  have hC0 : (h₁.push (lstOf [] 0)).get? (h₁.push (lstOf [] 0)).objs.size = none := fresh_size _
  have k₂ : ∀ b o, (h₁.push (lstOf [] 0)).get? b = some o → h₂.get? b = some o := fun b o e => sb₂.extBut b o (fun q => by rw [q, hC0] at e; cases e) (Heap.get?_push_of_some _ e)
  have g₂ := t.2.1.grow O (s' := { s₁ with heap := h₂, toks := s₁.toks + ([] : List (Str × Value)).length }) k₂ I₁.bare rfl (by simpa using I₁.tp)
  have fr := t.2.1.fresh O hC0
  have V₃ := (V₂.step O g₁.1 t.1).step O t.2.1 g₂.2
  generalize hCe : (h₁.push (lstOf [] 0)).objs.size = C at *
  have hC1 : h₁.get? C = none := by
    cases q : h₁.get? C with
    | none => rfl
    | some o => have := Heap.get?_push_of_some (lstOf [] 0) q; rw [hC0] at this; cases this
  have hCs : s.heap.get? C = none := by
    cases q : s.heap.get? C with
    | none => rfl
    | some o => obtain ⟨o', e'⟩ := (S₁.trans g₁.2).there C o q; rw [hC1] at e'; cases e'
  -- the comprehension's frame
  have Vc : EnvOk c (compEnvC scope cl C env) ρc { s₁ with heap := h₂, toks := s₁.toks + ([] : List (Str × Value)).length } (ι₁ ++ [h₁.objs.size]) := by
    obtain ⟨mo, hno, hio, hmo⟩ := V₃.ns
    refine ⟨ok.kind, V₃.glo, V₃.bi, ok.ini C, ⟨_, hn₂, rfl, fun x q hx => ?_⟩, ok.nd, ⟨fr.1, fr.2.1, fr.2.2⟩, fun x cc hx => ?_, fun x y cc hx hy => V₃.inj x y cc (ok.sub x cc hx) (ok.sub y cc hy)⟩
    · obtain ⟨h1, h2, h3, h4⟩ := ok.rho x q hx
      obtain ⟨cc, hcc⟩ := Option.isSome_iff_exists.mp h2
      obtain ⟨hd, hv⟩ := hmo x q h1
      refine ⟨hd, .inr ⟨.inl (h3 C), cc, ?_⟩⟩
      rcases hv with ⟨hl, _⟩ | ⟨_, cc', v', hc', hi', hr'⟩
      · rcases h4 with h4 | h4 <;> rw [h4] at hl <;> cases hl
      · have := ok.sub x cc hcc
        rw [hc'] at this; cases this
        exact ⟨v', hcc, hi', hr'⟩
    · have q := V₃.cell x cc (ok.sub x cc hx)
      refine ⟨q.1, q.2.1, q.2.2.1, fun hq => ?_, q.2.2.2.2⟩
      obtain ⟨⟨v', o, e, d⟩, _⟩ := q
      obtain ⟨oC, es, ep, eC, hdC, _⟩ := hn₂
      rw [hq] at e
      have e2 : h₂.get? C = some o := e
      rw [eC] at e2; cases e2
      rw [d] at hdC; cases hdC
  have xJ₁ : IterAt (h₁.push (lstOf [] 0)) (ι₁ ++ [h₁.objs.size]) J 0 p := IterAt.stepF (s' := { s₁ with heap := h₁.push (lstOf [] 0) }) O g₁.1 V₂ t.1.f xJ
  have xJ₂ : IterAt h₂ (ι₁ ++ [h₁.objs.size]) J 0 p := IterAt.stepF (s' := { s₁ with heap := h₂, toks := s₁.toks + ([] : List (Str × Value)).length }) O t.2.1 (V₂.step O g₁.1 t.1) g₂.2.f xJ₁
  have loop : codeAny (model c.prog c.w) A (.compLoop (.ListComp elt (⟨tgt, iter, ifs, 0⟩ :: gs) scope pos) 0 (.ref J) (.ref h₁.objs.size) (compEnvC scope cl C env)) (compPost (model c.prog c.w) A E use Q (.ref h₁.objs.size) C) { s₁ with heap := h₂, toks := s₁.toks + ([] : List (Str × Value)).length } := by
    have hD : (ι₁ ++ [h₁.objs.size])[μ₁.length]? = some h₁.objs.size := by rw [← I₁.len]; simp
    refine (k₁ C).run _ _ J h₁.objs.size _ g₂.1 Vc xJ₂ nJ hD fun s' ι' μ' S' I' V' k' => ?_
    have Sall : Step c s₁ ι₁ s' ι' := by
      have old : ∀ b o, s₁.heap.get? b = some o → h₂.get? b = some o ∧ b ≠ C ∧ b ≠ J ∧ b ≠ h₁.objs.size := fun b o e => by
        have e1 := kJ b o e
        refine ⟨k₂ _ _ (Heap.get?_push_of_some _ e1), fun q => ?_, fun q => ?_, fun q => ?_⟩
        · rw [q, hC1] at e1; cases e1
        · rw [q, hJ] at e; cases e
        · rw [q, fresh_size] at e1; cases e1
      refine ⟨fun b o e hb hX => ?_, fun b o e => ?_, ?_⟩
      · obtain ⟨h1, h2, h3, h4⟩ := old b o e
        exact S'.keep b o h1 (by simp [hb, h4]) hX h2 h3
      · obtain ⟨h1, h2, h3, h4⟩ := old b o e
        exact S'.there b o h1 h3
      · obtain ⟨l, hl, hl'⟩ := S'.ext
        refine ⟨[h₁.objs.size] ++ l, by rw [hl]; simp, fun a ha => ?_⟩
        cases q : s₁.heap.get? a with
        | none => rfl
        | some o =>
          obtain ⟨h1, h2, h3, h4⟩ := old a o q
          rcases List.mem_append.mp ha with h | h
          · exact absurd (List.mem_singleton.mp h) h4
          · rw [show ({ s₁ with heap := h₂, toks := s₁.toks + ([] : List (Str × Value)).length } : Shared).heap.get? a = h₂.get? a from rfl] at *
            rw [hl' a h] at h1; cases h1
    have hD' : ι'[μ₁.length]? = some h₁.objs.size := by obtain ⟨l, rfl, _⟩ := S'.ext; exact getElem?_ext hD l
    exact hQ _ C s' ι' _ μ' (S₁.trans Sall) I' hD' k' hCs V'
  exact codeAny_compStart_list loop (selfIter_run xJ₂ loop)
end
end Mine
namespace Mine
section
variable {c : Cx} {A : Around} {env : Env} {ρ : Rho} {μ : Mu}

theorem EnvOk.imm_ne {s : Shared} {ι : Iota} (V : EnvOk c env ρ s ι) {b : Addr} {o : Obj} (e : s.heap.get? b = some o) (hc : Imm o) : b ≠ env.locals ∧ ∀ x, env.cells.lookup x ≠ some b := by
  refine ⟨fun q => ?_, fun x q => ?_⟩
  · obtain ⟨m, ⟨oL, es, ep, eL, hd, _⟩, _, _⟩ := V.ns
    rw [q, eL] at e; cases e
    exact hc.ne.2.2.2.1 _ _ hd
  · obtain ⟨⟨v, o', e', d'⟩, _⟩ := V.cell x b q
    rw [e] at e'; cases e'
    exact hc.ne.2.2.2.2 _ d'
/-- a frame's own dictionary turns, or goes -/
theorem Inv.frameL (O : c.Ok) {s s' : Shared} {ι : Iota} (I : Inv c s ι μ) (V : EnvOk c env ρ s ι)
    (k : ∀ b o, s.heap.get? b = some o → b ≠ env.locals → s'.heap.get? b = some o) (hg : AllBare s'.gens) (ho : s'.os = s.os) (ht : 0 < s'.toks) : Inv c s' ι μ ∧ (∀ p v, RepV s.heap ι p v → RepV s'.heap ι p v) ∧ ∀ p v, RepL s.heap ι p v → RepL s'.heap ι p v := by
  have imm : ∀ b o, s.heap.get? b = some o → Imm o → s'.heap.get? b = some o := fun b o e hi => k b o e (V.imm_ne e hi).1
  have rv : ∀ p v, RepV s.heap ι p v → RepV s'.heap ι p v := fun p v r => by have := RepV.mono (l := []) imm p v r; rwa [List.append_nil] at this
  have rl : ∀ p v, RepL s.heap ι p v → RepL s'.heap ι p v := fun p v r => by have := RepL.mono (l := []) imm p v r; rwa [List.append_nil] at this
  have nl : ∀ b, b ∈ ι → b ≠ env.locals := fun b hb q => V.loc.1 (q ▸ hb)
  refine ⟨⟨fun b o e hX => k _ _ (I.old b o e hX) (fun q => ?_), I.new, I.len, I.nodup, fun i a m hi hm => ?_, O.tk _ _ I.tab fun b o e _ hc => k b o e (fun q => ?_), hg, ho.trans I.os, ht⟩, rv, rl⟩
  · rw [q, V.loc.2.2] at e; cases e
  · have x := I.mo i a m hi hm
    have na := nl a (List.mem_of_getElem? hi)
    cases m with
    | lst ps => obtain ⟨vs, n, e, r⟩ := x; exact ⟨vs, n, k _ _ e na, rl _ _ r⟩
    | pil q its =>
      obtain ⟨d, vs, n, e, hd, hn, r⟩ := x
      have nd := dict_ne V hd
      obtain ⟨hsh, tk, tk', m', ed⟩ := hd
      exact ⟨d, vs, n, k _ _ e na, ⟨hsh, tk, tk', m', k _ _ ed nd.1⟩, hn, rl _ _ r⟩
  · obtain ⟨m, ⟨oL, es, ep, eL, hd, _⟩, _, _⟩ := V.ns
    rw [q, eL] at e; cases e
    obtain ⟨vs, hc⟩ := hc
    rw [hd] at hc; cases hc

/-- the comprehension's variables are let go -/
theorem comp_end (O : c.Ok) {cenv : Env} {ρc : Rho} {s s' : Shared} {ι ι' : Iota} (I : Inv c s' ι' μ) (V : EnvOk c cenv ρc s' ι') (S : Step c s ι s' ι') (hC : s.heap.get? cenv.locals = none) {h' : Heap} (sb : Heap.SameBut cenv.locals s'.heap h') :
    Inv c { s' with heap := h' } ι' μ ∧ Step c s ι { s' with heap := h' } ι' := by
  refine ⟨(I.frameL O V (s' := { s' with heap := h' }) (fun b o e hb => sb.extBut b o hb e) I.bare rfl I.tp).1, ?_⟩
  have nC : ∀ b o, s.heap.get? b = some o → b ≠ cenv.locals := fun b o e q => by rw [q, hC] at e; cases e
  refine ⟨fun b o e hb hX => sb.extBut b o (nC b o e) (S.keep b o e hb hX), fun b o e => ?_, S.ext⟩
  obtain ⟨o', e'⟩ := S.there b o e
  exact ⟨o', sb.extBut b o' (nC b o e) e'⟩
theorem WE.compN {elt tgt iter : Expr} {ifs : List Expr} {gs : List Comprehension} {scope : Scope} {pos : Pos} {cl : List (Str × Addr)} {ρc : Rho} {K : PV → Mu → Prop} (O : c.Ok) (ok : CompOk scope env cl ρ ρc)
    (h : WE c A iter env ρ μ fun p μ₁ => ItOk c A μ₁ p ∧
      ∀ C, WCL c A (.ListComp elt (⟨tgt, iter, ifs, 0⟩ :: gs) scope pos) (compEnvC scope cl C env) p μ₁.length ρc (fun m => K (.loc μ₁.length) m) 0 (μ₁ ++ [.lst []]))
    (hfold : ∀ x, foldedSetIterable iter env x = pure x) : WE c A (.ListComp elt (⟨tgt, iter, ifs, 0⟩ :: gs) scope pos) env ρ μ K := ⟨fun s ι E Q I V hQ => by
  rw [eval_ListComp]
  refine comp_core (use := .none) (K := fun i m => K (.loc i) m) O ok hfold h I V fun D C s' ι' i μ' S I' hD k hC V' => ?_
  obtain ⟨m, hn, _⟩ := V'.ns
  refine ⟨m, hn, fun h' sb => ?_⟩
  have e := comp_end O I' V' S hC sb
  exact hQ _ _ ι' (.loc i) μ' e.2 e.1 (by simp only [RepV]; exact ⟨D, rfl, hD⟩) k⟩

theorem WE.comp {elt tgt iter : Expr} {ifs : List Expr} {scope : Scope} {pos : Pos} {cl : List (Str × Addr)} {ρc : Rho} {K : PV → Mu → Prop} (O : c.Ok) (ok : CompOk scope env cl ρ ρc)
    (h : WE c A iter env ρ μ fun p μ₁ => (∃ its, itemsOf μ₁ p = some its) ∧ (∀ i, p = .loc i → ∃ l, μ₁[i]? = some (.lst l)) ∧ (∀ lo hi, p = .rng lo hi → -1000000 ≤ lo ∧ lo ≤ 1000000 ∧ -1000000 ≤ hi ∧ hi ≤ 1000000) ∧
      ∀ C, WCL c A (.ListComp elt [⟨tgt, iter, ifs, 0⟩] scope pos) (compEnvC scope cl C env) p μ₁.length ρc (fun m => K (.loc μ₁.length) m) 0 (μ₁ ++ [.lst []]))
    (hfold : ∀ x, foldedSetIterable iter env x = pure x) : WE c A (.ListComp elt [⟨tgt, iter, ifs, 0⟩] scope pos) env ρ μ K :=
  WE.compN O ok (h.mono fun p m x => ⟨ItOk.std O ⟨x.1, x.2.1, x.2.2.1⟩, x.2.2.2⟩) hfold
/-- x = [..], where the variables are let go behind the store -/
theorem WS.assign_compN {x : Str} {elt tgt iter : Expr} {ifs : List Expr} {gs : List Comprehension} {scope : Scope} {pos pos' spos : Pos} {cl : List (Str × Addr)} {ρc : Rho} {KS : PF → Rho → Mu → Prop} (O : c.Ok) (ok : CompOk scope env cl ρ ρc)
    (h : WE c A iter env ρ μ fun p μ₁ => ItOk c A μ₁ p ∧
      ∀ C, WCL c A (.ListComp elt (⟨tgt, iter, ifs, 0⟩ :: gs) scope pos) (compEnvC scope cl C env) p μ₁.length ρc (fun m => ∃ ρ', UpdI ρ x (.loc μ₁.length) ρ' ∧ KS .next ρ' m) 0 (μ₁ ++ [.lst []]))
    (hfold : ∀ x, foldedSetIterable iter env x = pure x) (hk : env.kindOf x = some .local) (hd : (x == ("__debug__" : Str)) = false)
    (hs : swapsWith (.ListComp elt (⟨tgt, iter, ifs, 0⟩ :: gs) scope pos) (some (.Name x pos')) spos.line env = pure true) : WS c A (.Assign [.Name x pos'] (.ListComp elt (⟨tgt, iter, ifs, 0⟩ :: gs) scope pos) spos) env ρ μ KS := ⟨fun s ι E Q I V hQ => by
  rw [exec_Assign_Name_used _ _ _ _ hs]
  refine wpAny_bind (wpAny_standAt (wpAny_bind ?_))
  show wpAny _ A (do let _ ← comprehension (.ListComp elt (⟨tgt, iter, ifs, 0⟩ :: gs) scope pos) scope env _ (newList []) false (eval iter env) (some (assign (.Name x pos') env))) _ _ s
  refine wpAny_bind (wpAny_mono (comp_core (use := some (assign (.Name x pos') env)) (Q := fun _ s' => Q .next s') (K := fun i m => ∃ ρ', UpdI ρ x (.loc i) ρ' ∧ KS .next ρ' m) O ok hfold h I V fun D C s' ι' i μ' S I' hD k hC V' => ?_) (fun _ s' hq => wpAny_pure (wpAny_pure hq)) fun _ _ e => e)
  obtain ⟨ρ', u, k⟩ := k
  have Vo := V.step O I S
  show wpAny _ A (assign (.Name x pos') env (.ref D)) _ _ _
  have hCn : C ≠ env.locals := fun q => by
    obtain ⟨mo, ⟨oL, es, ep, eL, _⟩, _⟩ := V.ns
    rw [← q, hC] at eL; cases eL
  have hCc : ∀ y, env.cells.lookup y ≠ some C := fun y hy => by
    obtain ⟨⟨v, o, e, _⟩, _⟩ := V.cell y C hy
    rw [hC] at e; cases e
  refine wpAny_assign_Name (store_runL O I' Vo (by simp only [RepV]; exact ⟨D, rfl, hD⟩) u hk hd fun s₂ S₂ I₂ V₂ => ?_)
  -- the comprehension's frame is still there
  have Vc₂ : EnvOk c (compEnvC scope cl C env) [] s₂ ι' := by
    obtain ⟨m, ⟨oL, es, ep, eL, rL⟩, hi, _⟩ := V'.ns
    refine ⟨V'.kind, V'.glo, V'.bi, V'.ini, ⟨m, ⟨oL, es, ep, S₂.keep _ _ eL V'.loc.1 V'.loc.2.1 hCn, rL⟩, hi, fun y q hy => by cases hy⟩, by simp, V'.loc, fun y cc hy => ?_, V'.inj⟩
    obtain ⟨⟨v, o, e, d⟩, h1, h2, h3, h4⟩ := V'.cell y cc hy
    have ho := Vo.cell y cc (ok.sub y cc hy)
    exact ⟨⟨v, o, S₂.keep _ _ e h1 h2 ho.2.2.2.1, d⟩, h1, h2, h3, h4⟩
  obtain ⟨m, hn, _⟩ := Vc₂.ns
  refine ⟨m, hn, fun h' sb => ?_⟩
  have e := I₂.frameL O Vc₂ (s' := { s₂ with heap := h' }) (fun b o e hb => sb.extBut b o hb e) I₂.bare rfl I₂.tp
  have kb : ∀ b o, b ≠ C → s₂.heap.get? b = some o → h'.get? b = some o := fun b o hb e => sb.extBut b o hb e
  refine hQ .next _ ι' .next ρ' μ' ?_ e.1 ?_ rfl k
  · have nC : ∀ b o, s.heap.get? b = some o → b ≠ C := fun b o e q => by rw [q, hC] at e; cases e
    refine ⟨fun b o e hb hX hL hc => kb b o (nC b o e) (S₂.keep b o (S.keep b o e hb hX) (S.off e hb) hX hL), fun b o e => ?_, ?_⟩
    · obtain ⟨o', e'⟩ := S.there b o e
      obtain ⟨o'', e''⟩ := S₂.there b o' e'
      exact ⟨o'', kb b o'' (nC b o e) e''⟩
    · exact S.ext
  · obtain ⟨mo, ⟨oL, es, ep, eL, rL⟩, hi, hm⟩ := V₂.ns
    refine ⟨V₂.kind, V₂.glo, V₂.bi, V₂.ini, ⟨mo, ⟨oL, es, ep, kb _ _ (Ne.symm hCn) eL, rL⟩, hi, fun y q hy => ?_⟩, V₂.nd, V₂.loc, fun y cc hy => ?_, V₂.inj⟩
    · obtain ⟨h1, h2⟩ := hm y q hy
      refine ⟨h1, ?_⟩
      rcases h2 with ⟨a, v', b, r'⟩ | ⟨a, cc, v', b, ⟨o, e', d⟩, r'⟩
      · exact .inl ⟨a, v', b, e.2.1 _ _ r'⟩
      · exact .inr ⟨a, cc, v', b, ⟨o, kb _ _ (fun q => hCc y (q ▸ b)) e', d⟩, e.2.1 _ _ r'⟩
    · obtain ⟨⟨v', o, e', d⟩, h1, h2, h3, h4⟩ := V₂.cell y cc hy
      exact ⟨⟨v', o, kb _ _ (fun q => hCc y (q ▸ hy)) e', d⟩, h1, h2, h3, h4⟩⟩
theorem WS.assign_comp {x : Str} {elt tgt iter : Expr} {ifs : List Expr} {scope : Scope} {pos pos' spos : Pos} {cl : List (Str × Addr)} {ρc : Rho} {KS : PF → Rho → Mu → Prop} (O : c.Ok) (ok : CompOk scope env cl ρ ρc)
    (h : WE c A iter env ρ μ fun p μ₁ => (∃ its, itemsOf μ₁ p = some its) ∧ (∀ i, p = .loc i → ∃ l, μ₁[i]? = some (.lst l)) ∧ (∀ lo hi, p = .rng lo hi → -1000000 ≤ lo ∧ lo ≤ 1000000 ∧ -1000000 ≤ hi ∧ hi ≤ 1000000) ∧
      ∀ C, WCL c A (.ListComp elt [⟨tgt, iter, ifs, 0⟩] scope pos) (compEnvC scope cl C env) p μ₁.length ρc (fun m => ∃ ρ', UpdI ρ x (.loc μ₁.length) ρ' ∧ KS .next ρ' m) 0 (μ₁ ++ [.lst []]))
    (hfold : ∀ x, foldedSetIterable iter env x = pure x) (hk : env.kindOf x = some .local) (hd : (x == ("__debug__" : Str)) = false)
    (hs : swapsWith (.ListComp elt [⟨tgt, iter, ifs, 0⟩] scope pos) (some (.Name x pos')) spos.line env = pure true) : WS c A (.Assign [.Name x pos'] (.ListComp elt [⟨tgt, iter, ifs, 0⟩] scope pos) spos) env ρ μ KS :=
  WS.assign_compN O ok (h.mono fun p m x => ⟨ItOk.std O ⟨x.1, x.2.1, x.2.2.1⟩, x.2.2.2⟩) hfold hk hd hs
end
end Mine
namespace Mine

theorem lookup_mem_nodup : ∀ (l : List (Str × Value)) (x : Str) (v : Value), (l.map (·.1)).Nodup → (x, v) ∈ l → l.lookup x = some v
  | [], _, _, _, h => by cases h
  | (y, w) :: r, x, v, nd, h => by
    rw [List.map_cons, List.nodup_cons] at nd
    rcases List.mem_cons.mp h with e | h
    · cases e; simp
    · have hne : x ≠ y := fun q => nd.1 (q ▸ List.mem_map.mpr ⟨(x, v), h, rfl⟩)
      have hb : (x == y) = false := by simpa using hne
      rw [List.lookup_cons, hb]
      exact lookup_mem_nodup r x v nd.2 h
theorem RepL.zip {h : Heap} {ι : Iota} : ∀ (names : List Str) (ps : List PV) (vs : List Value) (x : Str) (p : PV), RepL h ι ps vs → (x, p) ∈ names.zip ps → ∃ v, (x, v) ∈ names.zip vs ∧ RepV h ι p v
  | [], _, _, _, _, _, hm => by simp at hm
  | _ :: _, [], _, _, _, _, hm => by simp at hm
  | n :: names, q :: ps, vs, x, p, r, hm => by
    simp only [RepL] at r
    obtain ⟨v, r', rfl, h1, h2⟩ := r
    rw [List.zip_cons_cons, List.mem_cons] at hm
    rcases hm with e | hm
    · cases e; exact ⟨v, by simp, h1⟩
    · obtain ⟨w, hw, rw'⟩ := RepL.zip names ps r' x p h2 hm
      exact ⟨w, by rw [List.zip_cons_cons]; exact List.mem_cons_of_mem _ hw, rw'⟩
theorem zip_keys {α : Type} : ∀ (names : List Str) (vs : List α), vs.length = names.length → (names.zip vs).map (·.1) = names
  | [], [], _ => rfl
  | [], _ :: _, h => by simp at h
  | _ :: _, [], h => by simp at h
  | n :: names, v :: vs, h => by simp [zip_keys names vs (by simpa using h)]

/-- a plain def of the text: no cells, no closure, no defaults -/
structure DefOk (c : Cx) (a : Addr) (fd : FuncData) (body : List Stmt) (names : List Str) : Prop where
  fn : FnAt c a fd
  code : ∃ cc o vs t, fd.code = .ref cc ∧ c.hB.get? cc = some o ∧ cc ∉ c.X ∧ o.data = .fields vs ∧ vs[1]? = some (.str fd.qualname t)
  body : fd.body = .stmts body
  bind : ∀ (s : Shared) (vs : List Value), (∀ b o, c.hB.get? b = some o → b ∉ c.X → s.heap.get? b = some o) → vs.length = names.length → BindsTo s fd ⟨vs, []⟩ (names.zip vs)
  nd : names.Nodup
  dbg : ∀ x ∈ names, (x == ("__debug__" : Str)) = false
  clo : fd.closure = []
  glo : fd.globals = mainGlobals
  bi : fd.builtins = builtinsNs
  co : fd.scope.isCoroutine = false
  gen : fd.scope.isGenerator = false
  kind : fd.scope.kind = .function

section
variable {c : Cx} {A : Around} {μ : Mu}

abbrev retK (K : PV → Mu → Prop) (f : PF) (ρ : Rho) (μ : Mu) : Prop := match f with
  | .ret p => K p μ
  | .next => K .none μ
  | _ => False

theorem DefOk.codeRec {a : Addr} {fd : FuncData} {body : List Stmt} {names : List Str} (D : DefOk c a fd body names) {s : Shared} {ι : Iota} (I : Inv c s ι μ) : s.heap.CodeRec fd.code fd.qualname := by
  obtain ⟨cc, o, vs, t, e1, e2, e3, e4, e5⟩ := D.code
  exact ⟨cc, o, vs, t, e1, I.old _ _ e2 e3, e4, e5⟩
theorem Inv.noLimit (O : c.Ok) {s : Shared} {ι : Iota} (I : Inv c s ι μ) : s.heap.NoLimit := by
  obtain ⟨mc, ⟨o, es, ep, e, r⟩, hk⟩ := O.lim
  exact ⟨mc, ⟨o, es, ep, I.old _ _ e O.sX.1, r⟩, hk⟩

theorem WC.def {a : Addr} {fd : FuncData} {body : List Stmt} {names : List Str} {ps : List PV} {n : Nat} {K : PV → Mu → Prop} (O : c.Ok) (D : DefOk c a fd body names) (ao : AOk (n + 1) A)
    (hl : ps.length = names.length) (hcell : ∀ x ∈ fd.scope.names, x.2 ≠ .cell) (hloc : ∀ x ∈ names, fd.scope.names.lookup x = some .local)
    (hini : ∀ L, (callEnv fd L a).kindOf ("_initial_size" : Str) = none) (hni : ("_initial_size" : Str) ∉ names) (hk : ∀ L, ∀ x ∈ names, (callEnv fd L a).kindOf x = some .local)
    (h : ∀ L A', AOk n A' → WSs c A' body (callEnv fd L a) (names.zip ps) μ (retK K)) : WC c A (.ref a) ps μ K := ⟨fun s ι E Q vs I r hQ => by
  have hv : vs.length = names.length := (RepL.length ps vs r).trans hl
  obtain ⟨o, ho, hd⟩ := D.fn.here I
  have kz := zip_keys names vs hv
  refine wpAny_call (codeAny_call_def (body := body) (binds := names.zip vs) (by have := ao.d; show A.depth < 1000; omega) ho hd (I.noLimit O) (D.codeRec I) D.body (D.bind s vs I.old hv) hcell (fun x hx => hloc _ (by rw [← kz]; exact List.mem_map.mpr ⟨x, hx, rfl⟩)) (fun h₀ hn k => ?_) D.co D.gen D.kind)
  generalize hL : s.heap.objs.size = L at *
  have fL : s.heap.get? L = none := by rw [← hL]; exact fresh_size _
  have fr := I.fresh O fL
  have g := I.grow O (s' := { s with heap := h₀, toks := s.toks + (names.zip vs).length }) k I.bare rfl (by have := I.tp; show 0 < s.toks + _; omega)
  have V : EnvOk c (callEnv fd L a) (names.zip ps) { s with heap := h₀, toks := s.toks + (names.zip vs).length } ι := by
    refine ⟨D.kind, D.glo, D.bi, hini L, ⟨_, hn, ?_, fun x p hx => ?_⟩, by rw [zip_keys names ps hl]; exact D.nd, fr, fun x cc hx => ?_, fun x y cc hx => ?_⟩
    · cases q : (names.zip vs).reverse.lookup ("_initial_size" : Str) with
      | none => rfl
      | some v =>
        exact absurd (by
          have : ∀ (l : List (Str × Value)) (x : Str) (v : Value), l.lookup x = some v → x ∈ l.map (·.1) := by
            intro l
            induction l with
            | nil => intro x v h; simp at h
            | cons y l ih =>
              intro x v h
              rw [List.lookup_cons] at h
              split at h
              · rename_i hb; rw [List.map_cons, List.mem_cons]; exact .inl (by simpa using hb)
              · rw [List.map_cons, List.mem_cons]; exact .inr (ih x v h)
          have := this _ _ _ q
          rw [List.map_reverse, List.mem_reverse, kz] at this
          exact this) hni
    · obtain ⟨v, hv', rv⟩ := RepL.zip names ps vs x p r hx
      have hxn : x ∈ names := by rw [← kz]; exact List.mem_map.mpr ⟨_, hv', rfl⟩
      refine ⟨D.dbg x hxn, .inl ⟨hk L x hxn, v, lookup_mem_nodup _ x v (by rw [List.map_reverse, kz]; exact (List.reverse_perm names).nodup_iff.mpr D.nd) (List.mem_reverse.mpr hv'), I.rep O g.2 rv⟩⟩
    · have : (callEnv fd L a).cells = fd.closure := rfl
      rw [this, D.clo] at hx; cases hx
    · have : (callEnv fd L a).cells = fd.closure := rfl
      rw [this, D.clo] at hx; cases hx
  refine (h L _ (ao.deeper _)).run _ ι _ _ g.1 V fun f s' ι' pf ρ' μ' S I' V' rf k' => ?_
  have Sx : Step c s ι s' ι' := by
    refine ⟨fun b o e hb hX => S.keep b o (k b o e) hb hX (fun q => by rw [show (callEnv fd L a).locals = L from rfl] at q; rw [q, fL] at e; cases e) (fun x q => ?_), fun b o e => S.there b o (k b o e), ?_⟩
    · have : (callEnv fd L a).cells = fd.closure := rfl
      rw [this, D.clo] at q; cases q
    · obtain ⟨l, hl, hl'⟩ := S.ext
      refine ⟨l, hl, fun b hb => ?_⟩
      cases q : s.heap.get? b with
      | none => rfl
      | some o => have := k b o q; rw [hl' b hb] at this; cases this
  cases pf with
  | next => simp only [RepF] at rf; subst rf; exact hQ .none s' ι' .none μ' Sx I' (by simp only [RepV]) k'
  | brk => exact absurd k' (by simp [retK])
  | cont => exact absurd k' (by simp [retK])
  | ret p =>
    simp only [RepF] at rf
    obtain ⟨v, rfl, rv⟩ := rf
    exact hQ v s' ι' p μ' Sx I' rv k'⟩

theorem bindL_off (kd : Str → Option NameKind) : ∀ (l : List (Str × Value)) (m : Str → Option Value) (x : Str), x ∉ l.map (·.1) → bindL kd l m x = m x
  | [], m, x, _ => rfl
  | (n, v) :: r, m, x, h => by
    rw [List.map_cons, List.mem_cons, not_or] at h
    unfold bindL
    rw [bindL_off kd r _ x h.2]
    split
    · simp only; rw [if_neg h.1]
    · rfl
theorem bindL_on (kd : Str → Option NameKind) : ∀ (l : List (Str × Value)) (m : Str → Option Value) (x : Str) (v : Value), (l.map (·.1)).Nodup → (x, v) ∈ l → kd x = some .local → bindL kd l m x = some v
  | [], m, x, v, _, h, _ => by cases h
  | (n, w) :: r, m, x, v, nd, h, hk => by
    rw [List.map_cons, List.nodup_cons] at nd
    rcases List.mem_cons.mp h with e | h
    · cases e
      unfold bindL
      rw [bindL_off kd r _ _ nd.1, if_pos hk]; simp
    · unfold bindL
      exact bindL_on kd r _ x v nd.2 h hk
theorem bindC_off (kd : Str → Option NameKind) : ∀ (l : List (Str × Value)) (m : Str → Option Value) (x : Str), x ∉ l.map (·.1) → bindC kd l m x = m x
  | [], m, x, _ => rfl
  | (n, v) :: r, m, x, h => by
    rw [List.map_cons, List.mem_cons, not_or] at h
    unfold bindC
    rw [bindC_off kd r _ x h.2]
    split
    · rfl
    · simp only; rw [if_neg h.1]
theorem bindC_on (kd : Str → Option NameKind) : ∀ (l : List (Str × Value)) (m : Str → Option Value) (x : Str) (v : Value), (l.map (·.1)).Nodup → (x, v) ∈ l → kd x ≠ some .local → bindC kd l m x = some v
  | [], m, x, v, _, h, _ => by cases h
  | (n, w) :: r, m, x, v, nd, h, hk => by
    rw [List.map_cons, List.nodup_cons] at nd
    rcases List.mem_cons.mp h with e | h
    · cases e
      unfold bindC
      rw [bindC_off kd r _ _ nd.1, if_neg hk]; simp
    · unfold bindC
      exact bindC_on kd r _ x v nd.2 h hk
theorem lookup_mem : ∀ (l : List (Str × Addr)) (x : Str) (v : Addr), l.lookup x = some v → (x, v) ∈ l
  | [], x, v, h => by simp at h
  | (y, w) :: l, x, v, h => by
    rw [List.lookup_cons] at h
    split at h
    · rename_i hb
      cases h
      rw [show x = y by simpa using hb]; exact List.mem_cons_self
    · exact List.mem_cons_of_mem _ (lookup_mem l x v h)

theorem pw_inj : ∀ (l : List (Str × Addr)) (x y : Str) (cc : Addr), l.Pairwise (fun x y => x.2 ≠ y.2) → (x, cc) ∈ l → (y, cc) ∈ l → x = y
  | [], _, _, _, _, h, _ => by cases h
  | p :: l, x, y, cc, pw, h1, h2 => by
    rw [List.pairwise_cons] at pw
    rcases List.mem_cons.mp h1 with e1 | h1 <;> rcases List.mem_cons.mp h2 with e2 | h2
    · rw [← e1] at e2; exact (Prod.mk.inj e2).1.symm
    · exact absurd (by rw [← e1]) (pw.1 _ h2)
    · exact absurd (by rw [← e2]) (pw.1 _ h1)
    · exact pw_inj l x y cc pw.2 h1 h2
theorem codeAny_call_cells' {R : Result → Shared → Prop} {prog : Program} {w : World} {s : Shared} {a : Addr} {o : Obj} {fd : FuncData} {body : List Stmt} {vals : List Value} {binds : List (Str × Value)}
    (hroom : A.depth < recursionLimit) (ho : s.heap.get? a = some o) (hdata : o.data = .func fd) (hlim : s.heap.NoLimit) (hcd : s.heap.CodeRec fd.code fd.qualname)
    (hbody : fd.body = .stmts body) (hbind : BindsTo s fd ⟨vals, []⟩ binds) (hclo : fd.closure = [])
    (hkind : ∀ x ∈ binds, fd.scope.names.lookup x.1 = some .local ∨ (fd.scope.names.lookup x.1 = some .cell ∧ ((cellsFrom (s.heap.objs.size + 1) fd.scope.names []).lookup x.1).isSome = true))
    (h : ∀ s₁, s.toks ≤ s₁.toks → InCallC s (callEnvC fd s.heap.objs.size a).locals (bindL (callEnvC fd s.heap.objs.size a).kindOf binds fun _ => none) (callEnvC fd s.heap.objs.size a).cells
        (bindC (callEnvC fd s.heap.objs.size a).kindOf binds fun _ => none) s₁ →
      wpAny (model prog w) (A.deeper (callEnvC fd s.heap.objs.size a)) (execs body (callEnvC fd s.heap.objs.size a)) (fun f s' => R (.ok (.ret (match f with | .ret v => v | _ => .none))) s')
        (fun e s' => wpAny (model prog w) (A.deeper (callEnvC fd s.heap.objs.size a)) (leaving (callEnvC fd s.heap.objs.size a) e) (fun _ s'' => R (.error e) s'') (fun e' s'' => R (.error e') s'') s') s₁)
    (hco : fd.scope.isCoroutine = false) (hgen : fd.scope.isGenerator = false) (hk : fd.scope.kind = .function) :
    codeAny (model prog w) A (.call (.ref a) ⟨vals, []⟩) R s := by
  refine codeAny_call_function hroom ho hdata hco hgen hbody hcd ?_
  rw [hclo]
  refine hbind _ _ _ _ (wpAny_with_toks (Nat.le_refl s.toks) (wpAny_newFunctionEnv_cells hk hkind fun env he s' x htk => ?_))
  subst he
  exact ⟨hlim.keeps x.toInCall.keep, codeAny_func (h s' htk x)⟩
/-- a def some names of which are cells -/
theorem WC.defC {a : Addr} {fd : FuncData} {body : List Stmt} {names : List Str} {ps : List PV} {n : Nat} {K : PV → Mu → Prop} (O : c.Ok) (D : DefOk c a fd body names) (ao : AOk (n + 1) A)
    (hl : ps.length = names.length) (hloc : ∀ L, ∀ x ∈ names, fd.scope.names.lookup x = some .local ∨ (fd.scope.names.lookup x = some .cell ∧ ((cellsFrom (L + 1) fd.scope.names []).lookup x).isSome = true))
    (hini : ∀ L, (callEnvC fd L a).kindOf ("_initial_size" : Str) = none) (hni : ("_initial_size" : Str) ∉ names)
    (hk : ∀ L, ∀ x ∈ names, (callEnvC fd L a).kindOf x = some .local ∨ ((callEnvC fd L a).kindOf x = some .cell ∧ ((callEnvC fd L a).cells.lookup x).isSome = true))
    (h : ∀ L A', AOk n A' → WSs c A' body (callEnvC fd L a) (names.zip ps) μ (retK K)) : WC c A (.ref a) ps μ K := ⟨fun s ι E Q vs I r hQ => by
  have hv : vs.length = names.length := (RepL.length ps vs r).trans hl
  obtain ⟨o, ho, hd⟩ := D.fn.here I
  have kz := zip_keys names vs hv
  refine wpAny_call (codeAny_call_cells' (body := body) (binds := names.zip vs) (by have := ao.d; show A.depth < 1000; omega) ho hd (I.noLimit O) (D.codeRec I) D.body (D.bind s vs I.old hv) D.clo (fun x hx => hloc _ _ (by rw [← kz]; exact List.mem_map.mpr ⟨x, hx, rfl⟩)) (fun s₁ hts X => ?_) D.co D.gen D.kind)
  generalize hL : s.heap.objs.size = L at *
  have fL : s.heap.get? L = none := by rw [← hL]; exact fresh_size _
  have hLe : (callEnvC fd L a).locals = L := rfl
  rw [hLe] at X
  have fr := I.fresh O fL
  obtain ⟨h', tk, es, k⟩ := X.done
  have htk : 0 < s₁.toks := Nat.lt_of_lt_of_le I.tp hts
  have g := I.grow O (s' := s₁) (by rw [es]; exact k) (by rw [es]; exact I.bare) (by rw [es]) htk
  have fc : ∀ x cc, (callEnvC fd L a).cells.lookup x = some cc → s.heap.get? cc = none := fun x cc hx => by
    have hab := X.above x cc (lookup_mem _ x cc hx)
    cases q : s.heap.get? cc with
    | none => rfl
    | some o => exact absurd (Heap.lt_size q) (by rw [hL]; exact Nat.not_lt.mpr (Nat.le_of_lt hab))
  have V : EnvOk c (callEnvC fd L a) (names.zip ps) s₁ ι := by
    refine ⟨D.kind, D.glo, D.bi, hini L, ⟨_, X.toInCall.ns, ?_, fun x p hx => ?_⟩, by rw [zip_keys names ps hl]; exact D.nd, fr, fun x cc hx => ?_, fun x y cc hx hy => ?_⟩
    · rw [bindL_off _ _ _ _ (by rw [kz]; exact hni)]
    · obtain ⟨v, hv', rv⟩ := RepL.zip names ps vs x p r hx
      have hxn : x ∈ names := by rw [← kz]; exact List.mem_map.mpr ⟨_, hv', rfl⟩
      have ndz : ((names.zip vs).map (·.1)).Nodup := by rw [kz]; exact D.nd
      refine ⟨D.dbg x hxn, ?_⟩
      rcases hk L x hxn with h1 | ⟨h1, h2⟩
      · exact .inl ⟨h1, v, bindL_on _ _ _ x v ndz hv' h1, I.rep O g.2 rv⟩
      · obtain ⟨cc, hcc⟩ := Option.isSome_iff_exists.mp h2
        have := X.cell x cc hcc
        rw [bindC_on _ _ _ x v ndz hv' (by rw [h1]; decide)] at this
        exact .inr ⟨.inl h1, cc, v, hcc, this, I.rep O g.2 rv⟩
    · have fcc := I.fresh O (fc x cc hx)
      exact ⟨⟨_, X.cell x cc hx⟩, fcc.1, fcc.2.1, fun q => by have hab := X.above x cc (lookup_mem _ x cc hx); rw [hLe] at q; exact absurd (q ▸ hab) (Nat.lt_irrefl _), fcc.2.2⟩
    · exact pw_inj _ x y cc X.apart (lookup_mem _ x cc hx) (lookup_mem _ y cc hy)
  refine (h L _ (ao.deeper _)).run _ ι _ _ g.1 V fun f s' ι' pf ρ' μ' S I' V' rf k' => ?_
  have ke : ∀ b o, s.heap.get? b = some o → s₁.heap.get? b = some o := by rw [es]; exact k
  have Sx : Step c s ι s' ι' := by
    refine ⟨fun b o e hb hX => S.keep b o (ke b o e) hb hX (fun q => by rw [hLe] at q; rw [q, fL] at e; cases e) (fun x q => by rw [fc x b q] at e; cases e), fun b o e => S.there b o (ke b o e), ?_⟩
    obtain ⟨l, hl, hl'⟩ := S.ext
    refine ⟨l, hl, fun b hb => ?_⟩
    cases q : s.heap.get? b with
    | none => rfl
    | some o => have := ke b o q; rw [hl' b hb] at this; cases this
  cases pf with
  | next => simp only [RepF] at rf; subst rf; exact hQ .none s' ι' .none μ' Sx I' (by simp only [RepV]) k'
  | brk => exact absurd k' (by simp [retK])
  | cont => exact absurd k' (by simp [retK])
  | ret p =>
    simp only [RepF] at rf
    obtain ⟨v, rfl, rv⟩ := rf
    exact hQ v s' ι' p μ' Sx I' rv k'⟩
end
end Mine
namespace Mine
open Builtin.Str (occurrences lastOccurrence subAt strSub partsBetween strKind)

/-- y stands in x at i, no further than hi -/
def atB (x y : List Nat) (hi i : Nat) : Bool := decide (i + y.length ≤ hi) && ((x.drop i).take y.length == y)
def findB (x y : List Nat) (lo hi : Nat) : Option Nat := (List.range' lo (hi + 1 - lo)).find? (atB x y hi)
theorem lim {n a N : Nat} (h : n ≤ a) (d : a ≤ N := by decide) : n ≤ N := Nat.le_trans h d
theorem lapp {a b : List Nat} {A B N : Nat} (ha : a.length ≤ A) (hb : b.length ≤ B) (d : A + B ≤ N := by decide) : (a ++ b).length ≤ N := by
  rw [List.length_append]; exact Nat.le_trans (Nat.add_le_add ha hb) d
def preB (y x : List Nat) : Bool := x.take y.length == y
def sufB (y x : List Nat) : Bool := decide (y.length ≤ x.length) && (x.drop (x.length - y.length) == y)
def optI (o : Option Nat) : Int := match o with
  | some i => (i : Int)
  | none => -1

def headI : List Nat → Int
  | k :: _ => (k : Int)
  | [] => -1

theorem subAt_S (x y : List Nat) (i : Nat) : subAt (S x) (S y) i = ((x.drop i).take y.length == y) := by
  unfold subAt
  rw [S_length]
  have e : (S x).cps.extract i (i + y.length) = ((x.drop i).take y.length).toArray := by
    apply Array.toList_inj.mp
    simp [List.extract_eq_take_drop]
  rw [e, Bool.eq_iff_iff, beq_iff_eq, beq_iff_eq]
  exact ⟨fun h => by simpa using h, fun h => by rw [h]⟩
theorem At_S (x y : List Nat) (hi i : Nat) : StrLaws.At (S x) (S y) hi i ↔ atB x y hi i = true := by
  unfold StrLaws.At atB
  rw [subAt_S, S_length]
  simp
theorem occ_S (x y : List Nat) (lo hi : Nat) : headI (occurrences (S x) (S y) lo hi 1) = optI (findB x y lo hi) ∧ (!(occurrences (S x) (S y) lo hi 1).isEmpty) = (findB x y lo hi).isSome := by
  have key := StrLaws.occ_first (S x) (S y) hi 1 (Nat.le_refl 1) (List.range' lo (hi + 1 - lo)) lo (fun i hi' => by have := List.mem_range'_1.mp hi'; omega)
  rw [StrLaws.occ_eq]
  rcases key with ⟨h0, hn⟩ | ⟨pre, a, post, e, h0, ha, hn⟩
  · have : findB x y lo hi = none := by
      unfold findB
      rw [List.find?_eq_none]
      intro i hi' h
      exact hn i hi' ((At_S ..).mpr h)
    rw [this, h0]
    exact ⟨rfl, rfl⟩
  · have : findB x y lo hi = some a := by
      unfold findB
      rw [e, List.find?_append]
      have h1 : pre.find? (atB x y hi) = none := by
        rw [List.find?_eq_none]
        intro i hi' h
        exact hn i hi' ((At_S ..).mpr h)
      rw [h1, List.find?_cons, (At_S ..).mp ha]; rfl
    rw [this]
    generalize (forIn (List.range' lo (hi + 1 - lo)) ((#[] : Array Nat), lo) (StrLaws.occBody (S x) (S y) hi 1)).run.fst = arr at h0
    have h1 : arr.toList[0]? = some a := by simpa using h0
    cases hL : arr.toList with
    | nil => rw [hL] at h1; cases h1
    | cons b t => rw [hL] at h1; simp at h1; subst h1; exact ⟨rfl, rfl⟩
theorem inB_S (y x : List Nat) : inB (S y) (S x) = (findB x y 0 x.length).isSome := by
  unfold inB
  rw [S_length]
  exact (occ_S x y 0 x.length).2
theorem startswith_S (x y : List Nat) : Txt.startswith (S x) (S y) = preB y x := by
  unfold Txt.startswith preB
  rw [subAt_S, S_length, S_length, List.drop_zero, Nat.zero_add]
  by_cases h : y.length ≤ x.length
  · simp [h]
  · simp only [h, decide_false, Bool.false_and]
    symm
    rw [Bool.eq_false_iff]
    intro hc
    have := congrArg List.length (eq_of_beq hc)
    simp at this; omega
theorem endswith_S (x y : List Nat) : Txt.endswith (S x) (S y) = sufB y x := by
  unfold Txt.endswith sufB
  rw [subAt_S, S_length, S_length, Nat.zero_add]
  by_cases h : y.length ≤ x.length
  · have : (x.drop (x.length - y.length)).take y.length = x.drop (x.length - y.length) := List.take_of_length_le (by simp; omega)
    rw [this]
  · simp [h]
theorem mul_S (x : List Nat) (n : Int) : Txt.mul (S x) n = S ((List.replicate n.toNat x).flatten) := by
  unfold Txt.mul
  have fold : ∀ (k : Nat) (acc : Array Nat), (List.replicate k (S x).cps).foldl (· ++ ·) acc = acc ++ ((List.replicate k x).flatten).toArray := by
    intro k
    induction k with
    | zero => intro acc; simp
    | succ k ih => intro acc; rw [List.replicate_succ, List.foldl_cons, ih, List.replicate_succ, List.flatten_cons]; simp
  by_cases h : n < 1
  · have e : n.toNat = 0 := by omega
    rw [if_pos h, e]; rfl
  · rw [if_neg h, S_length]
    split
    · rename_i hc
      rw [Bool.or_eq_true, beq_iff_eq, beq_iff_eq] at hc
      rcases hc with rfl | hc
      · simp
      · have hx : x = [] := List.length_eq_zero_iff.mp hc
        subst hx
        have : (List.replicate n.toNat ([] : List Nat)).flatten = [] := by simp
        rw [this]
    · rw [fold]; simp

/-- the parts between dots -/
def splitD : List Nat → List Nat → List (List Nat)
  | 46 :: 46 :: 46 :: r, cur => cur :: splitD r []
  | c :: r, cur => splitD r (cur ++ [c])
  | [], cur => [cur]
abbrev dots : List Nat := [46, 46, 46]
theorem splitD_dots (r cur : List Nat) : splitD (46 :: 46 :: 46 :: r) cur = cur :: splitD r [] := by rw [splitD]
theorem splitD_plain (a : Nat) (r cur : List Nat) (h : (a :: r).take 3 ≠ dots) : splitD (a :: r) cur = splitD r (cur ++ [a]) := by
  rw [splitD]
  intro r' hr
  cases hr
  exact fun q => h (by rw [q]; rfl)
theorem splitD_run : ∀ (k : Nat) (w cur : List Nat), k ≤ w.length → (∀ i, i < k → ((w.drop i).take 3 == dots) = false) → splitD w cur = splitD (w.drop k) (cur ++ w.take k)
  | 0, w, cur, _, _ => by simp
  | k + 1, [], cur, h, _ => by simp at h
  | k + 1, a :: w, cur, h, hn => by
    have h0 := hn 0 (by omega)
    rw [List.drop_zero, beq_eq_false_iff_ne] at h0
    rw [splitD_plain a w cur h0, splitD_run k w (cur ++ [a]) (by simpa using h) (fun i hi => by simpa using hn (i + 1) (by omega))]
    simp
theorem partsFrom_S (x : List Nat) : ∀ (cuts : List Nat) (a f : Nat), a ≤ x.length → StrLaws.ChainG (S x) (S dots) x.length a cuts f → (∀ k, f ≤ k → ¬ StrLaws.At (S x) (S dots) x.length k) →
    StrLaws.partsFrom (S x) 3 a cuts = (splitD (x.drop a) []).map S
  | [], a, f, ha, h, hn => by
    have e : f = a := h
    subst e
    have hno : ∀ i, i < x.length - f → (((x.drop f).drop i).take 3 == dots) = false := fun i hi => by
      rw [List.drop_drop]
      cases q : ((x.drop (f + i)).take 3 == dots) with
      | false => rfl
      | true =>
        have hl := congrArg List.length (eq_of_beq q)
        simp at hl
        exact absurd ((At_S x dots x.length (f + i)).mpr (by unfold atB; rw [show dots.length = 3 from rfl, q]; simp; exact Nat.add_le_of_le_sub' (Nat.le_of_lt (Nat.add_lt_of_lt_sub' hi)) (Nat.le_trans (Nat.le_of_eq hl.symm) (Nat.min_le_right ..)))) (hn (f + i) (Nat.le_add_right f i))
    rw [splitD_run (x.length - f) (x.drop f) [] (by simp) hno]
    have e1 : (x.drop f).drop (x.length - f) = [] := List.drop_eq_nil_of_le (Nat.le_of_eq List.length_drop)
    have e2 : (x.drop f).take (x.length - f) = x.drop f := List.take_of_length_le (by simp)
    rw [e1, e2]
    show [strSub (S x) f (S x).length] = [S ([] ++ x.drop f)]
    rw [S_length]
    unfold strSub
    congr 1
    show (⟨(S x).cps.extract f x.length⟩ : Str) = ⟨_⟩
    congr 1
    apply Array.toList_inj.mp
    simp [e2]
  | c :: r, a, f, ha, h, hn => by
    obtain ⟨h1, h2, h3, h4⟩ := h
    rw [show (S dots).length = 3 from rfl] at h4
    have hc : c + 3 ≤ x.length := by have := h2.1; rw [show (S dots).length = 3 from rfl] at this; exact this
    have hd : (x.drop c).take 3 = dots := by
      have := ((At_S x dots x.length c).mp h2)
      unfold atB at this
      simp at this
      exact this.2
    have hno : ∀ i, i < c - a → (((x.drop a).drop i).take 3 == dots) = false := fun i hi => by
      rw [List.drop_drop]
      cases q : ((x.drop (a + i)).take 3 == dots) with
      | false => rfl
      | true => exact absurd ((At_S x dots x.length (a + i)).mpr (by unfold atB; rw [show dots.length = 3 from rfl, q]; simp; exact Nat.le_trans (Nat.add_le_add_right (Nat.le_of_lt (Nat.add_lt_of_lt_sub' hi)) 3) hc)) (h3 (a + i) (Nat.le_add_right a i) (Nat.add_lt_of_lt_sub' hi))
    rw [splitD_run (c - a) (x.drop a) [] (by rw [List.length_drop]; exact Nat.sub_le_sub_right (Nat.le_trans (Nat.le_add_right c 3) hc) a) hno]
    have e1 : (x.drop a).drop (c - a) = x.drop c := by rw [List.drop_drop, Nat.add_sub_cancel' h1]
    have e2 : x.drop c = 46 :: 46 :: 46 :: x.drop (c + 3) := by
      have := List.take_append_drop 3 (x.drop c)
      rw [hd, List.drop_drop] at this
      exact this.symm
    rw [e1, e2, splitD_dots]
    show strSub (S x) a c :: StrLaws.partsFrom (S x) 3 (c + 3) r = S ([] ++ (x.drop a).take (c - a)) :: (splitD (x.drop (c + 3)) []).map S
    rw [partsFrom_S x r (c + 3) f hc h4 hn]
    congr 1
    unfold strSub
    show (⟨(S x).cps.extract a c⟩ : Str) = ⟨_⟩
    congr 1
    apply Array.toList_inj.mp
    simp [List.extract_eq_take_drop]
theorem splitD_none (x : List Nat) (h : ∀ i, ((x.drop i).take 3 == dots) = false) : splitD x [] = [x] := by
  rw [splitD_run x.length x [] (Nat.le_refl _) (fun i _ => h i)]
  simp [splitD]
theorem split_S (x : List Nat) : Txt.split (S x) (S dots) = (splitD x []).map S := by
  obtain ⟨f, hG, hn⟩ := StrLaws.occ_tight (S x) (S dots) (by show 1 ≤ 3; omega)
  rw [S_length] at hG hn
  have kd : ¬ Builtin.Str.strKind (S x) < Builtin.Str.strKind (S dots) := by
    have k1 : Builtin.Str.strKind (S dots) = 1 := by unfold Builtin.Str.strKind; simp
    rw [k1]
    unfold Builtin.Str.strKind
    split
    · omega
    · split <;> omega
  unfold Txt.split
  rw [decide_eq_false kd, S_length, show (S dots).length = 3 from rfl, Bool.or_false]
  by_cases hs : x.length < 3
  · rw [if_pos (by simp [hs])]
    rw [splitD_none x (fun i => ?_)]
    · rfl
    · rw [beq_eq_false_iff_ne]
      intro q
      have := congrArg List.length q
      simp at this; omega
  · rw [if_neg (by simp [hs])]
    split
    · rename_i he
      have e0 : occurrences (S x) (S dots) 0 x.length (x.length + 1) = [] := List.isEmpty_iff.mp he
      rw [e0] at hG
      have := partsFrom_S x [] 0 f (Nat.zero_le _) hG hn
      rw [List.drop_zero] at this
      rw [← this]
      show [S x] = [strSub (S x) 0 (S x).length]
      rw [StrLaws.sub_whole]
    · rw [StrLaws.partsBetween_eq]
      have := partsFrom_S x _ 0 f (Nat.zero_le _) hG hn
      rw [List.drop_zero] at this
      exact this
end Mine
namespace Mine
section
variable {c : Cx} {A : Around} {μ : Mu} {K : PV → Mu → Prop}

theorem WC.of1 {f : Value} {p : PV}
    (h : ∀ (s : Shared) (ι : Iota) (E Q : Value → Shared → Prop) (v : Value), Inv c s ι μ → RepV s.heap ι p v → (∀ v s' ι' p μ', Step c s ι s' ι' → Inv c s' ι' μ' → RepV s'.heap ι' p v → K p μ' → Q v s') → wpAny (model c.prog c.w) A (call f [v]) Q E s) :
    WC c A f [p] μ K := ⟨fun s ι E Q vs I r hQ => by
  simp only [RepL] at r
  obtain ⟨v, _, rfl, r1, rfl⟩ := r
  exact h s ι E Q v I r1 hQ⟩
theorem WC.of2 {f : Value} {p q : PV}
    (h : ∀ (s : Shared) (ι : Iota) (E Q : Value → Shared → Prop) (v w : Value), Inv c s ι μ → RepV s.heap ι p v → RepV s.heap ι q w → (∀ v s' ι' p μ', Step c s ι s' ι' → Inv c s' ι' μ' → RepV s'.heap ι' p v → K p μ' → Q v s') → wpAny (model c.prog c.w) A (call f [v, w]) Q E s) :
    WC c A f [p, q] μ K := ⟨fun s ι E Q vs I r hQ => by
  simp only [RepL] at r
  obtain ⟨v, _, rfl, r1, w, _, rfl, r2, rfl⟩ := r
  exact h s ι E Q v w I r1 r2 hQ⟩

theorem WE.strS {x : Str} {l : List Nat} {k : Nat} {pos : Pos} {env : Env} {ρ : Rho} (O : c.Ok) (e : x = S l) (h : K (.str (S l)) μ) : WE c A (.Constant (.str x) k pos) env ρ μ K := WE.str O (by rw [e]; exact h)
theorem WE.negint {n : Int} {k : Nat} {pos p : Pos} {env : Env} {ρ : Rho} (O : c.Ok) (h : K (.int (-n)) μ) : WE c A (.UnaryOp .USub (.Constant (.int n) k p) pos) env ρ μ K := WE.una (WE.int O (WV.neg_int O h))
theorem WC.len_str {l : List Nat} (O : c.Ok) (hb : l.length ≤ 1000000) (k : K (.int l.length) μ) : WC c A (.builtin "len") [.str (S l)] μ K := WC.of1 fun s ι E Q v I r hQ => by
  simp only [RepV] at r
  obtain ⟨t, rfl⟩ := r
  have g := toks_inv O I (s.toks + 1 + 1)
  refine PySem.P.len_str (by rw [S_length]; omega) ?_
  rw [S_length]
  exact hQ _ _ ι (.int l.length) μ g.2 g.1 (by simp only [RepV]; exact ⟨_, rfl⟩) k
theorem WC.len_lst {i : Nat} {ps : List PV} (O : c.Ok) (hi : μ[i]? = some (.lst ps)) (hb : ps.length ≤ 1000000) (k : K (.int ps.length) μ) : WC c A (.builtin "len") [.loc i] μ K := WC.of1 fun s ι E Q v I r hQ => by
  obtain ⟨a, vs, n, rfl, ha, ea, ra⟩ := I.lst hi r
  have hl := RepL.length ps vs ra
  have g := toks_inv O I (s.toks + 1 + 1)
  refine Calls.call_len_list (items := vs.toArray) (lst_isList ea) (by simp only [List.size_toArray]; rw [hl]; omega) ?_
  have := hQ (.int ps.length (s.toks + 1)) _ ι (.int ps.length) μ g.2 g.1 (by simp only [RepV]; exact ⟨_, rfl⟩) k
  simpa [hl] using this
theorem WC.range1 {n : Int} (O : c.Ok) (k : K (.rng 0 n) μ) : WC c A (.type "range") [.int n] μ K := WC.of1 fun s ι E Q v I r hQ => by
  simp only [RepV] at r
  obtain ⟨t, rfl⟩ := r
  have g := I.grow O (s' := { s with heap := s.heap.push { cls := .type "range", data := .fields #[.int 0 s.toks, .int n t, .int 1 (s.toks + 1)] }, toks := s.toks + 1 + 1 }) (fun b o e => Heap.get?_push_of_some _ e) I.bare rfl (Nat.succ_pos _)
  exact PySem.call_range_1 (hQ _ _ ι (.rng 0 n) μ g.2 g.1 (by simp only [RepV]; exact ⟨_, _, _, _, rfl, IsRange.new ..⟩) k)
theorem WC.int_flt {x : UInt64} {sg : Bool} {m : Nat} {e : Int} (O : c.Ok) (hd : Float64.decode x = .fin sg m e) (k : K (.int (Float64.truncOf sg m e)) μ) : WC c A (.type "int") [.flt x] μ K := WC.of1 fun s ι E Q v I r hQ => by
  simp only [RepV] at r
  obtain ⟨t, rfl, _⟩ := r
  have g := toks_inv O I (s.toks + 1)
  exact PySem.call_int_float hd (hQ _ _ ι (.int _) μ g.2 g.1 (by simp only [RepV]; exact ⟨_, rfl⟩) k)

theorem WC.bool2 {f : Value} {x y : List Nat} {b : Bool}
    (h : ∀ (s : Shared) (t u : Tok) (E Q : Value → Shared → Prop), Q (.bool b) s → wpAny (model c.prog c.w) A (call f [.str (S x) t, .str (S y) u]) Q E s) (k : K (.bool b) μ) : WC c A f [.str (S x), .str (S y)] μ K := WC.of2 fun s ι E Q v w I r1 r2 hQ => by
  simp only [RepV] at r1 r2
  obtain ⟨t, rfl⟩ := r1
  obtain ⟨u, rfl⟩ := r2
  exact h s t u E Q (hQ _ s ι (.bool b) μ (Step.refl ..) I (by simp only [RepV]) k)
theorem WC.startswith {x y : List Nat} (k : K (.bool (preB y x)) μ) : WC c A (.builtin "str.startswith") [.str (S x), .str (S y)] μ K := WC.bool2 (fun s t u E Q h => SC.startswith (by rw [startswith_S]; exact h)) k
theorem WC.endswith {x y : List Nat} (k : K (.bool (sufB y x)) μ) : WC c A (.builtin "str.endswith") [.str (S x), .str (S y)] μ K := WC.bool2 (fun s t u E Q h => SC.endswith (by rw [endswith_S]; exact h)) k
open Builtin Builtin.Str Builtin.Int in
theorem gives_find4 (x y : Str) (i j : Int) (t u v w : Tok) : Gives (Builtin.«str.find» ⟨[.str x t, .str y u, .int i v, .int j w], []⟩) (.int (headI (Builtin.Str.occurrences x y (fromIndex x.length i) (min (fromIndex x.length j) x.length) 1))) := by
  show Gives (match Builtin.Str.occurrences x y (fromIndex x.length i) (min (fromIndex x.length j) x.length) 1 with | k :: _ => retInt k | [] => (do rule "str.find.not-found"; retInt (-1))) _
  cases Builtin.Str.occurrences x y (fromIndex x.length i) (min (fromIndex x.length j) x.length) 1 with
  | nil => exact .rule (.of_eq rfl)
  | cons k _ => exact .of_eq rfl
theorem WC.find4 {x y : List Nat} {lo hi : Nat} (O : c.Ok) (hh : hi ≤ x.length) (k : K (.int (optI (findB x y lo hi))) μ) : WC c A (.builtin "str.find") [.str (S x), .str (S y), .int lo, .int hi] μ K := ⟨fun s ι E Q vs I r hQ => by
  simp only [RepL, RepV] at r
  obtain ⟨v1, _, rfl, ⟨t1, rfl⟩, v2, _, rfl, ⟨t2, rfl⟩, v3, _, rfl, ⟨t3, rfl⟩, v4, _, rfl, ⟨t4, rfl⟩, rfl⟩ := r
  have g := toks_inv O I (s.toks + 1)
  refine call_gives F.slot_str_find (typeIs_str _ _ _) F.entry_str_find (F.args_str_find_4 _ _ _ _) (gives_find4 (S x) (S y) lo hi t1 t2 t3 t4) ?_
  have e1 : fromIndex (S x).length (lo : Int) = lo := by unfold fromIndex; rw [if_neg (nn lo)]; exact max0 lo
  have e2 : min (fromIndex (S x).length (hi : Int)) (S x).length = hi := by rw [S_length]; unfold fromIndex; rw [if_neg (nn hi), max0]; exact Nat.min_eq_left hh
  rw [e1, e2, (occ_S x y lo hi).1]
  exact hQ _ _ ι (.int _) μ g.2 g.1 (by simp only [RepV]; exact ⟨_, rfl⟩) k⟩

theorem RepL.strs {h : Heap} {ι : Iota} : ∀ (l : List (Str × Tok)), RepL h ι (l.map fun p => .str p.1) (strValues l)
  | [] => by simp only [List.map_nil, RepL]; rfl
  | p :: l => by simp only [List.map_cons, RepL, RepV]; exact ⟨.str p.1 p.2, strValues l, rfl, ⟨_, rfl⟩, RepL.strs l⟩
theorem RepL.strsAre {h : Heap} {ι : Iota} : ∀ (l : List Str) (vs : List Value), RepL h ι (l.map .str) vs → StrsAre vs l
  | [], vs, r => by simp only [List.map_nil, RepL] at r; subst r; exact .nil
  | x :: l, vs, r => by
    simp only [List.map_cons, RepL, RepV] at r
    obtain ⟨v, r', rfl, ⟨t, rfl⟩, h2⟩ := r
    exact .cons x t (RepL.strsAre l r' h2)
theorem split_run {x y : Str} {t u : Tok} {s : Shared} {E Q : Value → Shared → Prop} (hy : (y.length == 0) = false) (hsz : x.length + 2 ≤ sizeLine)
    (hq : ∀ (l : List (Str × Tok)) (tk : Nat), s.toks ≤ tk → l.map (·.1) = Txt.split x y → Q (.ref s.heap.objs.size) { s with heap := s.heap.push (lstOf (strValues l) 0), toks := tk }) :
    wpAny (model c.prog c.w) A (call (.builtin "str.split") [.str x t, .str y u]) Q E s := by
  refine wpAny_with_toks (Nat.le_refl s.toks) ?_
  cases h1 : (decide (x.length < y.length) || decide (Builtin.Str.strKind x < Builtin.Str.strKind y))
  · cases hf : (Builtin.Str.occurrences x y 0 x.length (x.length + 1)).isEmpty
    · refine call_meets F.slot_str_split (typeIs_str _ _ _) F.entry_str_split (F.args_str_split_2 _ _) (meets_str_split_sep x y t u h1 hy hf (by omega) ?_) ?_
      · have h2 := StrLaws.occ_length_le x y 0 x.length (x.length + 1)
        have h3 : ∀ (cuts : List Nat) (a : Nat), (StrLaws.partsFrom x y.length a cuts).length = cuts.length + 1 := by
          intro cuts
          induction cuts with
          | nil => intro a; rfl
          | cons d r ih => intro a; simp only [StrLaws.partsFrom, List.length_cons, ih]
        rw [StrLaws.partsBetween_eq, h3]
        omega
      · show wants _ _ _ { s with toks := _, heap := s.heap.push { cls := .type "list", data := .seq (strsFrom s.toks (Builtin.Str.partsBetween x (Builtin.Str.occurrences x y 0 x.length (x.length + 1)) y.length)).toArray } }
        rw [strsFrom_eq]
        exact fun htk => hq (numbered s.toks _) _ htk ((numbered_texts _ _).trans ((if_neg (ne_true_of_eq_false h1)).trans (if_neg (ne_true_of_eq_false hf))).symm)
    · exact call_meets F.slot_str_split (typeIs_str _ _ _) F.entry_str_split (F.args_str_split_2 _ _) (meets_str_split_not_found x y t u h1 hy hf)
        (fun htk => hq [(x, t)] _ htk ((if_neg (ne_true_of_eq_false h1)).trans (if_pos hf)).symm)
  · exact call_meets F.slot_str_split (typeIs_str _ _ _) F.entry_str_split (F.args_str_split_2 _ _) (meets_str_split_cannot_occur x y t u h1)
      (fun htk => hq [(x, t)] _ htk (if_pos h1).symm)
theorem WC.split {x : List Nat} (O : c.Ok) (hb : x.length ≤ 1000000) (k : K (.loc μ.length) (μ ++ [.lst ((splitD x []).map fun p => .str (S p))])) : WC c A (.builtin "str.split") [.str (S x), .str (S dots)] μ K := WC.of2 fun s ι E Q v w I r1 r2 hQ => by
  simp only [RepV] at r1 r2
  obtain ⟨t, rfl⟩ := r1
  obtain ⟨u, rfl⟩ := r2
  refine split_run (by decide) (by rw [S_length, sizeLine_eq]; omega) fun l tk htk hl => ?_
  have t := lst_new O I (RepL.strs l) (h' := s.heap.push (lstOf (strValues l) 0)) (D := s.heap.objs.size) (n := 0) (tk := tk) (fresh_size _) (Heap.get?_push_size _ rfl) (fun b o e => Heap.get?_push_of_some _ e) (Nat.lt_of_lt_of_le I.tp htk)
  have e : (l.map fun p => PV.str p.1) = (splitD x []).map fun p => .str (S p) := by
    have := congrArg (List.map PV.str) (hl.trans (split_S x))
    simpa [List.map_map, Function.comp_def] using this
  rw [e] at t
  exact hQ _ _ _ _ _ t.1 t.2.1 t.2.2 k
/-- the glue of the parts -/
def joinL (sep : List Nat) : List (List Nat) → List Nat
  | [] => []
  | [x] => x
  | x :: y :: r => x ++ sep ++ joinL sep (y :: r)
theorem join_S (sep : List Nat) : ∀ l : List (List Nat), Txt.join (S sep) (l.map S) = S (joinL sep l) := by
  intro l
  unfold Txt.join
  rw [StrLaws.glued_eq_join]
  induction l with
  | nil => rfl
  | cons x r ih =>
    cases r with
    | nil => rfl
    | cons y r =>
      rw [List.map_cons, List.map_cons]
      rw [List.map_cons] at ih
      unfold Str.join joinL
      rw [ih, ← S_append, ← S_append]
theorem WC.join {sep : List Nat} {i : Nat} {l : List (List Nat)} (O : c.Ok) (hi : μ[i]? = some (.lst (l.map fun x => .str (S x)))) (hb : (l.map (·.length)).sum + l.length * sep.length ≤ 1000000) (k : K (.str (S (joinL sep l))) μ) : WC c A (.builtin "str.join") [.str (S sep), .loc i] μ K := WC.of2 fun s ι E Q v w I r1 r2 hQ => by
  simp only [RepV] at r1
  obtain ⟨t, rfl⟩ := r1
  obtain ⟨a, vs, n, rfl, ha, ea, ra⟩ := I.lst hi r2
  have ra' : RepL s.heap ι ((l.map S).map .str) vs := by simpa [List.map_map, Function.comp_def] using ra
  refine wpAny_with_toks (Nat.le_refl s.toks) (PyProof.Rows.join_list (items := vs.toArray) (lst_isList ea) (RepL.strsAre _ _ ra') ?_ fun t' tk htk => ?_)
  · simp only [List.map_map, Function.comp_def, S_length, List.length_map]; omega
  · have g := toks_inv O I tk (Nat.lt_of_lt_of_le I.tp htk)
    rw [join_S]
    exact hQ _ _ ι (.str _) μ g.2 g.1 (by simp only [RepV]; exact ⟨_, rfl⟩) k

/- ---- ints in a list ---- -/
theorem RepL.ints {h : Heap} {ι : Iota} : ∀ (is : List Int) (vs : List Value), RepL h ι (is.map .int) vs → ∃ xs : List (Int × Tok), vs.toArray = intItems xs.toArray ∧ xs.map (·.1) = is := by
  intro is
  induction is with
  | nil => intro vs r; simp only [List.map_nil, RepL] at r; subst r; exact ⟨[], by simp [intItems], rfl⟩
  | cons i is ih =>
    intro vs r
    simp only [List.map_cons, RepL, RepV] at r
    obtain ⟨v, r', rfl, ⟨t, rfl⟩, h2⟩ := r
    obtain ⟨xs, e1, e2⟩ := ih r' h2
    refine ⟨(i, t) :: xs, ?_, by simp [e2]⟩
    apply Array.toList_inj.mp
    have := congrArg Array.toList e1
    simp [intItems] at this ⊢
    exact this
theorem numAt_S (xs : List (Int × Tok)) (j : Nat) : numAt xs.toArray j = ((xs.map (·.1))[j]?).getD 0 := by
  unfold numAt; simp
theorem preSum_take (is : List Int) : ∀ n, n ≤ is.length → preSum (fun j => (is[j]?).getD 0) n = (is.take n).sum
  | 0, _ => by simp [preSum]
  | n + 1, h => by
    have h2 : is[n]? = some is[n] := List.getElem?_eq_getElem h
    have h1 : is.take (n + 1) = is.take n ++ [is[n]] := by rw [List.take_add_one, h2]; rfl
    rw [preSum, preSum_take is n (Nat.le_of_succ_le h), h1, List.sum_append, h2]; simp
theorem WC.suml {i : Nat} {is : List Int} (O : c.Ok) (a : A.handled = none) (hi : μ[i]? = some (.lst (is.map .int))) (hb : ∀ n, n ≤ is.length → -1000000000000 ≤ (is.take n).sum ∧ (is.take n).sum ≤ 1000000000000) (hb' : ∀ x ∈ is, -1000000000000 ≤ x ∧ x ≤ 1000000000000) (k : K (.int is.sum) μ) : WC c A (.builtin "sum") [.loc i] μ K := WC.of1 fun s ι E Q v I r hQ => by
  obtain ⟨b, vs, n, rfl, ha, ea, ra⟩ := I.lst hi r
  obtain ⟨xs, e1, e2⟩ := RepL.ints is vs ra
  have hlen : xs.length = is.length := by rw [← e2]; simp
  have en : numAt xs.toArray = fun j => (is[j]?).getD 0 := by funext j; rw [numAt_S, e2]
  refine wpAny_with_toks (Nat.le_refl s.toks) (sum_intList (xs := xs.toArray) a (by rw [← e1]; exact lst_isList ea) (fun j hj => ?_) fun h' tk t' kk htk => ?_)
  · simp only [List.size_toArray] at hj
    rw [hlen] at hj
    rw [en]
    constructor
    · have : is[j]? = some is[j] := List.getElem?_eq_getElem hj
      show InLong ((is[j]?).getD 0)
      rw [this]
      have := hb' is[j] (List.getElem_mem _)
      unfold InLong
      simp only [Option.getD_some]
      omega
    · have := hb (j + 1) hj
      rw [preSum_take is (j + 1) hj]
      unfold InLong
      omega
  · have g := I.grow O (s' := { s with heap := h', toks := tk }) kk I.bare rfl (Nat.lt_of_lt_of_le I.tp htk)
    rw [en, show xs.toArray.size = is.length by simp [hlen], preSum_take is _ (Nat.le_refl _), List.take_length]
    exact hQ _ _ ι (.int is.sum) μ g.2 g.1 (by simp only [RepV]; exact ⟨_, rfl⟩) k
end
end Mine
namespace Mine
section
variable {c : Cx} {A : Around} {μ : Mu} {K : PV → Mu → Prop}

/-- the greater, the lesser of two floats, the first of equals -/
def gtF (a b : UInt64) : UInt64 := if (Float64.cmp a b == some .lt) = true then b else a
def ltF (a b : UInt64) : UInt64 := if (Float64.cmp b a == some .lt) = true then b else a

theorem ltV_flt (a b : UInt64) (t u : Tok) : Flt.ltV (.float a t) (.float b u) = (Float64.cmp a b == some .lt) := rfl
theorem max3_run {s : Shared} {E Q : Value → Shared → Prop} {a b d : UInt64} {t u w : Tok} (hh : A.handled = none)
    (h : ∀ h' tk v, (∀ x o, s.heap.get? x = some o → h'.get? x = some o) → v = .float (gtF (gtF a b) d) t ∨ v = .float (gtF (gtF a b) d) u ∨ v = .float (gtF (gtF a b) d) w → Q v { s with heap := h', toks := tk }) :
    wpAny (model c.prog c.w) A (call (.builtin "max") [.float a t, .float b u, .float d w]) Q E s := by
  have hT : (s.heap.push { cls := .type "tuple", data := .seq #[Value.float a t, .float b u, .float d w] }).IsTuple s.heap.objs.size #[Value.float a t, .float b u, .float d w] := ⟨_, Heap.get?_push_size _ rfl, rfl, 0, rfl⟩
  refine call_max_three (wpAny_pyIter_tuple hT ?_)
  have hsz : (s.heap.push { cls := .type "tuple", data := .seq #[Value.float a t, .float b u, .float d w] }).objs.size = s.heap.objs.size + 1 := Heap.size_push ..
  refine ⟨_, [_, s.heap.objs.size], [_], _, _, _, _, rfl, Walks.tuple (A := A.in1) hh _ s.heap.objs.size (by rw [hsz]; exact Nat.ne_of_lt (Nat.lt_succ_self _)) #[Value.float a t, .float b u, .float d w],
    ⟨⟨_, Heap.get?_push_size _ rfl, rfl, rfl⟩, hT.push _⟩, fun x hx => ?_, by simp, Flt.cmpOf_gt #[Value.float a t, .float b u, .float d w] (by simp; exact ⟨.float _ _, .float _ _, .float _ _⟩), fun v h' tk hP hk => ?_⟩
  · show x < ((s.heap.push _).push _).objs.size
    rw [Heap.size_push, hsz]
    rcases List.mem_cons.mp hx with rfl | hx
    · rw [hsz]; exact Nat.lt_succ_self _
    · rcases List.mem_cons.mp hx with rfl | hx
      · exact Nat.lt_succ_of_lt (Nat.lt_succ_self _)
      · cases hx
  · have hold : ∀ x o, s.heap.get? x = some o → h'.get? x = some o := fun x o e => by
      refine hk x o (fun hm => ?_) (Heap.get?_push_of_some _ (Heap.get?_push_of_some _ e))
      rcases List.mem_cons.mp hm with e1 | hm
      · have := Heap.lt_size e; rw [e1, hsz] at this; exact Nat.lt_irrefl _ (Nat.lt_of_succ_lt this)
      · cases hm
    refine h h' tk v hold ?_
    cases h1 : (Float64.cmp a b == some .lt) <;> cases h2 : (Float64.cmp (gtF a b) d == some .lt) <;> simp only [gtF, h1, Bool.false_eq_true, if_false, if_true] at h2 <;> simp [argBest, ltV_flt, h1, h2] at hP <;> simp [gtF, h1, h2, hP]
theorem min3_run {s : Shared} {E Q : Value → Shared → Prop} {a b d : UInt64} {t u w : Tok} (hh : A.handled = none)
    (h : ∀ h' tk v, (∀ x o, s.heap.get? x = some o → h'.get? x = some o) → v = .float (ltF (ltF a b) d) t ∨ v = .float (ltF (ltF a b) d) u ∨ v = .float (ltF (ltF a b) d) w → Q v { s with heap := h', toks := tk }) :
    wpAny (model c.prog c.w) A (call (.builtin "min") [.float a t, .float b u, .float d w]) Q E s := by
  have hT : (s.heap.push { cls := .type "tuple", data := .seq #[Value.float a t, .float b u, .float d w] }).IsTuple s.heap.objs.size #[Value.float a t, .float b u, .float d w] := ⟨_, Heap.get?_push_size _ rfl, rfl, 0, rfl⟩
  refine call_min_three (wpAny_pyIter_tuple hT ?_)
  have hsz : (s.heap.push { cls := .type "tuple", data := .seq #[Value.float a t, .float b u, .float d w] }).objs.size = s.heap.objs.size + 1 := Heap.size_push ..
  refine ⟨_, [_, s.heap.objs.size], [_], _, _, _, _, rfl, Walks.tuple (A := A.in1) hh _ s.heap.objs.size (by rw [hsz]; exact Nat.ne_of_lt (Nat.lt_succ_self _)) #[Value.float a t, .float b u, .float d w],
    ⟨⟨_, Heap.get?_push_size _ rfl, rfl, rfl⟩, hT.push _⟩, fun x hx => ?_, by simp, Flt.cmpOf_lt #[Value.float a t, .float b u, .float d w] (by simp; exact ⟨.float _ _, .float _ _, .float _ _⟩), fun v h' tk hP hk => ?_⟩
  · show x < ((s.heap.push _).push _).objs.size
    rw [Heap.size_push, hsz]
    rcases List.mem_cons.mp hx with rfl | hx
    · rw [hsz]; exact Nat.lt_succ_self _
    · rcases List.mem_cons.mp hx with rfl | hx
      · exact Nat.lt_succ_of_lt (Nat.lt_succ_self _)
      · cases hx
  · have hold : ∀ x o, s.heap.get? x = some o → h'.get? x = some o := fun x o e => by
      refine hk x o (fun hm => ?_) (Heap.get?_push_of_some _ (Heap.get?_push_of_some _ e))
      rcases List.mem_cons.mp hm with e1 | hm
      · have := Heap.lt_size e; rw [e1, hsz] at this; exact Nat.lt_irrefl _ (Nat.lt_of_succ_lt this)
      · cases hm
    refine h h' tk v hold ?_
    cases h1 : (Float64.cmp b a == some .lt) <;> cases h2 : (Float64.cmp d (ltF a b) == some .lt) <;> simp only [ltF, h1, Bool.false_eq_true, if_false, if_true] at h2 <;> simp [argBest, ltV_flt, h1, h2] at hP <;> simp [ltF, h1, h2, hP]
theorem WC.max3 {a b d : UInt64} (O : c.Ok) (hh : A.handled = none) (k : K (.flt (gtF (gtF a b) d)) μ) : WC c A (.builtin "max") [.flt a, .flt b, .flt d] μ K := ⟨fun s ι E Q vs I r hQ => by
  simp only [RepL, RepV] at r
  obtain ⟨v1, _, rfl, ⟨t1, rfl, n1⟩, v2, _, rfl, ⟨t2, rfl, n2⟩, v3, _, rfl, ⟨t3, rfl, n3⟩, rfl⟩ := r
  refine wpAny_with_toks (Nat.le_refl s.toks) (max3_run hh fun h' tk v kk hv htk => ?_)
  have g := I.grow O (s' := { s with heap := h', toks := tk }) kk I.bare rfl (Nat.lt_of_lt_of_le I.tp htk)
  refine hQ v _ ι (.flt _) μ g.2 g.1 ?_ k
  simp only [RepV]
  rcases hv with rfl | rfl | rfl
  · exact ⟨_, rfl, n1⟩
  · exact ⟨_, rfl, n2⟩
  · exact ⟨_, rfl, n3⟩⟩
theorem WC.min3 {a b d : UInt64} (O : c.Ok) (hh : A.handled = none) (k : K (.flt (ltF (ltF a b) d)) μ) : WC c A (.builtin "min") [.flt a, .flt b, .flt d] μ K := ⟨fun s ι E Q vs I r hQ => by
  simp only [RepL, RepV] at r
  obtain ⟨v1, _, rfl, ⟨t1, rfl, n1⟩, v2, _, rfl, ⟨t2, rfl, n2⟩, v3, _, rfl, ⟨t3, rfl, n3⟩, rfl⟩ := r
  refine wpAny_with_toks (Nat.le_refl s.toks) (min3_run hh fun h' tk v kk hv htk => ?_)
  have g := I.grow O (s' := { s with heap := h', toks := tk }) kk I.bare rfl (Nat.lt_of_lt_of_le I.tp htk)
  refine hQ v _ ι (.flt _) μ g.2 g.1 ?_ k
  simp only [RepV]
  rcases hv with rfl | rfl | rfl
  · exact ⟨_, rfl, n1⟩
  · exact ⟨_, rfl, n2⟩
  · exact ⟨_, rfl, n3⟩⟩

end
end Mine
namespace Mine

theorem iteT {b : Bool} {X Y : Prop} (h : b = true) (x : X) : if b = true then X else Y := by rw [if_pos h]; exact x
theorem iteF {b : Bool} {X Y : Prop} (h : b = false) (y : Y) : if b = true then X else Y := by rw [h]; exact y
theorem at_end (μ : Mu) (m : MO) (g : Mu) : (μ ++ m :: g)[μ.length]? = some m := by simp
theorem set_end (μ : Mu) (m m' : MO) (g : Mu) : (μ ++ m :: g).set μ.length m' = μ ++ m' :: g := by simp
theorem kindStr {μ : Mu} {x : Str} {P : Prop} (h : P) : KindIs μ "str" (.str x) ∧ P := ⟨rfl, h⟩
theorem kindLst {μ : Mu} {i : Nat} {ps : List PV} {P : Prop} (hi : μ[i]? = some (.lst ps)) (h : P) : KindIs μ "list" (.loc i) ∧ P := ⟨⟨rfl, ps, hi⟩, h⟩
theorem subStr {μ : Mu} {x : Str} {P : Prop} (h : P) : SubOk μ (.str x) ∧ P := ⟨trivial, h⟩
theorem subTup {μ : Mu} {x : List PV} {P : Prop} (h : P) : SubOk μ (.tup x) ∧ P := ⟨trivial, h⟩
theorem subLst {μ : Mu} {i : Nat} {ps : List PV} {P : Prop} (hi : μ[i]? = some (.lst ps)) (h : P) : SubOk μ (.loc i) ∧ P := ⟨⟨ps, hi⟩, h⟩
theorem loopLst {μ : Mu} {i : Nat} {ps : List PV} {P : Prop} (hi : μ[i]? = some (.lst ps)) (h : P) : (∃ its, itemsOf μ (.loc i) = some its) ∧ (∀ j, PV.loc i = .loc j → ∃ l, μ[j]? = some (.lst l)) ∧ (∀ lo hi, PV.loc i = .rng lo hi → -1000000 ≤ lo ∧ lo ≤ 1000000 ∧ -1000000 ≤ hi ∧ hi ≤ 1000000) ∧ P :=
  ⟨⟨ps, by simp [itemsOf, hi]⟩, fun j e => by cases e; exact ⟨ps, hi⟩, fun lo hi e => (by cases e), h⟩
theorem loopStr {μ : Mu} {x : Str} {P : Prop} (h : P) : (∃ its, itemsOf μ (.str x) = some its) ∧ (∀ j, PV.str x = .loc j → ∃ l, μ[j]? = some (.lst l)) ∧ (∀ lo hi, PV.str x = .rng lo hi → -1000000 ≤ lo ∧ lo ≤ 1000000 ∧ -1000000 ≤ hi ∧ hi ≤ 1000000) ∧ P :=
  ⟨⟨_, rfl⟩, fun j e => (by cases e), fun lo hi e => (by cases e), h⟩
theorem loopRng {μ : Mu} {lo hi : Int} {P : Prop} (hb : -1000000 ≤ lo ∧ lo ≤ 1000000 ∧ -1000000 ≤ hi ∧ hi ≤ 1000000) (h : P) : (∃ its, itemsOf μ (.rng lo hi) = some its) ∧ (∀ j, PV.rng lo hi = .loc j → ∃ l, μ[j]? = some (.lst l)) ∧ (∀ a b, PV.rng lo hi = .rng a b → -1000000 ≤ a ∧ a ≤ 1000000 ∧ -1000000 ≤ b ∧ b ≤ 1000000) ∧ P :=
  ⟨⟨_, rfl⟩, fun j e => (by cases e), fun a b e => (by cases e; exact hb), h⟩
theorem updE {ρ ρ' : Rho} {x : Str} {p : PV} {K : Rho → Prop} (u : UpdI ρ x p ρ') (k : K ρ') : ∃ ρ', UpdI ρ x p ρ' ∧ K ρ' := ⟨ρ', u, k⟩
/-- a loop behind an invariant -/
abbrev invK (V : Nat → Rho → Mu → Prop) (K : PF → Rho → Mu → Prop) (j : Nat) (f : PF) (ρ : Rho) (μ : Mu) : Prop := match f with
  | .next => V (j + 1) ρ μ
  | .cont => V (j + 1) ρ μ
  | .brk => K .next ρ μ
  | .ret v => K (.ret v) ρ μ
theorem WL.inv {c : Cx} {A : Around} {env : Env} {ρ : Rho} {μ : Mu} {tgt : Expr} {body : List Stmt} {p : PV} {K : PF → Rho → Mu → Prop} (V : Nat → Rho → Mu → Prop) (its : List PV) (O : c.Ok) (a : A.handled = none) (h0 : V 0 ρ μ)
    (hits : ∀ j ρ μ, V j ρ μ → itemsOf μ p = some its ∧ ∀ i, p = .loc i → ∃ l, μ[i]? = some (.lst l))
    (step : ∀ j q ρ μ, its[j]? = some q → V j ρ μ → WA c A tgt env q ρ μ fun ρ' => WSs c A body env ρ' μ (invK V K j))
    (done : ∀ ρ μ, V its.length ρ μ → K .next ρ μ) : WL c A tgt body env p K 0 ρ μ := by
  have key : ∀ (n j : Nat) (ρ : Rho) (μ : Mu), j ≤ its.length → its.length - j = n → V j ρ μ → WL c A tgt body env p K j ρ μ := by
    intro n
    induction n with
    | zero =>
      intro j ρ μ hj hn hv
      have e : j = its.length := eq_sub0 hj hn
      subst e
      exact WL.done O a (hits _ _ _ hv).1 (by simp) (done ρ μ hv) (hits _ _ _ hv).2
    | succ n ih =>
      intro j ρ μ hj hn hv
      have hlt : j < its.length := lt_subS hn
      refine WL.step O a (hits _ _ _ hv).1 (List.getElem?_eq_getElem hlt) ?_ (hits _ _ _ hv).2
      have st := step j its[j] ρ μ (List.getElem?_eq_getElem hlt) hv
      refine ⟨fun s ι E Q v I W r hQ => st.run s ι E Q v I W r fun s' ρ' S I' W' k => hQ s' ρ' S I' W' (WSs.mono k fun f ρ₂ μ₂ kf => ?_)⟩
      cases f with
      | next => exact ih (j + 1) ρ₂ μ₂ hlt (sub_next hn) kf
      | cont => exact ih (j + 1) ρ₂ μ₂ hlt (sub_next hn) kf
      | brk => exact kf
      | ret v => exact kf
  exact key _ 0 ρ μ (Nat.zero_le _) rfl h0
theorem WAL.mono {c : Cx} {A : Around} {env : Env} {ρ : Rho} {μ : Mu} {t : Expr} {p : PV} {K K' : Rho → Prop} (h : WAL c A t env p ρ μ K) (k : ∀ r, K r → K' r) : WAL c A t env p ρ μ K' :=
  ⟨fun s ι E Q v I V r hQ => h.run s ι E Q v I V r fun s' ρ' S I' V' x => hQ s' ρ' S I' V' (k _ x)⟩
theorem WIfs.mono {c : Cx} {A : Around} {env : Env} {ρ : Rho} {μ : Mu} {ifs : List Expr} {K K' : Bool → Mu → Prop} (h : WIfs c A ifs env ρ μ K) (k : ∀ b m, K b m → K' b m) : WIfs c A ifs env ρ μ K' :=
  ⟨fun s ι E Q I V hQ => h.run s ι E Q I V fun b s' ι' μ' S I' x => hQ b s' ι' μ' S I' (k _ _ x)⟩
/-- a comprehension behind an invariant; the rows' part of the store is told by it -/
theorem WCL.invN {c : Cx} {A : Around} {ρ : Rho} {μ : Mu} {elt tgt iter : Expr} {ifs : List Expr} {scope : Scope} {pos : Pos} {cenv : Env} {p : PV} {i : Nat} {K : Mu → Prop} (V : Nat → Mu → Prop) (its : List PV) (O : c.Ok) (h0 : V 0 μ) (hnx : ∀ j μ, V j μ → NextOk c A μ p its)
    (step : ∀ j q μ, its[j]? = some q → V j μ → WAL c A tgt cenv q ρ μ fun ρ' => (∀ y ∈ ρ, y ∈ ρ') ∧ WIfs c A ifs cenv ρ' μ fun ok μ₁ => if ok = true then
        WE c A elt cenv ρ' μ₁ fun x μ₂ => ∃ ps, μ₂[i]? = some (.lst ps) ∧ ps.length ≤ 1000000 ∧ V (j + 1) (μ₂.set i (.lst (ps ++ [x])))
      else V (j + 1) μ₁)
    (done : ∀ μ, V its.length μ → K μ) : WCL c A (.ListComp elt [⟨tgt, iter, ifs, 0⟩] scope pos) cenv p i ρ K 0 μ := by
  have key : ∀ (n j : Nat) (μ : Mu), j ≤ its.length → its.length - j = n → V j μ → WCL c A (.ListComp elt [⟨tgt, iter, ifs, 0⟩] scope pos) cenv p i ρ K j μ := by
    intro n
    induction n with
    | zero =>
      intro j μ hj hn hv
      have e : j = its.length := eq_sub0 hj hn
      subst e
      exact WCL.doneN O (hnx _ _ hv) (by simp) (done μ hv)
    | succ n ih =>
      intro j μ hj hn hv
      have hlt : j < its.length := lt_subS hn
      refine WCL.stepN O (hnx _ _ hv) (List.getElem?_eq_getElem hlt) ?_
      refine (step j its[j] μ (List.getElem?_eq_getElem hlt) hv).mono fun r x => ⟨x.1, x.2.mono fun b m y => ?_⟩
      cases b with
      | false => exact ih (j + 1) m hlt (sub_next hn) y
      | true =>
        refine WE.mono y fun x m₂ z => ?_
        obtain ⟨ps, h1, h2, h3⟩ := z
        exact ⟨ps, h1, h2, ih (j + 1) _ hlt (sub_next hn) h3⟩
  exact key _ 0 μ (Nat.zero_le _) rfl h0
theorem WCL.inv {c : Cx} {A : Around} {ρ : Rho} {μ : Mu} {elt tgt iter : Expr} {ifs : List Expr} {scope : Scope} {pos : Pos} {cenv : Env} {p : PV} {i : Nat} {K : Mu → Prop} (V : Nat → Mu → Prop) (its : List PV) (O : c.Ok) (a : A.handled = none) (h0 : V 0 μ)
    (hits : ∀ j μ, V j μ → itemsOf μ p = some its ∧ ∀ i, p = .loc i → ∃ l, μ[i]? = some (.lst l))
    (step : ∀ j q μ, its[j]? = some q → V j μ → WAL c A tgt cenv q ρ μ fun ρ' => (∀ y ∈ ρ, y ∈ ρ') ∧ WIfs c A ifs cenv ρ' μ fun ok μ₁ => if ok = true then
        WE c A elt cenv ρ' μ₁ fun x μ₂ => ∃ ps, μ₂[i]? = some (.lst ps) ∧ ps.length ≤ 1000000 ∧ V (j + 1) (μ₂.set i (.lst (ps ++ [x])))
      else V (j + 1) μ₁)
    (done : ∀ μ, V its.length μ → K μ) : WCL c A (.ListComp elt [⟨tgt, iter, ifs, 0⟩] scope pos) cenv p i ρ K 0 μ :=
  WCL.invN V its O h0 (fun j μ hv => NextOk.std O a (hits j μ hv).1 (hits j μ hv).2) step done
abbrev strL (l : List (List Nat)) : List PV := l.map fun p => .str (S p)
theorem strL_at (l : List (List Nat)) (k : Nat) : (strL l)[k]? = (l[k]?).map fun p => .str (S p) := by simp [strL]
theorem truth_S (a : List Nat) : (((S a).length : Int) != 0) = decide (a ≠ []) := by
  rw [S_length]
  cases a with
  | nil => rfl
  | cons x r => simp; omega
theorem preB_nil (x : List Nat) : preB [] x = true := by simp [preB]
theorem sufB_nil (x : List Nat) : sufB [] x = true := by simp [sufB]
theorem lastAt (l : List (List Nat)) (h : l ≠ []) : (strL l)[l.length - 1]? = some (.str (S (l.getLastD []))) := by
  rw [strL_at, ← List.getLast?_eq_getElem?]
  cases l with
  | nil => exact absurd rfl h
  | cons x r => rw [List.getLastD_eq_getLast?, List.getLast?_cons]; simp
theorem erase_last (l : List (List Nat)) (h : l ≠ []) : (strL l).eraseIdx (l.length - 1) = strL l.dropLast := by
  have e : (strL l).length = l.length := by simp
  rw [← e, List.eraseIdx_length_sub_one]
  simp [strL]
theorem sufB_le {y x : List Nat} (h : sufB y x = true) : y.length ≤ x.length := by
  unfold sufB at h; simp at h; exact h.1
/-- the middle parts, one behind the other -/
def ellGo (got : List Nat) (hi : Nat) : Nat → List (List Nat) → Bool
  | _, [] => true
  | lo, w :: ws => match findB got w lo hi with
    | some i => ellGo got hi (i + w.length) ws
    | none => false
/-- the parts without an empty or a matched head -/
def ws1 (ws : List (List Nat)) : List (List Nat) := if ws.headD [] = [] then ws else ws.tail
def ws2 (ws : List (List Nat)) : List (List Nat) := if ws.getLastD [] = [] then ws else ws.dropLast
/-- what _ellipsis_match answers -/
def ellB (want got : List Nat) : Bool :=
  if (findB want dots 0 want.length).isSome = false then want == got else
  if preB ((splitD want []).headD []) got = false then false else
  if sufB ((ws1 (splitD want [])).getLastD []) got = false then false else
  if got.length < ((splitD want []).headD []).length + ((ws1 (splitD want [])).getLastD []).length then false else
  ellGo got (got.length - ((ws1 (splitD want [])).getLastD []).length) ((splitD want []).headD []).length (ws2 (ws1 (splitD want [])))

theorem splitD_ne (w cur : List Nat) : splitD w cur ≠ [] := by
  induction w, cur using splitD.induct with
  | case1 r cur ih => rw [splitD_dots]; simp
  | case2 c r cur h ih => rw [splitD]; exact ih; exact h
  | case3 cur => rw [splitD]; simp
theorem findB_some {x y : List Nat} {lo hi i : Nat} (h : findB x y lo hi = some i) : lo ≤ i ∧ i + y.length ≤ hi ∧ (x.drop i).take y.length = y ∧ ∀ j, lo ≤ j → j < i → atB x y hi j = false := by
  unfold findB at h
  have h1 := List.find?_some h
  have h2 := List.mem_of_find?_eq_some h
  rw [List.mem_range'_1] at h2
  unfold atB at h1
  simp only [Bool.and_eq_true, decide_eq_true_eq, beq_iff_eq] at h1
  refine ⟨h2.1, h1.1, h1.2, fun j hj1 hj2 => ?_⟩
  obtain ⟨as, bs, e, hn⟩ := (List.find?_eq_some_iff_append.mp h).2
  have hm : j ∈ as := by
    have : j ∈ List.range' lo (hi + 1 - lo) := by rw [List.mem_range'_1]; omega
    rw [e] at this
    rcases List.mem_append.mp this with hm | hm
    · exact hm
    · have pw : (List.range' lo (hi + 1 - lo)).Pairwise (· < ·) := List.pairwise_lt_range'
      rw [e] at pw
      have := (List.pairwise_append.mp pw).2.1
      rw [List.pairwise_cons] at this
      rcases List.mem_cons.mp hm with rfl | hm
      · omega
      · have := this.1 j hm; omega
  simpa using hn j hm
theorem splitD_two {w : List Nat} (h : (findB w dots 0 w.length).isSome = true) : ∃ a b r, splitD w [] = a :: b :: r := by
  obtain ⟨i, hi⟩ := Option.isSome_iff_exists.mp h
  obtain ⟨_, h2, h3, h4⟩ := findB_some hi
  have hl : dots.length = 3 := rfl
  rw [hl] at h2 h3
  have hno : ∀ j, j < i → ((w.drop j).take 3 == dots) = false := fun j hj => by
    have := h4 j (Nat.zero_le _) hj
    unfold atB at this
    rw [hl] at this
    simp only [Bool.and_eq_false_iff, decide_eq_false_iff_not] at this
    rcases this with h | h
    · omega
    · exact h
  rw [splitD_run i w [] (by omega) hno]
  have e2 : w.drop i = 46 :: 46 :: 46 :: w.drop (i + 3) := by
    have := List.take_append_drop 3 (w.drop i)
    rw [h3, List.drop_drop] at this
    exact this.symm
  rw [e2, splitD_dots]
  cases q : splitD (w.drop (i + 3)) [] with
  | nil => exact absurd q (splitD_ne _ _)
  | cons b r => exact ⟨_, b, r, rfl⟩
theorem splitD_len (w cur : List Nat) : ∀ p ∈ splitD w cur, p.length ≤ w.length + cur.length := by
  induction w, cur using splitD.induct with
  | case1 r cur ih =>
    rw [splitD_dots]
    intro p hp
    rcases List.mem_cons.mp hp with rfl | hp
    · (first | (simp; done) | ((first | (simp; done) | (simp; omega))))
    · have := ih p hp; simp at this ⊢; omega
  | case2 c r cur h ih =>
    rw [splitD]
    · intro p hp; have := ih p hp; simp at this ⊢; omega
    · exact h
  | case3 cur => rw [splitD]; simp
theorem splitD_count (w cur : List Nat) : (splitD w cur).length ≤ w.length + 1 := by
  induction w, cur using splitD.induct with
  | case1 r cur ih => rw [splitD_dots]; (first | (simp; done) | (simp; omega))
  | case2 c r cur h ih =>
    rw [splitD]
    · simp; omega
    · exact h
  | case3 cur => rw [splitD]; simp
end Mine
namespace Mine
abbrev pilOf (C d : Addr) (vs : List Value) (n : Nat) : Obj := { cls := .ref C, dict := some d, data := .seq vs.toArray n, slots := #[] }
theorem kd_append : builtinKind "list.append" = some .slot ∨ builtinKind "list.append" = some .method := .inr (by kernel_rfl)
theorem sp_append : splitId "list.append" = some ("list", "append") := by kernel_rfl
theorem kd_getitem : builtinKind "list.__getitem__" = some .slot ∨ builtinKind "list.__getitem__" = some .method := .inr (by kernel_rfl)
theorem sp_getitem : splitId "list.__getitem__" = some ("list", "__getitem__") := by kernel_rfl
theorem kd_iter : builtinKind "list.__iter__" = some .slot ∨ builtinKind "list.__iter__" = some .method := .inl (by kernel_rfl)
theorem sp_iter : splitId "list.__iter__" = some ("list", "__iter__") := by kernel_rfl
theorem kd_setitem : builtinKind "list.__setitem__" = some .slot ∨ builtinKind "list.__setitem__" = some .method := .inl (by kernel_rfl)
theorem sp_setitem : splitId "list.__setitem__" = some ("list", "__setitem__") := by kernel_rfl
/-- a built-in method called upon an object of a class that stands below its owner -/
theorem check_own {M : Model} {A : Around} {E : Value → Shared → Prop} {s : Shared} {i owner n : String} {self : Value} {rest : List Value} {kw : List (Str × Value)} {Q : Unit → Shared → Prop}
    (hk : builtinKind i = some .slot ∨ builtinKind i = some .method) (hs : splitId i = some (owner, n)) (hi : Looks M s.heap (isInstance self (.type owner)) true) (ha : argsOk i ⟨self :: rest, kw⟩) (q : Q () s) :
    wpAny M A (checkBuiltinCall i ⟨self :: rest, kw⟩) Q E s := by
  rcases hk with hk | hk <;>
  · simp only [checkBuiltinCall, hk, hs]
    refine wpAny_bind (hi.here ?_)
    simp only [Bool.not_true, Bool.false_eq_true, if_false]
    cases hsig : Manifest.signature? i with
    | none => exact wpAny_pure q
    | some sig =>
      simp only [argsOk, hsig] at ha
      have h2 : Bind.checkArgs i sig ⟨self :: rest, kw⟩ = pure () := ha
      show wpAny M A (Bind.checkArgs i sig ⟨self :: rest, kw⟩) Q E s
      rw [h2]; exact wpAny_pure q
open AutoSeq1 (wpAny_loadPart')
section
variable {prog : Program} {w : World} {A : Around} {E : Value → Shared → Prop} {s : Shared} {K : Frag} {a C d : Addr} {vs : List Value} {n : Nat} {od : Obj}

theorem looks_list (X : K.In s.heap) (I : W.InstAt s.heap a (pilOf C d vs n) C (some od)) (hsub : mroIn K C (.type "list") = some true) : Looks (model prog w) s.heap (isInstance (.ref a) (.type "list")) true :=
  I.type.andThen (looks_mroIn X hsub)

theorem pil_append {x : Value} {Q : Value → Shared → Prop} (X : K.In s.heap) (I : W.InstAt s.heap a (pilOf C d vs n) C (some od)) (hsub : mroIn K C (.type "list") = some true)
    (hb : vs.length ≤ 1000000) (hq : Q .none { s with heap := s.heap.update a (Obj.mapSeq fun xs => xs.push x) }) : wpAny (model prog w) A (call (.builtin "list.append") [.ref a, x]) Q E s := by
  refine wpAny_call (codeAny_call_builtin F.slot_list_append.plain F.entry_list_append ?_)
  have hl0 := @looks_list prog w s K a C d vs n od X I hsub
  refine check_own (M := model prog w) (i := "list.append") (owner := "list") (n := "append") (self := .ref a) (rest := [x]) (kw := []) kd_append sp_append hl0 (F.args_list_append_2 _ _) ?_
  obtain ⟨hp, g, dr, tk, os⟩ := s
  have hl := I.at_
  have hz : vs.toArray.size ≤ sizeLine := by rw [sizeLine_eq]; simp; omega
  have hz' : (vs.toArray.push x).size ≤ sizeLine + 1 := by rw [sizeLine_eq]; simp; omega
  wp_walk using (wpAny_updateSeq hl rfl (hz := hz) (_hz' := hz')), wpAny_loadPart' hl
  exact hq
theorem pil_iter {Q : Value → Shared → Prop} (X : K.In s.heap) (I : W.InstAt s.heap a (pilOf C d vs n) C (some od)) (hsub : mroIn K C (.type "list") = some true)
    (hq : Q (.ref s.heap.objs.size) { s with heap := s.heap.push { cls := .type "list_iterator", data := .fields #[.ref a, .int 0 0] } }) : wpAny (model prog w) A (call (.builtin "list.__iter__") [.ref a]) Q E s := by
  refine wpAny_call (codeAny_call_builtin F.slot_list_iter.plain F.entry_list_iter ?_)
  have hl0 := @looks_list prog w s K a C d vs n od X I hsub
  refine check_own (M := model prog w) (i := "list.__iter__") (owner := "list") (n := "__iter__") (self := .ref a) (rest := []) (kw := []) kd_iter sp_iter hl0 (F.args_list_iter_1 _) ?_
  obtain ⟨hp, g, dr, tk, os⟩ := s
  have hl := I.at_
  wp_walk using wpAny_loadPart' hl
  exact hq
/-- a special method of the class that is list's own -/
theorem pil_special {name : Str} {id : String} {args : List Value} {Q : Option Value → Shared → Prop} (X : K.In s.heap) (I : W.InstAt s.heap a (pilOf C d vs n) C (some od)) (hs : findIn K (.ref C) name = some (some (.builtin id))) (sl : ∀ self, bindSpecial (.builtin id) self = pure (.builtin id, [self]))
    (h : wpAny (model prog w) A (call (.builtin id) (.ref a :: args)) (fun v => Q (some v)) E s) : wpAny (model prog w) A (callSpecial? (.ref a) name args) Q E s := by
  unfold callSpecial? specialOf
  refine wpAny_bind (wpAny_bind (I.type.here ((looks_findIn X hs).here ?_)))
  refine wpAny_holding ?_
  rw [sl]
  refine wpAny_bind (wpAny_pure ?_)
  exact wpAny_bind (wpAny_mono h (fun _ _ z => wpAny_pure z) fun _ _ z => z)
theorem pil_slice {sl : Addr} {vl vu : Value} {lo hi : Option Int} {Q : Value → Shared → Prop} (X : K.In s.heap) (I : W.InstAt s.heap a (pilOf C d vs n) C (some od)) (hsub : mroIn K C (.type "list") = some true)
    (hq0 : noSeq K C = true) (hs : findIn K (.ref C) "__getitem__" = some (some (.builtin "list.__getitem__"))) (hsl : s.heap.IsSliceOf sl vl vu .none) (pl : IsPart vl lo) (pu : IsPart vu hi)
    (hb : vs.length ≤ 1000000) (hq : Q (.ref s.heap.objs.size) { s with heap := s.heap.push { cls := .type "list", data := .seq (slicePick vs.toArray lo hi none) } }) : wpAny (model prog w) A (getItem (.ref a) (.ref sl)) Q E s := by
  unfold getItem sequenceKey
  refine wpAny_holding (wpAny_bind (wpAny_bind (I.type.here ?_)))
  refine wpAny_bind ((anyM_none X hq0).here ?_)
  rw [if_pos (show (!false) = true from rfl)]
  refine wpAny_pure (wpAny_bind (pil_special X I hs F.slot_list_getitem.bind ?_))
  refine wpAny_call (codeAny_call_builtin F.slot_list_getitem.plain F.entry_list_getitem ?_)
  have hl0 := @looks_list prog w s K a C d vs n od X I hsub
  refine check_own (M := model prog w) (i := "list.__getitem__") (owner := "list") (n := "__getitem__") (self := .ref a) (rest := [.ref sl]) (kw := []) kd_getitem sp_getitem hl0 (F.args_list_getitem_2 _ _) ?_
  obtain ⟨os, hos, hcs, hds⟩ := id hsl
  have hTs : s.TypeIs (.ref sl) "slice" := ⟨os, hos, hcs⟩
  show wpAny _ _ (Builtin.List.listSubscript? (.ref sl) >>= _) _ _ s
  refine wpAny_bind ?_
  unfold Builtin.List.listSubscript?
  refine wpAny_bind (wpAny_specialOf hTs slice_no_index ?_)
  simp only [Option.isNone_none, if_true]
  refine wpAny_pure ?_
  show wpAny _ _ (typeOf (.ref sl) >>= _) _ _ s
  refine wpAny_bind (wpAny_typeOf hTs ?_)
  rw [if_neg (by decide)]
  rw [listSliceParts_eq]
  have hstep : ¬ ((rawPart none == rawInt 0) = true) := Bool.false_ne_true
  refine wpAny_bind (wpAny_bind (wpAny_field hos hds (x := .none) rfl (wpAny_bind (wpAny_listPart .none ?_))))
  rw [if_neg hstep]
  refine wpAny_bind (wpAny_field hos hds (x := vl) rfl (wpAny_bind (wpAny_listPart pl ?_)))
  refine wpAny_bind (wpAny_field hos hds (x := vu) rfl (wpAny_bind (wpAny_listPart pu (wpAny_pure ?_))))
  refine wpAny_bind (PyProof.Rows.listItems_at I.at_ rfl ?_)
  refine wpAny_bind (wpAny_of_eq (sliceIndices_raw lo hi none vs.toArray.size (by simp)) ?_)
  refine wpAny_bind (wpAny_newObj_type (wpAny_pure (wpAny_pure hq)) (Nat.le_trans (slicePick_size_le vs.toArray lo hi none) (by rw [sizeLine_eq]; simp; omega)))
end
end Mine
namespace Mine
theorem canon_lga : (Manifest.canonical "list.__getattribute__" != "object.__getattribute__") = false := by decide +kernel
section
variable {prog : Program} {w : World} {A : Around} {E : Value → Shared → Prop} {s : Shared} {K : Frag} {a C d f : Addr} {vs : List Value} {n : Nat} {od : Obj}

/-- a method of the class, to be called upon the pile -/
theorem pil_method {name : Str} {m tm : Value} {pl : Sem Bool} {Q : Value × List Value → Shared → Prop} (X : K.In s.heap) (I : W.InstAt s.heap a (pilOf C d vs n) C (some od)) (hga : findIn K (.ref C) "__getattribute__" = some (some (.builtin "list.__getattribute__"))) (hk : findIn K (.ref C) "__getattr__" = some none)
    (hf : findIn K (.ref C) name = some (some m)) (ht : typeIn K m = some tm) (htm : (tm != .type "function" && tm != .type "method_descriptor" && tm != .type "wrapper_descriptor") = false) (hs : lookIn name od = some none) (h : Q (m, [.ref a]) s) :
    wpAny (model prog w) A (getMethod (.ref a) name pl) Q E s := by
  have hcan := canon_lga
  unfold getMethod specialOf
  refine wpAny_bind (wpAny_bind (I.type.here ((looks_findIn X hga).here ?_)))
  dsimp only
  rw [hcan, if_neg (by decide)]
  refine wpAny_bind (wpAny_bind (I.type.here ((looks_findIn X hk).here ?_)))
  refine wpAny_bind (wpAny_bind (I.type.here ((looks_findIn X hf).here (wpAny_bind ((looks_typeIn X ht).here ?_)))))
  rw [htm, if_neg (by decide)]
  refine wpAny_bind (wpAny_loadPart I.at_ ?_)
  have hd : s.heap.get? d = some od := I.dict
  refine wpAny_bind (wpAny_bind (wpAny_loadPart hd ?_))
  rw [nsLook_of hs]
  refine wpAny_pure ?_
  exact wpAny_bind (wpAny_rule (wpAny_pure h))
theorem kd_ga : builtinKind "list.__getattribute__" = some .slot ∨ builtinKind "list.__getattribute__" = some .method := .inl (by kernel_rfl)
theorem sp_ga : splitId "list.__getattribute__" = some ("list", "__getattribute__") := by kernel_rfl
theorem ar_ga (a b : Value) : argsOk "list.__getattribute__" ⟨[a, b], []⟩ := by unfold argsOk; kernel_rfl
theorem en_ga : entryFor table "list.__getattribute__" = some Builtin.«object.__getattribute__» := PySem.F.entry_list_ga
theorem bs_ga : ∀ self, bindSpecial (.builtin "list.__getattribute__") self = pure (.builtin "list.__getattribute__", [self]) :=
  (Slot.of (T := "list") (name := "__getattribute__") (owner := "list") (n := "__getattribute__") (by rw [typeLookup_type, builtinLookup_eq_fast]; kernel_rfl) (by kernel_rfl) (by kernel_rfl) (by kernel_rfl)
    (.inl (by kernel_rfl)) (by rw [isSubtype_type]; kernel_rfl)).bind
theorem pl_ga : plainId "list.__getattribute__" = true := by kernel_rfl
/-- a value of the pile's own dictionary -/
theorem pil_get {name : Str} {v : Value} {expr : Bool} {Q : Value → Shared → Prop} (X : K.In s.heap) (I : W.InstAt s.heap a (pilOf C d vs n) C (some od)) (hga : findIn K (.ref C) "__getattribute__" = some (some (.builtin "list.__getattribute__"))) (hk : findIn K (.ref C) "__getattr__" = some none)
    (hsub : mroIn K C (.type "list") = some true) (hf : findObj K C (some od) name = some (.value v)) (hh : handedIn v = true) (h : Q v { s with toks := s.toks + 1 }) : wpAny (model prog w) A (getAttr (.ref a) name expr) Q E s := by
  obtain ⟨hp, g, dr, t, os⟩ := s
  have L0 := I.type (M := model prog w)
  have L1 := looks_findIn (M := model prog w) X hga
  have L2 := looks_findIn (M := model prog w) X hk
  have L3 := looks_find (M := model prog w) X I hf
  have hl0 := @looks_list prog w ⟨hp, g, dr, t + 1, os⟩ K a C d vs n od X I hsub
  unfold getAttr getAttrBy
  refine wpAny_bind (wpAny_mkText (wpAny_holding (wpAny_bind (L0.at (wpAny_bind (L1.at ?_))))))
  show wpAny _ _ (getAttrByItsOwn (.ref a) (.str name t) (.ref C) (.builtin "list.__getattribute__") true expr) _ _ _
  unfold getAttrByItsOwn hookBefore callGetattribute
  refine wpAny_bind ?_
  rw [if_pos (show onTheHeap (.ref C) = true from rfl)]
  refine L2.at (wpAny_bind (wpAny_attempt (wpAny_holding ?_)))
  rw [show (expr && onTheHeap (.builtin "list.__getattribute__")) = false from Bool.and_false _, if_neg (by decide)]
  unfold boundAndCalled
  rw [bs_ga]
  refine wpAny_bind (wpAny_pure ?_)
  refine wpAny_mono (Q := fun r s' => r = v ∧ s' = ⟨hp, g, dr, t + 1, os⟩) (E := fun _ _ => False) ?_ (fun r s' hr => ?_) fun _ _ z => z.elim
  · refine wpAny_call (codeAny_call_builtin pl_ga en_ga ?_)
    refine check_own (M := model prog w) (i := "list.__getattribute__") (owner := "list") (n := "__getattribute__") (self := .ref a) (rest := [.str name t]) (kw := []) kd_ga sp_ga hl0 (ar_ga _ _) ?_
    refine wpAny_bind (wpAny_pure (wpAny_bind (wpAny_pure (wpAny_bind (L0.at (wpAny_bind (L3.at ?_)))))))
    exact wpAny_pure ⟨rfl, rfl⟩
  · obtain ⟨rfl, rfl⟩ := hr
    show wpAny _ _ (handedOut r) _ _ _
    rw [handedOut_of hh]
    exact wpAny_pure h
open Builtin Builtin.ObjectAttr in
theorem refuse_list (self : Value) : refuseLoop self "__setattr__" [.type "list", .type "object"] = pure () := by kernel_rfl
open Builtin Builtin.ObjectAttr in
/-- the first store into the pile's own dictionary -/
theorem pil_set {name : Str} {v : Value} {cd : ClassData} {Q : Unit → Shared → Prop} (X : K.In s.heap) (I : W.InstAt s.heap a (pilOf C d vs n) C (some emptyDict)) (hs : findIn K (.ref C) "__setattr__" = some (some (.builtin "object.__setattr__")))
    (hc : clsIn K C = some cd) (hm : cd.mro = [.ref C, .type "list", .type "object"]) (hdict : cd.hasDict = true) (ht : findIn K (.ref C) name = some none)
    (h : Q () { s with heap := s.heap.update d (Obj.putName name (PyData.keyHash w.params name) (.str name (s.toks + 1)) v), toks := s.toks + 2 }) :
    wpAny (model prog w) A (setAttr (.ref a) name v) Q E s := by
  obtain ⟨hp, g, dr, t, os⟩ := s
  refine set_plain X I hs ?_
  have SF := PySem.F.store_object
  have I' : W.InstAt hp a (pilOf C d vs n) C (some emptyDict) := I
  have sub : Looks (model prog w) hp (isInstance (.ref a) (.type "object")) true := I'.type.andThen (looks_mroIn X (by unfold mroIn; rw [hc, Option.bind_some, hm]; rfl))
  refine codeAny_call_builtin SF.slot.plain SF.entry (@check_slot (model prog w) _ _ ⟨hp, g, dr, t + 1, os⟩ "object.__setattr__" "object" "__setattr__" (.ref a) [.str name t, v] [] _ SF.kind SF.split sub (SF.args (.ref a) (.str name t) v) ?_)
  have hml : Looks (model prog w) hp (mroOf (.ref C)) [.ref C, .type "list", .type "object"] := by rw [← hm]; exact (looks_clsIn X hc).andThen .now
  have L0 := I'.type (M := model prog w)
  have L1 : Looks (model prog w) hp (typeLookup (.ref C) name) none := looks_findIn X ht
  have L2 : Looks (model prog w) hp (classData C) cd := looks_clsIn X hc
  rw [osa_eq, refuse_eq]
  refine wpAny_bind (wpAny_bind (L0.at (wpAny_bind (hml.at ?_))))
  rw [refuseLoop_ref, refuse_list]
  refine wpAny_pure (wpAny_bind (L0.at (wpAny_bind (L1.at (wpAny_bind (wpAny_pure ?_))))))
  have hx := I'.at_
  have D : hp.get? d = some emptyDict := I'.dict
  refine wpAny_bind (wpAny_pure (wpAny_bind (wpAny_bind (wpAny_loadPart hx (wpAny_bind (L2.at ?_))))))
  rw [hdict]
  refine wpAny_pure (a := some d) (wpAny_bind (wpAny_pure (wpAny_bind ?_)))
  unfold nsSet
  refine wpAny_bind (wpAny_bind (wpAny_askSetting (wpAny_pure (wpAny_bind (wpAny_mkText (wpAny_bind (wpAny_loadPart D ?_)))))))
  dsimp only
  rw [show aRefKeyMayBeTheName name #[] = false from rfl]
  refine wpAny_updatePart D ?_
  have D' : (hp.update d (Obj.putName name (PyData.keyHash w.params name) (.str name (t + 1)) v)).get? d = some (Obj.putName name (PyData.keyHash w.params name) (.str name (t + 1)) v emptyDict) := Heap.get?_update_self _ D rfl
  refine wpAny_bind (wpAny_lookBehind D' (pastItsLine_dict (by rw [sizeLine_eq]; show 1 ≤ _; omega)) ?_)
  exact wpAny_pure h
end
end Mine
namespace Mine
theorem ln_kind : builtinKind "list.__new__" = some .builtinFn := by kernel_rfl
theorem ln_split : splitId "list.__new__" = some ("list", "__new__") := by kernel_rfl
/-- a class of the text that stands right upon list -/
structure MakesL (M : Model) (h : Heap) (C : Addr) : Prop where
  obj : ∃ oc od cd sl, h.get? C = some ⟨oc, od, .cls cd, sl⟩ ∧ cd.abstract = false ∧ cd.hasDel = false ∧ cd.mro.isEmpty = false
  made : Looks M h (Bind.madeBy (.ref C)) (some "list.__new__")
  base : Looks M h (Bind.staticBase (.ref C)) (.ref C)
  self : Looks M h (isSubtype (.ref C) (.ref C)) true
  top : Looks M h (isSubtype (.ref C) (.type "list")) true
  call : Looks M h (specialOf (.ref C) "__call__") (some (.builtin "type.__call__"))
  typ : Looks M h (isInstance (.ref C) (.type "type")) true
theorem makesL_of {K : Frag} {M : Model} {h : Heap} (X : K.In h) {C : Addr} {oc : Value} {od : Option Addr} {cd : ClassData} {sl : Array (Option Value)} (ho : K.lookup C = some ⟨oc, od, .cls cd, sl⟩) (e1 : cd.abstract = false) (e2 : cd.hasDel = false)
    (e3 : (sl.toList[4]?).join = some (.builtin "list.__new__")) (hm : cd.mro = [.ref C, .type "list", .type "object"]) (e7 : specialIn K (.ref C) "__call__" = some (some (.builtin "type.__call__"))) (e8 : instIn K (.ref C) (.type "type") = some true) : MakesL M h C := by
  have hc : clsIn K C = some cd := by unfold clsIn; rw [ho]
  have e4 : cd.mro.isEmpty = false := by rw [hm]; rfl
  have hml : Looks M h (mroOf (.ref C)) cd.mro := (looks_clsIn X hc).andThen .now
  have made : Looks M h (Bind.madeBy (.ref C)) (some "list.__new__") := by
    intro A Q E s k q
    unfold Bind.madeBy
    refine wpAny_bind (hml A _ E s k ?_)
    rw [hm, List.forIn_cons]
    refine wpAny_bind (wpAny_bind (wpAny_bind (wpAny_bind (wpAny_loadPart (k _ _ (X _ _ ho)) (wpAny_pure ?_)))))
    dsimp only
    rw [← Array.getElem?_toList, e3]
    exact wpAny_pure (wpAny_pure (wpAny_pure q))
  refine ⟨⟨oc, od, cd, sl, X _ _ ho, e1, e2, e4⟩, made, ?_, looks_mroIn X ?_, looks_mroIn X ?_, looks_specialIn X e7, looks_instIn X e8⟩
  · intro A Q E s k q
    unfold Bind.staticBase
    refine wpAny_bind (hml A _ E s k ?_)
    rw [hm, List.forIn_cons]
    exact wpAny_bind (wpAny_bind (wpAny_bind (made A _ E s k (wpAny_pure (wpAny_pure (wpAny_pure q))))))
  · unfold mroIn; rw [hc, Option.bind_some, if_neg (by rw [e4]; decide), hm]; simp
  · unfold mroIn; rw [hc, Option.bind_some, if_neg (by rw [e4]; decide), hm]; rfl
section
variable {prog : Program} {w : World} {A : Around} {C : Addr} {R : Result → Shared → Prop} {h : Heap} {g : Array GenState} {d : Drawn} {t : Nat} {os : OsState}
theorem new_L {rest : List Value} (Y : MakesL (model prog w) h C) 
    (hq : R (.ok (.ret (.ref (h.objs.size + 1)))) ⟨(h.push emptyDict).push (pilOf C h.objs.size [] 0), g, d, t, os⟩) :
    codeAny (model prog w) A (.call (.builtin "list.__new__") ⟨.ref C :: rest, []⟩) R ⟨h, g, d, t, os⟩ := by
  obtain ⟨⟨oc, od, cd, sl, hC, e1, e2, e4⟩, made, base, self, top, call, typ⟩ := Y
  refine codeAny_call_builtin_code (plainId_quiet F.plain_list_new _) ?_
  simp only [checkBuiltinCall, ln_kind, ln_split]
  have fin : codeAny (model prog w) A (.builtin "list.__new__" ⟨.ref C :: rest, []⟩) R ⟨h, g, d, t, os⟩ := by
    refine codeAny_builtin_stack F.entry_list_new rfl fun p st => ?_
    have hown := owner_list_new
    simp only [hown]
    repeat (first | simp only [Bool.not_true, bne_self_eq_false, Bool.false_eq_true, if_false] | lk)
    have hC2 : ((h.push emptyDict).push (pilOf C h.objs.size [] 0)).get? C = some ⟨oc, od, .cls cd, sl⟩ := Heap.get?_push_of_some _ (Heap.get?_push_of_some _ hC)
    refine nd_load hC2 ?_
    refine wpAny_pure ?_
    refine wpAny_pure (a := cd.hasDel) ?_
    rw [e2]
    refine wpAny_pure (wpAny_pure ?_)
    show R _ _
    have hz : (h.push emptyDict).objs.size = h.objs.size + 1 := Heap.size_push ..
    rw [hz]
    exact hq
  repeat (first | simp only [beq_self_eq_true, if_true, Bool.not_true, bne_self_eq_false, Bool.false_eq_true, if_false] | lk)
  exact fin
/-- the class called: a new pile, then its __init__ -/
theorem make_L {K : Frag} {rest : List Value} {fI : Addr} (Y : MakesL (model prog w) h C) (X : K.In h) (hi : findIn K (.ref C) "__init__" = some (some (.ref fI))) (hf : typeIn K (.ref fI) = some (.type "function"))
    (hq : codeAny (model prog w) (A.under (.builtin "type.__call__" ⟨.ref C :: rest, []⟩)) (.call (.ref fI) ⟨.ref (h.objs.size + 1) :: rest, []⟩) (InitBack (h.objs.size + 1) R) ⟨(h.push emptyDict).push (pilOf C h.objs.size [] 0), g, d, t, os⟩) :
    codeAny (model prog w) A (.call (.ref C) ⟨rest, []⟩) R ⟨h, g, d, t, os⟩ := by
  have Y' := Y
  obtain ⟨⟨oc, od, cd, sl, hC, e1, e2, e4⟩, made, base, self, top, call, typ⟩ := Y
  have hil : Looks (model prog w) h (typeLookup (.ref C) "__init__") (some (.ref fI)) := looks_findIn X hi
  refine codeAny_of_tree ?_
  show wpAny _ _ (callAny (.ref C) _) _ _ _
  refine nd_load hC ?_
  show wpAny _ _ (callAny.viaDunder (.ref C) _) _ _ _
  unfold callAny.viaDunder
  refine wpAny_bind (call.at ?_)
  dsimp only
  rw [tc_bind]
  refine wpAny_bind (wpAny_pure (wpAny_bind (wpAny_pure ?_)))
  refine wpAny_pure (a := Fin.again (.call (.builtin "type.__call__") ⟨.ref C :: rest, []⟩)) (And.intro rfl ?_)
  refine codeAny_call_builtin_at (Code.quiet_builtin _ (by decide +kernel)) entry_typeCall (check_slot tc_kind tc_split typ (tc_args _ _ _) ?_)
  unfold Builtin.«type.__call__»
  have hm : Looks (model prog w) h (mroOf (.ref C)) cd.mro := ((Looks.ld (part := none) hC).andThen .now).andThen .now
  repeat (first | simp only [e4, Bool.false_eq_true, if_false] | with_reducible refine wpAny_call ?_ | lk)
  refine new_L Y' ?_
  have k : ∀ b o, h.get? b = some o → ((h.push emptyDict).push (pilOf C h.objs.size [] 0)).get? b = some o := fun b o e => Heap.get?_push_of_some _ (Heap.get?_push_of_some _ e)
  have hx : ((h.push emptyDict).push (pilOf C h.objs.size [] 0)).get? (h.objs.size + 1) = some (pilOf C h.objs.size [] 0) := by
    have hz : (h.push emptyDict).objs.size = h.objs.size + 1 := Heap.size_push ..
    rw [← hz]; exact Heap.get?_push_size _ rfl
  have t1 : Looks (model prog w) ((h.push emptyDict).push (pilOf C h.objs.size [] 0)) (typeOf (.ref (h.objs.size + 1))) (.ref C) := (Looks.ld hx).andThen .now
  have s1 := self.keeps k
  have i1 := hil.keeps k
  have b1 := (bind_fn (M := model prog w) X (.ref (h.objs.size + 1)) hf).keeps k
  unfold isInstance callSpecial? specialOf
  repeat (first | with_reducible refine wpAny_call ?_ | lk)
  refine codeAny_mono hq fun r s' z => ?_
  rcases r with e | (v | _ | _ | _) <;> first | exact z | exact z.elim | skip
  obtain ⟨rfl, z⟩ := z
  exact wpAny_pure (wpAny_pure z)
end
end Mine
namespace Mine
section
variable {prog : Program} {w : World} {A : Around} {E : Value → Shared → Prop} {s : Shared} {K : Frag} {a C d : Addr} {n : Nat} {od : Obj}

/-- the tail of a pile from place k on struck out -/
theorem pil_cut {vs : List Value} {k : Nat} {t : Tok} {sl l : Addr} {Q : Unit → Shared → Prop} (X : K.In s.heap) (I : W.InstAt s.heap a (pilOf C d vs n) C (some od)) (hsub : mroIn K C (.type "list") = some true)
    (hq0 : noSeq K C = true) (hs : findIn K (.ref C) "__setitem__" = some (some (.builtin "list.__setitem__"))) (hsl : s.heap.IsSliceOf sl (.int k t) .none .none) (hla : l ≠ a) (hl : s.heap.IsList l #[]) (hk : k ≤ vs.length)
    (hb : vs.length ≤ 1000000) (hq : Q () { s with heap := s.heap.update a (Obj.mapSeq fun xs => xs.extract 0 k ++ #[] ++ xs.extract vs.length xs.size) }) : wpAny (model prog w) A (setItem (.ref a) (.ref sl) (.ref l)) Q E s := by
  unfold setItem sequenceKey
  refine wpAny_holding (wpAny_bind (wpAny_bind (I.type.here ?_)))
  refine wpAny_bind ((anyM_none X hq0).here ?_)
  rw [if_pos (show (!false) = true from rfl)]
  refine wpAny_pure (wpAny_bind (pil_special X I hs F.slot_list_setitem.bind ?_))
  refine wpAny_call (codeAny_call_builtin F.slot_list_setitem.plain F.entry_list_setitem ?_)
  have hl0 := @looks_list prog w s K a C d vs n od X I hsub
  refine check_own (M := model prog w) (i := "list.__setitem__") (owner := "list") (n := "__setitem__") (self := .ref a) (rest := [.ref sl, .ref l]) (kw := []) kd_setitem sp_setitem hl0 (F.args_list_setitem_3 _ _ _) ?_
  obtain ⟨os, hos, hcs, hds⟩ := id hsl
  have hTs : s.TypeIs (.ref sl) "slice" := ⟨os, hos, hcs⟩
  show wpAny _ _ (Builtin.List.listSubscript? (.ref sl) >>= _) _ _ s
  refine wpAny_bind ?_
  unfold Builtin.List.listSubscript?
  refine wpAny_bind (wpAny_specialOf hTs slice_no_index ?_)
  simp only [Option.isNone_none, if_true]
  refine wpAny_pure ?_
  show wpAny _ _ (typeOf (.ref sl) >>= _) _ _ s
  refine wpAny_bind (wpAny_typeOf hTs ?_)
  rw [if_neg (by decide)]
  rw [listSliceParts_eq]
  have hstep : ¬ ((rawPart none == rawInt 0) = true) := Bool.false_ne_true
  refine wpAny_bind (wpAny_bind (wpAny_field hos hds (x := .none) rfl (wpAny_bind (wpAny_listPart .none ?_))))
  rw [if_neg hstep]
  refine wpAny_bind (wpAny_field hos hds (x := .int k t) rfl (wpAny_bind (wpAny_listPart (.int k t) ?_)))
  refine wpAny_bind (wpAny_field hos hds (x := .none) rfl (wpAny_bind (wpAny_listPart .none (wpAny_pure ?_))))
  have hsame : Builtin.List.listSameRef (.ref a) (.ref l) = false := by
    show decide (a = l) = false
    exact decide_eq_false (fun e => hla e.symm)
  dsimp only
  rw [hsame, if_neg (by decide)]
  obtain ⟨ol, hol, hcl, nl, hdl⟩ := id hl
  have hTl : s.TypeIs (.ref l) "list" := ⟨ol, hol, hcl⟩
  unfold Builtin.List.listAllItems
  refine wpAny_bind (wpAny_bind (wpAny_typeOf hTl ?_))
  rw [if_pos (show ((Value.type "list" == .type "list" || Value.type "list" == .type "tuple")) = true by decide)]
  refine PyProof.Rows.listItems_at hol hdl ?_
  refine wpAny_bind (PyProof.Rows.listItems_at I.at_ rfl ?_)
  refine wpAny_bind (wpAny_of_eq (sliceIndices_raw (some (k : Int)) none none vs.toArray.size (by simp)) ?_)
  have hbd : sliceBounds (some (k : Int)) none none vs.toArray.size = ((k : Int), (vs.length : Int), 1) := by
    simp only [sliceBounds, Option.getD_none]
    simp
    rw [if_neg (nn k), Int.min_eq_left (Int.ofNat_le.mpr hk), Int.max_eq_right (Int.natCast_nonneg k)]
  rw [hbd]
  dsimp only
  rw [if_pos (show ((1 : Int) == 1) = true from rfl)]
  refine wpAny_bind (wpAny_rule ?_)
  have hnl : Builtin.List.listTooLong (vs.toArray.size + (#[] : Array Value).size) = false := by
    unfold Builtin.List.listTooLong
    rw [sizeLine_eq]; simp; exact Nat.le_trans hb (by decide)
  rw [hnl, if_neg (by decide)]
  have hmx : (max (k : Int) (vs.length : Int)).toNat = vs.length := by rw [Int.max_eq_right (Int.ofNat_le.mpr hk)]; rfl
  have hkn : ((k : Int)).toNat = k := rfl
  rw [hmx, hkn]
  have hz : vs.toArray.size ≤ sizeLine := by rw [sizeLine_eq]; simp; exact Nat.le_trans hb (by decide)
  refine wpAny_bind (wpAny_updateSeq I.at_ rfl (hz := hz) (_hz' := by rw [sizeLine_eq]; simp; exact Nat.le_trans (Nat.min_le_right ..) (Nat.le_trans hb (by decide))) ?_)
  refine wpAny_bind (wpAny_letGo ?_)
  exact wpAny_pure (wpAny_pure hq)
end
end Mine
namespace Mine
theorem wd_slot : Slot "wrapper_descriptor" "__get__" "wrapper_descriptor.__get__" := .of (owner := "wrapper_descriptor") (n := "__get__") (by rw [typeLookup_type, builtinLookup_eq_fast]; kernel_rfl) (by decide +kernel) (by decide +kernel) (by decide +kernel)
  (by first | exact .inl (by decide +kernel) | exact .inr (by decide +kernel)) (by rw [isSubtype_type]; kernel_rfl)
theorem wd_entry : entryFor table "wrapper_descriptor.__get__" = some Builtin.«wrapper_descriptor.__get__» := entryFor_of_tree (by kernel_rfl)
theorem wd_args (a b c : Value) : argsOk "wrapper_descriptor.__get__" ⟨[a, b, c], []⟩ := by unfold argsOk; kernel_rfl
theorem md_slot : Slot "method_descriptor" "__get__" "method_descriptor.__get__" := .of (owner := "method_descriptor") (n := "__get__") (by rw [typeLookup_type, builtinLookup_eq_fast]; kernel_rfl) (by decide +kernel) (by decide +kernel) (by decide +kernel)
  (by first | exact .inl (by decide +kernel) | exact .inr (by decide +kernel)) (by rw [isSubtype_type]; kernel_rfl)
theorem md_entry : entryFor table "method_descriptor.__get__" = some Builtin.«method_descriptor.__get__» := entryFor_of_tree (by kernel_rfl)
theorem md_args (a b c : Value) : argsOk "method_descriptor.__get__" ⟨[a, b, c], []⟩ := by unfold argsOk; kernel_rfl
theorem ty_len : typeOf (.builtin "list.__len__") = pure (.type "wrapper_descriptor") := by show builtinType _ = _; rw [builtinType_eq_fast]; kernel_rfl
theorem ty_init : typeOf (.builtin "list.__init__") = pure (.type "wrapper_descriptor") := by show builtinType _ = _; rw [builtinType_eq_fast]; kernel_rfl
theorem ty_pop : typeOf (.builtin "list.pop") = pure (.type "method_descriptor") := by show builtinType _ = _; rw [builtinType_eq_fast]; kernel_rfl
theorem wd_get_len (a C : Addr) : Builtin.«wrapper_descriptor.__get__» ⟨[.builtin "list.__len__", .ref a, .ref C], []⟩ = (do
    (do if !(← isInstance (.ref a) (.type "list")) then
          rule "descr.get.wrong-instance"
          raiseError "TypeError" s!"descriptor '{("__len__" : Str).toString}' for '{← typeName (.type "list")}' objects doesn't apply to a '{← typeNameOf (.ref a)}' object")
    ret (← newFields "method-wrapper" [.builtin "list.__len__", .ref a])) := by kernel_rfl
theorem wd_get_init (a C : Addr) : Builtin.«wrapper_descriptor.__get__» ⟨[.builtin "list.__init__", .ref a, .ref C], []⟩ = (do
    (do if !(← isInstance (.ref a) (.type "list")) then
          rule "descr.get.wrong-instance"
          raiseError "TypeError" s!"descriptor '{("__init__" : Str).toString}' for '{← typeName (.type "list")}' objects doesn't apply to a '{← typeNameOf (.ref a)}' object")
    ret (← newFields "method-wrapper" [.builtin "list.__init__", .ref a])) := by kernel_rfl
theorem md_get_pop (a C : Addr) : Builtin.«method_descriptor.__get__» ⟨[.builtin "list.pop", .ref a, .ref C], []⟩ = (do
    (do if !(← isInstance (.ref a) (.type "list")) then
          rule "descr.get.wrong-instance"
          raiseError "TypeError" s!"descriptor '{("pop" : Str).toString}' for '{← typeName (.type "list")}' objects doesn't apply to a '{← typeNameOf (.ref a)}' object")
    ret (← newFields "builtin_function_or_method" [.builtin "list.pop", .ref a])) := by kernel_rfl
/-- a built-in bound to an object -/
abbrev bndObj (bty id : String) (a : Addr) : Obj := { cls := .type bty, dict := none, data := .fields #[.builtin id, .ref a], slots := #[] }
/-- a built-in of list that super() hands out bound -/
structure SupB (id ty gid bty : String) (B : Builtin) : Prop where
  type : typeOf (.builtin id) = pure (.type ty)
  slot : Slot ty "__get__" gid
  entry : entryFor table gid = some B
  args : ∀ a b c, argsOk gid ⟨[a, b, c], []⟩
  get : ∀ (a C : Addr), ∃ err : Sem Unit, B ⟨[.builtin id, .ref a, .ref C], []⟩ = (do (do if !(← isInstance (.ref a) (.type "list")) then err); ret (← newFields bty [.builtin id, .ref a]))
  bty : bty = "method-wrapper" ∨ bty = "builtin_function_or_method"
theorem sup_len : SupB "list.__len__" "wrapper_descriptor" "wrapper_descriptor.__get__" "method-wrapper" Builtin.«wrapper_descriptor.__get__» := ⟨ty_len, wd_slot, wd_entry, wd_args, fun a C => ⟨_, wd_get_len a C⟩, .inl rfl⟩
theorem sup_init : SupB "list.__init__" "wrapper_descriptor" "wrapper_descriptor.__get__" "method-wrapper" Builtin.«wrapper_descriptor.__get__» := ⟨ty_init, wd_slot, wd_entry, wd_args, fun a C => ⟨_, wd_get_init a C⟩, .inl rfl⟩
theorem sup_pop : SupB "list.pop" "method_descriptor" "method_descriptor.__get__" "builtin_function_or_method" Builtin.«method_descriptor.__get__» := ⟨ty_pop, md_slot, md_entry, md_args, fun a C => ⟨_, md_get_pop a C⟩, .inr rfl⟩
section
variable {prog : Program} {w : World} {M : Model} {A : Around} {E : Value → Shared → Prop} {h : Heap} {g : Array GenState} {d : Drawn} {t : Nat} {os : OsState}
theorem sup_ga {so D x C : Addr} {id ty gid bty : String} {B : Builtin} {l₀ l : List Value} {K : Frag} {name : Str} {tk : Tok} {Q : Fin → Shared → Prop} (Y : SupB id ty gid bty B)
    (hso : h.get? so = some { cls := .type "super", dict := none, data := .fields #[.ref D, .ref x, .ref C], slots := #[] }) (hno : Looks (model prog w) h (opaqueClassAbove (.ref C)) none)
    (hC : Looks (model prog w) h (mroOf (.ref C)) l₀) (hl : (l₀.dropWhile (· != .ref D)).drop 1 = l) (X : K.In h)
    (hf : alongIn K name l = some (some (.builtin id))) (hi : Looks (model prog w) h (isInstance (.ref x) (.type "list")) true) (hxC : x ≠ C) (hn : (name == ("__class__" : Str)) = false)
    (hq : Q (.done (.ret (.ref h.objs.size))) ⟨h.push (bndObj bty id x), g, d, t, os⟩) :
    wpAny (model prog w) A (Builtin.«super.__getattribute__» ⟨[.ref so, .str name tk], []⟩) Q E ⟨h, g, d, t, os⟩ := by
  have hlk := Y.slot.lookup
  have hne : (Value.ref x == Value.ref C) = false := by simp [hxC]
  have hty := Y.type
  have hTf : (⟨h, g, d, t, os⟩ : Shared).TypeIs (.builtin id) ty := hty
  have hdt : ({ cls := .type "super", dict := none, data := .fields #[.ref D, .ref x, .ref C], slots := #[] } : Obj).data = .fields #[.ref D, .ref x, .ref C] := rfl
  have f0 : (#[.ref D, .ref x, .ref C] : Array Value)[0]? = some (.ref D) := rfl
  have f1 : (#[.ref D, .ref x, .ref C] : Array Value)[1]? = some (.ref x) := rfl
  have f2 : (#[.ref D, .ref x, .ref C] : Array Value)[2]? = some (.ref C) := rfl
  have run : ∀ {A : Around} {P : Fin → Shared → Prop} {E : Value → Shared → Prop}, P (.done (.ret (.ref h.objs.size))) ⟨h.push (bndObj bty id x), g, d, t, os⟩ → wpAny (model prog w) A (B ⟨[.builtin id, .ref x, .ref C], []⟩) P E ⟨h, g, d, t, os⟩ := fun {A P E} hp => by
    obtain ⟨err, e⟩ := Y.get x C
    rw [e]
    refine wpAny_bind (wpAny_bind (Looks.at hi ?_))
    rw [if_neg (by decide)]
    refine wpAny_pure ?_
    unfold newFields
    exact wpAny_bind (wpAny_newObj_type (wpAny_pure hp) (by size_fits))
  unfold Builtin.«super.__getattribute__»
  repeat (first
    | (with_reducible refine wpAny_field hso hdt f0 ?_) | (with_reducible refine wpAny_field hso hdt f1 ?_) | (with_reducible refine wpAny_field hso hdt f2 ?_)
    | (with_reducible refine ks_wpAny_notOpaque hno ?_)
    | (with_reducible refine Looks.at hC ?_; rw [hl])
    | (refine ks_forIn_along X (fun _ _ => rfl) rfl ?_ hf)
    | (with_reducible refine wpAny_typeOf hTf ?_)
    | (with_reducible refine wpAny_call_entry Y.slot hTf Y.entry (run ?_) (Y.args _ _ _))
    | (with_reducible refine ⟨_, rfl, ?_⟩)
    | (simp only [hn, hne, Bool.or_false, Bool.false_eq_true, if_false])
    | wp_step
    | dsimp only)
  all_goals exact hq

theorem sup_method {so D x C : Addr} {id ty gid bty : String} {B : Builtin} {l₀ l : List Value} {K : Frag} {name : Str} {pl : Sem Bool} {Q : Value × List Value → Shared → Prop} (Y : SupB id ty gid bty B)
    (hso : h.get? so = some { cls := .type "super", dict := none, data := .fields #[.ref D, .ref x, .ref C], slots := #[] }) (hno : Looks (model prog w) h (opaqueClassAbove (.ref C)) none)
    (hC : Looks (model prog w) h (mroOf (.ref C)) l₀) (hl : (l₀.dropWhile (· != .ref D)).drop 1 = l) (X : K.In h)
    (hf : alongIn K name l = some (some (.builtin id))) (hi : Looks (model prog w) h (isInstance (.ref x) (.type "list")) true) (hxC : x ≠ C) (hn : (name == ("__class__" : Str)) = false)
    (hq : Q (.ref h.objs.size, []) ⟨h.push (bndObj bty id x), g, d, t + 1, os⟩) :
    wpAny (model prog w) A (getMethod (.ref so) name pl) Q E ⟨h, g, d, t, os⟩ := by
  have hlk := F.ks_slot_super_ga.lookup
  have hcan := F.ks_canon_super_ga
  have hT : ∀ t', (⟨h, g, d, t', os⟩ : Shared).TypeIs (.ref so) "super" := fun _ => ⟨_, hso, rfl⟩
  unfold getMethod
  refine wpAny_bind (wpAny_specialOf (hT _) hlk ?_)
  show wpAny _ _ (if (Manifest.canonical "super.__getattribute__" != "object.__getattribute__") = true then _ else _) _ _ _
  rw [if_pos hcan]
  unfold getAttr getAttrBy
  refine wpAny_bind (wpAny_bind (wpAny_mkText (wpAny_holding (wpAny_bind (wpAny_typeOf (hT _) (wpAny_bind (wpAny_of_eq hlk ?_)))))))
  show wpAny _ _ (getAttrByItsOwn (.ref so) (.str name t) (.type "super") (.builtin "super.__getattribute__") true false) _ _ _
  unfold getAttrByItsOwn hookBefore callGetattribute boundAndCalled
  refine wpAny_bind (wpAny_of_eq (show (if onTheHeap (.type "super") then typeLookup (.type "super") "__getattr__" else pure none) = pure none from rfl) ?_)
  refine wpAny_bind (wpAny_attempt (wpAny_holding ?_))
  show wpAny _ _ (bindSpecial (.builtin "super.__getattribute__") (.ref so) >>= _) _ _ _
  refine wpAny_bind (wpAny_of_eq (F.ks_slot_super_ga.bind _) ?_)
  refine wpAny_mono (Q := fun v s' => v = .ref h.objs.size ∧ s' = ⟨h.push (bndObj bty id x), g, d, t + 1, os⟩) (E := fun _ _ => False)
    (wpAny_call_entry F.ks_slot_super_ga (hT _) F.ks_entry_super_ga (sup_ga Y hso hno hC hl X hf hi hxC hn ⟨_, rfl, rfl, rfl⟩) (F.ks_gaArgs_super _ _)) (fun v s' hv => ?_) fun _ _ z => z.elim
  obtain ⟨rfl, rfl⟩ := hv
  exact wpAny_pure (wpAny_pure hq)
end
end Mine
namespace Mine
theorem cb_len (a : Addr) : checkBoundCall "list.__len__" ⟨[.ref a], []⟩ = pure () := by kernel_rfl
theorem cb_init (a : Addr) : checkBoundCall "list.__init__" ⟨[.ref a], []⟩ = pure () := by kernel_rfl
theorem sg_pop_some : (Manifest.signature? "list.pop").isSome = true := by kernel_rfl
theorem sg_pop_args (a : Addr) : Bind.checkArgs "list.pop" { (Manifest.signature? "list.pop").get sg_pop_some with full := "_Accumulator.pop" } ⟨[.ref a], []⟩ = pure () := by kernel_rfl
theorem bk_pop : builtinKind "list.pop" = some .method := by kernel_rfl
theorem vm_pop : Manifest.varargsMethods.contains "list.pop" = false := by kernel_rfl
theorem lo_pop : Bind.lastOf "list.pop" = "pop" := by kernel_rfl
theorem fu_pop : (s!"{(("_Accumulator" : Str)).toString}.{"pop"}" : String) = "_Accumulator.pop" := by kernel_rfl
open AutoSeq1 (wpAny_loadPart')
section
variable {prog : Program} {w : World} {A : Around} {E : Value → Shared → Prop} {s : Shared} {K : Frag} {a C d : Addr} {vs : List Value} {n : Nat} {od : Obj}
theorem cb_pop {cd : ClassData} {Q : Unit → Shared → Prop} (X : K.In s.heap) (I : W.InstAt s.heap a (pilOf C d vs n) C (some od)) (hmod : mroIn K C (.type "module") = some false) (hc : clsIn K C = some cd) (hq : cd.qualname = "_Accumulator") (ht : typeIn K (.ref C) = some (.type "type")) (q : Q () s) :
    wpAny (model prog w) A (checkBoundCall "list.pop" ⟨[.ref a], []⟩) Q E s := by
  have hs : Manifest.signature? "list.pop" = some ((Manifest.signature? "list.pop").get sg_pop_some) := (Option.some_get _).symm
  have hm : Looks (model prog w) s.heap (isInstance (.ref a) (.type "module")) false := I.type.andThen (looks_mroIn X hmod)
  have hca := sg_pop_args a
  have hfu := fu_pop
  have hbk := bk_pop
  have hvm := vm_pop
  have hlo := lo_pop
  generalize hsg : (Manifest.signature? "list.pop").get sg_pop_some = sig at hs hca
  unfold checkBoundCall
  rw [hs, hbk, hvm, hlo]
  show wpAny _ _ (isInstance (.ref a) (.type "module") >>= _) _ _ _
  refine wpAny_bind (hm.here ?_)
  dsimp only
  rw [if_neg (by decide)]
  refine wpAny_bind (ks_wpAny_isType_inst I.at_ (fun c e => ?_) ?_)
  · cases e
  rw [if_neg (by decide)]
  refine wpAny_bind (I.type.here ?_)
  dsimp only
  refine wpAny_bind ((looks_clsIn X hc).here ?_)
  refine wpAny_bind ((looks_typeIn X ht).here ?_)
  rw [if_pos (by decide), hq, hfu, hca]
  exact wpAny_pure q

/-- a bound built-in called with nothing -/
theorem bnd_call {b : Addr} {id bty : String} {B : Builtin} {Q : Value → Shared → Prop} (hb : s.heap.get? b = some (bndObj bty id a)) (hty : bty = "method-wrapper" ∨ bty = "builtin_function_or_method") (hp : plainId id = true) (he : entryFor table id = some B)
    (hc : ∀ {A : Around} {P : Unit → Shared → Prop} {E : Value → Shared → Prop}, P () s → wpAny (model prog w) A (checkBoundCall id ⟨[.ref a], []⟩) P E s)
    (h : ∀ {A : Around} {P : Fin → Shared → Prop} {E : Value → Shared → Prop}, (∀ v s', Q v s' → P (.done (.ret v)) s') → wpAny (model prog w) A (B ⟨[.ref a], []⟩) P E s) : wpAny (model prog w) A (call (.ref b) []) Q E s := by
  refine wpAny_call (codeAny_of_tree ?_)
  show wpAny _ _ (callAny (.ref b) _) _ _ _
  unfold callAny
  refine wpAny_bind (wpAny_load hb ?_)
  have hcl : ((bndObj bty id a).cls == Value.type "method" || (bndObj bty id a).cls == Value.type "builtin_function_or_method" || (bndObj bty id a).cls == Value.type "method-wrapper") = true := by
    rcases hty with rfl | rfl <;> dsimp only [bndObj] <;> decide
  have hcm : ((bndObj bty id a).cls != Value.type "method") = true := by
    rcases hty with rfl | rfl <;> dsimp only [bndObj] <;> decide
  dsimp only
  rw [if_pos hcl]
  show wpAny _ _ (if ((bndObj bty id a).cls != Value.type "method") = true then _ else _) _ _ _
  rw [if_pos hcm]
  refine wpAny_bind (hc ?_)
  refine wpAny_pure ⟨plainId_quiet hp _, codeAny_builtin he ?_⟩
  exact h fun v s' hv => hv
theorem pil_len_body {P : Fin → Shared → Prop} (I : W.InstAt s.heap a (pilOf C d vs n) C (some od)) (hq : P (.done (.ret (.int vs.length s.toks))) { s with toks := s.toks + 1 }) : wpAny (model prog w) A (Builtin.«list.__len__» ⟨[.ref a], []⟩) P E s := by
  obtain ⟨hp, g, dr, tk, os⟩ := s
  have hl := I.at_
  wp_walk using wpAny_loadPart' hl
  simpa using hq
theorem pil_init_body {P : Fin → Shared → Prop} (I : W.InstAt s.heap a (pilOf C d [] n) C (some od)) (hq : P (.done (.ret .none)) { s with heap := s.heap.update a (Obj.mapSeq fun _ => #[]) }) : wpAny (model prog w) A (Builtin.«list.__init__» ⟨[.ref a], []⟩) P E s := by
  show wpAny _ _ (Builtin.List.listItems (.ref a) >>= _) _ _ s
  refine wpAny_bind (PyProof.Rows.listItems_at I.at_ rfl ?_)
  refine wpAny_bind (wpAny_updateSeq I.at_ rfl (hz := by rw [sizeLine_eq]; simp) (_hz' := by rw [sizeLine_eq]; simp) ?_)
  refine wpAny_bind (wpAny_letGo ?_)
  exact wpAny_pure hq
theorem pil_pop_body {x : Value} {P : Fin → Shared → Prop} (I : W.InstAt s.heap a (pilOf C d (vs ++ [x]) n) C (some od)) (hb : vs.length ≤ 1000000) (hq : P (.done (.ret x)) { s with heap := s.heap.update a (Obj.mapSeq fun xs => xs.eraseIdxIfInBounds vs.length) }) : wpAny (model prog w) A (Builtin.«list.pop» ⟨[.ref a], []⟩) P E s := by
  obtain ⟨hp, g, dr, tk, os⟩ := s
  have hl := I.at_
  have hz : (vs ++ [x]).toArray.size ≤ sizeLine := by rw [sizeLine_eq]; simp; omega
  have he : (vs ++ [x]).eraseIdx vs.length = vs := by rw [List.eraseIdx_append_of_length_le (Nat.le_refl _)]; simp
  have hz' : ((vs ++ [x]).toArray.eraseIdxIfInBounds vs.length).size ≤ sizeLine + 1 := by rw [sizeLine_eq]; simp [he]; omega
  have hk : ((seqIndex? (-1) (vs ++ [x]).toArray.size).bind fun k => Option.map (fun x => (k, x)) (vs ++ [x]).toArray[k]?) = some (vs.length, x) := by
    have : seqIndex? (-1) (vs ++ [x]).toArray.size = some vs.length := by
      unfold seqIndex?
      simp
      omega
    rw [this]; simp
  wp_walk using wpAny_loadPart' hl
  rw [hk]
  wp_walk using (wpAny_updateSeq hl rfl (hz := hz) (_hz' := hz'))
  exact hq
/-- a call of a bound built-in with nothing, from the text -/
theorem callWith_bnd {b : Addr} {id bty : String} {pos : Pos} {env : Env} {Q : Value → Shared → Prop} (hb : s.heap.get? b = some (bndObj bty id a)) (hty : bty = "method-wrapper" ∨ bty = "builtin_function_or_method")
    (h : wpAny (model prog w) A (call (.ref b) []) Q E s) : wpAny (model prog w) A (callWith pos (.ref b) [] (backTo pos (starEach [] env)) []) Q E s := by
  unfold callWith
  refine wpAny_bind (wpAny_holding (PyProof.Rows.evalArgs_none (wpAny_bind (wpAny_standAt ?_))))
  refine wpAny_bind (m := keeperOf (.ref b)) ?_
  unfold keeperOf
  refine wpAny_bind (wpAny_load hb ?_)
  have h1 : ((bndObj bty id a).cls != Value.type "method") = true := by
    rcases hty with rfl | rfl <;> dsimp only [bndObj] <;> decide
  have h2 : ((bndObj bty id a).cls == Value.type "builtin_function_or_method" || (bndObj bty id a).cls == Value.type "method-wrapper") = true := by
    rcases hty with rfl | rfl <;> dsimp only [bndObj] <;> decide
  dsimp only
  show wpAny _ _ (if ((bndObj bty id a).cls != Value.type "method") = true then _ else _) _ _ _
  rw [if_pos h1, if_pos h2]
  refine wpAny_pure ?_
  exact wpAny_bind (wpAny_mono h (fun r s₂ hr => wpAny_bind (wpAny_holding (wpAny_point (wpAny_pure hr)))) fun _ _ x => x)
end
end Mine
namespace Mine
/-- the piles' class, as the law's heap has it -/
structure PilK (c : Cx) (K : Frag) : Prop where
  In : K.In c.hB
  X : ∀ a ∈ c.X, K.lookup a = none
  cls : ∃ oc od cd sl, K.lookup c.C = some ⟨oc, od, .cls cd, sl⟩ ∧ cd.mro = [.ref c.C, .type "list", .type "object"] ∧ cd.hasDict = true ∧ cd.qualname = "_Accumulator" ∧ cd.abstract = false ∧ cd.hasDel = false ∧ (sl.toList[4]?).join = some (.builtin "list.__new__")
  call : specialIn K (.ref c.C) "__call__" = some (some (.builtin "type.__call__"))
  inst : instIn K (.ref c.C) (.type "type") = some true
  seta : findIn K (.ref c.C) "__setattr__" = some (some (.builtin "object.__setattr__"))
  ini : findIn K (.ref c.C) "_initial_size" = some none
  sub : mroIn K c.C (.type "list") = some true
  mod : mroIn K c.C (.type "module") = some false
  typ : typeIn K (.ref c.C) = some (.type "type")
  any : nsIn K cStatics "thirdparty.any" = some none
  self : mroIn K c.C (.ref c.C) = some true
  ga : findIn K (.ref c.C) "__getattribute__" = some (some (.builtin "list.__getattribute__"))
  gat : findIn K (.ref c.C) "__getattr__" = some none
  seq : noSeq K c.C = true
  geti : findIn K (.ref c.C) "__getitem__" = some (some (.builtin "list.__getitem__"))
  seti : findIn K (.ref c.C) "__setitem__" = some (some (.builtin "list.__setitem__"))
  iter : findIn K (.ref c.C) "__iter__" = some (some (.builtin "list.__iter__"))
  app : findIn K (.ref c.C) "append" = some (some (.builtin "list.append"))
  appT : typeIn K (.builtin "list.append") = some (.type "method_descriptor")
  lLen : alongIn K "__len__" [.type "list", .type "object"] = some (some (.builtin "list.__len__"))
  lInit : alongIn K "__init__" [.type "list", .type "object"] = some (some (.builtin "list.__init__"))
  lPop : alongIn K "pop" [.type "list", .type "object"] = some (some (.builtin "list.pop"))
  gsup : c.mg "super" = none
  bsup : c.mb "super" = some (.type "super")
theorem PilK.here {c : Cx} {K : Frag} (P : PilK c K) {s : Shared} {ι : Iota} {μ : Mu} (I : Inv c s ι μ) : K.In s.heap := fun b o e => I.old b o (P.In b o e) fun h => by rw [P.X b h] at e; cases e

/-- a method that says super() -/
structure DefS (c : Cx) (a : Addr) (fd : FuncData) (body : List Stmt) (cell : Addr) : Prop where
  fn : FnAt c a fd
  code : ∃ cc o vs t file t', fd.code = .ref cc ∧ c.hB.get? cc = some o ∧ cc ∉ c.X ∧ o.data = .fields vs ∧ vs[1]? = some (.str fd.qualname t) ∧ vs[2]? = some (.str file t') ∧ ((c.prog.main.file : Str) == file) = true
  body : fd.body = .stmts body
  clo : fd.closure = [(("__class__" : Str), cell)]
  cellAt : ∃ o, c.hB.get? cell = some o ∧ o.data = .cell (some (.ref c.C)) ∧ cell ∉ c.X
  main : (c.prog.main.scope.names.lookup ("super" : Str)).isSome = false
  first : ∃ ar, (fd.params.posonlyargs ++ fd.params.args).head? = some ar ∧ ar.arg = "self"
  ks : ∀ L, (callEnv fd L a).kindOf "super" = some .globalImplicit
  kc : ∀ L, (callEnv fd L a).kindOf "__class__" = some .free
  kself : ∀ L, (callEnv fd L a).kindOf "self" = some .local
  glo : fd.globals = mainGlobals
  bi : fd.builtins = builtinsNs
  co : fd.scope.isCoroutine = false
  gen : fd.scope.isGenerator = false
  kind : fd.scope.kind = .function
  cells : ∀ x ∈ fd.scope.names, x.2 ≠ .cell

/-- super().name() reads super's object, then its method -/
abbrev callsSuper (name : Str) (p0 p1 apos pos : Pos) (env : Env) : Prop := ∃ pl, eval (.Call (.Attribute (.Call (.Name "super" p0) [] [] p1) name apos) [] [] pos) env = (do
      let ov ← attributeBase (.Call (.Name "super" p0) [] [] p1) name env (eval (.Call (.Name "super" p0) [] [] p1) env)
      standAt apos.atName
      let (fn, first) ← holding [ov] (getMethod ov name pl)
      callWith pos fn first (backTo pos (starEach [] env)) [])
section
variable {c : Cx} {A : Around} {μ : Mu} {K : Frag} {f L a cell d : Addr} {fd : FuncData} {body : List Stmt} {vs : List Value} {n : Nat} {od : Obj}
/-- super().name() -/
theorem sup_expr {s : Shared} {ι : Iota} {E : Value → Shared → Prop} {Q : Value → Shared → Prop} {m : Str → Option Value} {name : Str} {id ty gid bty : String} {B : Builtin} {p0 p1 apos pos : Pos} (O : c.Ok) (P : PilK c K) (D : DefS c f fd body cell) (I : Inv c s ι μ) (hns : s.heap.Ns L m) (hm : m "self" = some (.ref a))
    (IA : W.InstAt s.heap a (pilOf c.C d vs n) c.C (some od)) (Y : SupB id ty gid bty B) (hal : alongIn K name [.type "list", .type "object"] = some (some (.builtin id))) (hn : (name == ("__class__" : Str)) = false)
    (he : callsSuper name p0 p1 apos pos (callEnv fd L f))
    (hq : ∀ h' b, (∀ b o, s.heap.get? b = some o → h'.get? b = some o) → h'.get? b = some (bndObj bty id a) → wpAny (model c.prog c.w) A (call (.ref b) []) Q E { s with heap := h', toks := s.toks + 1 }) :
    _root_.PySem.wpAt (model c.prog c.w) A (.func body (callEnv fd L f)) (eval (.Call (.Attribute (.Call (.Name "super" p0) [] [] p1) name apos) [] [] pos) (callEnv fd L f)) Q E s := by
  obtain ⟨pl, he⟩ := he
  have X := P.here I
  obtain ⟨oc', od', cd, sl', hlk, hmro, hdict, hqn, _⟩ := P.cls
  have hcd : clsIn K c.C = some cd := by unfold clsIn; rw [hlk]
  obtain ⟨oC, hC1, hC2⟩ : ∃ oC, s.heap.get? c.C = some oC ∧ oC.data = .cls cd := ⟨_, X _ _ hlk, rfl⟩
  have hne : a ≠ c.C := ks_ne X IA hcd
  obtain ⟨cc, oc, cvs, t, file, t', ec, hcc, hcX, hcf, hv1, hv2, hfile⟩ := D.code
  obtain ⟨ar, har, har2⟩ := D.first
  obtain ⟨of, hof, hofd⟩ := D.fn.here I
  obtain ⟨ocl, hcl, hcld, hclX⟩ := D.cellAt
  have hcc' := I.old _ _ hcc hcX
  have hcl' := I.old _ _ hcl hclX
  obtain ⟨og, eg, pg, hg1, hg2⟩ := O.g
  obtain ⟨ob, eb, pb, hb1, hb2⟩ := O.b
  have hG : s.heap.Ns mainGlobals c.mg := ⟨og, eg, pg, I.old _ _ hg1 O.sX.2.1, hg2⟩
  have hB : s.heap.Ns builtinsNs c.mb := ⟨ob, eb, pb, I.old _ _ hb1 O.sX.2.2, hb2⟩
  have hgl : (callEnv fd L f).globals = mainGlobals := D.glo
  have hbl : (callEnv fd L f).builtins = builtinsNs := D.bi
  obtain ⟨hp, g, dr, tk, os⟩ := s
  refine ks_wpAt_MethodCall (pl := pl) ?_ he
  refine ks_wpAt_super_base (env := callEnv fd L f) (D.ks L) (D.kc L) hn rfl hof hofd har ec hcc' hcf hv2 hfile D.main ?_
  refine ks_loadName_global D.kind (D.ks L) (loadGlobal_builtin (env := callEnv fd L f) (by rw [hgl]; exact hG) P.gsup (by rw [hbl]; exact hB) P.bsup ⟨rfl, ?_⟩)
  refine wpAny_loadName_free (c := cell) D.kind (D.kc L) (by show List.lookup _ fd.closure = _; rw [D.clo]; rfl) ⟨_, hcl', hcld⟩ ?_
  refine wpAny_loadName_local D.kind (by rw [har2]; exact D.kself L) hns (by rw [har2]; exact hm) ?_
  refine ks_wpAny_isType_cls hC1 hC2 ⟨rfl, ?_⟩
  refine ks_wpAny_call_super hC1 hC2 IA.at_ rfl (fun c e => by cases e) (looks_mroIn X P.self) (fun h' e k => ?_)
  have IA' : W.InstAt h' a (pilOf c.C d vs n) c.C (some od) := ⟨k _ _ IA.at_, rfl, rfl, k _ _ IA.dict⟩
  have X' : K.In h' := fun b o q => k _ _ (X b o q)
  have hml : Looks (model c.prog c.w) h' (mroOf (.ref c.C)) [.ref c.C, .type "list", .type "object"] := by rw [← hmro]; exact (looks_clsIn X' hcd).andThen .now
  refine sup_method (l₀ := [.ref c.C, .type "list", .type "object"]) Y e (looks_opaque X' P.any) hml (by simp) X' hal (@looks_list c.prog c.w ⟨h', g, dr, tk, os⟩ K a c.C d vs n od X' IA' P.sub) hne hn ?_
  refine callWith_bnd (a := a) (Heap.get?_push_at rfl rfl) Y.bty ?_
  exact hq _ _ (fun b o q => Heap.get?_push_of_some _ (k b o q)) (Heap.get?_push_at rfl rfl)
end
end Mine
namespace Mine
section
variable {c : Cx} {A : Around} {μ : Mu} {K : Frag} {f L a cell d : Addr} {fd : FuncData} {body : List Stmt} {vs : List Value} {n : Nat} {od : Obj}
theorem DefS.codeRec {a : Addr} (D : DefS c a fd body cell) {s : Shared} {ι : Iota} (I : Inv c s ι μ) : s.heap.CodeRec fd.code fd.qualname := by
  obtain ⟨cc, o, vs, t, _, _, e1, e2, e3, e4, e5, _⟩ := D.code
  exact ⟨cc, o, vs, t, e1, I.old _ _ e2 e3, e4, e5⟩
/-- a call of a method that says super() -/
theorem WC.defS {f : Addr} {ps : List PV} {n : Nat} {K' : PV → Mu → Prop} {bs : List Value → List (Str × Value)} (O : c.Ok) (D : DefS c f fd body cell) (ao : AOk (n + 1) A)
    (hb : ∀ s ι vs, Inv c s ι μ → RepL s.heap ι ps vs → BindsTo s fd ⟨vs, []⟩ (bs vs)) (hloc : ∀ vs, ∀ x ∈ bs vs, fd.scope.names.lookup x.1 = some .local)
    (h : ∀ s₁ ι vs L A' E (Q : Flow → Shared → Prop), Inv c s₁ ι μ → RepL s₁.heap ι ps vs → s₁.heap.Ns L (fun x => (bs vs).reverse.lookup x) → (L ∉ ι ∧ L ∉ c.X ∧ c.hB.get? L = none) → AOk n A' →
      (∀ v s' ι' p μ', Step c s₁ ι s' ι' → Inv c s' ι' μ' → RepV s'.heap ι' p v → K' p μ' → Q (.ret v) s') → (∀ s' ι' μ', Step c s₁ ι s' ι' → Inv c s' ι' μ' → K' .none μ' → Q .next s') →
      _root_.PySem.wpAt (model c.prog c.w) A' (.func body (callEnv fd L f)) (execs body (callEnv fd L f)) Q E s₁) : WC c A (.ref f) ps μ K' := ⟨fun s ι E Q vs I r hQ => by
  obtain ⟨o, ho, hd⟩ := D.fn.here I
  refine wpAny_call (ks_codeAny_call_defAt (body := body) (binds := bs vs) (by have := ao.d; show A.depth < 1000; omega) ho hd (I.noLimit O) (D.codeRec I) D.body (hb s ι vs I r) D.cells (fun x hx => hloc vs x hx) (fun h₀ hn k => ?_) D.co D.gen D.kind)
  have g := I.grow O (s' := { s with heap := h₀, toks := s.toks + (bs vs).length }) k I.bare rfl (by have := I.tp; show 0 < s.toks + _; omega)
  exact h _ ι vs _ _ _ _ g.1 (I.repL O g.2 r) hn (I.fresh O (fresh_size _)) (ao.deeper _) (fun v s' ι' p μ' S I' rv k' => hQ v s' ι' p μ' (g.2.trans S) I' rv k') (fun s' ι' μ' S I' k' => hQ .none s' ι' .none μ' (g.2.trans S) I' (by simp only [RepV]) k')⟩
/-- a pile of the store -/
theorem Inv.pil {s : Shared} {ι : Iota} (I : Inv c s ι μ) {i : Nat} {k : Int} {its : List (Str × Str)} (hi : μ[i]? = some (.pil k its)) {v : Value} (r : RepV s.heap ι (.loc i) v) :
    ∃ a d vs n od, v = .ref a ∧ ι[i]? = some a ∧ W.InstAt s.heap a (pilOf c.C d vs n) c.C (some od) ∧ dictIs s.heap d k ∧ s.heap.get? d = some od ∧ c.hB.get? d = none ∧ RepL s.heap ι (its.map pairPV) vs ∧ vs.length = its.length := by
  simp only [RepV] at r
  obtain ⟨a, rfl, ha⟩ := r
  obtain ⟨d, vs, n, e, hd, hn, rl⟩ := I.mo i a _ ha hi
  obtain ⟨hsh, tk, tk', m, ed⟩ := hd
  exact ⟨a, d, vs, n, _, rfl, ha, ⟨e, rfl, rfl, ed⟩, ⟨hsh, tk, tk', m, ed⟩, ed, hn, rl, by have := RepL.length _ _ rl; simpa using this⟩

theorem pil_count {i : Nat} {k : Int} {its : List (Str × Str)} {K' : PV → Mu → Prop} {p0 p1 apos pos pr : Pos} (O : c.Ok) (P : PilK c K) (D : DefS c f fd [.Return (some (.Call (.Attribute (.Call (.Name "super" p0) [] [] p1) "__len__" apos) [] [] pos)) pr] cell) (ao : AOk 1 A)
    (he : ∀ L, callsSuper "__len__" p0 p1 apos pos (callEnv fd L f)) (hb : ∀ s v, BindsTo s fd ⟨[v], []⟩ [("self", v)]) (hloc : fd.scope.names.lookup ("self" : Str) = some .local) (hi : μ[i]? = some (.pil k its)) (hk : K' (.int its.length) μ) : WC c A (.ref f) [.loc i] μ K' := by
  refine WC.defS (bs := fun vs => match vs with | [v] => [("self", v)] | _ => []) (n := 0) O D ao (fun s ι vs I r => ?_) (fun vs x hx => ?_) fun s₁ ι vs L A' E Q I r hns hL ao' hQ hN => ?_
  · simp only [RepL] at r
    obtain ⟨v, _, rfl, r1, rfl⟩ := r
    exact hb s v
  · split at hx
    · rw [List.mem_singleton.mp hx]; exact hloc
    · cases hx
  · simp only [RepL] at r
    obtain ⟨v, _, rfl, r1, rfl⟩ := r
    obtain ⟨a, d, vs, m, od, rfl, ha, IA, hdi, hd, hdn, rl, hl⟩ := I.pil hi r1
    refine ks_wpAt_execs_cons (ks_wpAt_Return_some ?_)
    refine sup_expr O P D I hns rfl IA sup_len P.lLen (by decide) (he L) (fun h' b k hb' => ?_)
    have IA' : W.InstAt h' a (pilOf c.C d vs m) c.C (some od) := ⟨k _ _ IA.at_, rfl, rfl, k _ _ IA.dict⟩
    have g := I.grow O (s' := { s₁ with heap := h', toks := s₁.toks + 1 + 1 }) k I.bare rfl (by show 0 < s₁.toks + 1 + 1; omega)
    refine wpAny_mono (bnd_call (s := { s₁ with heap := h', toks := s₁.toks + 1 }) (a := a) (Q := fun v s' => v = .int vs.length (s₁.toks + 1) ∧ s' = { s₁ with heap := h', toks := s₁.toks + 1 + 1 }) hb' sup_len.bty F.slot_list_len.plain F.entry_list_len (fun {A P E} hp => by rw [cb_len]; exact wpAny_pure hp) (fun {A P E} hp => pil_len_body (s := { s₁ with heap := h', toks := s₁.toks + 1 }) IA' (hp _ _ ⟨rfl, rfl⟩))) (fun v s' hv => ?_) (fun _ _ z => z)
    obtain ⟨rfl, rfl⟩ := hv
    exact hQ _ _ ι (.int its.length) μ g.2 g.1 (by rw [hl]; simp only [RepV]; exact ⟨_, rfl⟩) hk
end
end Mine
namespace Mine
section
variable {c : Cx} {A : Around} {μ : Mu} {K : Frag} {f L a cell d : Addr} {fd : FuncData} {body : List Stmt} {vs : List Value} {n : Nat} {od : Obj}
theorem dictIs.other {h : Heap} {k : Int} (hd : dictIs h d k) (ho : h.get? d = some od) {name : Str} (hn : name ≠ "_initial_size") : lookIn name od = some none := by
  obtain ⟨hsh, tk, tk', m, e⟩ := hd
  rw [e] at ho; cases ho
  have : ((("_initial_size" : Str)) == name) = false := by simpa using fun q => hn q.symm
  simp [lookIn, List.find?, Value.isStr, DictEntry.refKey, this]
theorem dictIs.own {h : Heap} {k : Int} (hd : dictIs h d k) (ho : h.get? d = some od) : ∃ t, lookIn "_initial_size" od = some (some (.int k t)) := by
  obtain ⟨hsh, tk, tk', m, e⟩ := hd
  rw [e] at ho; cases ho
  refine ⟨tk', ?_⟩
  simp [lookIn, List.find?, Value.isStr]
theorem RepL.split {h : Heap} {ι : Iota} : ∀ {ps qs : List PV} {vs : List Value}, RepL h ι (ps ++ qs) vs → ∃ a b, vs = a ++ b ∧ RepL h ι ps a ∧ RepL h ι qs b
  | [], qs, vs, r => ⟨[], vs, rfl, by simp only [RepL], r⟩
  | p :: ps, qs, vs, r => by
    simp only [List.cons_append, RepL] at r
    obtain ⟨v, r', rfl, h1, h2⟩ := r
    obtain ⟨a, b, rfl, ha, hb⟩ := RepL.split h2
    exact ⟨v :: a, b, rfl, by simp only [RepL]; exact ⟨v, a, rfl, h1, ha⟩, hb⟩
/-- a method of the piles' class -/
theorem pil_getm {s : Shared} {ι : Iota} {E : Value → Shared → Prop} {name : Str} {m tm : Value} {k : Int} {pl : Sem Bool} {Q : Value × List Value → Shared → Prop} (P : PilK c K) (I : Inv c s ι μ) (IA : W.InstAt s.heap a (pilOf c.C d vs n) c.C (some od)) (hd : dictIs s.heap d k) (ho : s.heap.get? d = some od)
    (hf : findIn K (.ref c.C) name = some (some m)) (ht : typeIn K m = some tm) (htm : (tm != .type "function" && tm != .type "method_descriptor" && tm != .type "wrapper_descriptor") = false) (hn : name ≠ "_initial_size") (h : Q (m, [.ref a]) s) :
    wpAny (model c.prog c.w) A (getMethod (.ref a) name pl) Q E s :=
  pil_method (P.here I) IA P.ga P.gat hf ht htm (hd.other ho hn) h
/-- pop: the last one off -/
theorem pil_pops {i : Nat} {k0' : Int} {its : List (Str × Str)} {K' : PV → Mu → Prop} {ifp q0 p0 p1 apos pos pr bpos cpos tpos rpos ipos z1 z2 z3 : Pos} {k0 k1 k2 k3 : Nat} {fC : Addr} {fdC : FuncData} (O : c.Ok) (P : PilK c K)
    (D : DefS c f fd [.If (.Compare (.Call (.Attribute (.Name "self" q0) "part_count" bpos) [] [] cpos) [.Eq] [.Constant (.int 0) k0 z1] tpos) [.Return (some (.Tuple [.Constant (.str "") k1 z2, .Constant (.str "") k2 z3] k3 rpos)) ipos] [] ifp,
      .Return (some (.Call (.Attribute (.Call (.Name "super" p0) [] [] p1) "pop" apos) [] [] pos)) pr] cell) (ao : AOk 2 A)
    (he : ∀ L, callsSuper "pop" p0 p1 apos pos (callEnv fd L f)) (hm : ∀ L, callsMethod (.Name "self" q0) "part_count" bpos [] cpos (callEnv fd L f)) (hb : ∀ s v, BindsTo s fd ⟨[v], []⟩ [("self", v)]) (hloc : fd.scope.names.lookup ("self" : Str) = some .local)
    (hC : findIn K (.ref c.C) "part_count" = some (some (.ref fC))) (hCt : typeIn K (.ref fC) = some (.type "function")) (FC : FnAt c fC fdC) (hcnt : ∀ A', AOk 1 A' → WC c A' (.ref fC) [.loc i] μ fun p μ' => p = .int its.length ∧ μ' = μ)
    (hi : μ[i]? = some (.pil k0' its)) (hbd : its.length ≤ 1000000) (hk0 : its = [] → K' (.tup [.str "", .str ""]) μ) (hk : ∀ r x, its = r ++ [x] → K' (pairPV x) (μ.set i (.pil k0' r))) : WC c A (.ref f) [.loc i] μ K' := by
  refine WC.defS (bs := fun vs => match vs with | [v] => [("self", v)] | _ => []) (n := 1) O D ao (fun s ι vs I r => ?_) (fun vs x hx => ?_) fun s₁ ι vs L A' E Q I r hns hL ao' hQ hN => ?_
  · simp only [RepL] at r
    obtain ⟨v, _, rfl, r1, rfl⟩ := r
    exact hb s v
  · split at hx
    · rw [List.mem_singleton.mp hx]; exact hloc
    · cases hx
  · simp only [RepL] at r
    obtain ⟨v, _, rfl, r1, rfl⟩ := r
    obtain ⟨a, d, vs, m, od, rfl, ha, IA, hdi, hd, hdn, rl, hl⟩ := I.pil hi r1
    refine ks_wpAt_execs_cons (ks_wpAt_If (PySem.wpAt_of_wpAny ?_))
    refine wpAny_isTrue_Compare1 ?_ rfl
    obtain ⟨pl, hm⟩ := hm L
    refine PyProof.Rows.MethodCall_ ?_ hm
    refine wpAny_Name (wpAny_loadName_local D.kind (D.kself L) hns rfl ?_) (by decide)
    refine pil_getm P I IA hdi hd hC hCt (by decide) (by decide) ?_
    obtain ⟨o, eo, hod⟩ := FC.at'
    refine Calls.callWith_function (o := o) (fd := fdC) (PyProof.Rows.evalArgs_none ⟨⟨I.old _ _ eo FC.off, hod⟩, ?_⟩)
    refine (hcnt A' ao').run s₁ ι E _ [.ref a] I (by simp only [RepL]; exact ⟨_, _, rfl, r1, rfl⟩) fun v s₂ ι₂ p μ₂ S₂ I₂ r₂ k₂ => ?_
    obtain ⟨rfl, rfl⟩ := k₂
    simp only [RepV] at r₂
    obtain ⟨t₂, rfl⟩ := r₂
    refine wpAny_Constant_int ?_
    have g := toks_inv O I₂ (s₂.toks + 1)
    refine (WV.eq_int (c := c) (A := A') (a := its.length) (b := 0) (μ := μ₂) (K := fun p μ' => p = .bool ((its.length : Int) == 0) ∧ μ' = μ₂) ⟨rfl, rfl⟩).run _ ι₂ E _ [_, _] g.1 (by simp only [RepL, RepV]; exact ⟨_, _, rfl, ⟨_, rfl⟩, _, _, rfl, ⟨_, rfl⟩, rfl⟩) fun v s₃ ι₃ p μ₃ S₃ I₃ r₃ k₃ => ?_
    obtain ⟨rfl, rfl⟩ := k₃
    simp only [RepV] at r₃
    subst r₃
    have S13 : Step c s₁ ι s₃ ι₃ := (S₂.trans g.2).trans S₃
    refine wpAny_truthy_bool ?_
    cases hz : ((its.length : Int) == 0) with
    | true =>
      have he0 : its = [] := by simpa using hz
      refine ks_wpAt_execs_cons (ks_wpAt_Return_some (PySem.wpAt_of_wpAny ?_))
      refine wpAny_Tuple_spliced ?_
      rw [starEach_cons rfl, starEach_cons rfl]
      refine Calls.spliced_cons (wpAny_Constant_str (k := k1) (pos := z2) ?_)
      refine Calls.spliced_cons (wpAny_Constant_str (k := k2) (pos := z3) (Calls.spliced_nil ⟨by rw [sizeLine_eq]; simp, ?_⟩))
      have g1 := toks_inv O I₃ (s₃.toks + 1 + 1)
      have t := tup_new O g1.1 (ps := [.str "", .str ""]) (vs := [.str "" s₃.toks, .str "" (s₃.toks + 1)]) (by simp only [RepL, RepV]; exact ⟨_, _, rfl, ⟨_, rfl⟩, _, _, rfl, ⟨_, rfl⟩, rfl⟩)
      exact hQ _ _ ι₃ _ _ ((S13.trans g1.2).trans t.1) t.2.1 t.2.2 (hk0 he0)
    | false =>
      obtain ⟨a', d', vs', m', od', ea, ha', IA', hdi', hd', hdn', rl', hl'⟩ := I₃.pil hi (I.rep O S13 r1)
      cases ea
      have hne : its ≠ [] := by rintro rfl; simp at hz
      obtain ⟨r, x, rfl⟩ : ∃ r x, its = r ++ [x] := ⟨its.dropLast, its.getLast hne, (List.dropLast_concat_getLast hne).symm⟩
      rw [List.map_append] at rl'
      obtain ⟨vr, vw, rfl, rlr, rlw⟩ := RepL.split rl'
      simp only [List.map_cons, List.map_nil, RepL] at rlw
      obtain ⟨vx, _, rfl, rx, rfl⟩ := rlw
      have hnl : s₃.heap.Ns L (fun x => ([(("self" : Str), Value.ref a)] : List (Str × Value)).reverse.lookup x) := by
        obtain ⟨oL, es, ep, hL1, hL2⟩ := hns
        exact ⟨oL, es, ep, S13.keep _ _ hL1 hL.1 hL.2.1, hL2⟩
      refine PySem.wpAt_of_wpAny (wpAny_execs_nil ?_)
      refine ks_wpAt_execs_cons (ks_wpAt_Return_some ?_)
      refine sup_expr O P D I₃ hnl rfl IA' sup_pop P.lPop (by decide) (he L) (fun h' b k hb' => ?_)
      have IA2 : W.InstAt h' a (pilOf c.C d' (vr ++ [vx]) m') c.C (some od') := ⟨k _ _ IA'.at_, rfl, rfl, k _ _ IA'.dict⟩
      have X2 : K.In h' := fun b o q => k _ _ (P.here I₃ b o q)
      have hlr : vr.length = r.length := by have := RepL.length _ _ rlr; simpa using this
      obtain ⟨oc', odd', cd, sl', hlk, hmro, hdict, hqn, _⟩ := P.cls
      have hcd : clsIn K c.C = some cd := by unfold clsIn; rw [hlk]
      have hsz : (vr ++ [vx]).eraseIdx vr.length = vr := by rw [List.eraseIdx_append_of_length_le (Nat.le_refl _)]; simp
      have hup : (h'.update a (Obj.mapSeq fun xs => xs.eraseIdxIfInBounds vr.length)).get? a = some (pilOf c.C d' vr (m' + 1)) := by
        rw [Heap.get?_update_self _ IA2.at_ rfl]
        simp [Obj.mapSeq, hsz]
      have g := I₃.put O (i := i) (a := a) (m := .pil k0' r) ha' (s' := { s₃ with heap := h'.update a (Obj.mapSeq fun xs => xs.eraseIdxIfInBounds vr.length), toks := s₃.toks + 1 })
        (fun b o e hba => (Heap.get?_update_other _ _ (Ne.symm hba)).trans (k b o e)) ⟨_, hup⟩ (fun rv rl => ?_) I₃.bare rfl (by show 0 < s₃.toks + 1; omega)
      · refine wpAny_mono (bnd_call (s := { s₃ with heap := h', toks := s₃.toks + 1 }) (a := a) (Q := fun v s' => v = vx ∧ s' = { s₃ with heap := h'.update a (Obj.mapSeq fun xs => xs.eraseIdxIfInBounds vr.length), toks := s₃.toks + 1 }) hb' sup_pop.bty F.slot_list_pop.plain F.entry_list_pop (fun {A P E} hp => cb_pop (s := { s₃ with heap := h', toks := s₃.toks + 1 }) X2 IA2 ‹PilK c K›.mod hcd hqn ‹PilK c K›.typ hp) (fun {A P E} hp => pil_pop_body (s := { s₃ with heap := h', toks := s₃.toks + 1 }) IA2 (by rw [hlr]; simp at hbd; omega) (hp _ _ ⟨rfl, rfl⟩))) (fun v s' hv => ?_) (fun _ _ z => z)
        obtain ⟨rfl, rfl⟩ := hv
        exact hQ _ _ ι₃ _ _ (S13.trans g.2) g.1 (I₃.rep O g.2 rx) (hk r x rfl)
      · obtain ⟨hsh, tk, tk', mm, ed⟩ := hdi'
        refine ⟨d', vr, m' + 1, hup, ⟨hsh, tk, tk', mm, ?_⟩, hdn', rl _ _ rlr⟩
        refine (Heap.get?_update_other _ _ (fun q => ?_)).trans (k _ _ ed)
        subst q
        have := IA'.at_
        rw [ed] at this; cases this
end
end Mine
namespace Mine
section
variable {c : Cx} {A : Around} {μ : Mu} {K : Frag} {f L a cell d : Addr} {fd : FuncData} {body : List Stmt} {vs : List Value} {n : Nat} {od : Obj}
/-- a new pile -/
theorem pil_new (O : c.Ok) {s s' : Shared} {ι : Iota} {n : Nat} {q : Int} (I : Inv c s ι μ) (hD : s.heap.get? a = .none) (e : s'.heap.get? a = some (pilOf c.C d [] n)) (hd : dictIs s'.heap d q) (hdn : c.hB.get? d = none) (k : ∀ b o, s.heap.get? b = some o → s'.heap.get? b = some o) (hg : AllBare s'.gens) (ho : s'.os = s.os) (htk : 0 < s'.toks) :
    Step c s ι s' (ι ++ [a]) ∧ Inv c s' (ι ++ [a]) (μ ++ [.pil q []]) ∧ RepV s'.heap (ι ++ [a]) (.loc μ.length) (.ref a) := by
  have S : Step c s ι s' (ι ++ [a]) := ⟨fun b o e _ _ => k b o e, fun b o e => ⟨o, k b o e⟩, [a], rfl, fun b hb => by rw [List.mem_singleton.mp hb]; exact hD⟩
  have fr := I.fresh O hD
  refine ⟨S, ⟨fun b o e hX => k _ _ (I.old b o e hX), fun b hb => ?_, by simp [I.len], ?_, fun i b m hi hm => ?_, O.tk _ _ I.tab fun b o e _ _ => k b o e, hg, ho.trans I.os, htk⟩, ?_⟩
  · rcases List.mem_append.mp hb with h | h
    · exact I.new b h
    · rw [List.mem_singleton.mp h]; exact fr.2.2
  · rw [List.nodup_append]
    refine ⟨I.nodup, by simp, fun x hx b hb q => ?_⟩
    rw [List.mem_singleton.mp hb] at q
    exact fr.1 (q ▸ hx)
  · by_cases hl : i < ι.length
    · rw [List.getElem?_append_left hl] at hi
      rw [List.getElem?_append_left (by rw [← I.len]; exact hl)] at hm
      have x := I.mo i b m hi hm
      cases m with
      | lst ps => obtain ⟨vs, n, e, r⟩ := x; exact ⟨vs, n, k _ _ e, I.repL O S r⟩
      | pil q its =>
        obtain ⟨d, vs, n, e, ⟨hsh, tk, tk', m', ed⟩, hn, r⟩ := x
        exact ⟨d, vs, n, k _ _ e, ⟨hsh, tk, tk', m', k _ _ ed⟩, hn, I.repL O S r⟩
    · have hi' : i = ι.length := by
        have := (List.getElem?_eq_some_iff.mp hi).1
        simp at this; omega
      subst hi'
      simp at hi
      have hm' : (MO.pil q []) = m := by
        rw [List.getElem?_append_right (by rw [I.len]; exact Nat.le_refl _)] at hm
        simpa [I.len] using hm
      subst hi hm'
      exact ⟨d, [], n, e, hd, hdn, by simp only [List.map_nil, RepL]⟩
  · simp only [RepV]
    exact ⟨a, rfl, by rw [← I.len]; simp⟩
/-- the class called -/
theorem pil_make {ps : List PV} {k : Int} {K' : PV → Mu → Prop} {q0 q1 q2 q3 q4 p0 p1 apos pos : Pos} {fI : Addr} {vI : List Value → Value} (O : c.Ok) (P : PilK c K)
    (D : DefS c fI fd [.Assign [.Attribute (.Name "self" q0) "_initial_size" q1] (.Name "initial_size" q2) q3, .Expr (.Call (.Attribute (.Call (.Name "super" p0) [] [] p1) "__init__" apos) [] [] pos) q4] cell) (ao : AOk 2 A)
    (he : ∀ L, callsSuper "__init__" p0 p1 apos pos (callEnv fd L fI)) (hb : ∀ s ι vs v, Inv c s ι μ → RepL s.heap ι ps vs → BindsTo s fd ⟨v :: vs, []⟩ [(("self" : Str), v), (("initial_size" : Str), vI vs)])
    (hvI : ∀ h ι vs, RepL h ι ps vs → ∃ t, vI vs = .int k t) (hl1 : fd.scope.names.lookup ("self" : Str) = some .local) (hl2 : fd.scope.names.lookup ("initial_size" : Str) = some .local) (hk2 : ∀ L, (callEnv fd L fI).kindOf "initial_size" = some .local)
    (hint : ∀ L, interactive (callEnv fd L fI) = false) (hsw : ∀ L, swapsWith (.Call (.Attribute (.Call (.Name "super" p0) [] [] p1) "__init__" apos) [] [] pos) none q4.line (callEnv fd L fI) = pure false) (hsa : ∀ L, swapsWith (.Name "initial_size" q2) (some (.Attribute (.Name "self" q0) "_initial_size" q1)) q3.line (callEnv fd L fI) = pure false)
    (hi : findIn K (.ref c.C) "__init__" = some (some (.ref fI))) (hft : typeIn K (.ref fI) = some (.type "function"))
    (hk : K' (.loc μ.length) (μ ++ [.pil k []])) : WC c A (.ref c.C) ps μ K' := ⟨fun s ι E Q vs I r hQ => by
  have X := P.here I
  obtain ⟨oc', od', cd, sl', hlk, hmro, hdict, hqn, hab, hdel, hs4⟩ := P.cls
  have hcd : clsIn K c.C = some cd := by unfold clsIn; rw [hlk]
  obtain ⟨t, hvt⟩ := hvI _ _ _ r
  obtain ⟨hp, g, dr, tk, os⟩ := s
  refine wpAny_call (make_L (makesL_of X hlk hab hdel hs4 hmro P.call P.inst) X hi hft ?_)
  generalize hA2 : A.under (.builtin "type.__call__" ⟨.ref c.C :: vs, []⟩) = A2
  have hA3 : AOk 1 A2 := by
    rw [← hA2]
    exact ⟨ao.h, by have := ao.d; show A.depth + 1 + 1 < 900; omega, by have := ao.u; show A.units + _ + 20 * 1 < 9000; have e : (Code.builtin "type.__call__" ⟨.ref c.C :: vs, []⟩).frames = 0 := rfl; simp only [Code.cUnits, e]; omega⟩
  have k0 : ∀ b o, hp.get? b = some o → ((hp.push emptyDict).push (pilOf c.C hp.objs.size [] 0)).get? b = some o := fun b o e => Heap.get?_push_of_some _ (Heap.get?_push_of_some _ e)
  have g0 := I.grow O (s' := ⟨(hp.push emptyDict).push (pilOf c.C hp.objs.size [] 0), g, dr, tk, os⟩) k0 I.bare rfl I.tp
  obtain ⟨of, hof, hofd⟩ := D.fn.here g0.1
  have hz : (hp.push emptyDict).objs.size = hp.objs.size + 1 := Heap.size_push ..
  have ha0 : ((hp.push emptyDict).push (pilOf c.C hp.objs.size [] 0)).get? (hp.objs.size + 1) = some (pilOf c.C hp.objs.size [] 0) := by
    rw [← hz]; exact Heap.get?_push_size _ rfl
  have hd0 : ((hp.push emptyDict).push (pilOf c.C hp.objs.size [] 0)).get? hp.objs.size = some emptyDict := Heap.get?_push_of_some _ (Heap.get?_push_size _ rfl)
  refine ks_codeAny_call_defAt (binds := [(("self" : Str), Value.ref (hp.objs.size + 1)), (("initial_size" : Str), vI vs)]) (by have := hA3.d; show A2.depth < 1000; omega) hof hofd (g0.1.noLimit O) (D.codeRec g0.1) D.body (hb _ ι vs _ g0.1 (I.repL O g0.2 r)) D.cells (fun x hx => ?_) (fun h₀ hn kk => ?_) D.co D.gen D.kind
  · rcases List.mem_cons.mp hx with rfl | hx
    · exact hl1
    · rw [List.mem_singleton.mp hx]; exact hl2
  · generalize hS0 : ({ heap := (hp.push emptyDict).push (pilOf c.C hp.objs.size [] 0), gens := g, drawn := dr, toks := tk, os := os } : Shared) = s0 at *
    generalize hL : s0.heap.objs.size = L at *
    have hLz : L = hp.objs.size + 2 := by rw [← hL, ← hS0, Heap.size_push, hz]
    have kk' : ∀ b o, ((hp.push emptyDict).push (pilOf c.C hp.objs.size [] 0)).get? b = some o → h₀.get? b = some o := by rw [← hS0] at kk; exact kk
    have a1 := kk' _ _ ha0
    have d1 := kk' _ _ hd0
    have X1 : K.In h₀ := fun b o q => kk' _ _ (k0 _ _ (X b o q))
    subst hS0
    have IA1 : W.InstAt h₀ (hp.objs.size + 1) (pilOf c.C hp.objs.size [] 0) c.C (some emptyDict) := ⟨a1, rfl, rfl, d1⟩
    refine ks_wpAt_execs_cons (ks_wpAt_Assign_Attr (PySem.wpAt_of_wpAny ?_) (hsa L))
    refine wpAny_Name (wpAny_loadName_local D.kind (hk2 L) hn (v := vI vs) rfl ?_) (by decide)
    refine wpAny_Name (wpAny_loadName_local D.kind (D.kself L) hn (v := .ref (hp.objs.size + 1)) rfl ?_) (by decide)
    refine pil_set X1 IA1 P.seta hcd hmro hdict P.ini ?_
    obtain ⟨tv, hvt⟩ : ∃ t, vI vs = .int k t := ⟨t, hvt⟩
    rw [hvt]
    dsimp only
    generalize hkey : PyData.keyHash c.w.params ("_initial_size" : Str) = hsh
    generalize hT : (tk + ([(("self" : Str), Value.ref (hp.objs.size + 1)), (("initial_size" : Str), Value.int k tv)] : List (Str × Value)).length + 1) = t1
    have d2 : (h₀.update hp.objs.size (Obj.putName "_initial_size" hsh (.str "_initial_size" t1) (.int k tv))).get? hp.objs.size = some { cls := .type "dict", dict := none, data := .dict #[⟨hsh, .str "_initial_size" t1, .int k tv⟩] 1, slots := #[] } := by
      rw [Heap.get?_update_self _ d1 rfl]
      rfl
    generalize hh2 : h₀.update hp.objs.size (Obj.putName "_initial_size" hsh (.str "_initial_size" t1) (.int k tv)) = h2 at d2
    have k2 : ∀ b o, b ≠ hp.objs.size → h₀.get? b = some o → h2.get? b = some o := fun b o hb e => by rw [← hh2]; exact (Heap.get?_update_other _ _ (Ne.symm hb)).trans e
    have fz := fresh_size hp
    have ks2 : ∀ b o, hp.get? b = some o → h2.get? b = some o := fun b o e => k2 b o (fun q => by rw [q, fz] at e; cases e) (kk' _ _ (k0 _ _ e))
    have g2 := I.grow O (s' := ⟨h2, g, dr, tk + ([(("self" : Str), Value.ref (hp.objs.size + 1)), (("initial_size" : Str), Value.int k tv)] : List (Str × Value)).length + 2, os⟩) ks2 I.bare rfl (by show 0 < tk + _ + 2; omega)
    have hn2 : h2.Ns L (fun x => ([(("self" : Str), Value.ref (hp.objs.size + 1)), (("initial_size" : Str), vI vs)] : List (Str × Value)).reverse.lookup x) := by
      obtain ⟨oL, es, ep, hL1, hL2⟩ := hn
      exact ⟨oL, es, ep, k2 _ _ (by omega) hL1, hL2⟩
    have a2 := k2 _ _ (by omega) a1
    have IA2 : W.InstAt h2 (hp.objs.size + 1) (pilOf c.C hp.objs.size [] 0) c.C (some _) := ⟨a2, rfl, rfl, d2⟩
    refine ks_wpAt_execs_cons (ks_wpAt_Expr_any ?_ (hint L) (hsw L))
    refine sup_expr O P D g2.1 hn2 rfl IA2 sup_init P.lInit (by decide) (he L) (fun h' b k3 hb' => ?_)
    dsimp only at k3 hb' ⊢
    have IA3 : W.InstAt h' (hp.objs.size + 1) (pilOf c.C hp.objs.size [] 0) c.C (some _) := ⟨k3 _ _ a2, rfl, rfl, k3 _ _ d2⟩
    generalize hT2 : tk + ([(("self" : Str), Value.ref (hp.objs.size + 1)), (("initial_size" : Str), Value.int k tv)] : List (Str × Value)).length + 2 + 1 = t2
    have hup : (h'.update (hp.objs.size + 1) (Obj.mapSeq fun _ => #[])).get? (hp.objs.size + 1) = some (pilOf c.C hp.objs.size [] 0) := by
      rw [Heap.get?_update_self _ IA3.at_ rfl]
      rfl
    refine wpAny_mono (bnd_call (s := ⟨h', g, dr, t2, os⟩) (a := hp.objs.size + 1) (Q := fun v s' => s' = ⟨h'.update (hp.objs.size + 1) (Obj.mapSeq fun _ => #[]), g, dr, t2, os⟩) hb' sup_init.bty F.slot_list_init.plain F.entry_list_init (fun {A P E} hp => by rw [cb_init]; exact wpAny_pure hp) (fun {A P E} hp => pil_init_body IA3 (hp _ _ rfl))) (fun v s' hv => ?_) (fun _ _ z => z)
    subst hv
    refine PySem.wpAt_of_wpAny (wpAny_execs_nil ⟨rfl, ?_⟩)
    have fa : hp.get? (hp.objs.size + 1) = none := by
      cases q : hp.get? (hp.objs.size + 1) with
      | none => rfl
      | some o => exact absurd (Heap.lt_size q) (Nat.not_lt_of_le (Nat.le_succ _))
    have f := pil_new (d := hp.objs.size) O (s' := ⟨h'.update (hp.objs.size + 1) (Obj.mapSeq fun _ => #[]), g, dr, t2, os⟩) (q := k) I fa hup ⟨hsh, t1, tv, 1, (Heap.get?_update_other _ _ (Nat.succ_ne_self _)).trans (k3 _ _ d2)⟩ (I.fresh O fz).2.2 (fun b o e => (Heap.get?_update_other _ _ (fun q => by rw [← q, fa] at e; cases e)).trans (k3 _ _ (ks2 _ _ e))) I.bare rfl (by show 0 < t2; rw [← hT2]; exact Nat.succ_pos _)
    exact hQ _ _ _ _ _ f.1 f.2.1 f.2.2 hk⟩
end
end Mine
namespace Mine
section
variable {c : Cx} {A : Around} {μ : Mu} {K : Frag} {env : Env} {ρ : Rho} {f L a cell d : Addr} {fd : FuncData} {vs : List Value} {n : Nat} {od : Obj}
theorem subTail_pil {value : Expr} {lo hi : Option Expr} {p : Pos} {i : Value} {s : Shared} {ι : Iota} {E Q : Value → Shared → Prop} (P : PilK c K) (I : Inv c s ι μ) (IA : W.InstAt s.heap a (pilOf c.C d vs n) c.C (some od)) (h : wpAny (model c.prog c.w) A (getItem (.ref a) i) Q E s) :
    wpAny (model c.prog c.w) A (subscriptTail value (.Slice lo hi .none p) (.ref a) i) Q E s := by
  have X := P.here I
  have fin : ∀ b, wpAny (model c.prog c.w) A (subscripted (.Slice lo hi .none p) b (.ref a) i) (fun r s₃ => wpAny (model c.prog c.w) A (letTemporaryGo value (.ref a) r >>= fun _ => pure r) Q E s₃) E s := by
    intro b
    show wpAny _ _ (operate [i, .ref a] (getItem (.ref a) i)) _ _ _
    exact wpAny_operating (wpAny_mono h (fun r s₃ h₃ => wpAny_bind (wpAny_letTemporaryGo (wpAny_pure h₃))) fun _ _ x => x)
  unfold subscriptTail
  refine wpAny_bind ?_
  unfold getitemInPython specialOf
  refine wpAny_bind (wpAny_bind (IA.type.here ((looks_findIn X P.geti).here ?_)))
  exact wpAny_pure (wpAny_bind (fin _))
/-- self[lo:hi] of a pile: a plain list of its pairs -/
theorem WE.pslice {value : Expr} {lo hi : Option Expr} {p pos : Pos} {K' : PV → Mu → Prop} (O : c.Ok) (P : PilK c K)
    (h : WE c A value env ρ μ fun b μ₁ => WPart c A lo env ρ μ₁ fun l μ₂ => WPart c A hi env ρ μ₂ fun u μ₃ => ∃ i k its, b = .loc i ∧ μ₃[i]? = some (.pil k its) ∧ its.length ≤ 1000000 ∧ K' (.loc μ₃.length) (μ₃ ++ [.lst (cutL (its.map pairPV) l u)])) : WE c A (.Subscript value (.Slice lo hi .none p) pos) env ρ μ K' := ⟨fun s ι E Q I V hQ => by
  refine PyProof.Rows.Subscript_ (h.run s ι E _ I V fun o s₁ ι₁ b μ₁ S₁ I₁ r₁ k₁ => ?_)
  refine wpAny_Slice (k₁.run s₁ ι₁ E _ I₁ (V.step O I S₁) fun vl s₂ ι₂ l μ₂ S₂ I₂ r₂ k₂ => ?_)
  refine k₂.run s₂ ι₂ E _ I₂ (V.step O I (S₁.trans S₂)) fun vu s₃ ι₃ u μ₃ S₃ I₃ r₃ k₃ => ?_
  refine wpAny_evalPart_none ?_
  obtain ⟨i, k, its, rfl, hi, hx, k₄⟩ := k₃
  have g := I₃.grow O (s' := { s₃ with heap := s₃.heap.push { cls := .type "slice", data := .fields #[vl, vu, .none] } }) (fun b o e => Heap.get?_push_of_some _ e) I₃.bare rfl I₃.tp
  have r₁' := (I₁.rep O ((S₂.trans S₃).trans g.2) r₁)
  obtain ⟨a, d, vs, m, od, rfl, ha, IA, hdi, hd, hdn, rl, hl⟩ := g.1.pil hi r₁'
  refine subTail_pil P g.1 IA ?_
  have t := lst_new O g.1 (rl.cut l u) (h' := (s₃.heap.push { cls := .type "slice", data := .fields #[vl, vu, .none] }).push (lstOf (cutL vs l u) 0)) (D := s₃.heap.objs.size + 1) (n := 0) (tk := s₃.toks) (by
      have := fresh_size (s₃.heap.push { cls := .type "slice", data := .fields #[vl, vu, .none] })
      simpa [Heap.push] using this) (by
      have := Heap.get?_push_size (s₃.heap.push { cls := .type "slice", data := .fields #[vl, vu, .none] }) (o := lstOf (cutL vs l u) 0) rfl
      simpa [Heap.push] using this) (fun b o e => Heap.get?_push_of_some _ e) I₃.tp
  refine pil_slice (P.here g.1) IA P.sub P.seq P.geti ⟨_, Heap.get?_push_size _ rfl, rfl, rfl⟩ r₂.isPart r₃.isPart (by rw [hl]; exact hx) ?_
  rw [cutL_pick]
  have := hQ _ _ _ _ _ ((((S₁.trans S₂).trans S₃).trans g.2).trans t.1) t.2.1 t.2.2 k₄
  simpa [Heap.push, lstOf] using this⟩
variable {KS : PF → Rho → Mu → Prop}
/-- self[n:] = [] -/
theorem WS.pcut {o v lo : Expr} {p pos' pos : Pos} (O : c.Ok) (P : PilK c K) (hsw : swapsWith v (some (.Subscript o (.Slice (.some lo) .none .none p) pos')) pos.line env = pure false)
    (h : WE c A v env ρ μ fun q μ₁ => WE c A o env ρ μ₁ fun b μ₂ => WE c A lo env ρ μ₂ fun l μ₃ => ∃ j i k its m, q = .loc j ∧ μ₃[j]? = some (.lst []) ∧ b = .loc i ∧ μ₃[i]? = some (.pil k its) ∧ l = .int (m : Nat) ∧ m ≤ its.length ∧ its.length ≤ 1000000 ∧ KS .next ρ (μ₃.set i (.pil k (its.take m)))) : WS c A (.Assign [.Subscript o (.Slice (.some lo) .none .none p) pos'] v pos) env ρ μ KS := ⟨fun s ι E Q I V hQ => by
  refine wpAny_Assign_Subscript (h.run s ι E _ I V fun ov s₁ ι₁ q μ₁ S₁ I₁ r₁ k₁ => ?_) hsw
  refine k₁.run s₁ ι₁ E _ I₁ (V.step O I S₁) fun bv s₂ ι₂ b μ₂ S₂ I₂ r₂ k₂ => ?_
  refine wpAny_Slice (wpAny_evalPart_some (k₂.run s₂ ι₂ E _ I₂ (V.step O I (S₁.trans S₂)) fun lv s₃ ι₃ l μ₃ S₃ I₃ r₃ k₃ => ?_))
  refine wpAny_evalPart_none (wpAny_evalPart_none ?_)
  obtain ⟨j, i, k, its, m, rfl, hj, rfl, hi, rfl, hm, hx, k₄⟩ := k₃
  simp only [RepV] at r₃
  obtain ⟨t, rfl⟩ := r₃
  have g := I₃.grow O (s' := { s₃ with heap := s₃.heap.push { cls := .type "slice", data := .fields #[.int m t, .none, .none] } }) (fun b o e => Heap.get?_push_of_some _ e) I₃.bare rfl I₃.tp
  obtain ⟨a, d, vs, n, od, rfl, ha, IA, hdi, hd, hdn, rl, hl⟩ := g.1.pil hi (I₂.rep O (S₃.trans g.2) r₂)
  obtain ⟨la, lvs, ln, rfl, hla, ela, rla⟩ := g.1.lst hj (I₁.rep O ((S₂.trans S₃).trans g.2) r₁)
  simp only [RepL] at rla
  subst rla
  have hne : la ≠ a := fun q => by
    have := IA.at_
    rw [← q] at this
    rw [ela] at this; cases this
  refine pil_cut (P.here g.1) IA P.sub P.seq P.seti ⟨_, Heap.get?_push_size _ rfl, rfl, rfl⟩ hne ⟨_, ela, rfl, _, rfl⟩ (by rw [hl]; exact hm) (by rw [hl]; exact hx) ?_
  have hev : (vs.toArray.extract 0 m ++ #[] ++ vs.toArray.extract vs.length vs.toArray.size) = (vs.take m).toArray := by
    apply Array.ext'
    simp
  obtain ⟨n', hup⟩ : ∃ n', ((s₃.heap.push { cls := .type "slice", data := .fields #[.int m t, .none, .none] }).update a (Obj.mapSeq fun xs => xs.extract 0 m ++ #[] ++ xs.extract vs.length xs.size)).get? a = some (pilOf c.C d (vs.take m) n') := by
    rw [Heap.get?_update_self _ IA.at_ rfl]
    unfold Obj.mapSeq
    dsimp only
    rw [hev]
    exact ⟨_, rfl⟩
  have tk' : ∀ {h : Heap} {ι : Iota} (ps : List PV) (vs : List Value) (m : Nat), RepL h ι ps vs → RepL h ι (ps.take m) (vs.take m) := by
    intro h ι ps
    induction ps with
    | nil => intro vs m r; simp only [RepL] at r; subst r; simp only [List.take_nil, RepL]
    | cons p ps ih =>
      intro vs m r
      simp only [RepL] at r
      obtain ⟨v, r', rfl, h1, h2⟩ := r
      cases m with
      | zero => simp only [List.take_zero, RepL]
      | succ m => simp only [List.take_succ_cons, RepL]; exact ⟨v, _, rfl, h1, ih _ _ h2⟩
  have g2 := g.1.put O (i := i) (a := a) (m := .pil k (its.take m)) ha (s' := { s₃ with heap := (s₃.heap.push { cls := .type "slice", data := .fields #[.int m t, .none, .none] }).update a (Obj.mapSeq fun xs => xs.extract 0 m ++ #[] ++ xs.extract vs.length xs.size) })
    (fun b o e hba => (Heap.get?_update_other _ _ (Ne.symm hba)).trans e) ⟨_, hup⟩ (fun rv rl' => by
      obtain ⟨hsh, tk, tk2, mm, ed⟩ := hdi
      refine ⟨d, vs.take m, n', hup, ⟨hsh, tk, tk2, mm, (Heap.get?_update_other _ _ (fun q => ?_)).trans ed⟩, hdn, by rw [List.map_take]; exact tk' _ _ m (rl' _ _ rl)⟩
      subst q
      have := IA.at_
      rw [ed] at this; cases this) I₃.bare rfl I₃.tp
  exact hQ _ _ ι₃ .next ρ _ (((S₁.trans S₂).trans S₃).trans (g.2.trans g2.2)).f g2.1 ((((V.step O I S₁).step O I₁ S₂).step O I₂ S₃).step O I₃ (g.2.trans g2.2)) rfl k₄⟩
end
end Mine
namespace Mine
section
variable {c : Cx} {A : Around} {μ : Mu} {K : Frag} {env : Env} {ρ : Rho}
def PilIs (μ : Mu) (p : PV) : Prop := ∃ i k its, p = .loc i ∧ μ[i]? = some (.pil k its)
/-- a method of the piles' class, given in the text, called -/
theorem WE.pmeth {o : Expr} {name : Str} {apos pos : Pos} {e : Expr} {es : List Expr} {fa : Addr} {fd : FuncData} {K' : PV → Mu → Prop} (O : c.Ok) (P : PilK c K) (hf : findIn K (.ref c.C) name = some (some (.ref fa))) (ht : typeIn K (.ref fa) = some (.type "function")) (hn : name ≠ "_initial_size") (F : FnAt c fa fd)
    (h : WE c A o env ρ μ fun p μ₁ => PilIs μ₁ p ∧ WEs c A (e :: es) env ρ μ₁ fun ps μ₂ => WC c A (.ref fa) (p :: ps) μ₂ K') (hs : (e :: es).all notStar = true) (hc : callsMethod o name apos (e :: es) pos env) : WE c A (.Call (.Attribute o name apos) (e :: es) [] pos) env ρ μ K' := ⟨fun s ι E Q I V hQ => by
  obtain ⟨pl, hc⟩ := hc
  refine PyProof.Rows.MethodCall_ (h.run s ι E _ I V fun ov s₁ ι₁ p μ₁ S₁ I₁ r₁ k₁ => ?_) hc
  obtain ⟨⟨i, k, its, rfl, hi⟩, k₁⟩ := k₁
  obtain ⟨a, d, vs, n, od, rfl, ha, IA, hdi, hd, hdn, rl, hl⟩ := I₁.pil hi r₁
  refine pil_getm P I₁ IA hdi hd hf ht (by decide) hn ?_
  obtain ⟨ob, eo, hod⟩ := F.at'
  refine Calls.callWith_function (o := ob) (fd := fd) (first := [.ref a]) (k₁.args hs I₁ (V.step O I S₁) fun vs s₂ ι₂ ps μ₂ S₂ I₂ r₂ k₂ => ⟨⟨I₂.old _ _ eo F.off, hod⟩, ?_⟩)
  exact k₂.run s₂ ι₂ E Q (.ref a :: vs) I₂ (by simp only [RepL]; exact ⟨_, _, rfl, I₁.rep O S₂ r₁, r₂⟩) fun v s₃ ι₃ q μ₃ S₃ I₃ r₃ k₃ => hQ v s₃ ι₃ q μ₃ ((S₁.trans S₂).trans S₃) I₃ r₃ k₃⟩
theorem WE.pmeth0 {o : Expr} {name : Str} {apos pos : Pos} {fa : Addr} {fd : FuncData} {K' : PV → Mu → Prop} (O : c.Ok) (P : PilK c K) (hf : findIn K (.ref c.C) name = some (some (.ref fa))) (ht : typeIn K (.ref fa) = some (.type "function")) (hn : name ≠ "_initial_size") (F : FnAt c fa fd)
    (h : WE c A o env ρ μ fun p μ₁ => PilIs μ₁ p ∧ WC c A (.ref fa) [p] μ₁ K') (hc : callsMethod o name apos [] pos env) : WE c A (.Call (.Attribute o name apos) [] [] pos) env ρ μ K' := ⟨fun s ι E Q I V hQ => by
  obtain ⟨pl, hc⟩ := hc
  refine PyProof.Rows.MethodCall_ (h.run s ι E _ I V fun ov s₁ ι₁ p μ₁ S₁ I₁ r₁ k₁ => ?_) hc
  obtain ⟨⟨i, k, its, rfl, hi⟩, k₁⟩ := k₁
  obtain ⟨a, d, vs, n, od, rfl, ha, IA, hdi, hd, hdn, rl, hl⟩ := I₁.pil hi r₁
  refine pil_getm P I₁ IA hdi hd hf ht (by decide) hn ?_
  obtain ⟨ob, eo, hod⟩ := F.at'
  refine Calls.callWith_function (o := ob) (fd := fd) (first := [.ref a]) (PyProof.Rows.evalArgs_none ⟨⟨I₁.old _ _ eo F.off, hod⟩, ?_⟩)
  exact k₁.run s₁ ι₁ E Q [.ref a] I₁ (by simp only [RepL]; exact ⟨_, _, rfl, r₁, rfl⟩) fun v s₃ ι₃ q μ₃ S₃ I₃ r₃ k₃ => hQ v s₃ ι₃ q μ₃ (S₁.trans S₃) I₃ r₃ k₃⟩
/-- self.append(x) -/
theorem WE.pappend {o e : Expr} {apos pos : Pos} {K' : PV → Mu → Prop} (O : c.Ok) (P : PilK c K)
    (h : WE c A o env ρ μ fun p μ₁ => PilIs μ₁ p ∧ WE c A e env ρ μ₁ fun q μ₂ => ∃ i k its x, p = .loc i ∧ q = pairPV x ∧ μ₂[i]? = some (.pil k its) ∧ its.length ≤ 1000000 ∧ K' .none (μ₂.set i (.pil k (its ++ [x])))) (hs : notStar e = true) (hc : callsMethod o "append" apos [e] pos env) : WE c A (.Call (.Attribute o "append" apos) [e] [] pos) env ρ μ K' := ⟨fun s ι E Q I V hQ => by
  obtain ⟨pl, hc⟩ := hc
  refine PyProof.Rows.MethodCall_ (h.run s ι E _ I V fun ov s₁ ι₁ p μ₁ S₁ I₁ r₁ k₁ => ?_) hc
  obtain ⟨⟨i, k, its, rfl, hi⟩, k₁⟩ := k₁
  obtain ⟨a, d, vs, n, od, rfl, ha, IA, hdi, hd, hdn, rl, hl⟩ := I₁.pil hi r₁
  refine pil_getm P I₁ IA hdi hd P.app P.appT (by decide) (by decide) ?_
  refine callWith_bi (first := [.ref a]) (K := fun ps μ₂ => ∃ i' k its x, PV.loc i = .loc i' ∧ ps = [pairPV x] ∧ μ₂[i']? = some (.pil k its) ∧ its.length ≤ 1000000 ∧ K' .none (μ₂.set i' (.pil k (its ++ [x]))))
    (WEs.cons O (k₁.mono fun q μ₂ h => WEs.nil (by obtain ⟨i', k, its, x, e1, rfl, e3⟩ := h; exact ⟨i', k, its, x, e1, rfl, e3⟩)) hs) (by simp [hs]) I₁ (V.step O I S₁) fun vs' s₂ ι₂ ps μ₂ S₂ I₂ r₂ k₂ => ?_
  obtain ⟨i', k', its', x, e1, rfl, hi', hx, k₂⟩ := k₂
  cases e1
  simp only [RepL] at r₂
  obtain ⟨xv, _, rfl, rx, rfl⟩ := r₂
  obtain ⟨a', d', vs', m', od', ea, ha', IA', hdi', hd', hdn', rl', hl'⟩ := I₂.pil hi' (I₁.rep O S₂ r₁)
  cases ea
  refine pil_append (P.here I₂) IA' P.sub (by rw [hl']; exact hx) ?_
  have hup : (s₂.heap.update a (Obj.mapSeq fun xs => xs.push xv)).get? a = some (pilOf c.C d' (vs' ++ [xv]) (m' + 1)) := by
    rw [Heap.get?_update_self _ IA'.at_ rfl]
    simp [Obj.mapSeq]
  have g2 := I₂.put O (i := i) (a := a) (m := .pil k' (its' ++ [x])) ha' (s' := { s₂ with heap := s₂.heap.update a (Obj.mapSeq fun xs => xs.push xv) })
    (fun b o e hba => (Heap.get?_update_other _ _ (Ne.symm hba)).trans e) ⟨_, hup⟩ (fun rv rl'' => by
      obtain ⟨hsh, tk, tk2, mm, ed⟩ := hdi'
      refine ⟨d', vs' ++ [xv], m' + 1, hup, ⟨hsh, tk, tk2, mm, (Heap.get?_update_other _ _ (fun q => ?_)).trans ed⟩, hdn', by rw [List.map_append]; exact RepL.append _ _ _ _ (rl'' _ _ rl') (by simp only [List.map_cons, List.map_nil, RepL]; exact ⟨_, _, rfl, rv _ _ rx, rfl⟩)⟩
      subst q
      have := IA'.at_
      rw [ed] at this; cases this) I₂.bare rfl I₂.tp
  exact hQ _ _ ι₂ .none _ ((S₁.trans S₂).trans g2.2) g2.1 (by simp only [RepV]) k₂⟩
end
end Mine
namespace Mine
open AutoSeq1 (wpAny_loadPart')
section
variable {prog : Program} {w : World} {A : Around} {E : Value → Shared → Prop} {s : Shared}
/-- an object that holds a row of values, of whatever class -/
def SeqAt (h : Heap) (a : Addr) (items : Array Value) : Prop := ∃ o n, h.get? a = some o ∧ o.data = .seq items n
abbrev itObj (a : Addr) (i : Nat) : Obj := { cls := .type "list_iterator", dict := none, data := .fields #[.ref a, .int i 0], slots := #[] }
theorem next_seq {it l : Addr} {i : Nat} {items : Array Value} {x : Value} {Q : Option Value → Shared → Prop} (hit : s.heap.get? it = some (itObj l i)) (hl : SeqAt s.heap l items) (hx : items[i]? = some x)
    (hQ : ∀ h', h'.get? it = some (itObj l (i + 1)) → Heap.SameBut it s.heap h' → Q (some x) { s with heap := h' }) : wpAny (model prog w) A (pyNext (.ref it)) Q E s := by
  have hT : s.TypeIs (.ref it) "list_iterator" := ⟨_, hit, rfl⟩
  obtain ⟨o, n, ho, hd⟩ := hl
  have e0 : (itObj l i).data = .fields #[.ref l, .int i 0] := rfl
  unfold pyNext
  refine wpAny_bind (wpAny_attempt (wpAny_callSpecial?_slot (name := Str.ofString "__next__") hT slot_listiter_next (wpAny_call_entry slot_listiter_next hT entry_listiter_next ?_ (args_listiter_next _))))
  show wpAny _ _ (field (.ref it) 0 >>= _) _ _ s
  refine wpAny_bind (wpAny_field hit e0 (x := .ref l) rfl ?_)
  show wpAny _ _ (if (Value.ref l == Value.none) = true then _ else _) _ _ s
  rw [if_neg (show ¬ ((Value.ref l == Value.none) = true) from Bool.false_ne_true)]
  show wpAny _ _ (field (.ref it) 1 >>= _) _ _ s
  refine wpAny_bind (wpAny_field hit e0 (x := .int i 0) rfl ?_)
  show wpAny _ _ (seqItems? (.ref l) >>= _) _ _ s
  refine wpAny_bind (wpAny_seqItems ho hd ?_)
  simp only [Int.toNat_natCast, hx]
  refine wpAny_bind (wpAny_setField_rec hit (by simp) fun h1 e1 s1 => wpAny_pure ⟨x, rfl, wpAny_pure (hQ _ ?_ s1)⟩)
  rw [e1]
  simp [rawInt]
theorem next_end {it l : Addr} {i : Nat} {items : Array Value} {Q : Option Value → Shared → Prop} (hh : A.handled = none) (hit : s.heap.get? it = some (itObj l i)) (hl : SeqAt s.heap l items) (hx : items[i]? = none)
    (hQ : ∀ h', Heap.ExtBut it s.heap h' → Q none { s with heap := h' }) : wpAny (model prog w) A (pyNext (.ref it)) Q E s := by
  have hT : s.TypeIs (.ref it) "list_iterator" := ⟨_, hit, rfl⟩
  obtain ⟨o, n, ho, hd⟩ := hl
  have e0 : (itObj l i).data = .fields #[.ref l, .int i 0] := rfl
  unfold pyNext
  refine wpAny_bind (wpAny_attempt (wpAny_callSpecial?_slot (name := Str.ofString "__next__") hT slot_listiter_next (wpAny_call_entry slot_listiter_next hT entry_listiter_next ?_ (args_listiter_next _))))
  show wpAny _ _ (field (.ref it) 0 >>= _) _ _ s
  refine wpAny_bind (wpAny_field hit e0 (x := .ref l) rfl ?_)
  show wpAny _ _ (if (Value.ref l == Value.none) = true then _ else _) _ _ s
  rw [if_neg (show ¬ ((Value.ref l == Value.none) = true) from Bool.false_ne_true)]
  show wpAny _ _ (field (.ref it) 1 >>= _) _ _ s
  refine wpAny_bind (wpAny_field hit e0 (x := .int i 0) rfl ?_)
  show wpAny _ _ (seqItems? (.ref l) >>= _) _ _ s
  refine wpAny_bind (wpAny_seqItems ho hd ?_)
  simp only [Int.toNat_natCast, hx]
  refine wpAny_bind (wpAny_rule (wpAny_bind (wpAny_setField_rec hit (by simp) fun h1 e1 s1 => ?_)))
  show wpAny _ _ (newExc (.type "StopIteration") [] >>= _) _ _ _
  refine wpAny_bind ?_
  simp only [newExc, newTuple]
  refine wpAny_bind (wpAny_newObj_type ?_ (by size_fits))
  refine wpAny_bind (m := firstArgMember _ _) (wpAny_of_eq (a := Value.none) (by first | rfl | (simp only [firstArgMember]; rfl)) ?_)
  refine wpAny_newObj_type ?_ (by size_fits)
  simp only [raiseNew]
  refine wpAny_bind (wpAny_handled ?_)
  rw [show A.in1.handled = none from hh]
  refine wpAny_bind (wpAny_pure (wpAny_throw ?_))
  refine wpAny_bind (wpAny_isInstance (T := "StopIteration") (b := true) ⟨_, Heap.get?_push_size _ rfl, rfl⟩ isSubtype_stop ?_)
  exact wpAny_pure (hQ _ ((s1.extBut.push _).push _))
end
end Mine
namespace Mine
/-- a row of pairs, walked -/
theorem seq_walks {prog : Program} {w : World} {A : Around} (hh : A.handled = none) (I ax : Addr) (hne : ax ≠ I) (items : Array Value) (Ts : Nat → Addr) (vals : Nat → Array Value)
    (hit : ∀ j, j < items.size → items[j]? = some (.ref (Ts j))) (hTI : ∀ j, j < items.size → Ts j ≠ I) :
    WalksU prog w A I (I :: ax :: (List.range items.size).map Ts) [I] items.size (fun j v => v = vals j)
      (fun j h => h.get? I = some (itObj ax j) ∧ SeqAt h ax items ∧ ∀ k, k < items.size → h.IsTuple (Ts k) (vals k))
      (fun j T h => (j < items.size ∧ T = Ts j) ∧ h.get? I = some (itObj ax (j + 1)) ∧ SeqAt h ax items ∧ ∀ k, k < items.size → h.IsTuple (Ts k) (vals k)) where
  sub := fun b hb => by simp at hb; simp [hb]
  frame := fun _ _ _ st hk => by
    obtain ⟨h1, ⟨o, n, h2, h3⟩, h4⟩ := st
    exact ⟨hk I (by simp) _ h1, ⟨o, n, hk ax (by simp) _ h2, h3⟩, fun k hk' => (h4 k hk').at fun o e => hk (Ts k) (List.mem_cons_of_mem _ (List.mem_cons_of_mem _ (List.mem_map.mpr ⟨k, List.mem_range.mpr hk', rfl⟩))) o e⟩
  item := fun i s Q E hi st hQ => by
    obtain ⟨h1, h2, h4⟩ := st
    refine next_seq h1 h2 (x := .ref (Ts i)) (hit i hi) fun h' hit' hs' => ?_
    have tup : ∀ k, k < items.size → h'.IsTuple (Ts k) (vals k) := fun k hk' => (h4 k hk').extBut hs'.extBut (hTI k hk')
    obtain ⟨o, n, h2, h3⟩ := h2
    exact hQ (Ts i) (vals i) h' s.toks rfl (tup i hi) ⟨⟨hi, rfl⟩, hit', ⟨o, n, hs'.extBut ax o hne h2, h3⟩, tup⟩ fun b o hb e => hs'.extBut b o (fun h => hb (by simp [h])) e
  go := fun _ _ _ _ _ s Q _ hm hQ => wpAny_letOwnedTupleGo_listiter ⟨_, hm.2.1, rfl, rfl⟩ (hQ s.heap hm.2 fun _ _ _ e => e)
  apart := fun j T _ hm hmem => by
    rcases List.mem_cons.mp hmem with e | e
    · exact hTI j hm.1.1 (hm.1.2 ▸ e)
    · cases e
  done := fun s Q E st hQ => by
    obtain ⟨h1, h2, h4⟩ := st
    exact next_end hh h1 h2 (by simp) fun h' he => hQ h' s.toks fun b o hb e => he b o (fun h => hb (by simp [h])) e
  self := fun i s Q E st hQ => wpAny_pyIter_listiter ⟨_, st.1, rfl, rfl⟩ hQ
/-- a walk with one step ahead of it, already gone -/
theorem walks_shift {prog : Program} {w : World} {A : Around} {I : Addr} {fp wr : List Addr} {G : Array GenState → Array GenState → Prop} {n : Nat} {P : Nat → Value → Prop} {St : Nat → Shared → Prop} (W : WalksS prog w A I fp wr G n P St) :
    WalksS prog w A I fp wr G (n + 1) (fun i v => match i with | 0 => False | i + 1 => P i v) (fun i s => match i with | 0 => False | i + 1 => St i s) where
  sub := W.sub
  grefl := W.grefl
  gtrans := W.gtrans
  frame := fun i s h' tk st hk hb => by
    cases i with
    | zero => exact st
    | succ i => exact W.frame i s h' tk st hk hb
  item := fun i s Q E hi st hQ => by
    cases i with
    | zero => exact st.elim
    | succ i => exact W.item i s Q E (by omega) st hQ
  done := fun s Q E st hQ => W.done s Q E st hQ
  self := fun i s Q E st hQ => by
    cases i with
    | zero => exact st.elim
    | succ i => exact W.self i s Q E st hQ
end Mine
namespace Mine
section
variable {c : Cx} {A : Around} {μ : Mu} {K : Frag} {env : Env} {ρ : Rho} {a d : Addr} {vs : List Value} {n : Nat} {od : Obj} {s : Shared} {ι : Iota} {E : Value → Shared → Prop}
/-- an iterator over a pile -/
theorem pil_pyIter {Q : Value → Shared → Prop} (P : PilK c K) (I : Inv c s ι μ) (IA : W.InstAt s.heap a (pilOf c.C d vs n) c.C (some od))
    (h : Q (.ref s.heap.objs.size) { s with heap := s.heap.push { cls := .type "list_iterator", data := .fields #[.ref a, .int 0 0] } }) : wpAny (model c.prog c.w) A (pyIter (.ref a)) Q E s := by
  have X := P.here I
  unfold pyIter
  refine wpAny_bind ?_
  unfold specialOf
  refine wpAny_bind (IA.type.here ((looks_findIn X P.iter).here ?_))
  show wpAny _ A (callSpecialIfBoundUnlessNone? (.ref a) "__iter__" _ >>= _) Q E s
  refine wpAny_bind ?_
  unfold callSpecialIfBoundUnlessNone? bindSpecialIfBound? specialOf
  refine wpAny_holding (wpAny_bind (wpAny_bind (wpAny_bind (IA.type.here ((looks_findIn X P.iter).here ?_)))))
  dsimp only
  rw [F.slot_list_iter.bind]
  refine wpAny_bind (wpAny_askSetting ?_)
  have go : wpAny (model c.prog c.w) A (call (.builtin "list.__iter__") [.ref a]) (fun v s' => v = .ref s.heap.objs.size ∧ s' = { s with heap := s.heap.push { cls := .type "list_iterator", data := .fields #[.ref a, .int 0 0] } }) E s := pil_iter X IA P.sub ⟨rfl, rfl⟩
  have tail : ∀ v s', v = .ref s.heap.objs.size ∧ s' = { s with heap := s.heap.push { cls := .type "list_iterator", data := .fields #[.ref a, .int 0 0] } } → wpAny (model c.prog c.w) A (do
      match ← specialOf v "__next__" with
      | none => rule "iter.non-iterator"; raiseError "TypeError" s!"iter() returned non-iterator of type '{← typeNameOf v}'"
      | some _ => pure v) Q E s' := fun v s' hv => by
    obtain ⟨rfl, rfl⟩ := hv
    exact wpAny_bind (wpAny_specialOf (T := "list_iterator") ⟨_, Heap.get?_push_size _ rfl, rfl⟩ slot_listiter_next.lookup (wpAny_pure h))
  split
  · refine wpAny_bind (wpAny_pure (wpAny_pure ?_))
    show wpAny _ A (if _ then _ else _) _ _ _
    rw [if_neg (by decide)]
    exact wpAny_bind (wpAny_mono go (fun v s' hv => wpAny_pure (tail v s' hv)) fun _ _ z => z)
  · refine wpAny_tryCatch (wpAny_bind (wpAny_pure (wpAny_pure ?_)))
    show wpAny _ A (if _ then _ else _) _ _ _
    rw [if_neg (by decide)]
    exact wpAny_bind (wpAny_mono go (fun v s' hv => wpAny_pure (tail v s' hv)) fun _ _ z => z)
end
end Mine
namespace Mine
/-- a code's table of the codes made in it, that may grow -/
structure GenTab (c : Cx) (cc P : Addr) : Prop where
  mem : P ∈ c.X
  has : ∀ h, c.T h → ∃ ps, h.IsCode cc P ps ∧ h.TableAt cc P ps
  grow : ∀ h h' ps, c.T h → Heap.ExtBut P h h' → h'.IsCode cc P ps → h'.TableAt cc P ps → c.T h'
/-- the module of the built-ins, as the text's top names it -/
structure BinM (c : Cx) : Prop where
  at' : ∃ bm o, c.mg "__builtins__" = some (.ref bm) ∧ bm ≠ builtinsNs ∧ c.hB.get? bm = some o ∧ bm ∉ c.X ∧ o.cls = .type "module" ∧ o.dict = some builtinsNs ∧ o.data = .plain
section
variable {c : Cx} {A : Around} {μ : Mu} {K : Frag} {env : Env} {ρ : Rho}
theorem Inv.tabbed (O : c.Ok) {s : Shared} {ι : Iota} (I : Inv c s ι μ) {s' : Shared} {P : Addr} (hP : P ∈ c.X) (k : ∀ b o, b ≠ P → s.heap.get? b = some o → s'.heap.get? b = some o) (hT : c.T s'.heap) (hg : AllBare s'.gens) (ho : s'.os = s.os) (ht : 0 < s'.toks) : Inv c s' ι μ ∧ Step c s ι s' ι := by
  obtain ⟨vP, eP⟩ := O.tX _ hT P hP
  have S : Step c s ι s' ι := ⟨fun b o e _ hX => k b o (fun q => hX (q ▸ hP)) e, fun b o e => by
    by_cases q : b = P
    · rw [q]; exact ⟨_, eP⟩
    · exact ⟨o, k b o q e⟩, [], by simp, by simp⟩
  obtain ⟨vP0, eP0⟩ := O.tX _ I.tab P hP
  refine ⟨⟨fun b o e hX => k _ _ (fun q => hX (q ▸ hP)) (I.old b o e hX), I.new, I.len, I.nodup, fun i a m hi hm => ?_, hT, hg, ho.trans I.os, ht⟩, S⟩
  have x := I.mo i a m hi hm
  have na : a ≠ P := fun q => by
    obtain ⟨o, e, hc⟩ := x.cls
    rw [q, eP0] at e; cases e
    rcases hc with hc | hc <;> cases hc
  cases m with
  | lst ps => obtain ⟨vs, n, e, r⟩ := x; exact ⟨vs, n, k _ _ na e, I.repL O S r⟩
  | pil q its =>
    obtain ⟨d, vs, n, e, ⟨hsh, tk, tk', m', ed⟩, hn, r⟩ := x
    refine ⟨d, vs, n, k _ _ na e, ⟨hsh, tk, tk', m', k _ _ (fun q => ?_) ed⟩, hn, I.repL O S r⟩
    rw [q, eP0] at ed; cases ed
/-- what a generator's element is asked -/
def EltOk (c : Cx) (scope : Scope) (xa xb : Str) (elt : Expr) (B : Str × Str → Prop) (F : Str × Str → Value → Prop) : Prop :=
  ∀ (A' : Around) E' (cenv : Env) (x : Str × Str) t u (s₂ : Shared) m₂, A'.handled = none → B x → cenv.scope = scope → cenv.globals = mainGlobals → cenv.builtins = builtinsNs → s₂.heap.Ns cenv.locals m₂ → m₂ xa = some (.str x.1 t) → m₂ xb = some (.str x.2 u) →
    s₂.heap.Ns mainGlobals c.mg → s₂.heap.Ns builtinsNs c.mb → wpAny (model c.prog c.w) A' (eval elt cenv) (fun y s₃ => F x y ∧ Keeps s₂ s₃) E' s₂
theorem pairs_rep {h : Heap} {ι : Iota} : ∀ {its : List (Str × Str)} {vs : List Value}, RepL h ι (its.map pairPV) vs → ∀ (j : Nat) (x : Str × Str), its[j]? = some x → ∃ T t u, vs[j]? = some (Value.ref T) ∧ h.IsTuple T #[.str x.1 t, .str x.2 u]
  | [], vs, r, j, x, hj => by simp at hj
  | p :: ps, vs, r, j, x, hj => by
    simp only [List.map_cons, RepL] at r
    obtain ⟨v, r', rfl, h1, h2⟩ := r
    cases j with
    | zero =>
      simp at hj; subst hj
      simp only [pairPV, RepV, RepL] at h1
      obtain ⟨a, vs, n, rfl, e, v1, _, rfl, ⟨t, rfl⟩, v2, _, rfl, ⟨u, rfl⟩, rfl⟩ := h1
      exact ⟨a, t, u, rfl, ⟨_, e, rfl, n, rfl⟩⟩
    | succ j => simpa using pairs_rep h2 j x (by simpa using hj)
theorem gen_pil {s : Shared} {ι : Iota} {E Q : Value → Shared → Prop} {elt : Expr} {xa xb x0 : Str} {pa pb pt p0 pos : Pos} {kt : Nat} {scope : Scope} {cl : List (Str × Addr)} {cc Pt : Addr} {i : Nat} {k : Int} {its : List (Str × Str)} {B : Str × Str → Prop} {F : Str × Str → Value → Prop}
    (O : c.Ok) (P : PilK c K) (GT : GenTab c cc Pt) (BM : BinM c) (hcode : env.code = .ref cc) (ha : A.handled = none) (hroom : A.depth < recursionLimit) (I : Inv c s ι μ) (V : EnvOk c env ρ s ι) (hx : (x0, .loc i) ∈ ρ) (hi : μ[i]? = some (.pil k its)) (hb : its.length ≤ 1000000)
    (hco : scope.isCoroutine = false) (hclos : closureFor scope env = pure cl) (hcell : ∀ y ∈ scope.names, y.2 ≠ .cell) (h0 : scope.names.lookup (".0" : Str) = some NameKind.local)
    (hxa : scope.names.lookup xa = some .local) (hxb : scope.names.lookup xb = some .local) (hab : xa ≠ xb) (hkind : scope.kind = .function) (hd0 : (x0 == ("__debug__" : Str)) = false) (hf0 : ∀ x, genFold (.Name x0 p0) env x = pure x)
    (helt : EltOk c scope xa xb elt B F) (hB : ∀ x ∈ its, B x) (hB0 : B ("", ""))
    (hQ : ∀ g fp wr G St Pg s', WalksS c.prog c.w A.in4 g fp wr G its.length Pg St → (∀ j y, Pg j y → ∃ x, its[j]? = some x ∧ F x y) → St 0 s' → (∀ i s', St i s' → s'.TypeIs (.ref g) "generator") → g ∈ fp → (∀ b ∈ fp, b < s'.heap.objs.size) →
      (∀ b o, b ≠ Pt → s.heap.get? b = some o → s'.heap.get? b = some o) → c.T s'.heap → AllBare s'.gens → s'.os = s.os → s.toks ≤ s'.toks → (∀ b ∈ wr, c.hB.get? b = none ∧ s.heap.get? b = none) → Pt ∉ wr → (∀ a b, G a b → AllBare a → AllBare b) → Q (.ref g) s') :
    wpAny (model c.prog c.w) A (eval (.GeneratorExp elt [⟨.Tuple [.Name xa pa, .Name xb pb] kt pt, .Name x0 p0, [], 0⟩] scope pos) env) Q E s := by
  refine wpAny_with_toks (Nat.le_refl s.toks) ?_
  refine wpAny_GeneratorExp_walksQT ha hco hclos hcell h0 hxa hxb hab hkind hroom ?_ hf0
  refine wpAny_Name (name_run V hx fun v r => ?_) hd0
  obtain ⟨a, d, vs, n, od, rfl, hia, IA, hdi, hd, hdn, rl, hl⟩ := I.pil hi r
  refine pil_pyIter P I IA ?_
  have nl : s.heap.NoLimit := I.noLimit O
  have keep1 : ∀ b o, s.heap.get? b = some o → (s.heap.push { cls := .type "list_iterator", data := .fields #[.ref a, .int 0 0] }).get? b = some o := fun b o e => Heap.get?_push_of_some _ e
  refine ⟨nl.keeps keep1, ?_⟩
  obtain ⟨ps, hic, hta⟩ := GT.has _ I.tab
  have hJ := Heap.get?_push_size s.heap (o := { cls := .type "list_iterator", data := .fields #[.ref a, .int 0 0] }) rfl
  have fJ : s.heap.get? s.heap.objs.size = none := fresh_size _
  generalize hh1 : s.heap.push { cls := .type "list_iterator", data := .fields #[.ref a, .int 0 0] } = h1 at *
  generalize hJe : s.heap.objs.size = J at *
  -- the code of the generator
  suffices fin : ∀ code h' tk ps', Heap.ExtBut Pt h1 h' → h'.IsCode cc Pt ps' → h'.TableAt cc Pt ps' → h1.objs.size ≤ h'.objs.size →
      wpAny (model c.prog c.w) A (builtinsFor env.globals env.builtins) (fun bi s₄ =>
        ∃ I fp wr n₀ Pt St₀ Mid pz F, Value.ref J = .ref I ∧ (∀ A' : Around, A'.handled = none → WalksU c.prog c.w A' I fp wr n₀ Pt St₀ Mid) ∧ (∀ i vals, Pt i vals → ∃ va vb, vals = #[va, vb]) ∧ St₀ 0 s₄.heap ∧ (∀ b ∈ fp, b < s₄.heap.objs.size) ∧ s₄.heap.NoLimit ∧ cStatics ∉ wr ∧
          (∀ href : Heap, (∀ b o, s₄.heap.get? b = some o → href.get? b = some o) →
            QuietGenT c.prog c.w (genEnv scope cl s₄.heap.objs.size code bi env) xa xb [] elt (List.range s₄.heap.objs.size) wr Pt pz F href) ∧
          (∀ a h₅ tk gs, gs.bare = true → s₄.heap.objs.size < a → h₅.objs.size = a + 1 → (∀ b o, s₄.heap.get? b = some o → h₅.get? b = some o) →
            WalksS c.prog c.w A.in4 a (a :: s₄.heap.objs.size :: List.range s₄.heap.objs.size) (s₄.heap.objs.size :: wr) (GenOnlyQ s₄.gens.size) (passing pz n₀ 0).length
              (fun j y => ∃ i, (passing pz n₀ 0)[j]? = some i ∧ F i y) (GenAt c.prog c.w A.in4 a s₄.gens.size s₄.heap.objs.size (List.range s₄.heap.objs.size) wr pz n₀ F) →
            GenAt c.prog c.w A.in4 a s₄.gens.size s₄.heap.objs.size (List.range s₄.heap.objs.size) wr pz n₀ F 0 { s₄ with gens := s₄.gens.push gs, toks := tk, heap := h₅ } →
            s.toks ≤ tk → Q (.ref a) { s₄ with gens := s₄.gens.push gs, toks := tk, heap := h₅ })) (fun e s' => s.toks ≤ s'.toks → E e s') { s with heap := h', toks := tk } by
    cases hnf : codeAmong pos ps.toList with
    | none =>
      refine wpAny_genexprCodeX hcode (hic.keeps keep1) (hta.keeps keep1) hnf fun c' h' tk hx hge hlt hic' _ hta' _ => ?_
      exact fin _ h' tk _ hx hic' hta' (Nat.le_trans hge (Nat.le_of_lt hlt))
    | some c' =>
      refine wpAny_genexprCode_hit hcode (hic.keeps keep1) hnf ?_
      exact fin c' h1 s.toks ps (Heap.ExtBut.refl _ _) (hic.keeps keep1) (hta.keeps keep1) (Nat.le_refl _)
  intro code h' tk ps' hx' hic' hta' hsz
  -- what is still there
  have hPs : ∃ vP, s.heap.get? Pt = some { cls := .none, dict := none, data := .fields vP, slots := #[] } := O.tX _ I.tab Pt GT.mem
  have k0 : ∀ b o, b ≠ Pt → s.heap.get? b = some o → h'.get? b = some o := fun b o q e => hx' b o q (keep1 b o e)
  have JP : J ≠ Pt := fun q => by obtain ⟨vP, e⟩ := hPs; rw [← q, fJ] at e; cases e
  have old : ∀ b o, c.hB.get? b = some o → b ∉ c.X → h'.get? b = some o := fun b o e q => k0 b o (fun q' => q (q' ▸ GT.mem)) (I.old b o e q)
  have nsG : h'.Ns mainGlobals c.mg := by obtain ⟨o, es, ep, e, r⟩ := O.g; exact ⟨o, es, ep, old _ _ e O.sX.2.1, r⟩
  have nsB : h'.Ns builtinsNs c.mb := by obtain ⟨o, es, ep, e, r⟩ := O.b; exact ⟨o, es, ep, old _ _ e O.sX.2.2, r⟩
  have nl' : h'.NoLimit := (nl.keeps keep1).extBut hx' (fun q => O.sX.1 (q ▸ GT.mem))
  obtain ⟨bm, om, hm1, hm2, hm3, hm4, hm5, hm6, hm7⟩ := BM.at'
  refine wpAny_builtinsFor (m := c.mg) (by rw [V.glo]; exact nsG) hm1 hm2 (old _ _ hm3 hm4) hm5 hm6 hm7 ?_
  -- the pairs
  have pr : ∀ j : Nat, ∃ y : Addr × Array Value, (∃ t u, y.2 = #[Value.str (its.getD j ("", "")).1 t, Value.str (its.getD j ("", "")).2 u]) ∧ ∀ x : Str × Str, its[j]? = some x → vs[j]? = some (Value.ref y.1) ∧ s.heap.IsTuple y.1 y.2 ∧ True := fun j => by
    cases hj : its[j]? with
    | none => exact ⟨(0, #[.str "" 1, .str "" 1]), ⟨1, 1, by simp [List.getD, hj]⟩, fun x hx => by cases hx⟩
    | some x =>
      obtain ⟨T, t, u, h1, h2⟩ := pairs_rep rl j x hj
      exact ⟨(T, #[.str x.1 t, .str x.2 u]), ⟨t, u, by simp [List.getD, hj]⟩, fun x' hx' => by cases hx'; exact ⟨h1, h2, trivial⟩⟩
  obtain ⟨f, hf⟩ := Classical.skolem.mp pr
  have tupk : ∀ (j : Nat) (x : Str × Str), its[j]? = some x → h'.IsTuple (f j).1 (f j).2 ∧ (f j).1 ≠ J ∧ (f j).1 < h'.objs.size := fun j x hj => by
    obtain ⟨_, ⟨o, e, r⟩, _⟩ := (hf j).2 x hj
    have nP : (f j).1 ≠ Pt := fun q => by obtain ⟨vP, e'⟩ := hPs; rw [q, e'] at e; cases e; cases r.1
    have e' := k0 _ _ nP e
    exact ⟨⟨o, e', r⟩, (fun q => by rw [q, fJ] at e; cases e), Heap.lt_size e'⟩
  have hJ' : h'.get? J = some (itObj a 0) := hx' J _ JP hJ
  have aP : a ≠ Pt := fun q => by obtain ⟨vP, e⟩ := hPs; have := IA.at_; rw [q, e] at this; cases this
  have hA' : SeqAt h' a vs.toArray := ⟨_, n, k0 _ _ aP IA.at_, rfl⟩
  have aJ : a ≠ J := fun q => by have := IA.at_; rw [q, fJ] at this; cases this
  have hlen : vs.toArray.size = its.length := by simp [hl]
  have lt_its : ∀ j : Nat, j < vs.toArray.size → ∃ x, its[j]? = some x := fun j hj => by rw [hlen] at hj; exact ⟨its[j], by simp [hj]⟩
  refine ⟨J, _, [J], vs.toArray.size, _, _, _, fun _ => true, fun i y => F (its.getD i ("", "")) y, rfl, fun A' hA => seq_walks hA J a aJ vs.toArray (fun j => (f j).1) (fun j => (f j).2) (fun j hj => ?_) (fun j hj => ?_), ?_, ⟨hJ', hA', fun j hj => ?_⟩, ?_, nl', ?_, ?_, ?_⟩
  · obtain ⟨x, hx⟩ := lt_its j hj
    simpa using ((hf j).2 x hx).1
  · obtain ⟨x, hx⟩ := lt_its j hj
    exact (tupk j x hx).2.1
  · intro i vals hv
    subst hv
    obtain ⟨t, u, e⟩ := (hf i).1
    exact ⟨_, _, e⟩
  · obtain ⟨x, hx⟩ := lt_its j hj
    exact (tupk j x hx).1
  · intro b hb
    rcases List.mem_cons.mp hb with rfl | hb
    · exact Heap.lt_size hJ'
    · rcases List.mem_cons.mp hb with rfl | hb
      · exact Heap.lt_size (k0 _ _ aP IA.at_)
      · obtain ⟨j, hj, rfl⟩ := List.mem_map.mp hb
        obtain ⟨x, hx⟩ := lt_its j (List.mem_range.mp hj)
        exact (tupk j x hx).2.2
  · intro hm
    rw [List.mem_singleton] at hm
    obtain ⟨mc, ⟨o, es, ep, e, _⟩, _⟩ := nl
    rw [hm, fJ] at e; cases e
  · intro href hk
    constructor
    · intro A' E' i va vb s₂ m₂ _ _ _ _ _ _
      exact wpAny_tests_nil ⟨rfl, s₂.heap, s₂.toks, rfl, fun b o e => e⟩
    · intro A' E' i va vb s₂ m₂ hA' hv _ hns ma mb hkp
      obtain ⟨t, u, e⟩ := (hf i).1
      rw [e] at hv
      have hv' : [va, vb] = [Value.str (its.getD i ("", "")).1 t, Value.str (its.getD i ("", "")).2 u] := congrArg Array.toList hv
      cases hv'
      have kk : ∀ b o, b ≠ J → h'.get? b = some o → s₂.heap.get? b = some o := fun b o hb e => hkp b (List.mem_range.mpr (Heap.lt_size e)) (fun q => hb (List.mem_singleton.mp q)) o (hk b o e)
      have gJ : ∀ b m, h'.Ns b m → b ≠ J := fun b m hn q => by
        obtain ⟨o, es, ep, e, hd, _⟩ := hn
        rw [q, hJ'] at e; cases e; cases hd
      have up : ∀ b m, h'.Ns b m → s₂.heap.Ns b m := fun b m hn => by
        have := gJ b m hn
        obtain ⟨o, es, ep, e, r⟩ := hn
        exact ⟨o, es, ep, kk b o this e, r⟩
      exact helt A' E' _ (its.getD i ("", "")) t u s₂ m₂ hA' (by
        cases q : its[i]? with
        | none => simpa [List.getD, q] using hB0
        | some x => simpa [List.getD, q] using hB x (List.mem_of_getElem? q)) rfl V.glo rfl hns ma mb (up _ _ nsG) (up _ _ nsB)
  · intro g h₅ tk₅ gs hgb hag hsz₅ hk₅ W hat htk
    have hps : passing (fun _ => true) vs.toArray.size 0 = List.range its.length := by rw [hlen]; simp [passing]
    rw [hps, List.length_range] at W
    refine hQ g _ _ _ _ _ _ W (fun j y hy => ?_) hat (fun i s' st => st.1.typeIs) List.mem_cons_self (fun b hb => ?_) (fun b o q e => hk₅ b o (k0 b o q e)) ?_ (I.bare.push hgb) rfl htk (fun b hb => ?_) (fun hm => ?_) fun a b hG hb => hb.moved hG
    · obtain ⟨i, hi', hF⟩ := hy
      have hij : i = j ∧ j < its.length := by
        obtain ⟨hj, e⟩ := List.getElem?_eq_some_iff.mp hi'
        rw [List.length_range] at hj
        rw [List.getElem_range] at e
        exact ⟨e.symm, hj⟩
      obtain ⟨rfl, hj⟩ := hij
      refine ⟨its[i], by simp [hj], ?_⟩
      simpa [List.getD, hj] using hF
    · show b < h₅.objs.size
      rw [hsz₅]
      rcases List.mem_cons.mp hb with rfl | hb
      · exact Nat.lt_succ_self _
      · rcases List.mem_cons.mp hb with rfl | hb
        · exact Nat.lt_succ_of_lt hag
        · exact Nat.lt_succ_of_lt (Nat.lt_trans (List.mem_range.mp hb) hag)
    · exact GT.grow s.heap h₅ ps' I.tab (fun b o q e => hk₅ b o (k0 b o q e)) (hic'.keeps hk₅) (hta'.keeps hk₅)
    · have fC : s.heap.get? h'.objs.size = none := by
        cases q : s.heap.get? h'.objs.size with
        | none => rfl
        | some o =>
          by_cases hq : h'.objs.size = Pt
          · have := hic'.lt.2
            rw [← hq] at this
            exact absurd this (Nat.lt_irrefl _)
          · exact absurd (Heap.lt_size (k0 _ _ hq q)) (Nat.lt_irrefl _)
      rcases List.mem_cons.mp hb with rfl | hb
      · exact ⟨(I.fresh O fC).2.2, fC⟩
      · rw [List.mem_singleton.mp hb]
        exact ⟨(I.fresh O fJ).2.2, fJ⟩
    · rcases List.mem_cons.mp hm with hq | hm
      · have := hic'.lt.2
        rw [hq] at this
        exact absurd this (Nat.lt_irrefl _)
      · exact JP (List.mem_singleton.mp hm).symm
end
end Mine
namespace Mine
def shiftV (k : Int) (val : Nat → Int) : Nat → Int
  | 0 => k
  | j + 1 => val j
theorem args_sum2 (a b : Value) : argsOk "sum" ⟨[a, b], []⟩ := by unfold argsOk; kernel_rfl
section
variable {c : Cx} {A : Around} {μ : Mu} {K : Frag} {env : Env} {ρ : Rho}
/-- self._initial_size -/
theorem pil_ini {s : Shared} {ι : Iota} {E Q : Value → Shared → Prop} {x : Str} {xp pos : Pos} {i : Nat} {k : Int} {its : List (Str × Str)} (P : PilK c K) (I : Inv c s ι μ) (V : EnvOk c env ρ s ι) (hx : (x, .loc i) ∈ ρ) (hi : μ[i]? = some (.pil k its)) (hd : (x == ("__debug__" : Str)) = false)
    (hQ : ∀ t, Q (.int k t) { s with toks := s.toks + 1 }) : wpAny (model c.prog c.w) A (eval (.Attribute (.Name x xp) "_initial_size" pos) env) Q E s := by
  refine PyProof.Rows.Attribute_name ?_
  refine wpAny_Name (name_run V hx fun v r => ?_) hd
  obtain ⟨a, d, vs, n, od, rfl, hia, IA, hdi, hd, hdn, rl, hl⟩ := I.pil hi r
  obtain ⟨t, ht⟩ := hdi.own hd
  obtain ⟨oc', od', cd, sl', hlk, hmro, hdict, hqn, _⟩ := P.cls
  have hcd : clsIn K c.C = some cd := by unfold clsIn; rw [hlk]
  refine pil_get (P.here I) IA P.ga P.gat P.sub (findObj_own (by unfold hasDictIn; rw [hcd]; exact hdict) P.ini rfl ht) rfl (hQ t)
/-- the sum of a generator's numbers upon a start -/
theorem sum_start {s : Shared} {E Q : Value → Shared → Prop} {I : Addr} {fp wr : List Addr} {G : Array GenState → Array GenState → Prop} {n : Nat} {Pg : Nat → Value → Prop} {St : Nat → Shared → Prop} {k : Int} {t : Tok} {prog : Program} {w : World}
    (W : WalksS prog w A.in4 I fp wr G n Pg St) (hst : St 0 s) (hfp : ∀ b ∈ fp, b < s.heap.objs.size) (hk : -1000000000000 ≤ k ∧ k ≤ 1000000000000) (val : Nat → Int) (hval : ∀ j v, Pg j v → ∃ t, v = .int (val j) t)
    (hQ : ∀ s' t', Moved wr G s s' → Q (.int (preSum (shiftV k val) (n + 1)) t') s') : wpAny (model prog w) A (call (.builtin "sum") [.ref I, .int k t]) Q E s := by
  refine call_function_tree F.kind_sum F.plain_sum F.entry_sum (args_sum2 _ _) ?_
  unfold Builtin.«sum»
  simp only [List.length_cons, List.length_nil]
  rw [if_neg (by decide)]
  refine wpAny_bind (wpAny_of_eq (show Builtin.Builtins.bindParams "sum" ["start"] 0 ⟨[.int k t], []⟩ = pure [some (.int k t)] from rfl) ?_)
  refine wpAny_bind (W.in4_1.self 0 s _ _ hst ?_)
  have hfit : (decide (-(2 ^ 63) ≤ k) && decide (k < 2 ^ 63)) = true := by
    simp only [Bool.and_eq_true, decide_eq_true_eq]; omega
  dsimp only
  split
  case isFalse h => exact absurd hfit h
  refine wpAny_bind (wpAny_rule ?_)
  refine wpAny_bind (wpAny_mkInt ?_)
  refine wpAny_bind (wpAny_pure ?_)
  simp only [List.forIn_cons, List.forIn_nil]
  refine wpAny_bind (wpAny_bind (wpAny_bind (wpAny_isInstance (T := "int") (b := false) (typeIs_int _ _ _) PySem.sub_int_str ?_)))
  simp only [Bool.false_eq_true, if_false]
  refine wpAny_pure (wpAny_bind (wpAny_bind (wpAny_isInstance (T := "int") (b := false) (typeIs_int _ _ _) PySem.sub_int_bytes ?_)))
  simp only [Bool.false_eq_true, if_false]
  refine wpAny_pure (wpAny_bind (wpAny_bind (wpAny_isInstance (T := "int") (b := false) (typeIs_int _ _ _) PySem.sub_int_bytearray ?_)))
  simp only [Bool.false_eq_true, if_false]
  refine wpAny_pure (wpAny_pure ?_)
  refine wpAny_bind (wpAny_newObj_type ?_)
  have hSf : s.heap.objs.size ∉ fp := fun hm => Nat.lt_irrefl _ (hfp _ hm)
  refine wpAny_pure ⟨plainId_quiet F.plain_sum_loop _, codeAny_sum_loopAnyS (walks_shift W.in4_1) (shiftV k val) (fun j v hv => ?_) s.heap.objs.size hSf n 1 _ s.toks 0 0 (.inl rfl) rfl (Nat.le_add_left _ _)
    ?_ ?_ fun s' t' hm => ?_⟩
  · cases j with
    | zero => exact hv.elim
    | succ j => exact hval j v hv
  · exact W.frame 0 s _ _ hst (by first | exact Nat.le_refl _ | exact Nat.le_succ _ | omega) fun b _ o e => Heap.get?_push_of_some _ e
  · have : preSum (shiftV k val) 1 = k := by simp [preSum, shiftV]
    rw [this]
    exact Heap.get?_push_size _ rfl
  · exact hQ s' t' (hm.drop_new (by first | exact Nat.le_refl _ | exact Nat.le_succ _ | omega))
end
end Mine
namespace Mine
def small (x : Str × Str) : Prop := x.1.length ≤ 1000 ∧ x.2.length ≤ 1000
section
variable {c : Cx} {A : Around} {μ : Mu} {K : Frag} {env : Env} {ρ : Rho}
theorem elt_name {cenv : Env} {x : Str} {p : Pos} {v : Value} {s : Shared} {m : Str → Option Value} {A' : Around} {E Q : Value → Shared → Prop} (hk : cenv.scope.kind = .function) (hx : cenv.kindOf x = some .local) (hn : s.heap.Ns cenv.locals m) (hm : m x = some v) (hd : (x == ("__debug__" : Str)) = false) (h : Q v s) :
    wpAny (model c.prog c.w) A' (eval (.Name x p) cenv) Q E s := wpAny_Name (wpAny_loadName_local hk hx hn hm h) hd
/-- len(fws) + len(part) -/
theorem elt_len {scope : Scope} {xa xb : Str} {p1 p2 p3 p4 p5 p6 p7 : Pos} (hkind : scope.kind = .function) (hxa : scope.names.lookup xa = some .local) (hxb : scope.names.lookup xb = some .local) (hl : scope.names.lookup ("len" : Str) = some NameKind.globalImplicit)
    (hda : (xa == ("__debug__" : Str)) = false) (hdb : (xb == ("__debug__" : Str)) = false) (hg : c.mg "len" = none) (hb : c.mb "len" = some (.builtin "len")) :
    EltOk c scope xa xb (.BinOp (.Call (.Name "len" p1) [.Name xa p2] [] p3) .Add (.Call (.Name "len" p4) [.Name xb p5] [] p6) p7) small fun x y => ∃ t, y = .int (x.1.length + x.2.length) t := by
  intro A' E' cenv x t u s₂ m₂ hA hB hsc hgl hbl hns ma mb nG nB
  have hk : cenv.scope.kind = .function := by rw [hsc]; exact hkind
  have kof : ∀ y, cenv.kindOf y = scope.names.lookup y := fun y => by show cenv.scope.names.lookup y = _; rw [hsc]
  have one : ∀ {s : Shared} {y : Str} {v : Str} {tv : Tok} {q1 q2 q3 : Pos} {Q : Value → Shared → Prop} {m : Str → Option Value}, s.heap.Ns cenv.locals m → m y = some (.str v tv) → s.heap.Ns mainGlobals c.mg → s.heap.Ns builtinsNs c.mb → scope.names.lookup y = some .local → (y == ("__debug__" : Str)) = false → v.length ≤ 1000 →
      Q (.int v.length (s.toks + 1)) { s with toks := s.toks + 1 + 1 } → wpAny (model c.prog c.w) A' (eval (.Call (.Name "len" q1) [.Name y q2] [] q3) cenv) Q E' s := by
    intro s y v tv q1 q2 q3 Q m hn hm hG hB' hy hdy hv hQ
    refine PyProof.Rows.Call_ (Calls.Name_function_global hk (by rw [kof]; exact hl) (Calls.loadGlobal_builtin (mg := c.mg) (mb := c.mb) (by rw [hgl]; exact hG) hg (by rw [hbl]; exact hB') hb ?_) (by decide)) (by with_unfolding_all rfl)
    refine Calls.callWith_builtin (starEach_plain (es := [.Name y q2]) rfl q3) ?_
    have h' := fun (Q' : Args → Shared → Prop) (h : Q' ⟨[.str v tv], []⟩ s) => (elt_name (c := c) (A' := A') (p := q2) (E := E') (Q := fun a s' => wpAny (model c.prog c.w) A' (spliced (backTo q3 (starEach [] cenv))) (fun vs s'' => Q' ⟨a :: vs, []⟩ s'') E' s') hk (by rw [kof]; exact hy) hn hm hdy (Calls.spliced_nil h))
    rw [starEach_cons (es := []) rfl]
    refine Calls.evalArgs_plain ?_
    refine Calls.spliced_cons ?_
    refine elt_name hk (by rw [kof]; exact hy) hn hm hdy ?_
    refine Calls.spliced_nil ?_
    exact PySem.P.len_str (by omega) hQ
  refine wpAny_BinOp (one hns ma nG nB hxa hda hB.1 ?_)
  refine one (m := m₂) hns mb nG nB hxb hdb hB.2 ?_
  exact wpAny_add_int ⟨⟨_, rfl⟩, _, _, rfl, fun b o e => e⟩
/-- EMPTYSTRING.join((fws, part)) -/
theorem elt_join {scope : Scope} {xa xb : Str} {te : Tok} {p1 p2 p3 p4 p5 p6 : Pos} {kt : Nat} (hkind : scope.kind = .function) (hxa : scope.names.lookup xa = some .local) (hxb : scope.names.lookup xb = some .local) (hl : scope.names.lookup ("EMPTYSTRING" : Str) = some NameKind.globalImplicit)
    (hda : (xa == ("__debug__" : Str)) = false) (hdb : (xb == ("__debug__" : Str)) = false) (hc : ∀ cenv : Env, cenv.scope = scope → callsMethod (.Name "EMPTYSTRING" p1) "join" p2 [.Tuple [.Name xa p3, .Name xb p4] kt p5] p6 cenv) (hg : c.mg "EMPTYSTRING" = some (.str "" te)) :
    EltOk c scope xa xb (.Call (.Attribute (.Name "EMPTYSTRING" p1) "join" p2) [.Tuple [.Name xa p3, .Name xb p4] kt p5] [] p6) small fun x y => ∃ t, y = .str (Txt.join "" [x.1, x.2]) t := by
  intro A' E' cenv x t u s₂ m₂ hA hB hsc hgl hbl hns ma mb nG nB
  have hk : cenv.scope.kind = .function := by rw [hsc]; exact hkind
  have kof : ∀ y, cenv.kindOf y = scope.names.lookup y := fun y => by show cenv.scope.names.lookup y = _; rw [hsc]
  obtain ⟨pl, hc⟩ := hc cenv hsc
  refine PyProof.Rows.MethodCall_ ?_ hc
  refine Calls.Name_function_global hk (by rw [kof]; exact hl) (Calls.loadGlobal_global (mg := c.mg) (by rw [hgl]; exact nG) hg ?_) (by decide)
  refine getMethod_builtin (typeIs_str _ _ _) F.plainAttrs_str F.slot_str_join F.type_str_join (fun _ e => nomatch e) ?_
  refine Calls.callWith_builtin (first := [.str "" te]) (starEach_plain (es := [.Tuple [.Name xa p3, .Name xb p4] kt p5]) rfl p6) ?_
  rw [starEach_cons (es := []) rfl]
  refine Calls.evalArgs_plain ?_
  refine Calls.spliced_cons ?_
  refine wpAny_Tuple_spliced (x1 := kt) ?_
  rw [starEach_cons (es := [.Name xb p4]) rfl, starEach_cons (es := []) rfl]
  refine Calls.spliced_cons (elt_name hk (by rw [kof]; exact hxa) hns ma hda ?_)
  refine Calls.spliced_cons (elt_name hk (by rw [kof]; exact hxb) hns mb hdb (Calls.spliced_nil ⟨by rw [sizeLine_eq]; simp, ?_⟩))
  refine Calls.spliced_nil ?_
  refine join_tuple (items := #[.str x.1 t, .str x.2 u]) (ys := [x.1, x.2]) ⟨_, Heap.get?_push_size _ rfl, rfl, _, rfl⟩ ?_ ?_ fun t' k => ?_
  · exact StrsAre.cons _ _ (StrsAre.cons _ _ .nil)
  · have := hB.1; have := hB.2
    simp only [List.map_cons, List.map_nil, List.sum_cons, List.sum_nil, List.length_cons, List.length_nil]
    have : ("" : Str).length = 0 := rfl
    omega
  · exact ⟨⟨_, rfl⟩, _, _, rfl, fun b o e => Heap.get?_push_of_some _ e⟩
end
end Mine
namespace Mine
section
variable {c : Cx} {A : Around} {μ : Mu} {K : Frag} {env : Env} {ρ : Rho}
/-- the generator's frame, as its scope says -/
structure GenScope (scope : Scope) (env : Env) (cl : List (Str × Addr)) (xa xb : Str) : Prop where
  hco : scope.isCoroutine = false
  hclos : closureFor scope env = pure cl
  hcell : ∀ y ∈ scope.names, y.2 ≠ .cell
  h0 : scope.names.lookup (".0" : Str) = some NameKind.local
  hxa : scope.names.lookup xa = some .local
  hxb : scope.names.lookup xb = some .local
  hab : xa ≠ xb
  hkind : scope.kind = .function
def pilLen (its : List (Str × Str)) : Int := (its.map fun x => ((x.1.length : Int) + x.2.length)).sum
theorem preSum_pil (its : List (Str × Str)) (k : Int) : ∀ n, n ≤ its.length → preSum (shiftV k fun j => ((its.getD j ("", "")).1.length : Int) + (its.getD j ("", "")).2.length) (n + 1) = k + pilLen (its.take n)
  | 0, _ => by simp [preSum, pilLen, shiftV]
  | n + 1, h => by
    have h2 : its[n]? = some its[n] := List.getElem?_eq_getElem (by omega)
    have h1 : its.take (n + 1) = its.take n ++ [its[n]] := by rw [List.take_add_one, h2]; rfl
    rw [preSum, preSum_pil its k n (by omega), h1]
    simp only [shiftV, pilLen, List.map_append, List.sum_append, List.map_cons, List.map_nil, List.sum_cons, List.sum_nil, List.getD, h2, Option.getD_some]
    omega
/-- sum((len(fws) + len(part) for fws, part in self), self._initial_size) -/
theorem WE.pilsum {xa xb x0 : Str} {p1 p2 p3 p4 p5 p6 p7 pa pb pt p0 gpos ap aq sp pos : Pos} {kt : Nat} {scope : Scope} {cl : List (Str × Addr)} {cc Pt : Addr} {i : Nat} {k : Int} {its : List (Str × Str)} {K' : PV → Mu → Prop}
    (O : c.Ok) (P : PilK c K) (GT : GenTab c cc Pt) (BM : BinM c) (hcode : env.code = .ref cc) (ha : A.handled = .none) (hroom : A.depth < recursionLimit) (hx : (x0, .loc i) ∈ ρ) (hi : μ[i]? = some (.pil k its)) (hb : its.length ≤ 1000) (hk : -1000000 ≤ k ∧ k ≤ 1000000) (hsm : ∀ x ∈ its, small x)
    (GS : GenScope scope env cl xa xb) (hd0 : (x0 == ("__debug__" : Str)) = false) (hf0 : ∀ x, genFold (.Name x0 p0) env x = pure x)
    (hl : scope.names.lookup ("len" : Str) = some NameKind.globalImplicit) (hda : (xa == ("__debug__" : Str)) = false) (hdb : (xb == ("__debug__" : Str)) = false) (hg : c.mg "len" = .none) (hbl : c.mb "len" = some (.builtin "len"))
    (hks : env.kindOf "sum" = some .globalImplicit) (hgs : c.mg "sum" = .none) (hbs : c.mb "sum" = some (.builtin "sum"))
    (hc : callsPlain (.Name "sum" sp) [.GeneratorExp (.BinOp (.Call (.Name "len" p1) [.Name xa p2] [] p3) .Add (.Call (.Name "len" p4) [.Name xb p5] [] p6) p7) [⟨.Tuple [.Name xa pa, .Name xb pb] kt pt, .Name x0 p0, [], 0⟩] scope gpos, .Attribute (.Name x0 ap) "_initial_size" aq] pos env)
    (hK : K' (.int (k + pilLen its)) μ) :
    WE c A (.Call (.Name "sum" sp) [.GeneratorExp (.BinOp (.Call (.Name "len" p1) [.Name xa p2] [] p3) .Add (.Call (.Name "len" p4) [.Name xb p5] [] p6) p7) [⟨.Tuple [.Name xa pa, .Name xb pb] kt pt, .Name x0 p0, [], 0⟩] scope gpos, .Attribute (.Name x0 ap) "_initial_size" aq] [] pos) env ρ μ K' := ⟨fun s ι E Q I V hQ => by
  refine PyProof.Rows.Call_ (buil_ld O I V hks hgs hbs (by decide) ?_) hc
  refine Calls.callWith_builtin (starEach_plain rfl pos) ?_
  rw [starEach_cons rfl, starEach_cons rfl]
  refine Calls.evalArgs_plain ?_
  refine Calls.spliced_cons (gen_pil (s := s) (ι := ι) O P GT BM hcode ha hroom I V hx hi (by omega) GS.hco GS.hclos GS.hcell GS.h0 GS.hxa GS.hxb GS.hab GS.hkind hd0 hf0
    (elt_len GS.hkind GS.hxa GS.hxb hl hda hdb hg hbl) hsm ⟨by decide, by decide⟩ fun g fp wr G St Pg s₁ W hPg hst hT hgf hfp k₁ hT₁ hb₁ ho₁ ht₁ hwr hPw hG => ?_)
  have g₁ := I.tabbed O GT.mem k₁ hT₁ hb₁ ho₁ (Nat.lt_of_lt_of_le I.tp ht₁)
  refine Calls.spliced_cons (pil_ini P g₁.1 (V.step O I g₁.2) hx hi hd0 fun t => ?_)
  refine Calls.spliced_nil ?_
  have hst' : St 0 { s₁ with toks := s₁.toks + 1 } := W.frame 0 s₁ s₁.heap (s₁.toks + 1) hst (Nat.le_succ _) fun b _ o e => e
  refine sum_start W hst' hfp (by omega) (fun j => ((its.getD j ("", "")).1.length : Int) + (its.getD j ("", "")).2.length) (fun j v hv => ?_) fun s₂ t' hm => ?_
  · obtain ⟨x, hx, t, rfl⟩ := hPg j v hv
    exact ⟨t, by simp [List.getD, hx]⟩
  · rw [preSum_pil its k _ (Nat.le_refl _), List.take_length]
    have keep : ∀ b o, b ≠ Pt → s.heap.get? b = some o → s₂.heap.get? b = some o := fun b o q e => hm.heap b o (fun hw => by rw [(hwr b hw).2] at e; cases e) (k₁ b o q e)
    have g₂ := I.tabbed O (s' := s₂) GT.mem keep ?_ (hG _ _ hm.gens hb₁) (hm.os.trans ho₁) (Nat.lt_of_lt_of_le (Nat.lt_of_lt_of_le I.tp ht₁) (Nat.le_trans (Nat.le_succ _) hm.toks))
    · exact hQ _ s₂ ι (.int _) μ g₂.2 g₂.1 (by simp only [RepV]; exact ⟨_, rfl⟩) hK
    · obtain ⟨ps, hc1, hc2⟩ := GT.has _ hT₁
      have ncc : cc ∉ wr := fun hw => by
        obtain ⟨_, ⟨o, vs, file, tf, flags, tg, inF, text, tt, op, a, _⟩, _⟩ := GT.has _ I.tab
        rw [(hwr cc hw).2] at a; cases a
      obtain ⟨o, vs, file, tf, flags, tg, inF, text, tt, op, a, r1, r2, r3, r4, r5, r6, b, r⟩ := hc1
      obtain ⟨⟨o', vs', e', r'⟩, t⟩ := hc2
      exact GT.grow s.heap s₂.heap ps I.tab (fun b o q e => keep b o q e) ⟨o, vs, file, tf, flags, tg, inF, text, tt, op, hm.heap _ _ ncc a, r1, r2, r3, r4, r5, r6, hm.heap _ _ hPw b, r⟩ ⟨⟨o', vs', hm.heap _ _ ncc e', r'⟩, hm.heap _ _ hPw t⟩⟩
end
end Mine
namespace Mine
def pilTxt (its : List (Str × Str)) : Str := Txt.join "" (its.map fun x => Txt.join "" [x.1, x.2])
theorem join2_len (x : Str × Str) (h : small x) : (Txt.join "" [x.1, x.2]).length ≤ 2000 := by
  have h1 := StrLaws.join_length_le "" [x.1, x.2]
  have e : Txt.join "" [x.1, x.2] = Str.join "" [x.1, x.2] := by unfold Txt.join; rw [StrLaws.glued_eq_join]
  rw [e]
  have := h.1; have := h.2
  simp only [List.map_cons, List.map_nil, List.sum_cons, List.sum_nil, List.length_cons, List.length_nil] at h1
  have : ("" : Str).length = 0 := rfl
  omega
theorem sum_le : ∀ (l : List Nat) (m : Nat), (∀ x ∈ l, x ≤ m) → l.sum ≤ l.length * m
  | [], m, _ => by simp
  | x :: r, m, h => by
    have h1 := h x List.mem_cons_self
    have h2 := sum_le r m fun y hy => h y (List.mem_cons_of_mem _ hy)
    rw [List.sum_cons, List.length_cons, Nat.succ_mul]; omega
section
variable {c : Cx} {A : Around} {μ : Mu} {K : Frag} {env : Env} {ρ : Rho}
theorem WE.piljoin {xa xb x0 : Str} {te : Tok} {p1 p2 p3 p4 p5 p6 pa pb pt p0 gpos jn jp pos : Pos} {kt kt' : Nat} {scope : Scope} {cl : List (Str × Addr)} {cc Pt : Addr} {i : Nat} {k : Int} {its : List (Str × Str)} {K' : PV → Mu → Prop}
    (O : c.Ok) (P : PilK c K) (GT : GenTab c cc Pt) (BM : BinM c) (hcode : env.code = .ref cc) (ha : A.handled = .none) (hroom : A.depth < recursionLimit) (hx : (x0, .loc i) ∈ ρ) (hi : μ[i]? = some (.pil k its)) (hb : its.length ≤ 1000) (hsm : ∀ x ∈ its, small x)
    (GS : GenScope scope env cl xa xb) (hd0 : (x0 == ("__debug__" : Str)) = false) (hf0 : ∀ x, genFold (.Name x0 p0) env x = pure x)
    (hl : scope.names.lookup ("EMPTYSTRING" : Str) = some NameKind.globalImplicit) (hda : (xa == ("__debug__" : Str)) = false) (hdb : (xb == ("__debug__" : Str)) = false) (hg : c.mg "EMPTYSTRING" = some (.str "" te)) (hks : env.kindOf "EMPTYSTRING" = some .globalImplicit)
    (hc1 : ∀ cenv : Env, cenv.scope = scope → callsMethod (.Name "EMPTYSTRING" p1) "join" p2 [.Tuple [.Name xa p3, .Name xb p4] kt p5] p6 cenv)
    (hc : callsMethod (.Name "EMPTYSTRING" jn) "join" jp [.GeneratorExp (.Call (.Attribute (.Name "EMPTYSTRING" p1) "join" p2) [.Tuple [.Name xa p3, .Name xb p4] kt p5] [] p6) [⟨.Tuple [.Name xa pa, .Name xb pb] kt' pt, .Name x0 p0, [], 0⟩] scope gpos] pos env)
    (hK : K' (.str (pilTxt its)) μ) :
    WE c A (.Call (.Attribute (.Name "EMPTYSTRING" jn) "join" jp) [.GeneratorExp (.Call (.Attribute (.Name "EMPTYSTRING" p1) "join" p2) [.Tuple [.Name xa p3, .Name xb p4] kt p5] [] p6) [⟨.Tuple [.Name xa pa, .Name xb pb] kt' pt, .Name x0 p0, [], 0⟩] scope gpos] [] pos) env ρ μ K' := ⟨fun s ι E Q I V hQ => by
  obtain ⟨pl, hc⟩ := hc
  refine PyProof.Rows.MethodCall_ (glob_ld O I V hks hg (by decide) ?_) hc
  refine getMethod_builtin (typeIs_str _ _ _) F.plainAttrs_str F.slot_str_join F.type_str_join (fun _ e => nomatch e) ?_
  refine Calls.callWith_builtin (first := [.str "" te]) (starEach_plain rfl pos) ?_
  rw [starEach_cons rfl]
  refine Calls.evalArgs_plain ?_
  refine Calls.spliced_cons (gen_pil (s := s) (ι := ι) O P GT BM hcode ha hroom I V hx hi (by omega) GS.hco GS.hclos GS.hcell GS.h0 GS.hxa GS.hxb GS.hab GS.hkind hd0 hf0
    (elt_join GS.hkind GS.hxa GS.hxb hl hda hdb hc1 hg) hsm ⟨by decide, by decide⟩ fun g fp wr G St Pg s₁ W hPg hst hT hgf hfp k₁ hT₁ hb₁ ho₁ ht₁ hwr hPw hG => ?_)
  have g₁ := I.tabbed O GT.mem k₁ hT₁ hb₁ ho₁ (Nat.lt_of_lt_of_le I.tp ht₁)
  refine Calls.spliced_nil ?_
  refine wpAny_with_toks (Nat.le_refl s₁.toks) ?_
  refine SC.joinGen W.in4_2 hT hst hfp hgf (fun j v hv => ?_) (fun s₂ l hm hit => ?_) (by rw [sizeLine_eq]; omega)
  · obtain ⟨x, hx, t, rfl⟩ := hPg j v hv
    exact ⟨_, t, rfl⟩
  · have hl' : l.map (·.1) = its.map fun x => Txt.join "" [x.1, x.2] := by
      apply List.ext_getElem?
      intro j
      have hz : l.length = its.length := by have := hit.1; simpa [strValues] using this
      by_cases hj : j < its.length
      · have hjl : j < l.length := by omega
        have := hit.2 j (.str l[j].1 l[j].2) (by simp [strValues, hjl])
        obtain ⟨x, hx, t, e⟩ := hPg j _ this
        injection e with e1 e2
        simp [hjl, hx, e1]
      · have h1 : (l.map (·.1))[j]? = .none := by simp; omega
        have h2 : (its.map fun x => Txt.join "" [x.1, x.2])[j]? = .none := by simp; omega
        rw [h1, h2]
    have keep : ∀ b o, b ≠ Pt → s.heap.get? b = some o → s₂.heap.get? b = some o := fun b o q e => hm.heap b o (fun hw => by rw [(hwr b hw).2] at e; cases e) (k₁ b o q e)
    have T₂ : c.T s₂.heap := by
      obtain ⟨ps, hc1, hc2⟩ := GT.has _ hT₁
      have ncc : cc ∉ wr := fun hw => by
        obtain ⟨_, ⟨o, vs, file, tf, flags, tg, inF, text, tt, op, a, _⟩, _⟩ := GT.has _ I.tab
        rw [(hwr cc hw).2] at a; cases a
      obtain ⟨o, vs, file, tf, flags, tg, inF, text, tt, op, a, r1, r2, r3, r4, r5, r6, b, r⟩ := hc1
      obtain ⟨⟨o', vs', e', r'⟩, t⟩ := hc2
      exact GT.grow s.heap s₂.heap ps I.tab (fun b o q e => keep b o q e) ⟨o, vs, file, tf, flags, tg, inF, text, tt, op, hm.heap _ _ ncc a, r1, r2, r3, r4, r5, r6, hm.heap _ _ hPw b, r⟩ ⟨⟨o', vs', hm.heap _ _ ncc e', r'⟩, hm.heap _ _ hPw t⟩
    refine ⟨?_, fun t' kk htk => ?_⟩
    · refine joinOk_of ?_
      rw [hl', List.map_map]
      have := sum_le ((its.map ((fun x => x.length) ∘ fun x => Txt.join "" [x.1, x.2]))) 2000 (fun y hy => by
        obtain ⟨x, hx, rfl⟩ := List.mem_map.mp hy
        exact join2_len x (hsm x hx))
      simp only [List.length_map] at this ⊢
      have h0 : ("" : Str).length = 0 := rfl
      rw [h0]
      omega
    · have g₂ := I.tabbed O (s' := { s₂ with toks := kk }) GT.mem keep T₂ (hG _ _ hm.gens hb₁) (hm.os.trans ho₁) (Nat.lt_of_lt_of_le (Nat.lt_of_lt_of_le I.tp ht₁) htk)
      rw [hl']
      exact hQ _ _ ι (.str _) μ g₂.2 g₂.1 (by simp only [RepV]; exact ⟨_, rfl⟩) hK⟩
end
end Mine
namespace Mine
section
variable {c : Cx} {A : Around} {μ : Mu} {K : Frag}
/-- len(pile): its own __len__ -/
theorem WC.len_pil {i : Nat} {k : Int} {its : List (Str × Str)} {f : Addr} {K' : PV → Mu → Prop} (O : c.Ok) (P : PilK c K) (hs : findIn K (.ref c.C) "__len__" = some (some (.ref f))) (hf : typeIn K (.ref f) = some (.type "function")) (hi : μ[i]? = some (.pil k its))
    (h : WC c A.in1 (.ref f) [.loc i] μ fun p μ' => ∃ n : Int, p = .int n ∧ 0 ≤ n ∧ n ≤ 1000000000 ∧ K' (.int n) μ') : WC c A (.builtin "len") [.loc i] μ K' := WC.of1 fun s ι E Q v I r hQ => by
  obtain ⟨a, d, vs, n, od, rfl, hia, IA, hdi, hd, hdn, rl, hl⟩ := I.pil hi r
  refine Calls.call_function_entry kind_len plain_len entry_len (args_len1 _) ?_
  unfold Builtin.«len»
  refine wpAny_bind (m := oneArg "len" _) (wpAny_pure ?_)
  refine wpAny_bind (m := callSpecial? (.ref a) (Str.ofString "__len__")) (special_fn (P.here I) IA hs hf ?_)
  refine h.run s ι E _ [.ref a] I (by simp only [RepL]; exact ⟨_, _, rfl, r, rfl⟩) fun v s₁ ι₁ p μ₁ S₁ I₁ r₁ k₁ => ?_
  obtain ⟨n, rfl, h0, h1, k₁⟩ := k₁
  simp only [RepV] at r₁
  obtain ⟨t, rfl⟩ := r₁
  refine wpAny_bind (wpAny_holding (wpAny_pure ?_))
  refine wpAny_bind (wpAny_letGo ?_)
  show wpAny _ _ (if n < 0 then _ else _) _ _ _
  rw [if_neg (by omega)]
  show wpAny _ _ (if n ≥ 2 ^ 63 then _ else _) _ _ _
  rw [if_neg (by omega)]
  have g := toks_inv O I₁ (s₁.toks + 1)
  exact wpAny_bind (wpAny_mkInt (wpAny_pure ⟨_, rfl, hQ _ _ ι₁ (.int n) μ₁ (S₁.trans g.2) g.1 (by simp only [RepV]; exact ⟨_, rfl⟩) k₁⟩))
/-- str(pile): its own __str__ -/
theorem WC.str_pil {i : Nat} {k : Int} {its : List (Str × Str)} {f : Addr} {K' : PV → Mu → Prop} (O : c.Ok) (ao : AOk 1 A) (P : PilK c K) (hs : findIn K (.ref c.C) "__str__" = some (some (.ref f))) (hf : isFn K (.ref f) = true) (hi : μ[i]? = some (.pil k its))
    (h : WC c A.in1.in1 (.ref f) [.loc i] μ fun p μ' => ∃ x, p = .str x ∧ K' (.str x) μ') : WC c A (.type "str") [.loc i] μ K' := WC.of1 fun s ι E Q v I r hQ => by
  obtain ⟨a, d, vs, n, od, rfl, hia, IA, hdi, hd, hdn, rl, hl⟩ := I.pil hi r
  refine kso_call (by have := ao.u; show A.units + 1 + 1 < 9900; omega) (P.here I) IA hs hf ?_
  refine h.run s ι E _ [.ref a] I (by simp only [RepL]; exact ⟨_, _, rfl, r, rfl⟩) fun v s₁ ι₁ p μ₁ S₁ I₁ r₁ k₁ => ?_
  obtain ⟨x, rfl, k₁⟩ := k₁
  have r₂ := r₁
  simp only [RepV] at r₁
  obtain ⟨t, rfl⟩ := r₁
  exact hQ _ s₁ ι₁ (.str x) μ₁ S₁ I₁ r₂ k₁
end
end Mine
namespace Mine
section
variable {c : Cx} {A : Around} {env : Env} {ρ : Rho} {μ : Mu}
end
end Mine
namespace Mine
section
variable {c : Cx} {A : Around} {μ : Mu} {x y : Int} {K : PV → Mu → Prop}
theorem WV.mod_nat {a b : Nat} (O : c.Ok) (ha : x = (a : Int)) (hb : y = (b : Int)) (h0 : 0 < b) (k : K (.int ((a % b : Nat) : Int)) μ) : WV c A (f2 (binaryOp .Mod)) [.int x, .int y] μ K := by
  subst ha hb
  refine WV.mod_int O (by omega) ?_
  rw [Int.fmod_eq_emod_of_nonneg _ (by omega)]
  exact k
theorem WV.div_nat {a b : Nat} (O : c.Ok) (ha : x = (a : Int)) (hb : y = (b : Int)) (h0 : 0 < b ∧ b < 2 ^ 64) (k : K (.int ((a / b : Nat) : Int)) μ) : WV c A (f2 (binaryOp .FloorDiv)) [.int x, .int y] μ K := by
  subst ha hb
  refine WV.div_int O ⟨by omega, by simpa using h0.2⟩ ?_
  rw [Int.fdiv_eq_ediv_of_nonneg _ (by omega)]
  exact k
theorem WV.add_nat {a b : Nat} (O : c.Ok) (ha : x = (a : Int)) (hb : y = (b : Int)) (k : K (.int ((a + b : Nat) : Int)) μ) : WV c A (f2 (binaryOp .Add)) [.int x, .int y] μ K := by
  subst ha hb
  exact WV.add_int O k
theorem WV.mul_nat {a b : Nat} (O : c.Ok) (ha : x = (a : Int)) (hb : y = (b : Int)) (h0 : a < 2 ^ 64) (k : K (.int ((a * b : Nat) : Int)) μ) : WV c A (f2 (binaryOp .Mult)) [.int x, .int y] μ K := by
  subst ha hb
  exact WV.mul_int O ⟨by omega, by omega⟩ (by rw [Int.natCast_mul] at k; exact k)
theorem WV.pow_nat {a b : Nat} (O : c.Ok) (ha : x = (a : Int)) (hb : y = (b : Int)) (h0 : a < 2 ^ 64 ∧ b ≤ 1000000) (k : K (.int ((a ^ b : Nat) : Int)) μ) : WV c A (f2 (binaryOp .Pow)) [.int x, .int y] μ K := by
  subst ha hb
  refine WV.pow_int O ⟨by omega, by omega, by simpa using h0.1⟩ ?_
  rw [Int.toNat_natCast]
  rw [Int.natCast_pow] at k
  exact k
theorem WV.tdiv_nat {a b : Nat} (O : c.Ok) (hh : A.handled = none) (ha : x = (a : Int)) (hb : y = (b : Int)) (h0 : a < 2 ^ 1023 ∧ 0 < b) (k : K (.flt (fdiv (a : Int) (b : Int))) μ) : WV c A (f2 (binaryOp .Div)) [.int x, .int y] μ K := by
  subst ha hb
  exact WV.tdiv_int O hh ⟨by simpa using h0.1, by omega⟩ k
end
end Mine
namespace Mine
noncomputable section
def theDef (s : Option Stmt) : Arguments × List Stmt × Scope := match s with
  | some (.FunctionDef _ a b _ _ _ sc _ _ _) => (a, b, sc)
  | _ => ({ posonlyargs := [], args := [], vararg := none, kwonlyargs := [], kw_defaults := [], kwarg := none, defaults := [] }, [], { kind := .function, names := [], isGenerator := false, isCoroutine := false })
def modDef (k : Nat) : Arguments × List Stmt × Scope := theDef (PySem.Challenge.rw_to0009_01.row.prog.main.body[k]?)
def inCls (s : Option Stmt) (j : Nat) : Option Stmt := match s with
  | some (.ClassDef _ _ _ b _ _ _ _ _ _ _) => b[j]?
  | _ => none
def clsDef (j : Nat) : Arguments × List Stmt × Scope := theDef (inCls (PySem.Challenge.rw_to0009_01.row.prog.main.body[9]?) j)
def fnObj (d : Arguments × List Stmt × Scope) (name qualname : Str) (globals : Addr) (closure : List (Str × Addr)) (defaults kwdefaults doc pyModule : Value) (annotations : Option Addr) (code closureTuple : Value) (builtins : Addr) : Obj :=
  { cls := .type "function", dict := none, data := .func (FuncData.mk name qualname d.1 (.stmts d.2.1) d.2.2 globals closure defaults kwdefaults doc pyModule annotations code closureTuple builtins), slots := #[] }
abbrev tabNil : Obj := { cls := .none, dict := none, data := .fields #[], slots := #[] }
def heapM (P : Params) : Frag := [
   (2, { cls := PySem.Value.none, data := PySem.Data.dict #[] })
  , (3, { cls := PySem.Value.type "dict", data := PySem.Data.dict #[{ hash := PySem.PyData.keyHash P (PySem.Str.ofString "__name__"), key := PySem.Value.str (PySem.Str.ofString "__name__") 165, val := PySem.Value.str (PySem.Str.ofString "law_to0009_01") 344 }, { hash := PySem.PyData.keyHash P (PySem.Str.ofString "__doc__"), key := PySem.Value.str (PySem.Str.ofString "__doc__") 166, val := PySem.Value.none }, { hash := PySem.PyData.keyHash P (PySem.Str.ofString "__package__"), key := PySem.Value.str (PySem.Str.ofString "__package__") 167, val := PySem.Value.none }, { hash := PySem.PyData.keyHash P (PySem.Str.ofString "__loader__"), key := PySem.Value.str (PySem.Str.ofString "__loader__") 168, val := PySem.Value.builtin "__main__.__loader__#opaque" }, { hash := PySem.PyData.keyHash P (PySem.Str.ofString "__spec__"), key := PySem.Value.str (PySem.Str.ofString "__spec__") 169, val := PySem.Value.none }, { hash := PySem.PyData.keyHash P (PySem.Str.ofString "__annotations__"), key := PySem.Value.str (PySem.Str.ofString "__annotations__") 170, val := PySem.Value.ref 6 }, { hash := PySem.PyData.keyHash P (PySem.Str.ofString "__builtins__"), key := PySem.Value.str (PySem.Str.ofString "__builtins__") 171, val := PySem.Value.ref 4 }, { hash := PySem.PyData.keyHash P (PySem.Str.ofString "__file__"), key := PySem.Value.str (PySem.Str.ofString "__file__") 173, val := PySem.Value.str (PySem.Str.ofString "/claim/cut.py") 172 }, { hash := PySem.PyData.keyHash P (PySem.Str.ofString "__cached__"), key := PySem.Value.str (PySem.Str.ofString "__cached__") 174, val := PySem.Value.none }, { hash := PySem.PyData.keyHash P (PySem.Str.ofString "_wall"), key := PySem.Value.str (PySem.Str.ofString "_wall") 193, val := PySem.Value.ref 21 }, { hash := PySem.PyData.keyHash P (PySem.Str.ofString "ELLIPSIS_MARKER"), key := PySem.Value.str (PySem.Str.ofString "ELLIPSIS_MARKER") 197, val := PySem.Value.str (PySem.Str.ofString "...") 196 }, { hash := PySem.PyData.keyHash P (PySem.Str.ofString "_ellipsis_match"), key := PySem.Value.str (PySem.Str.ofString "_ellipsis_match") 209, val := PySem.Value.ref 28 }, { hash := PySem.PyData.keyHash P (PySem.Str.ofString "rgb_to_hsv"), key := PySem.Value.str (PySem.Str.ofString "rgb_to_hsv") 229, val := PySem.Value.ref 35 }, { hash := PySem.PyData.keyHash P (PySem.Str.ofString "hsv_to_rgb"), key := PySem.Value.str (PySem.Str.ofString "hsv_to_rgb") 243, val := PySem.Value.ref 42 }, { hash := PySem.PyData.keyHash P (PySem.Str.ofString "EMPTYSTRING"), key := PySem.Value.str (PySem.Str.ofString "EMPTYSTRING") 247, val := PySem.Value.str (PySem.Str.ofString "") 246 }, { hash := PySem.PyData.keyHash P (PySem.Str.ofString "_Accumulator"), key := PySem.Value.str (PySem.Str.ofString "_Accumulator") 343, val := PySem.Value.ref 122 }, { hash := PySem.PyData.keyHash P (PySem.Str.ofString "_law_order"), key := PySem.Value.str (PySem.Str.ofString "_law_order") 351, val := PySem.Value.ref 131 }, { hash := PySem.PyData.keyHash P (PySem.Str.ofString "_law_laid"), key := PySem.Value.str (PySem.Str.ofString "_law_laid") 357, val := PySem.Value.ref 136 }, { hash := PySem.PyData.keyHash P (PySem.Str.ofString "_law_covered"), key := PySem.Value.str (PySem.Str.ofString "_law_covered") 367, val := PySem.Value.ref 143 }, { hash := PySem.PyData.keyHash P (PySem.Str.ofString "_law_told"), key := PySem.Value.str (PySem.Str.ofString "_law_told") 373, val := PySem.Value.ref 148 }, { hash := PySem.PyData.keyHash P (PySem.Str.ofString "_law_taken"), key := PySem.Value.str (PySem.Str.ofString "_law_taken") 379, val := PySem.Value.ref 153 }, { hash := PySem.PyData.keyHash P (PySem.Str.ofString "_law_laps"), key := PySem.Value.str (PySem.Str.ofString "_law_laps") 385, val := PySem.Value.ref 158 }, { hash := PySem.PyData.keyHash P (PySem.Str.ofString "law"), key := PySem.Value.str (PySem.Str.ofString "law") 391, val := PySem.Value.ref 163 }] 23 })
  , (27, { cls := PySem.Value.type "code", data := PySem.Data.fields #[PySem.Value.str (PySem.Str.ofString "_ellipsis_match") 198, PySem.Value.str (PySem.Str.ofString "_ellipsis_match") 199, PySem.Value.str (PySem.Str.ofString "/claim/cut.py") 200, PySem.Value.int 6 0, PySem.Value.int 2 0, PySem.Value.int 0 0, PySem.Value.int 0 0, PySem.Value.int 3 0, PySem.Value.ref 22, PySem.Value.bool Bool.true, PySem.Value.int 181 0, PySem.Value.ref 23, PySem.Value.none, PySem.Value.ref 24, PySem.Value.ref 25, PySem.Value.ref 26, PySem.Value.int 207 0, PySem.Value.int 6 0, PySem.Value.str (PySem.Str.ofString "/claim/cut.py") 208] })
  , (28, fnObj (modDef 3) (PySem.Str.ofString "_ellipsis_match") (PySem.Str.ofString "_ellipsis_match") (3) ([]) (PySem.Value.none) (PySem.Value.none) (PySem.Value.none) (PySem.Value.str (PySem.Str.ofString "cpy313.doctest") 194) (Option.none) (PySem.Value.ref 27) (PySem.Value.none) (0))
  , (34, { cls := PySem.Value.type "code", data := PySem.Data.fields #[PySem.Value.str (PySem.Str.ofString "rgb_to_hsv") 212, PySem.Value.str (PySem.Str.ofString "rgb_to_hsv") 213, PySem.Value.str (PySem.Str.ofString "/claim/cut.py") 214, PySem.Value.int 35 0, PySem.Value.int 3 0, PySem.Value.int 0 0, PySem.Value.int 0 0, PySem.Value.int 3 0, PySem.Value.ref 29, PySem.Value.bool Bool.true, PySem.Value.int 181 0, PySem.Value.ref 30, PySem.Value.none, PySem.Value.ref 31, PySem.Value.ref 32, PySem.Value.ref 33, PySem.Value.int 227 0, PySem.Value.int 35 0, PySem.Value.str (PySem.Str.ofString "/claim/cut.py") 228] })
  , (35, fnObj (modDef 5) (PySem.Str.ofString "rgb_to_hsv") (PySem.Str.ofString "rgb_to_hsv") (3) ([]) (PySem.Value.none) (PySem.Value.none) (PySem.Value.none) (PySem.Value.str (PySem.Str.ofString "cpy313.colorsys") 210) (Option.none) (PySem.Value.ref 34) (PySem.Value.none) (0))
  , (41, { cls := PySem.Value.type "code", data := PySem.Data.fields #[PySem.Value.str (PySem.Str.ofString "hsv_to_rgb") 230, PySem.Value.str (PySem.Str.ofString "hsv_to_rgb") 231, PySem.Value.str (PySem.Str.ofString "/claim/cut.py") 232, PySem.Value.int 54 0, PySem.Value.int 3 0, PySem.Value.int 0 0, PySem.Value.int 0 0, PySem.Value.int 3 0, PySem.Value.ref 36, PySem.Value.bool Bool.true, PySem.Value.int 181 0, PySem.Value.ref 37, PySem.Value.none, PySem.Value.ref 38, PySem.Value.ref 39, PySem.Value.ref 40, PySem.Value.int 241 0, PySem.Value.int 54 0, PySem.Value.str (PySem.Str.ofString "/claim/cut.py") 242] })
  , (42, fnObj (modDef 6) (PySem.Str.ofString "hsv_to_rgb") (PySem.Str.ofString "hsv_to_rgb") (3) ([]) (PySem.Value.none) (PySem.Value.none) (PySem.Value.none) (PySem.Value.str (PySem.Str.ofString "cpy313.colorsys") 210) (Option.none) (PySem.Value.ref 41) (PySem.Value.none) (0))
  , (46, { cls := PySem.Value.type "cell", data := PySem.Data.cell (Option.some (PySem.Value.ref 122)) })
  , (51, { cls := PySem.Value.type "tuple", data := PySem.Data.seq #[PySem.Value.int 0 260] })
  , (58, { cls := PySem.Value.type "code", data := PySem.Data.fields #[PySem.Value.str (PySem.Str.ofString "__init__") 261, PySem.Value.str (PySem.Str.ofString "_Accumulator.__init__") 262, PySem.Value.str (PySem.Str.ofString "/claim/cut.py") 263, PySem.Value.int 79 0, PySem.Value.int 2 0, PySem.Value.int 0 0, PySem.Value.int 0 0, PySem.Value.int 3 0, PySem.Value.ref 53, PySem.Value.bool Bool.true, PySem.Value.int 181 0, PySem.Value.ref 54, PySem.Value.none, PySem.Value.ref 55, PySem.Value.ref 56, PySem.Value.ref 57, PySem.Value.int 267 0, PySem.Value.int 79 0, PySem.Value.str (PySem.Str.ofString "/claim/cut.py") 268] })
  , (59, fnObj (clsDef 0) (PySem.Str.ofString "__init__") (PySem.Str.ofString "_Accumulator.__init__") (3) ([(PySem.Str.ofString "__class__", 46)]) (PySem.Value.ref 51) (PySem.Value.none) (PySem.Value.none) (PySem.Value.str (PySem.Str.ofString "cpy313.email.header") 244) (Option.none) (PySem.Value.ref 58) (PySem.Value.ref 52) (0))
  , (65, { cls := PySem.Value.type "code", data := PySem.Data.fields #[PySem.Value.str (PySem.Str.ofString "push") 270, PySem.Value.str (PySem.Str.ofString "_Accumulator.push") 271, PySem.Value.str (PySem.Str.ofString "/claim/cut.py") 272, PySem.Value.int 83 0, PySem.Value.int 3 0, PySem.Value.int 0 0, PySem.Value.int 0 0, PySem.Value.int 3 0, PySem.Value.ref 60, PySem.Value.bool Bool.true, PySem.Value.int 181 0, PySem.Value.ref 61, PySem.Value.none, PySem.Value.ref 62, PySem.Value.ref 63, PySem.Value.ref 64, PySem.Value.int 276 0, PySem.Value.int 83 0, PySem.Value.str (PySem.Str.ofString "/claim/cut.py") 277] })
  , (66, fnObj (clsDef 1) (PySem.Str.ofString "push") (PySem.Str.ofString "_Accumulator.push") (3) ([]) (PySem.Value.none) (PySem.Value.none) (PySem.Value.none) (PySem.Value.str (PySem.Str.ofString "cpy313.email.header") 244) (Option.none) (PySem.Value.ref 65) (PySem.Value.none) (0))
  , (67, { cls := PySem.Value.type "tuple", data := PySem.Data.seq #[PySem.Value.int 0 279] })
  , (73, { cls := PySem.Value.type "code", data := PySem.Data.fields #[PySem.Value.str (PySem.Str.ofString "pop_from") 280, PySem.Value.str (PySem.Str.ofString "_Accumulator.pop_from") 281, PySem.Value.str (PySem.Str.ofString "/claim/cut.py") 282, PySem.Value.int 86 0, PySem.Value.int 2 0, PySem.Value.int 0 0, PySem.Value.int 0 0, PySem.Value.int 3 0, PySem.Value.ref 68, PySem.Value.bool Bool.true, PySem.Value.int 181 0, PySem.Value.ref 69, PySem.Value.none, PySem.Value.ref 70, PySem.Value.ref 71, PySem.Value.ref 72, PySem.Value.int 286 0, PySem.Value.int 86 0, PySem.Value.str (PySem.Str.ofString "/claim/cut.py") 287] })
  , (74, fnObj (clsDef 2) (PySem.Str.ofString "pop_from") (PySem.Str.ofString "_Accumulator.pop_from") (3) ([]) (PySem.Value.ref 67) (PySem.Value.none) (PySem.Value.none) (PySem.Value.str (PySem.Str.ofString "cpy313.email.header") 244) (Option.none) (PySem.Value.ref 73) (PySem.Value.none) (0))
  , (81, { cls := PySem.Value.type "code", data := PySem.Data.fields #[PySem.Value.str (PySem.Str.ofString "pop") 289, PySem.Value.str (PySem.Str.ofString "_Accumulator.pop") 290, PySem.Value.str (PySem.Str.ofString "/claim/cut.py") 291, PySem.Value.int 91 0, PySem.Value.int 1 0, PySem.Value.int 0 0, PySem.Value.int 0 0, PySem.Value.int 3 0, PySem.Value.ref 76, PySem.Value.bool Bool.true, PySem.Value.int 181 0, PySem.Value.ref 77, PySem.Value.none, PySem.Value.ref 78, PySem.Value.ref 79, PySem.Value.ref 80, PySem.Value.int 294 0, PySem.Value.int 91 0, PySem.Value.str (PySem.Str.ofString "/claim/cut.py") 295] })
  , (82, fnObj (clsDef 3) (PySem.Str.ofString "pop") (PySem.Str.ofString "_Accumulator.pop") (3) ([(PySem.Str.ofString "__class__", 46)]) (PySem.Value.none) (PySem.Value.none) (PySem.Value.none) (PySem.Value.str (PySem.Str.ofString "cpy313.email.header") 244) (Option.none) (PySem.Value.ref 81) (PySem.Value.ref 75) (0))
  , (88, { cls := PySem.Value.type "code", data := PySem.Data.fields #[PySem.Value.str (PySem.Str.ofString "__len__") 297, PySem.Value.str (PySem.Str.ofString "_Accumulator.__len__") 298, PySem.Value.str (PySem.Str.ofString "/claim/cut.py") 299, PySem.Value.int 96 0, PySem.Value.int 1 0, PySem.Value.int 0 0, PySem.Value.int 0 0, PySem.Value.int 3 0, PySem.Value.ref 83, PySem.Value.bool Bool.true, PySem.Value.int 181 0, PySem.Value.ref 84, PySem.Value.none, PySem.Value.ref 85, PySem.Value.ref 86, PySem.Value.ref 87, PySem.Value.int 301 0, PySem.Value.int 96 0, PySem.Value.str (PySem.Str.ofString "/claim/cut.py") 302] })
  , (89, fnObj (clsDef 4) (PySem.Str.ofString "__len__") (PySem.Str.ofString "_Accumulator.__len__") (3) ([]) (PySem.Value.none) (PySem.Value.none) (PySem.Value.none) (PySem.Value.str (PySem.Str.ofString "cpy313.email.header") 244) (Option.none) (PySem.Value.ref 88) (PySem.Value.none) (0))
  , (95, { cls := PySem.Value.type "code", data := PySem.Data.fields #[PySem.Value.str (PySem.Str.ofString "__str__") 304, PySem.Value.str (PySem.Str.ofString "_Accumulator.__str__") 305, PySem.Value.str (PySem.Str.ofString "/claim/cut.py") 306, PySem.Value.int 99 0, PySem.Value.int 1 0, PySem.Value.int 0 0, PySem.Value.int 0 0, PySem.Value.int 3 0, PySem.Value.ref 90, PySem.Value.bool Bool.true, PySem.Value.int 181 0, PySem.Value.ref 91, PySem.Value.none, PySem.Value.ref 92, PySem.Value.ref 93, PySem.Value.ref 94, PySem.Value.int 308 0, PySem.Value.int 99 0, PySem.Value.str (PySem.Str.ofString "/claim/cut.py") 309] })
  , (96, fnObj (clsDef 5) (PySem.Str.ofString "__str__") (PySem.Str.ofString "_Accumulator.__str__") (3) ([]) (PySem.Value.none) (PySem.Value.none) (PySem.Value.none) (PySem.Value.str (PySem.Str.ofString "cpy313.email.header") 244) (Option.none) (PySem.Value.ref 95) (PySem.Value.none) (0))
  , (118, { cls := PySem.Value.type "code", data := PySem.Data.fields #[PySem.Value.str (PySem.Str.ofString "part_count") 326, PySem.Value.str (PySem.Str.ofString "_Accumulator.part_count") 327, PySem.Value.str (PySem.Str.ofString "/claim/cut.py") 328, PySem.Value.int 108 0, PySem.Value.int 1 0, PySem.Value.int 0 0, PySem.Value.int 0 0, PySem.Value.int 3 0, PySem.Value.ref 113, PySem.Value.bool Bool.true, PySem.Value.int 181 0, PySem.Value.ref 114, PySem.Value.none, PySem.Value.ref 115, PySem.Value.ref 116, PySem.Value.ref 117, PySem.Value.int 331 0, PySem.Value.int 108 0, PySem.Value.str (PySem.Str.ofString "/claim/cut.py") 332] })
  , (119, fnObj (clsDef 8) (PySem.Str.ofString "part_count") (PySem.Str.ofString "_Accumulator.part_count") (3) ([(PySem.Str.ofString "__class__", 46)]) (PySem.Value.none) (PySem.Value.none) (PySem.Value.none) (PySem.Value.str (PySem.Str.ofString "cpy313.email.header") 244) (Option.none) (PySem.Value.ref 118) (PySem.Value.ref 112) (0))
  , (121, { cls := PySem.Value.type "dict", data := PySem.Data.dict #[{ hash := PySem.PyData.keyHash P (PySem.Str.ofString "__module__"), key := PySem.Value.str (PySem.Str.ofString "__module__") 255, val := PySem.Value.str (PySem.Str.ofString "cpy313.email.header") 244 }, { hash := PySem.PyData.keyHash P (PySem.Str.ofString "__firstlineno__"), key := PySem.Value.str (PySem.Str.ofString "__firstlineno__") 259, val := PySem.Value.int 77 258 }, { hash := PySem.PyData.keyHash P (PySem.Str.ofString "__init__"), key := PySem.Value.str (PySem.Str.ofString "__init__") 269, val := PySem.Value.ref 59 }, { hash := PySem.PyData.keyHash P (PySem.Str.ofString "push"), key := PySem.Value.str (PySem.Str.ofString "push") 278, val := PySem.Value.ref 66 }, { hash := PySem.PyData.keyHash P (PySem.Str.ofString "pop_from"), key := PySem.Value.str (PySem.Str.ofString "pop_from") 288, val := PySem.Value.ref 74 }, { hash := PySem.PyData.keyHash P (PySem.Str.ofString "pop"), key := PySem.Value.str (PySem.Str.ofString "pop") 296, val := PySem.Value.ref 82 }, { hash := PySem.PyData.keyHash P (PySem.Str.ofString "__len__"), key := PySem.Value.str (PySem.Str.ofString "__len__") 303, val := PySem.Value.ref 89 }, { hash := PySem.PyData.keyHash P (PySem.Str.ofString "__str__"), key := PySem.Value.str (PySem.Str.ofString "__str__") 310, val := PySem.Value.ref 96 }, { hash := PySem.PyData.keyHash P (PySem.Str.ofString "reset"), key := PySem.Value.str (PySem.Str.ofString "reset") 318, val := PySem.Value.ref 104 }, { hash := PySem.PyData.keyHash P (PySem.Str.ofString "is_onlyws"), key := PySem.Value.str (PySem.Str.ofString "is_onlyws") 325, val := PySem.Value.ref 111 }, { hash := PySem.PyData.keyHash P (PySem.Str.ofString "part_count"), key := PySem.Value.str (PySem.Str.ofString "part_count") 333, val := PySem.Value.ref 119 }, { hash := PySem.PyData.keyHash P (PySem.Str.ofString "__static_attributes__"), key := PySem.Value.str (PySem.Str.ofString "__static_attributes__") 335, val := PySem.Value.ref 120 }, { hash := PySem.PyData.keyHash P (PySem.Str.ofString "__dict__"), key := PySem.Value.str (PySem.Str.ofString "__dict__") 338, val := PySem.Value.ref 123 }, { hash := PySem.PyData.keyHash P (PySem.Str.ofString "__weakref__"), key := PySem.Value.str (PySem.Str.ofString "__weakref__") 340, val := PySem.Value.ref 124 }, { hash := PySem.PyData.keyHash P (PySem.Str.ofString "__doc__"), key := PySem.Value.str (PySem.Str.ofString "__doc__") 341, val := PySem.Value.none }] 5 })
  , (122, { cls := PySem.Value.type "type", data := PySem.Data.cls { name := PySem.Str.ofString "_Accumulator", bases := [PySem.Value.type "list"], mro := [PySem.Value.ref 122, PySem.Value.type "list", PySem.Value.type "object"], ns := 121, qualname := PySem.Str.ofString "_Accumulator" }, slots := #[Option.some (PySem.Value.ref 43), Option.none, Option.some (PySem.Value.str (PySem.Str.ofString "_Accumulator") 248), Option.some (PySem.Value.str (PySem.Str.ofString "_Accumulator") 256), Option.some (PySem.Value.builtin "list.__new__"), Option.some (PySem.Value.bool Bool.true)] })
  , (130, { cls := PySem.Value.type "code", data := PySem.Data.fields #[PySem.Value.str (PySem.Str.ofString "_law_order") 346, PySem.Value.str (PySem.Str.ofString "_law_order") 347, PySem.Value.str (PySem.Str.ofString "/claim/cut.py") 348, PySem.Value.int 111 0, PySem.Value.int 1 0, PySem.Value.int 0 0, PySem.Value.int 0 0, PySem.Value.int 3 0, PySem.Value.ref 127, PySem.Value.bool Bool.true, PySem.Value.int 181 0, PySem.Value.ref 128, PySem.Value.none, PySem.Value.none, PySem.Value.none, PySem.Value.ref 129, PySem.Value.int 349 0, PySem.Value.int 111 0, PySem.Value.str (PySem.Str.ofString "/claim/cut.py") 350] })
  , (131, fnObj (modDef 11) (PySem.Str.ofString "_law_order") (PySem.Str.ofString "_law_order") (3) ([]) (PySem.Value.none) (PySem.Value.none) (PySem.Value.none) (PySem.Value.str (PySem.Str.ofString "law_to0009_01") 344) (Option.none) (PySem.Value.ref 130) (PySem.Value.none) (0))
  , (135, { cls := PySem.Value.type "code", data := PySem.Data.fields #[PySem.Value.str (PySem.Str.ofString "_law_laid") 352, PySem.Value.str (PySem.Str.ofString "_law_laid") 353, PySem.Value.str (PySem.Str.ofString "/claim/cut.py") 354, PySem.Value.int 122 0, PySem.Value.int 2 0, PySem.Value.int 0 0, PySem.Value.int 0 0, PySem.Value.int 3 0, PySem.Value.ref 132, PySem.Value.bool Bool.true, PySem.Value.int 181 0, PySem.Value.ref 133, PySem.Value.none, PySem.Value.none, PySem.Value.none, PySem.Value.ref 134, PySem.Value.int 355 0, PySem.Value.int 122 0, PySem.Value.str (PySem.Str.ofString "/claim/cut.py") 356] })
  , (136, fnObj (modDef 12) (PySem.Str.ofString "_law_laid") (PySem.Str.ofString "_law_laid") (3) ([]) (PySem.Value.none) (PySem.Value.none) (PySem.Value.none) (PySem.Value.str (PySem.Str.ofString "law_to0009_01") 344) (Option.none) (PySem.Value.ref 135) (PySem.Value.none) (0))
  , (142, { cls := PySem.Value.type "code", data := PySem.Data.fields #[PySem.Value.str (PySem.Str.ofString "_law_covered") 358, PySem.Value.str (PySem.Str.ofString "_law_covered") 359, PySem.Value.str (PySem.Str.ofString "/claim/cut.py") 360, PySem.Value.int 144 0, PySem.Value.int 2 0, PySem.Value.int 0 0, PySem.Value.int 0 0, PySem.Value.int 3 0, PySem.Value.ref 137, PySem.Value.bool Bool.true, PySem.Value.int 181 0, PySem.Value.ref 138, PySem.Value.none, PySem.Value.ref 139, PySem.Value.ref 140, PySem.Value.ref 141, PySem.Value.int 365 0, PySem.Value.int 144 0, PySem.Value.str (PySem.Str.ofString "/claim/cut.py") 366] })
  , (143, fnObj (modDef 13) (PySem.Str.ofString "_law_covered") (PySem.Str.ofString "_law_covered") (3) ([]) (PySem.Value.none) (PySem.Value.none) (PySem.Value.none) (PySem.Value.str (PySem.Str.ofString "law_to0009_01") 344) (Option.none) (PySem.Value.ref 142) (PySem.Value.none) (0))
  , (147, { cls := PySem.Value.type "code", data := PySem.Data.fields #[PySem.Value.str (PySem.Str.ofString "_law_told") 368, PySem.Value.str (PySem.Str.ofString "_law_told") 369, PySem.Value.str (PySem.Str.ofString "/claim/cut.py") 370, PySem.Value.int 152 0, PySem.Value.int 2 0, PySem.Value.int 0 0, PySem.Value.int 0 0, PySem.Value.int 3 0, PySem.Value.ref 144, PySem.Value.bool Bool.true, PySem.Value.int 181 0, PySem.Value.ref 145, PySem.Value.none, PySem.Value.none, PySem.Value.none, PySem.Value.ref 146, PySem.Value.int 371 0, PySem.Value.int 152 0, PySem.Value.str (PySem.Str.ofString "/claim/cut.py") 372] })
  , (148, fnObj (modDef 14) (PySem.Str.ofString "_law_told") (PySem.Str.ofString "_law_told") (3) ([]) (PySem.Value.none) (PySem.Value.none) (PySem.Value.none) (PySem.Value.str (PySem.Str.ofString "law_to0009_01") 344) (Option.none) (PySem.Value.ref 147) (PySem.Value.none) (0))
  , (152, { cls := PySem.Value.type "code", data := PySem.Data.fields #[PySem.Value.str (PySem.Str.ofString "_law_taken") 374, PySem.Value.str (PySem.Str.ofString "_law_taken") 375, PySem.Value.str (PySem.Str.ofString "/claim/cut.py") 376, PySem.Value.int 164 0, PySem.Value.int 1 0, PySem.Value.int 0 0, PySem.Value.int 0 0, PySem.Value.int 3 0, PySem.Value.ref 149, PySem.Value.bool Bool.true, PySem.Value.int 181 0, PySem.Value.ref 150, PySem.Value.none, PySem.Value.none, PySem.Value.none, PySem.Value.ref 151, PySem.Value.int 377 0, PySem.Value.int 164 0, PySem.Value.str (PySem.Str.ofString "/claim/cut.py") 378] })
  , (153, fnObj (modDef 15) (PySem.Str.ofString "_law_taken") (PySem.Str.ofString "_law_taken") (3) ([]) (PySem.Value.none) (PySem.Value.none) (PySem.Value.none) (PySem.Value.str (PySem.Str.ofString "law_to0009_01") 344) (Option.none) (PySem.Value.ref 152) (PySem.Value.none) (0))
  , (157, { cls := PySem.Value.type "code", data := PySem.Data.fields #[PySem.Value.str (PySem.Str.ofString "_law_laps") 380, PySem.Value.str (PySem.Str.ofString "_law_laps") 381, PySem.Value.str (PySem.Str.ofString "/claim/cut.py") 382, PySem.Value.int 170 0, PySem.Value.int 1 0, PySem.Value.int 0 0, PySem.Value.int 0 0, PySem.Value.int 3 0, PySem.Value.ref 154, PySem.Value.bool Bool.true, PySem.Value.int 181 0, PySem.Value.ref 155, PySem.Value.none, PySem.Value.none, PySem.Value.none, PySem.Value.ref 156, PySem.Value.int 383 0, PySem.Value.int 170 0, PySem.Value.str (PySem.Str.ofString "/claim/cut.py") 384] })
  , (158, fnObj (modDef 16) (PySem.Str.ofString "_law_laps") (PySem.Str.ofString "_law_laps") (3) ([]) (PySem.Value.none) (PySem.Value.none) (PySem.Value.none) (PySem.Value.str (PySem.Str.ofString "law_to0009_01") 344) (Option.none) (PySem.Value.ref 157) (PySem.Value.none) (0))
  , (162, { cls := PySem.Value.type "code", data := PySem.Data.fields #[PySem.Value.str (PySem.Str.ofString "law") 386, PySem.Value.str (PySem.Str.ofString "law") 387, PySem.Value.str (PySem.Str.ofString "/claim/cut.py") 388, PySem.Value.int 189 0, PySem.Value.int 1 0, PySem.Value.int 0 0, PySem.Value.int 0 0, PySem.Value.int 3 0, PySem.Value.ref 159, PySem.Value.bool Bool.true, PySem.Value.int 181 0, PySem.Value.ref 160, PySem.Value.none, PySem.Value.none, PySem.Value.none, PySem.Value.ref 161, PySem.Value.int 389 0, PySem.Value.int 189 0, PySem.Value.str (PySem.Str.ofString "/claim/cut.py") 390] })
  , (163, fnObj (modDef 17) (PySem.Str.ofString "law") (PySem.Str.ofString "law") (3) ([]) (PySem.Value.none) (PySem.Value.none) (PySem.Value.none) (PySem.Value.str (PySem.Str.ofString "law_to0009_01") 344) (Option.none) (PySem.Value.ref 162) (PySem.Value.none) (0))
]
def heapT (P : Params) : Frag := (84, tabNil) :: (91, tabNil) :: heapM P
def asT : List Addr := [84,91,2,3,27,28,34,35,41,42,46,51,58,59,65,66,67,73,74,81,82,88,89,95,96,118,119,121,122,130,131,135,136,142,143,147,148,152,153,157,158,162,163]
theorem asT_eq (P : Params) : asT = (heapT P).map (·.1) := by kernel_rfl
end
end Mine
namespace Mine
noncomputable section
def noFd : FuncData := { name := "", qualname := "", params := { posonlyargs := [], args := [], vararg := none, kwonlyargs := [], kw_defaults := [], kwarg := none, defaults := [] }, body := .stmts [], scope := { kind := .function, names := [], isGenerator := false, isCoroutine := false, more := [] }, globals := 0, closure := [], defaults := .none, kwdefaults := .none, pyModule := .none, code := .none }
def fdOf : Option Obj → FuncData
  | some o => match o.data with
    | .func fd => fd
    | _ => noFd
  | none => noFd
def bodyOf (fd : FuncData) : List Stmt := match fd.body with
  | .stmts b => b
  | _ => []
abbrev H2 (w : World) : Frag := heapM w.params
def fd2 (w : World) (a : Addr) : FuncData := fdOf ((H2 w).lookup a)
def es2 (w : World) : Array DictEntry := match (H2 w).lookup 3 with
  | some o => match o.data with
    | .dict es _ => es
    | _ => #[]
  | none => #[]
def mg2 (w : World) (x : Str) : Option Value := nsFind (es2 w) x

/-- the second law's run -/
structure G2 (w : World) (c : Cx) : Prop where
  ok : c.Ok
  K : (H2 w).In c.hB
  X : ∀ a ∈ c.X, (H2 w).lookup a = none
  mg : c.mg = mg2 w
  mb : ∀ x : Str, x ≠ "__name__" → c.mb x = bootBuiltins x
  C : c.C = 122
  gl : GenTab c 88 84
  gs : GenTab c 95 91
  bm : BinM c
  file : c.prog.main.file = "/claim/cut.py"
  sup : (c.prog.main.scope.names.lookup ("super" : Str)).isSome = false

theorem len1 {α : Type} {l : List α} (h : l.length = 1) : ∃ a, l = [a] := by
  cases l with
  | nil => cases h
  | cons a l => cases l with
    | nil => exact ⟨a, rfl⟩
    | cons b l => cases h
theorem len2 {α : Type} {l : List α} (h : l.length = 2) : ∃ a b, l = [a, b] := by
  cases l with
  | nil => cases h
  | cons a l => obtain ⟨b, rfl⟩ := len1 (Nat.succ.inj h); exact ⟨a, b, rfl⟩
theorem len3 {α : Type} {l : List α} (h : l.length = 3) : ∃ a b d, l = [a, b, d] := by
  cases l with
  | nil => cases h
  | cons a l => obtain ⟨b, d, rfl⟩ := len2 (Nat.succ.inj h); exact ⟨a, b, d, rfl⟩
theorem mem2 {α : Type} {P : α → Prop} {a b : α} (ha : P a) (hb : P b) : ∀ x ∈ [a, b], P x := by
  intro x hx
  rcases List.mem_cons.mp hx with rfl | hx
  · exact ha
  · rw [List.mem_singleton.mp hx]; exact hb
theorem noCell {l : List (Str × NameKind)} (h : (l.all fun x => !(x.2 == .cell)) = true) : ∀ x ∈ l, x.2 ≠ .cell := fun x hx q => by
  have := List.all_eq_true.mp h x hx
  rw [q] at this; exact absurd this (by decide)
theorem G2.here {w : World} {c : Cx} (G : G2 w c) {a : Addr} {o : Obj} (e : (H2 w).lookup a = some o) : c.hB.get? a = some o ∧ a ∉ c.X := ⟨G.K a o e, fun h => by rw [G.X a h] at e; cases e⟩

theorem def28 {w : World} {c : Cx} (G : G2 w c) : DefOk c 28 (fd2 w 28) (bodyOf (fd2 w 28)) ["want", "got"] where
  fn := ⟨⟨_, (G.here (a := 28) rfl).1, rfl⟩, (G.here (a := 28) rfl).2⟩
  code := ⟨27, _, _, _, rfl, (G.here (a := 27) rfl).1, (G.here (a := 27) rfl).2, rfl, rfl⟩
  body := rfl
  bind := fun s vs _ h => by
    obtain ⟨a, b, rfl⟩ := len2 h
    exact BindsTo.of_eq (by kernel_rfl)
  nd := by decide
  dbg := mem2 (by decide) (by decide)
  clo := rfl
  glo := rfl
  bi := rfl
  co := rfl
  gen := rfl
  kind := rfl
theorem boot_len : bootBuiltins "len" = some (.builtin "len") := by rfl
theorem G2.n_len {w : World} {c : Cx} (G : G2 w c) : c.mg "len" = none := by rw [G.mg]; rfl
theorem G2.b_len {w : World} {c : Cx} (G : G2 w c) : c.mb "len" = some (.builtin "len") := by rw [G.mb _ (by decide)]; exact boot_len
theorem boot_range : bootBuiltins "range" = some (.type "range") := by rfl
theorem G2.n_range {w : World} {c : Cx} (G : G2 w c) : c.mg "range" = none := by rw [G.mg]; rfl
theorem G2.b_range {w : World} {c : Cx} (G : G2 w c) : c.mb "range" = some (.type "range") := by rw [G.mb _ (by decide)]; exact boot_range
theorem boot_max : bootBuiltins "max" = some (.builtin "max") := by rfl
theorem G2.n_max {w : World} {c : Cx} (G : G2 w c) : c.mg "max" = none := by rw [G.mg]; rfl
theorem G2.b_max {w : World} {c : Cx} (G : G2 w c) : c.mb "max" = some (.builtin "max") := by rw [G.mb _ (by decide)]; exact boot_max
theorem boot_min : bootBuiltins "min" = some (.builtin "min") := by rfl
theorem G2.n_min {w : World} {c : Cx} (G : G2 w c) : c.mg "min" = none := by rw [G.mg]; rfl
theorem G2.b_min {w : World} {c : Cx} (G : G2 w c) : c.mb "min" = some (.builtin "min") := by rw [G.mb _ (by decide)]; exact boot_min
theorem boot_sum : bootBuiltins "sum" = some (.builtin "sum") := by rfl
theorem G2.n_sum {w : World} {c : Cx} (G : G2 w c) : c.mg "sum" = none := by rw [G.mg]; rfl
theorem G2.b_sum {w : World} {c : Cx} (G : G2 w c) : c.mb "sum" = some (.builtin "sum") := by rw [G.mb _ (by decide)]; exact boot_sum
theorem boot_int : bootBuiltins "int" = some (.type "int") := by rfl
theorem G2.n_int {w : World} {c : Cx} (G : G2 w c) : c.mg "int" = none := by rw [G.mg]; rfl
theorem G2.b_int {w : World} {c : Cx} (G : G2 w c) : c.mb "int" = some (.type "int") := by rw [G.mb _ (by decide)]; exact boot_int
theorem boot_str : bootBuiltins "str" = some (.type "str") := by rfl
theorem G2.n_str {w : World} {c : Cx} (G : G2 w c) : c.mg "str" = none := by rw [G.mg]; rfl
theorem G2.b_str {w : World} {c : Cx} (G : G2 w c) : c.mb "str" = some (.type "str") := by rw [G.mb _ (by decide)]; exact boot_str
theorem G2.g35 {w : World} {c : Cx} (G : G2 w c) : c.mg "rgb_to_hsv" = some (.ref 35) := by rw [G.mg]; rfl
theorem G2.g42 {w : World} {c : Cx} (G : G2 w c) : c.mg "hsv_to_rgb" = some (.ref 42) := by rw [G.mg]; rfl
theorem G2.g28 {w : World} {c : Cx} (G : G2 w c) : c.mg "_ellipsis_match" = some (.ref 28) := by rw [G.mg]; rfl
theorem G2.g122 {w : World} {c : Cx} (G : G2 w c) : c.mg "_Accumulator" = some (.ref 122) := by rw [G.mg]; rfl
theorem G2.g131 {w : World} {c : Cx} (G : G2 w c) : c.mg "_law_order" = some (.ref 131) := by rw [G.mg]; rfl
theorem G2.g136 {w : World} {c : Cx} (G : G2 w c) : c.mg "_law_laid" = some (.ref 136) := by rw [G.mg]; rfl
theorem G2.g143 {w : World} {c : Cx} (G : G2 w c) : c.mg "_law_covered" = some (.ref 143) := by rw [G.mg]; rfl
theorem G2.g148 {w : World} {c : Cx} (G : G2 w c) : c.mg "_law_told" = some (.ref 148) := by rw [G.mg]; rfl
theorem G2.g153 {w : World} {c : Cx} (G : G2 w c) : c.mg "_law_taken" = some (.ref 153) := by rw [G.mg]; rfl
theorem G2.g158 {w : World} {c : Cx} (G : G2 w c) : c.mg "_law_laps" = some (.ref 158) := by rw [G.mg]; rfl
def dotTok (w : World) : Tok := match mg2 w "ELLIPSIS_MARKER" with | some (.str _ t) => t | _ => 0
def nilTok (w : World) : Tok := match mg2 w "EMPTYSTRING" with | some (.str _ t) => t | _ => 0
theorem G2.g_dots {w : World} {c : Cx} (G : G2 w c) : c.mg "ELLIPSIS_MARKER" = some (.str (S dots) (dotTok w)) := by rw [G.mg]; rfl
end
end Mine
namespace Mine
noncomputable section
theorem mem3 {α : Type} {P : α → Prop} {a b d : α} (ha : P a) (hb : P b) (hd : P d) : ∀ x ∈ [a, b, d], P x := by
  intro x hx
  rcases List.mem_cons.mp hx with rfl | hx
  · exact ha
  · exact mem2 hb hd x hx
theorem mem1 {α : Type} {P : α → Prop} {a : α} (ha : P a) : ∀ x ∈ [a], P x := by
  intro x hx
  rw [List.mem_singleton.mp hx]; exact ha

theorem def66 {w : World} {c : Cx} (G : G2 w c) : DefOk c 66 (fd2 w 66) (bodyOf (fd2 w 66)) ["self", "fws", "string"] where
  fn := ⟨⟨_, (G.here (a := 66) rfl).1, rfl⟩, (G.here (a := 66) rfl).2⟩
  code := ⟨65, _, _, _, rfl, (G.here (a := 65) rfl).1, (G.here (a := 65) rfl).2, rfl, rfl⟩
  body := rfl
  bind := fun s vs k h => by
    obtain ⟨a, b, c, rfl⟩ := len3 h
    exact BindsTo.of_eq (by kernel_rfl)
  nd := by decide
  dbg := mem3 (by decide) (by decide) (by decide)
  clo := rfl
  glo := rfl
  bi := rfl
  co := rfl
  gen := rfl
  kind := rfl

theorem def74 {w : World} {c : Cx} (G : G2 w c) : DefOk c 74 (fd2 w 74) (bodyOf (fd2 w 74)) ["self", "i"] where
  fn := ⟨⟨_, (G.here (a := 74) rfl).1, rfl⟩, (G.here (a := 74) rfl).2⟩
  code := ⟨73, _, _, _, rfl, (G.here (a := 73) rfl).1, (G.here (a := 73) rfl).2, rfl, rfl⟩
  body := rfl
  bind := fun s vs k h => by
    obtain ⟨a, b, rfl⟩ := len2 h
    exact kp_binds (K := H2 w) (fun b o e => k b o (G.here e).1 (G.here e).2) (fun S => by kernel_rfl)
  nd := by decide
  dbg := mem2 (by decide) (by decide)
  clo := rfl
  glo := rfl
  bi := rfl
  co := rfl
  gen := rfl
  kind := rfl

theorem def89 {w : World} {c : Cx} (G : G2 w c) : DefOk c 89 (fd2 w 89) (bodyOf (fd2 w 89)) ["self"] where
  fn := ⟨⟨_, (G.here (a := 89) rfl).1, rfl⟩, (G.here (a := 89) rfl).2⟩
  code := ⟨88, _, _, _, rfl, (G.here (a := 88) rfl).1, (G.here (a := 88) rfl).2, rfl, rfl⟩
  body := rfl
  bind := fun s vs k h => by
    obtain ⟨a, rfl⟩ := len1 h
    exact BindsTo.of_eq (by kernel_rfl)
  nd := by decide
  dbg := fun x hx => by rw [List.mem_singleton.mp hx]; decide
  clo := rfl
  glo := rfl
  bi := rfl
  co := rfl
  gen := rfl
  kind := rfl

theorem def96 {w : World} {c : Cx} (G : G2 w c) : DefOk c 96 (fd2 w 96) (bodyOf (fd2 w 96)) ["self"] where
  fn := ⟨⟨_, (G.here (a := 96) rfl).1, rfl⟩, (G.here (a := 96) rfl).2⟩
  code := ⟨95, _, _, _, rfl, (G.here (a := 95) rfl).1, (G.here (a := 95) rfl).2, rfl, rfl⟩
  body := rfl
  bind := fun s vs k h => by
    obtain ⟨a, rfl⟩ := len1 h
    exact BindsTo.of_eq (by kernel_rfl)
  nd := by decide
  dbg := fun x hx => by rw [List.mem_singleton.mp hx]; decide
  clo := rfl
  glo := rfl
  bi := rfl
  co := rfl
  gen := rfl
  kind := rfl

theorem defS59 {w : World} {c : Cx} (G : G2 w c) : DefS c 59 (fd2 w 59) (bodyOf (fd2 w 59)) 46 where
  fn := ⟨⟨_, (G.here (a := 59) rfl).1, rfl⟩, (G.here (a := 59) rfl).2⟩
  code := ⟨58, _, _, _, _, _, rfl, (G.here (a := 58) rfl).1, (G.here (a := 58) rfl).2, rfl, rfl, rfl, by rw [G.file]; exact beq_self_eq_true _⟩
  body := rfl
  clo := rfl
  cellAt := ⟨_, (G.here (a := 46) rfl).1, by rw [G.C], (G.here (a := 46) rfl).2⟩
  main := G.sup
  first := ⟨_, rfl, rfl⟩
  ks := fun L => rfl
  kc := fun L => rfl
  kself := fun L => rfl
  glo := rfl
  bi := rfl
  co := rfl
  gen := rfl
  kind := rfl
  cells := noCell rfl

theorem defS82 {w : World} {c : Cx} (G : G2 w c) : DefS c 82 (fd2 w 82) (bodyOf (fd2 w 82)) 46 where
  fn := ⟨⟨_, (G.here (a := 82) rfl).1, rfl⟩, (G.here (a := 82) rfl).2⟩
  code := ⟨81, _, _, _, _, _, rfl, (G.here (a := 81) rfl).1, (G.here (a := 81) rfl).2, rfl, rfl, rfl, by rw [G.file]; exact beq_self_eq_true _⟩
  body := rfl
  clo := rfl
  cellAt := ⟨_, (G.here (a := 46) rfl).1, by rw [G.C], (G.here (a := 46) rfl).2⟩
  main := G.sup
  first := ⟨_, rfl, rfl⟩
  ks := fun L => rfl
  kc := fun L => rfl
  kself := fun L => rfl
  glo := rfl
  bi := rfl
  co := rfl
  gen := rfl
  kind := rfl
  cells := noCell rfl

theorem defS119 {w : World} {c : Cx} (G : G2 w c) : DefS c 119 (fd2 w 119) (bodyOf (fd2 w 119)) 46 where
  fn := ⟨⟨_, (G.here (a := 119) rfl).1, rfl⟩, (G.here (a := 119) rfl).2⟩
  code := ⟨118, _, _, _, _, _, rfl, (G.here (a := 118) rfl).1, (G.here (a := 118) rfl).2, rfl, rfl, rfl, by rw [G.file]; exact beq_self_eq_true _⟩
  body := rfl
  clo := rfl
  cellAt := ⟨_, (G.here (a := 46) rfl).1, by rw [G.C], (G.here (a := 46) rfl).2⟩
  main := G.sup
  first := ⟨_, rfl, rfl⟩
  ks := fun L => rfl
  kc := fun L => rfl
  kself := fun L => rfl
  glo := rfl
  bi := rfl
  co := rfl
  gen := rfl
  kind := rfl
  cells := noCell rfl


theorem pilK {w : World} {c : Cx} (G : G2 w c) : PilK c (H2 w) where
  In := G.K
  X := G.X
  cls := by rw [G.C]; exact ⟨_, _, _, _, rfl, rfl, rfl, rfl, rfl, rfl, rfl⟩
  call := by rw [G.C]; kernel_rfl
  inst := by rw [G.C]; kernel_rfl
  seta := by rw [G.C]; kernel_rfl
  ini := by rw [G.C]; kernel_rfl
  sub := by rw [G.C]; kernel_rfl
  mod := by rw [G.C]; kernel_rfl
  typ := by rw [G.C]; kernel_rfl
  any := by kernel_rfl
  self := by rw [G.C]; kernel_rfl
  ga := by rw [G.C]; kernel_rfl
  gat := by rw [G.C]; kernel_rfl
  seq := by rw [G.C]; kernel_rfl
  geti := by rw [G.C]; kernel_rfl
  seti := by rw [G.C]; kernel_rfl
  iter := by rw [G.C]; kernel_rfl
  app := by rw [G.C]; kernel_rfl
  appT := by kernel_rfl
  lLen := by kernel_rfl
  lInit := by kernel_rfl
  lPop := by kernel_rfl
  gsup := by rw [G.mg]; rfl
  bsup := by rw [G.mb _ (by decide)]; rfl
end
end Mine
namespace Mine
noncomputable section
variable {w : World} {c : Cx} {A : Around} {μ : Mu}
theorem clipAt_min (n m : Nat) : clipAt n (m : Int) = min m n := by
  unfold clipAt
  rw [if_neg (Int.not_lt.mpr (Int.natCast_nonneg m))]
  rcases Nat.le_total m n with h | h
  · rw [Int.min_eq_left (Int.ofNat_le.mpr h), Int.max_eq_right (Int.natCast_nonneg m), Nat.min_eq_left h]; rfl
  · rw [Int.min_eq_right (Int.ofNat_le.mpr h), Int.max_eq_right (Int.natCast_nonneg n), Nat.min_eq_right h]; rfl
theorem clipAt_nat (n m : Nat) (h : m ≤ n) : clipAt n (m : Int) = m := by
  rw [clipAt_min, Nat.min_eq_left h]
theorem cutL_from {α : Type} (xs : List α) (m : Nat) (h : m ≤ xs.length) : cutL xs (some (m : Int)) none = xs.drop m := by
  unfold cutL
  simp only [Option.elim, clipAt_nat _ _ h]
  rw [List.take_of_length_le (by simp)]
theorem acc1_ok (G : G2 w c) (ao : AOk 2 A) {k : Int} {K' : PV → Mu → Prop} (hk : K' (.loc μ.length) (μ ++ [.pil k []])) : WC c A (.ref 122) [.int k] μ K' := by
  have O := G.ok
  rw [← G.C]
  exact pil_make (k := k) (fI := 59) (vI := fun vs => vs.headD .none) O (pilK G) (defS59 G) ao (fun L => ⟨_, (by with_unfolding_all rfl)⟩) (fun s ι vs v I r => by
      simp only [RepL] at r
      obtain ⟨a, _, rfl, r1, rfl⟩ := r
      exact kp_binds (K := H2 w) ((pilK G).here I) (fun S => by kernel_rfl))
    (fun h ι vs r => by
      simp only [RepL] at r
      obtain ⟨a, _, rfl, r1, rfl⟩ := r
      simp only [RepV] at r1
      obtain ⟨t, rfl⟩ := r1
      exact ⟨t, rfl⟩) rfl rfl (fun L => rfl) (fun L => rfl) (fun L => (by with_unfolding_all rfl)) (fun L => (by with_unfolding_all rfl)) (by rw [G.C]; kernel_rfl) (by kernel_rfl) hk
theorem push_ok (G : G2 w c) (ao : AOk 1 A) {i : Nat} {k : Int} {its : List (Str × Str)} {a b : Str} {K' : PV → Mu → Prop} (hi : μ[i]? = some (.pil k its)) (hb : its.length ≤ 1000000) (hk : K' .none (μ.set i (.pil k (its ++ [(a, b)])))) : WC c A (.ref 66) [.loc i, .str a, .str b] μ K' := by
  have O := G.ok
  refine WC.def (n := 0) O (def66 G) ao rfl (noCell rfl) (mem3 rfl rfl rfl) (fun L => rfl) (by decide) (fun L => mem3 rfl rfl rfl) fun L A ao => ?_
  show WSs c A _ _ [("self", .loc i), ("fws", .str a), ("string", .str b)] _ _
  refine WSs.cons O ?_
  refine WS.expr O ?_ (by with_unfolding_all rfl) (by with_unfolding_all rfl)
  refine WE.pappend O (pilK G) ?_ (by with_unfolding_all rfl) ⟨_, (by with_unfolding_all rfl)⟩
  refine WE.name (by walk_at "m") ⟨⟨_, _, _, rfl, hi⟩, ?_⟩
  refine WE.tuple O ?_
  with_reducible refine WEs.cons O ?_ (by with_unfolding_all rfl)
  with_reducible refine WE.name (by walk_at "m") ?_
  with_reducible refine WEs.cons O ?_ (by with_unfolding_all rfl)
  with_reducible refine WE.name (by walk_at "m") ?_
  with_reducible refine WEs.nil ?_
  exact ⟨by simp, _, _, _, (a, b), rfl, rfl, hi, hb, WSs.nil hk⟩
theorem count_ok (G : G2 w c) (ao : AOk 1 A) {i : Nat} {k : Int} {its : List (Str × Str)} {K' : PV → Mu → Prop} (hi : μ[i]? = some (.pil k its)) (hk : K' (.int its.length) μ) : WC c A (.ref 119) [.loc i] μ K' := by
  have O := G.ok
  exact pil_count O (pilK G) (defS119 G) ao (fun L => ⟨_, (by with_unfolding_all rfl)⟩) (fun s v => BindsTo.of_eq (by kernel_rfl)) rfl hi hk
theorem pop_ok (G : G2 w c) (ao : AOk 2 A) {i : Nat} {k : Int} {its : List (Str × Str)} {K' : PV → Mu → Prop} (hi : μ[i]? = some (.pil k its)) (hb : its.length ≤ 1000000) (hk0 : its = [] → K' (.tup [.str "", .str ""]) μ) (hk : ∀ r x, its = r ++ [x] → K' (pairPV x) (μ.set i (.pil k r))) : WC c A (.ref 82) [.loc i] μ K' := by
  have O := G.ok
  refine pil_pops (fC := 119) (fdC := fd2 w 119) O (pilK G) (defS82 G) ao ?_ ?_ ?_ ?_ ?_ ?_ (defS119 G).fn (fun A' ao' => count_ok G ao' hi ⟨rfl, rfl⟩) hi hb hk0 hk
  · exact fun L => ⟨_, (by with_unfolding_all rfl)⟩
  · exact fun L => ⟨_, (by with_unfolding_all rfl)⟩
  · exact fun s v => BindsTo.of_eq (by kernel_rfl)
  · rfl
  · rw [G.C]; kernel_rfl
  · kernel_rfl
theorem pop_from_ok (G : G2 w c) (ao : AOk 1 A) {i : Nat} {k : Int} {m : Nat} {its : List (Str × Str)} {K' : PV → Mu → Prop} (hi : μ[i]? = some (.pil k its)) (hm : m ≤ its.length) (hb : its.length ≤ 1000000)
    (hk : K' (.loc μ.length) ((μ ++ [MO.lst ((its.drop m).map pairPV), MO.lst []]).set i (.pil k (its.take m)))) : WC c A (.ref 74) [.loc i, .int m] μ K' := by
  have O := G.ok
  have il : i < μ.length := (List.getElem?_eq_some_iff.mp hi).1
  refine WC.def (n := 0) O (def74 G) ao rfl (noCell rfl) (mem2 rfl rfl) (fun L => rfl) (by decide) (fun L => mem2 rfl rfl) fun L A ao => ?_
  show WSs c A _ _ [("self", .loc i), ("i", .int m)] _ _
  refine WSs.cons O ?_
  refine WS.assign_name O ?_ (.inl (by with_unfolding_all rfl)) (by with_unfolding_all rfl) (by with_unfolding_all rfl)
  refine WE.pslice O (pilK G) ?_
  with_reducible refine WE.name (by walk_at "m") ?_
  with_reducible refine WPart.some ?_
  with_reducible refine WE.name (by walk_at "m") ?_
  refine ⟨_, rfl, ?_⟩
  refine WPart.none ?_
  refine ⟨i, k, its, rfl, hi, hb, ?_⟩
  have e : cutL (its.map pairPV) (some (m : Int)) none = (its.drop m).map pairPV := by
    have := cutL_from (its.map pairPV) m (by simpa using hm)
    rw [this, List.map_drop]
  rw [e]
  with_reducible refine updE (by walk_at "u") ?_
  with_reducible refine WSs.cons O ?_
  refine WS.pcut O (pilK G) (by with_unfolding_all rfl) ?_
  with_reducible refine WE.list O ?_
  with_reducible refine WEs.nil ?_
  refine ⟨by decide, ?_⟩
  refine WE.name (by walk_at "m") ?_
  refine WE.name (by walk_at "m") ?_
  refine ⟨_, i, k, its, m, rfl, by simp, rfl, ?_, rfl, hm, hb, ?_⟩
  · rw [List.getElem?_append_left (by simp; omega), List.getElem?_append_left il]; exact hi
  with_reducible refine WSs.cons O ?_
  with_reducible refine WS.ret O ?_
  with_reducible refine WE.name (by walk_at "m") ?_
  simpa using hk
end
end Mine
namespace Mine
noncomputable section
variable {w : World} {c : Cx} {A : Around} {μ : Mu}
theorem joinNil : ∀ l : List (List Nat), joinL [] l = l.flatten
  | [] => rfl
  | [x] => by simp [joinL]
  | x :: y :: r => by
    have := joinNil (y :: r)
    show x ++ [] ++ joinL [] (y :: r) = _
    rw [this]; simp
theorem G2.n_empty (G : G2 w c) : c.mg "EMPTYSTRING" = some (.str "" (nilTok w)) := by rw [G.mg]; rfl
end
end Mine
namespace Mine
def rgbP (r g b : UInt64) : Option (UInt64 × UInt64 × UInt64) :=
  if (Float64.cmp (ltF (ltF r g) b) (gtF (gtF r g) b) == some .eq) = true then some (0, 0, gtF (gtF r g) b)
  else if Float64.isZero (gtF (gtF r g) b) = true then none
  else if Float64.isZero (Float64.sub (gtF (gtF r g) b) (ltF (ltF r g) b)) = true then none
  else some ((Float64.divmod (Float64.div (
    if (Float64.cmp r (gtF (gtF r g) b) == some .eq) = true then Float64.sub (Float64.div (Float64.sub (gtF (gtF r g) b) b) (Float64.sub (gtF (gtF r g) b) (ltF (ltF r g) b))) (Float64.div (Float64.sub (gtF (gtF r g) b) g) (Float64.sub (gtF (gtF r g) b) (ltF (ltF r g) b)))
    else if (Float64.cmp g (gtF (gtF r g) b) == some .eq) = true then Float64.sub (Float64.add 4611686018427387904 (Float64.div (Float64.sub (gtF (gtF r g) b) r) (Float64.sub (gtF (gtF r g) b) (ltF (ltF r g) b)))) (Float64.div (Float64.sub (gtF (gtF r g) b) b) (Float64.sub (gtF (gtF r g) b) (ltF (ltF r g) b)))
    else Float64.sub (Float64.add 4616189618054758400 (Float64.div (Float64.sub (gtF (gtF r g) b) g) (Float64.sub (gtF (gtF r g) b) (ltF (ltF r g) b)))) (Float64.div (Float64.sub (gtF (gtF r g) b) r) (Float64.sub (gtF (gtF r g) b) (ltF (ltF r g) b))))
    4618441417868443648) 4607182418800017408).2, Float64.div (Float64.sub (gtF (gtF r g) b) (ltF (ltF r g) b)) (gtF (gtF r g) b), gtF (gtF r g) b)
/-- the reading of an hsv triple: the hue's sixth -/
def truncP (x : UInt64) : Option Int := match Float64.decode x with
  | .fin sg m e => some (Float64.truncOf sg m e)
  | _ => none
def hsvP (h s v : UInt64) : Option (UInt64 × UInt64 × UInt64) :=
  if (Float64.cmp s 0 == some .eq) = true then some (v, v, v)
  else match truncP (Float64.mul h 4618441417868443648) with
  | none => none
  | some i => if i.natAbs < 2 ^ 1023 then
      let f := Float64.sub (Float64.mul h 4618441417868443648) (Float64.ofInt i)
      let p := Float64.mul v (Float64.sub 4607182418800017408 s)
      let q := Float64.mul v (Float64.sub 4607182418800017408 (Float64.mul s f))
      let t := Float64.mul v (Float64.sub 4607182418800017408 (Float64.mul s (Float64.sub 4607182418800017408 f)))
      if i.fmod 6 = 0 then some (v, t, p) else if i.fmod 6 = 1 then some (q, v, p) else if i.fmod 6 = 2 then some (p, v, t) else if i.fmod 6 = 3 then some (p, q, v) else if i.fmod 6 = 4 then some (t, p, v) else some (v, p, q)
    else none
end Mine
namespace Mine
noncomputable section
theorem def35 {w : World} {c : Cx} (G : G2 w c) : DefOk c 35 (fd2 w 35) (bodyOf (fd2 w 35)) ["r", "g", "b"] where
  fn := ⟨⟨_, (G.here (a := 35) rfl).1, rfl⟩, (G.here (a := 35) rfl).2⟩
  code := ⟨34, _, _, _, rfl, (G.here (a := 34) rfl).1, (G.here (a := 34) rfl).2, rfl, rfl⟩
  body := rfl
  bind := fun s vs k h => by
    obtain ⟨a, b, c, rfl⟩ := len3 h
    exact BindsTo.of_eq (by kernel_rfl)
  nd := by decide
  dbg := mem3 (by decide) (by decide) (by decide)
  clo := rfl
  glo := rfl
  bi := rfl
  co := rfl
  gen := rfl
  kind := rfl

theorem def42 {w : World} {c : Cx} (G : G2 w c) : DefOk c 42 (fd2 w 42) (bodyOf (fd2 w 42)) ["h", "s", "v"] where
  fn := ⟨⟨_, (G.here (a := 42) rfl).1, rfl⟩, (G.here (a := 42) rfl).2⟩
  code := ⟨41, _, _, _, rfl, (G.here (a := 41) rfl).1, (G.here (a := 41) rfl).2, rfl, rfl⟩
  body := rfl
  bind := fun s vs k h => by
    obtain ⟨a, b, c, rfl⟩ := len3 h
    exact BindsTo.of_eq (by kernel_rfl)
  nd := by decide
  dbg := mem3 (by decide) (by decide) (by decide)
  clo := rfl
  glo := rfl
  bi := rfl
  co := rfl
  gen := rfl
  kind := rfl

variable {w : World} {c : Cx} {A : Around} {μ : Mu}
theorem rgb_ok (G : G2 w c) (ao : AOk 1 A) {r g b h s v : UInt64} {K' : PV → Mu → Prop} (hp : rgbP r g b = some (h, s, v)) (hK : K' (.tup [.flt h, .flt s, .flt v]) μ) : WC c A (.ref 35) [.flt r, .flt g, .flt b] μ K' := by
  have O := G.ok
  refine WC.def (n := 0) O (def35 G) ao rfl (noCell rfl) (mem3 rfl rfl rfl) (fun L => rfl) (by decide) (fun L => mem3 rfl rfl rfl) fun L A ao => ?_
  show WSs c A _ _ [("r", .flt r), ("g", .flt g), ("b", .flt b)] _ _
  unfold rgbP at hp
  refine WSs.cons O ?_
  with_reducible refine WS.assign_name O ?_ (.inl (by with_unfolding_all rfl)) (by with_unfolding_all rfl) (by with_unfolding_all rfl)
  with_reducible refine WE.call_bi O (G2.n_max G) (G2.b_max G) ?_ (by with_unfolding_all rfl) (by with_unfolding_all rfl) (by with_unfolding_all rfl) (by with_unfolding_all rfl)
  with_reducible refine WEs.cons O ?_ (by with_unfolding_all rfl)
  with_reducible refine WE.name (by walk_at "m") ?_
  with_reducible refine WEs.cons O ?_ (by with_unfolding_all rfl)
  with_reducible refine WE.name (by walk_at "m") ?_
  with_reducible refine WEs.cons O ?_ (by with_unfolding_all rfl)
  with_reducible refine WE.name (by walk_at "m") ?_
  with_reducible refine WEs.nil ?_
  refine WC.max3 O ao.h ?_
  with_reducible refine updE (by walk_at "u") ?_
  with_reducible refine WSs.cons O ?_
  with_reducible refine WS.assign_name O ?_ (.inl (by with_unfolding_all rfl)) (by with_unfolding_all rfl) (by with_unfolding_all rfl)
  with_reducible refine WE.call_bi O (G2.n_min G) (G2.b_min G) ?_ (by with_unfolding_all rfl) (by with_unfolding_all rfl) (by with_unfolding_all rfl) (by with_unfolding_all rfl)
  with_reducible refine WEs.cons O ?_ (by with_unfolding_all rfl)
  with_reducible refine WE.name (by walk_at "m") ?_
  with_reducible refine WEs.cons O ?_ (by with_unfolding_all rfl)
  with_reducible refine WE.name (by walk_at "m") ?_
  with_reducible refine WEs.cons O ?_ (by with_unfolding_all rfl)
  with_reducible refine WE.name (by walk_at "m") ?_
  with_reducible refine WEs.nil ?_
  refine WC.min3 O ao.h ?_
  with_reducible refine updE (by walk_at "u") ?_
  with_reducible refine WSs.cons O ?_
  with_reducible refine WS.assign_name O ?_ (.inl (by with_unfolding_all rfl)) (by with_unfolding_all rfl) (by with_unfolding_all rfl)
  with_reducible refine WE.bin O ?_
  with_reducible refine WE.name (by walk_at "m") ?_
  with_reducible refine WE.name (by walk_at "m") ?_
  with_reducible refine WV.sub_flt O ?_
  with_reducible refine updE (by walk_at "u") ?_
  with_reducible refine WSs.cons O ?_
  with_reducible refine WS.assign_name O ?_ (.inl (by with_unfolding_all rfl)) (by with_unfolding_all rfl) (by with_unfolding_all rfl)
  with_reducible refine WE.name (by walk_at "m") ?_
  with_reducible refine updE (by walk_at "u") ?_
  with_reducible refine WSs.cons O ?_
  generalize gtF (gtF r g) b = mx at *
  generalize ltF (ltF r g) b = mn at *
  refine WS.ite O ?_
  with_reducible refine WB.cmp1 O ?_ (by with_unfolding_all rfl)
  with_reducible refine WE.name (by walk_at "m") ?_
  with_reducible refine WE.name (by walk_at "m") ?_
  with_reducible refine WV.eq_flt ?_
  with_reducible refine Exists.intro _ (And.intro rfl ?_)
  split at hp
  · rename_i h0
    refine iteT h0 ?_
    with_reducible refine WSs.cons O ?_
    with_reducible refine WS.ret O ?_
    with_reducible refine WE.tuple O ?_
    with_reducible refine WEs.cons O ?_ (by with_unfolding_all rfl)
    with_reducible refine WE.flt O ?_
    with_reducible refine WEs.cons O ?_ (by with_unfolding_all rfl)
    with_reducible refine WE.flt O ?_
    with_reducible refine WEs.cons O ?_ (by with_unfolding_all rfl)
    with_reducible refine WE.name (by walk_at "m") ?_
    with_reducible refine WEs.nil ?_
    refine ⟨by simp, ?_⟩
    simp only [Option.some.injEq, Prod.mk.injEq] at hp
    obtain ⟨rfl, rfl, rfl⟩ := hp
    exact hK
  rename_i h0
  split at hp
  · cases hp
  rename_i h1
  split at hp
  · cases hp
  rename_i h2
  simp only [Option.some.injEq, Prod.mk.injEq] at hp
  obtain ⟨rfl, rfl, rfl⟩ := hp
  refine iteF (by simpa using h0) (WSs.nil ?_)
  with_reducible refine WSs.cons O ?_
  with_reducible refine WS.assign_name O ?_ (.inl (by with_unfolding_all rfl)) (by with_unfolding_all rfl) (by with_unfolding_all rfl)
  with_reducible refine WE.bin O ?_
  with_reducible refine WE.name (by walk_at "m") ?_
  with_reducible refine WE.name (by walk_at "m") ?_
  refine WV.div_flt O h1 ?_
  with_reducible refine updE (by walk_at "u") ?_
  with_reducible refine WSs.cons O ?_
  with_reducible refine WS.assign_name O ?_ (.inl (by with_unfolding_all rfl)) (by with_unfolding_all rfl) (by with_unfolding_all rfl)
  with_reducible refine WE.bin O ?_
  with_reducible refine WE.bin O ?_
  with_reducible refine WE.name (by walk_at "m") ?_
  with_reducible refine WE.name (by walk_at "m") ?_
  with_reducible refine WV.sub_flt O ?_
  with_reducible refine WE.name (by walk_at "m") ?_
  refine WV.div_flt O h2 ?_
  with_reducible refine updE (by walk_at "u") ?_
  with_reducible refine WSs.cons O ?_
  with_reducible refine WS.assign_name O ?_ (.inl (by with_unfolding_all rfl)) (by with_unfolding_all rfl) (by with_unfolding_all rfl)
  with_reducible refine WE.bin O ?_
  with_reducible refine WE.bin O ?_
  with_reducible refine WE.name (by walk_at "m") ?_
  with_reducible refine WE.name (by walk_at "m") ?_
  with_reducible refine WV.sub_flt O ?_
  with_reducible refine WE.name (by walk_at "m") ?_
  refine WV.div_flt O h2 ?_
  with_reducible refine updE (by walk_at "u") ?_
  with_reducible refine WSs.cons O ?_
  with_reducible refine WS.assign_name O ?_ (.inl (by with_unfolding_all rfl)) (by with_unfolding_all rfl) (by with_unfolding_all rfl)
  with_reducible refine WE.bin O ?_
  with_reducible refine WE.bin O ?_
  with_reducible refine WE.name (by walk_at "m") ?_
  with_reducible refine WE.name (by walk_at "m") ?_
  with_reducible refine WV.sub_flt O ?_
  with_reducible refine WE.name (by walk_at "m") ?_
  refine WV.div_flt O h2 ?_
  with_reducible refine updE (by walk_at "u") ?_
  with_reducible refine WSs.cons O ?_
  with_reducible refine WS.ite O ?_
  with_reducible refine WB.cmp1 O ?_ (by with_unfolding_all rfl)
  with_reducible refine WE.name (by walk_at "m") ?_
  with_reducible refine WE.name (by walk_at "m") ?_
  with_reducible refine WV.eq_flt ?_
  with_reducible refine Exists.intro _ (And.intro rfl ?_)
  by_cases c1 : (Float64.cmp r mx == some .eq) = true
  · rw [if_pos c1] at hK
    refine iteT c1 ?_
    with_reducible refine WSs.cons O ?_
    with_reducible refine WS.assign_name O ?_ (.inl (by with_unfolding_all rfl)) (by with_unfolding_all rfl) (by with_unfolding_all rfl)
    with_reducible refine WE.bin O ?_
    with_reducible refine WE.name (by walk_at "m") ?_
    with_reducible refine WE.name (by walk_at "m") ?_
    with_reducible refine WV.sub_flt O ?_
    with_reducible refine updE (by walk_at "u") ?_
    with_reducible refine WSs.nil ?_
    with_reducible refine WSs.cons O ?_
    with_reducible refine WS.assign_name O ?_ (.inl (by with_unfolding_all rfl)) (by with_unfolding_all rfl) (by with_unfolding_all rfl)
    with_reducible refine WE.bin O ?_
    with_reducible refine WE.bin O ?_
    with_reducible refine WE.name (by walk_at "m") ?_
    with_reducible refine WE.flt O ?_
    refine WV.div_flt O (by decide +kernel) ?_
    with_reducible refine WE.flt O ?_
    refine WV.mod_flt O (by decide +kernel) ?_
    with_reducible refine updE (by walk_at "u") ?_
    with_reducible refine WSs.cons O ?_
    with_reducible refine WS.ret O ?_
    with_reducible refine WE.tuple O ?_
    with_reducible refine WEs.cons O ?_ (by with_unfolding_all rfl)
    with_reducible refine WE.name (by walk_at "m") ?_
    with_reducible refine WEs.cons O ?_ (by with_unfolding_all rfl)
    with_reducible refine WE.name (by walk_at "m") ?_
    with_reducible refine WEs.cons O ?_ (by with_unfolding_all rfl)
    with_reducible refine WE.name (by walk_at "m") ?_
    with_reducible refine WEs.nil ?_
    refine ⟨by simp, ?_⟩
    exact hK
  rw [if_neg c1] at hK
  refine iteF (by simpa using c1) ?_
  refine WSs.cons O ?_
  with_reducible refine WS.ite O ?_
  with_reducible refine WB.cmp1 O ?_ (by with_unfolding_all rfl)
  with_reducible refine WE.name (by walk_at "m") ?_
  with_reducible refine WE.name (by walk_at "m") ?_
  with_reducible refine WV.eq_flt ?_
  with_reducible refine Exists.intro _ (And.intro rfl ?_)
  by_cases c2 : (Float64.cmp g mx == some .eq) = true
  · rw [if_pos c2] at hK
    refine iteT c2 ?_
    with_reducible refine WSs.cons O ?_
    with_reducible refine WS.assign_name O ?_ (.inl (by with_unfolding_all rfl)) (by with_unfolding_all rfl) (by with_unfolding_all rfl)
    with_reducible refine WE.bin O ?_
    with_reducible refine WE.bin O ?_
    with_reducible refine WE.flt O ?_
    with_reducible refine WE.name (by walk_at "m") ?_
    with_reducible refine WV.add_flt O ?_
    with_reducible refine WE.name (by walk_at "m") ?_
    with_reducible refine WV.sub_flt O ?_
    with_reducible refine updE (by walk_at "u") ?_
    with_reducible refine WSs.nil ?_
    with_reducible refine WSs.nil ?_
    with_reducible refine WSs.cons O ?_
    with_reducible refine WS.assign_name O ?_ (.inl (by with_unfolding_all rfl)) (by with_unfolding_all rfl) (by with_unfolding_all rfl)
    with_reducible refine WE.bin O ?_
    with_reducible refine WE.bin O ?_
    with_reducible refine WE.name (by walk_at "m") ?_
    with_reducible refine WE.flt O ?_
    refine WV.div_flt O (by decide +kernel) ?_
    with_reducible refine WE.flt O ?_
    refine WV.mod_flt O (by decide +kernel) ?_
    with_reducible refine updE (by walk_at "u") ?_
    with_reducible refine WSs.cons O ?_
    with_reducible refine WS.ret O ?_
    with_reducible refine WE.tuple O ?_
    with_reducible refine WEs.cons O ?_ (by with_unfolding_all rfl)
    with_reducible refine WE.name (by walk_at "m") ?_
    with_reducible refine WEs.cons O ?_ (by with_unfolding_all rfl)
    with_reducible refine WE.name (by walk_at "m") ?_
    with_reducible refine WEs.cons O ?_ (by with_unfolding_all rfl)
    with_reducible refine WE.name (by walk_at "m") ?_
    with_reducible refine WEs.nil ?_
    refine ⟨by simp, ?_⟩
    exact hK
  · rw [if_neg c2] at hK
    refine iteF (by simpa using c2) ?_
    with_reducible refine WSs.cons O ?_
    with_reducible refine WS.assign_name O ?_ (.inl (by with_unfolding_all rfl)) (by with_unfolding_all rfl) (by with_unfolding_all rfl)
    with_reducible refine WE.bin O ?_
    with_reducible refine WE.bin O ?_
    with_reducible refine WE.flt O ?_
    with_reducible refine WE.name (by walk_at "m") ?_
    with_reducible refine WV.add_flt O ?_
    with_reducible refine WE.name (by walk_at "m") ?_
    with_reducible refine WV.sub_flt O ?_
    with_reducible refine updE (by walk_at "u") ?_
    with_reducible refine WSs.nil ?_
    with_reducible refine WSs.nil ?_
    with_reducible refine WSs.cons O ?_
    with_reducible refine WS.assign_name O ?_ (.inl (by with_unfolding_all rfl)) (by with_unfolding_all rfl) (by with_unfolding_all rfl)
    with_reducible refine WE.bin O ?_
    with_reducible refine WE.bin O ?_
    with_reducible refine WE.name (by walk_at "m") ?_
    with_reducible refine WE.flt O ?_
    refine WV.div_flt O (by decide +kernel) ?_
    with_reducible refine WE.flt O ?_
    refine WV.mod_flt O (by decide +kernel) ?_
    with_reducible refine updE (by walk_at "u") ?_
    with_reducible refine WSs.cons O ?_
    with_reducible refine WS.ret O ?_
    with_reducible refine WE.tuple O ?_
    with_reducible refine WEs.cons O ?_ (by with_unfolding_all rfl)
    with_reducible refine WE.name (by walk_at "m") ?_
    with_reducible refine WEs.cons O ?_ (by with_unfolding_all rfl)
    with_reducible refine WE.name (by walk_at "m") ?_
    with_reducible refine WEs.cons O ?_ (by with_unfolding_all rfl)
    with_reducible refine WE.name (by walk_at "m") ?_
    with_reducible refine WEs.nil ?_
    refine ⟨by simp, ?_⟩
    exact hK
theorem hsv_ok (G : G2 w c) (ao : AOk 1 A) {h s v r g b : UInt64} {K' : PV → Mu → Prop} (hp : hsvP h s v = some (r, g, b)) (hK : K' (.tup [.flt r, .flt g, .flt b]) μ) : WC c A (.ref 42) [.flt h, .flt s, .flt v] μ K' := by
  have O := G.ok
  refine WC.def (n := 0) O (def42 G) ao rfl (noCell rfl) (mem3 rfl rfl rfl) (fun L => rfl) (by decide) (fun L => mem3 rfl rfl rfl) fun L A ao => ?_
  show WSs c A _ _ [("h", .flt h), ("s", .flt s), ("v", .flt v)] _ _
  unfold hsvP at hp
  refine WSs.cons O ?_
  with_reducible refine WS.ite O ?_
  with_reducible refine WB.cmp1 O ?_ (by with_unfolding_all rfl)
  with_reducible refine WE.name (by walk_at "m") ?_
  with_reducible refine WE.flt O ?_
  with_reducible refine WV.eq_flt ?_
  with_reducible refine Exists.intro _ (And.intro rfl ?_)
  by_cases c0 : (Float64.cmp s 0 == some .eq) = true
  · rw [if_pos c0] at hp
    simp only [Option.some.injEq, Prod.mk.injEq] at hp
    obtain ⟨rfl, rfl, rfl⟩ := hp
    refine iteT c0 ?_
    with_reducible refine WSs.cons O ?_
    with_reducible refine WS.ret O ?_
    with_reducible refine WE.tuple O ?_
    with_reducible refine WEs.cons O ?_ (by with_unfolding_all rfl)
    with_reducible refine WE.name (by walk_at "m") ?_
    with_reducible refine WEs.cons O ?_ (by with_unfolding_all rfl)
    with_reducible refine WE.name (by walk_at "m") ?_
    with_reducible refine WEs.cons O ?_ (by with_unfolding_all rfl)
    with_reducible refine WE.name (by walk_at "m") ?_
    with_reducible refine WEs.nil ?_
    refine ⟨by simp, ?_⟩
    exact hK
  rw [if_neg c0] at hp
  refine iteF (by simpa using c0) (WSs.nil ?_)
  unfold truncP at hp
  cases hd : Float64.decode (Float64.mul h 4618441417868443648) with
  | fin sg m e => ?_
  | _ => rw [hd] at hp; cases hp
  rw [hd] at hp
  dsimp only at hp
  with_reducible refine WSs.cons O ?_
  with_reducible refine WS.assign_name O ?_ (.inl (by with_unfolding_all rfl)) (by with_unfolding_all rfl) (by with_unfolding_all rfl)
  with_reducible refine WE.call_ty O (G2.n_int G) (G2.b_int G) ?_ (by with_unfolding_all rfl) (by with_unfolding_all rfl) (by with_unfolding_all rfl) (by with_unfolding_all rfl)
  with_reducible refine WEs.cons O ?_ (by with_unfolding_all rfl)
  with_reducible refine WE.bin O ?_
  with_reducible refine WE.name (by walk_at "m") ?_
  with_reducible refine WE.flt O ?_
  with_reducible refine WV.mul_flt O ?_
  with_reducible refine WEs.nil ?_
  refine WC.int_flt O hd ?_
  generalize Float64.truncOf sg m e = i at *
  split at hp
  case isFalse => cases hp
  rename_i hi
  with_reducible refine updE (by walk_at "u") ?_
  with_reducible refine WSs.cons O ?_
  with_reducible refine WS.assign_name O ?_ (.inl (by with_unfolding_all rfl)) (by with_unfolding_all rfl) (by with_unfolding_all rfl)
  with_reducible refine WE.bin O ?_
  with_reducible refine WE.bin O ?_
  with_reducible refine WE.name (by walk_at "m") ?_
  with_reducible refine WE.flt O ?_
  with_reducible refine WV.mul_flt O ?_
  with_reducible refine WE.name (by walk_at "m") ?_
  refine WV.sub_fi O hi ?_
  with_reducible refine updE (by walk_at "u") ?_
  with_reducible refine WSs.cons O ?_
  with_reducible refine WS.assign_name O ?_ (.inl (by with_unfolding_all rfl)) (by with_unfolding_all rfl) (by with_unfolding_all rfl)
  with_reducible refine WE.bin O ?_
  with_reducible refine WE.name (by walk_at "m") ?_
  with_reducible refine WE.bin O ?_
  with_reducible refine WE.flt O ?_
  with_reducible refine WE.name (by walk_at "m") ?_
  with_reducible refine WV.sub_flt O ?_
  with_reducible refine WV.mul_flt O ?_
  with_reducible refine updE (by walk_at "u") ?_
  with_reducible refine WSs.cons O ?_
  with_reducible refine WS.assign_name O ?_ (.inl (by with_unfolding_all rfl)) (by with_unfolding_all rfl) (by with_unfolding_all rfl)
  with_reducible refine WE.bin O ?_
  with_reducible refine WE.name (by walk_at "m") ?_
  with_reducible refine WE.bin O ?_
  with_reducible refine WE.flt O ?_
  with_reducible refine WE.bin O ?_
  with_reducible refine WE.name (by walk_at "m") ?_
  with_reducible refine WE.name (by walk_at "m") ?_
  with_reducible refine WV.mul_flt O ?_
  with_reducible refine WV.sub_flt O ?_
  with_reducible refine WV.mul_flt O ?_
  with_reducible refine updE (by walk_at "u") ?_
  with_reducible refine WSs.cons O ?_
  with_reducible refine WS.assign_name O ?_ (.inl (by with_unfolding_all rfl)) (by with_unfolding_all rfl) (by with_unfolding_all rfl)
  with_reducible refine WE.bin O ?_
  with_reducible refine WE.name (by walk_at "m") ?_
  with_reducible refine WE.bin O ?_
  with_reducible refine WE.flt O ?_
  with_reducible refine WE.bin O ?_
  with_reducible refine WE.name (by walk_at "m") ?_
  with_reducible refine WE.bin O ?_
  with_reducible refine WE.flt O ?_
  with_reducible refine WE.name (by walk_at "m") ?_
  with_reducible refine WV.sub_flt O ?_
  with_reducible refine WV.mul_flt O ?_
  with_reducible refine WV.sub_flt O ?_
  with_reducible refine WV.mul_flt O ?_
  with_reducible refine updE (by walk_at "u") ?_
  with_reducible refine WSs.cons O ?_
  with_reducible refine WS.assign_name O ?_ (.inl (by with_unfolding_all rfl)) (by with_unfolding_all rfl) (by with_unfolding_all rfl)
  with_reducible refine WE.bin O ?_
  with_reducible refine WE.name (by walk_at "m") ?_
  with_reducible refine WE.int O ?_
  refine WV.mod_int O (by decide) ?_
  with_reducible refine updE (by walk_at "u") ?_
  with_reducible refine WSs.cons O ?_
  with_reducible refine WS.ite O ?_
  with_reducible refine WB.cmp1 O ?_ (by with_unfolding_all rfl)
  with_reducible refine WE.name (by walk_at "m") ?_
  with_reducible refine WE.int O ?_
  with_reducible refine WV.eq_int ?_
  with_reducible refine Exists.intro _ (And.intro rfl ?_)
  by_cases c1 : i.fmod 6 = 0
  · rw [if_pos c1] at hp
    simp only [Option.some.injEq, Prod.mk.injEq] at hp
    obtain ⟨rfl, rfl, rfl⟩ := hp
    refine iteT (by rw [c1]; rfl) ?_
    with_reducible refine WSs.cons O ?_
    with_reducible refine WS.ret O ?_
    with_reducible refine WE.tuple O ?_
    with_reducible refine WEs.cons O ?_ (by with_unfolding_all rfl)
    with_reducible refine WE.name (by walk_at "m") ?_
    with_reducible refine WEs.cons O ?_ (by with_unfolding_all rfl)
    with_reducible refine WE.name (by walk_at "m") ?_
    with_reducible refine WEs.cons O ?_ (by with_unfolding_all rfl)
    with_reducible refine WE.name (by walk_at "m") ?_
    with_reducible refine WEs.nil ?_
    refine ⟨by simp, ?_⟩
    exact hK
  rw [if_neg c1] at hp
  refine iteF (by simpa using c1) (WSs.nil ?_)
  refine WSs.cons O ?_
  with_reducible refine WS.ite O ?_
  with_reducible refine WB.cmp1 O ?_ (by with_unfolding_all rfl)
  with_reducible refine WE.name (by walk_at "m") ?_
  with_reducible refine WE.int O ?_
  with_reducible refine WV.eq_int ?_
  with_reducible refine Exists.intro _ (And.intro rfl ?_)
  by_cases c2 : i.fmod 6 = 1
  · rw [if_pos c2] at hp
    simp only [Option.some.injEq, Prod.mk.injEq] at hp
    obtain ⟨rfl, rfl, rfl⟩ := hp
    refine iteT (by rw [c2]; rfl) ?_
    with_reducible refine WSs.cons O ?_
    with_reducible refine WS.ret O ?_
    with_reducible refine WE.tuple O ?_
    with_reducible refine WEs.cons O ?_ (by with_unfolding_all rfl)
    with_reducible refine WE.name (by walk_at "m") ?_
    with_reducible refine WEs.cons O ?_ (by with_unfolding_all rfl)
    with_reducible refine WE.name (by walk_at "m") ?_
    with_reducible refine WEs.cons O ?_ (by with_unfolding_all rfl)
    with_reducible refine WE.name (by walk_at "m") ?_
    with_reducible refine WEs.nil ?_
    refine ⟨by simp, ?_⟩
    exact hK
  rw [if_neg c2] at hp
  refine iteF (by simpa using c2) (WSs.nil ?_)
  refine WSs.cons O ?_
  with_reducible refine WS.ite O ?_
  with_reducible refine WB.cmp1 O ?_ (by with_unfolding_all rfl)
  with_reducible refine WE.name (by walk_at "m") ?_
  with_reducible refine WE.int O ?_
  with_reducible refine WV.eq_int ?_
  with_reducible refine Exists.intro _ (And.intro rfl ?_)
  by_cases c3 : i.fmod 6 = 2
  · rw [if_pos c3] at hp
    simp only [Option.some.injEq, Prod.mk.injEq] at hp
    obtain ⟨rfl, rfl, rfl⟩ := hp
    refine iteT (by rw [c3]; rfl) ?_
    with_reducible refine WSs.cons O ?_
    with_reducible refine WS.ret O ?_
    with_reducible refine WE.tuple O ?_
    with_reducible refine WEs.cons O ?_ (by with_unfolding_all rfl)
    with_reducible refine WE.name (by walk_at "m") ?_
    with_reducible refine WEs.cons O ?_ (by with_unfolding_all rfl)
    with_reducible refine WE.name (by walk_at "m") ?_
    with_reducible refine WEs.cons O ?_ (by with_unfolding_all rfl)
    with_reducible refine WE.name (by walk_at "m") ?_
    with_reducible refine WEs.nil ?_
    refine ⟨by simp, ?_⟩
    exact hK
  rw [if_neg c3] at hp
  refine iteF (by simpa using c3) (WSs.nil ?_)
  refine WSs.cons O ?_
  with_reducible refine WS.ite O ?_
  with_reducible refine WB.cmp1 O ?_ (by with_unfolding_all rfl)
  with_reducible refine WE.name (by walk_at "m") ?_
  with_reducible refine WE.int O ?_
  with_reducible refine WV.eq_int ?_
  with_reducible refine Exists.intro _ (And.intro rfl ?_)
  by_cases c4 : i.fmod 6 = 3
  · rw [if_pos c4] at hp
    simp only [Option.some.injEq, Prod.mk.injEq] at hp
    obtain ⟨rfl, rfl, rfl⟩ := hp
    refine iteT (by rw [c4]; rfl) ?_
    with_reducible refine WSs.cons O ?_
    with_reducible refine WS.ret O ?_
    with_reducible refine WE.tuple O ?_
    with_reducible refine WEs.cons O ?_ (by with_unfolding_all rfl)
    with_reducible refine WE.name (by walk_at "m") ?_
    with_reducible refine WEs.cons O ?_ (by with_unfolding_all rfl)
    with_reducible refine WE.name (by walk_at "m") ?_
    with_reducible refine WEs.cons O ?_ (by with_unfolding_all rfl)
    with_reducible refine WE.name (by walk_at "m") ?_
    with_reducible refine WEs.nil ?_
    refine ⟨by simp, ?_⟩
    exact hK
  rw [if_neg c4] at hp
  refine iteF (by simpa using c4) (WSs.nil ?_)
  refine WSs.cons O ?_
  with_reducible refine WS.ite O ?_
  with_reducible refine WB.cmp1 O ?_ (by with_unfolding_all rfl)
  with_reducible refine WE.name (by walk_at "m") ?_
  with_reducible refine WE.int O ?_
  with_reducible refine WV.eq_int ?_
  with_reducible refine Exists.intro _ (And.intro rfl ?_)
  by_cases c5 : i.fmod 6 = 4
  · rw [if_pos c5] at hp
    simp only [Option.some.injEq, Prod.mk.injEq] at hp
    obtain ⟨rfl, rfl, rfl⟩ := hp
    refine iteT (by rw [c5]; rfl) ?_
    with_reducible refine WSs.cons O ?_
    with_reducible refine WS.ret O ?_
    with_reducible refine WE.tuple O ?_
    with_reducible refine WEs.cons O ?_ (by with_unfolding_all rfl)
    with_reducible refine WE.name (by walk_at "m") ?_
    with_reducible refine WEs.cons O ?_ (by with_unfolding_all rfl)
    with_reducible refine WE.name (by walk_at "m") ?_
    with_reducible refine WEs.cons O ?_ (by with_unfolding_all rfl)
    with_reducible refine WE.name (by walk_at "m") ?_
    with_reducible refine WEs.nil ?_
    refine ⟨by simp, ?_⟩
    exact hK
  rw [if_neg c5] at hp
  refine iteF (by simpa using c5) (WSs.nil ?_)
  have c6 : i.fmod 6 = 5 := by
    rw [Int.fmod_eq_emod_of_nonneg i (by decide)] at *
    omega
  simp only [Option.some.injEq, Prod.mk.injEq] at hp
  obtain ⟨rfl, rfl, rfl⟩ := hp
  refine WSs.cons O ?_
  with_reducible refine WS.ite O ?_
  with_reducible refine WB.cmp1 O ?_ (by with_unfolding_all rfl)
  with_reducible refine WE.name (by walk_at "m") ?_
  with_reducible refine WE.int O ?_
  with_reducible refine WV.eq_int ?_
  with_reducible refine Exists.intro _ (And.intro rfl ?_)
  refine iteT (by rw [c6]; rfl) ?_
  with_reducible refine WSs.cons O ?_
  with_reducible refine WS.ret O ?_
  with_reducible refine WE.tuple O ?_
  with_reducible refine WEs.cons O ?_ (by with_unfolding_all rfl)
  with_reducible refine WE.name (by walk_at "m") ?_
  with_reducible refine WEs.cons O ?_ (by with_unfolding_all rfl)
  with_reducible refine WE.name (by walk_at "m") ?_
  with_reducible refine WEs.cons O ?_ (by with_unfolding_all rfl)
  with_reducible refine WE.name (by walk_at "m") ?_
  with_reducible refine WEs.nil ?_
  refine ⟨by simp, ?_⟩
  exact hK
end
end Mine
namespace Mine
theorem allLoc {l : List (Str × NameKind)} (h : (l.all fun x => !(x.2 == .local) || (l.lookup x.1 == some .local)) = true) : ∀ x ∈ l, x.2 = .local → l.lookup x.1 = some .local := fun x hx q => by
  have := List.all_eq_true.mp h x hx
  rw [q] at this
  simpa using this
/-- a comprehension that names nothing of its frame -/
theorem CompOk.plain {scope : Scope} {env : Env} {ρ : Rho} (h1 : closureFor scope env = pure []) (h2 : scope.kind = .function) (h3 : (scope.names.all fun x => !(x.2 == .local) || (scope.names.lookup x.1 == some .local)) = true) (h4 : ∀ x ∈ scope.names, x.2 ≠ .cell)
    (h5 : ∀ C, (compEnvC scope [] C env).kindOf ("_initial_size" : Str) = none) : CompOk scope env [] ρ [] :=
  ⟨h1, h2, allLoc h3, h4, h5, (fun x cc h => by cases h), (fun x p h => by cases h), by simp⟩
end Mine
namespace Mine
/-- a comprehension that names one name of its frame -/
theorem CompOk.one {scope : Scope} {env : Env} {ρ : Rho} {x : Str} {p : PV} {cc : Addr} (h1 : closureFor scope env = pure [(x, cc)]) (h2 : scope.kind = .function) (h3 : (scope.names.all fun x => !(x.2 == .local) || (scope.names.lookup x.1 == some .local)) = true) (h4 : ∀ x ∈ scope.names, x.2 ≠ .cell)
    (h5 : ∀ C, (compEnvC scope [(x, cc)] C env).kindOf ("_initial_size" : Str) = none) (hs : env.cells.lookup x = some cc) (hk : ∀ C, (compEnvC scope [(x, cc)] C env).kindOf x = some .cell) (hk2 : env.kindOf x = some .cell ∨ env.kindOf x = some .free) (hx : (x, p) ∈ ρ) : CompOk scope env [(x, cc)] ρ [(x, p)] :=
  ⟨h1, h2, allLoc h3, h4, h5, (fun y c h => by
    rw [List.lookup_cons] at h
    split at h
    · rename_i e
      have := eq_of_beq e
      subst this; cases h; exact hs
    · cases h), (fun y q h => by
    cases List.mem_singleton.mp h
    exact ⟨hx, by simp, hk, hk2⟩), by simp⟩
end Mine
namespace Mine
theorem itemsOf_more {μ g : Mu} {p : PV} {its : List PV} (h : itemsOf μ p = some its) : itemsOf (μ ++ g) p = some its := by
  cases p <;> simp only [itemsOf] at h ⊢ <;> try exact h
  rename_i i
  cases q : μ[i]? with
  | none => rw [q] at h; cases h
  | some m => rw [getElem?_ext q g]; rw [q] at h; exact h
theorem lst_more {μ g : Mu} {p : PV} (h : ∀ i, p = .loc i → ∃ l, μ[i]? = some (.lst l)) : ∀ i, p = .loc i → ∃ l, (μ ++ g)[i]? = some (.lst l) := fun i e => by
  obtain ⟨l, hl⟩ := h i e
  exact ⟨l, getElem?_ext hl g⟩
/-- a comprehension whose element and tests change nothing -/
theorem WCL.fmap {c : Cx} {A : Around} {ρ : Rho} {μ : Mu} {elt tgt iter : Expr} {ifs : List Expr} {scope : Scope} {pos : Pos} {cenv : Env} {p : PV} {K : Mu → Prop} (F : PV → Option PV) (its : List PV) (O : c.Ok) (a : A.handled = none)
    (hits : itemsOf μ p = some its) (hp : ∀ i, p = .loc i → ∃ l, μ[i]? = some (.lst l)) (hb : its.length ≤ 1000000)
    (step : ∀ q ∈ its, ∀ g, WAL c A tgt cenv q ρ (μ ++ g) fun ρ' => (∀ y ∈ ρ, y ∈ ρ') ∧ WIfs c A ifs cenv ρ' (μ ++ g) fun ok m => m = μ ++ g ∧ ok = (F q).isSome ∧ (ok = true → WE c A elt cenv ρ' (μ ++ g) fun x m => m = μ ++ g ∧ F q = some x))
    (done : K (μ ++ [.lst (its.filterMap F)])) : WCL c A (.ListComp elt [⟨tgt, iter, ifs, 0⟩] scope pos) cenv p μ.length ρ K 0 (μ ++ [.lst []]) := by
  refine WCL.inv (fun j m => m = μ ++ [.lst ((its.take j).filterMap F)]) its O a (by simp) (fun j m hV => ⟨?_, ?_⟩) (fun j q m hq hV => ?_) fun m hV => ?_
  · subst hV; exact itemsOf_more hits
  · subst hV; exact lst_more hp
  · subst hV
    have hm : q ∈ its := List.mem_of_getElem? hq
    have e : its.take (j + 1) = its.take j ++ [q] := by rw [List.take_add_one, hq]; rfl
    refine (step q hm _).mono fun ρ' h => ⟨h.1, h.2.mono fun ok m h => ?_⟩
    obtain ⟨rfl, rfl, h⟩ := h
    cases hF : F q with
    | none =>
      simp only [Option.isSome_none, Bool.false_eq_true, if_false]
      rw [e, List.filterMap_append]
      simp [hF]
    | some x =>
      simp only [Option.isSome_some, if_true]
      rw [hF] at h
      refine (h rfl).mono fun y m h => ?_
      obtain ⟨rfl, h⟩ := h
      cases h
      refine ⟨_, at_end .., ?_, ?_⟩
      · have h1 : ((its.take j).filterMap F).length ≤ (its.take j).length := List.length_filterMap_le ..
        have h2 : (its.take j).length ≤ its.length := by simp; omega
        omega
      · rw [set_end, e, List.filterMap_append]
        simp [hF]
  · subst hV
    rw [List.take_of_length_le (Nat.le_refl _)]
    exact done
end Mine
namespace Mine
section
variable {c : Cx} {A : Around} {env : Env} {ρ : Rho} {μ : Mu} {K : Frag}
/-- the piles' class called by its name -/
theorem WE.call_cls {x : Str} {p pos : Pos} {e : Expr} {es : List Expr} {a : Addr} {K' : PV → Mu → Prop} (O : c.Ok) (P : PilK c K) (hx : c.mg x = some (.ref a)) (hke : keepIn K (.ref a) = true)
    (h : WEs c A (e :: es) env ρ μ fun ps μ₁ => WC c A (.ref a) ps μ₁ K') (hs : (e :: es).all notStar = true) (hk : env.kindOf x = some .globalImplicit) (hd : (x == ("__debug__" : Str)) = false) (hc : callsPlain (.Name x p) (e :: es) pos env) : WE c A (.Call (.Name x p) (e :: es) [] pos) env ρ μ K' := ⟨fun s ι E Q I V hQ => by
  refine PyProof.Rows.Call_ (glob_ld O I V hk hx hd ?_) hc
  have hs' := hs
  rw [List.all_cons, Bool.and_eq_true] at hs'
  refine PySem.W.callWith_K (h₀ := s.heap) (first := []) (P.here I) hke ?_ (starEach_cons hs'.1) (starEach_plain hs'.2 pos)
  refine h.run s ι E _ pos I V fun vs s₁ ι₁ ps μ₁ S₁ I₁ r₁ k₁ => ⟨P.here I₁, ?_⟩
  exact k₁.run s₁ ι₁ E Q vs I₁ r₁ fun v s₂ ι₂ q μ₂ S₂ I₂ r₂ k₂ => hQ v s₂ ι₂ q μ₂ (S₁.trans S₂) I₂ r₂ k₂⟩
theorem WSs.less {st : List Stmt} {ρ' : Rho} {K : PF → Rho → Mu → Prop} (hs : ∀ y ∈ ρ', y ∈ ρ) (nd : (ρ'.map (·.1)).Nodup) (h : WSs c A st env ρ' μ K) : WSs c A st env ρ μ K := ⟨fun s ι E Q I V hQ => h.run s ι E Q I (V.less hs nd) hQ⟩
theorem WA.less {t : Expr} {p : PV} {ρ' : Rho} {K : Rho → Prop} (hs : ∀ y ∈ ρ', y ∈ ρ) (nd : (ρ'.map (·.1)).Nodup) (h : WA c A t env p ρ' μ K) : WA c A t env p ρ μ K := ⟨fun s ι E Q v I V r hQ => h.run s ι E Q v I (V.less hs nd) r hQ⟩
end
end Mine
namespace Mine
end Mine
namespace Mine
section
variable {c : Cx} {A : Around} {env : Env} {ρ : Rho} {μ : Mu}
/-- x[lo:hi] of a list that the law was handed -/
theorem WE.slice_ext {value : Expr} {lo hi : Option Expr} {p pos : Pos} {K : PV → Mu → Prop} (O : c.Ok)
    (h : WE c A value env ρ μ fun b μ₁ => WPart c A lo env ρ μ₁ fun l μ₂ => WPart c A hi env ρ μ₂ fun u μ₃ => ∃ a vs ps, b = .ext a ∧ (∃ ob n, c.hB.get? a = some ob ∧ ob.cls = .type "list" ∧ ob.data = .seq vs.toArray n) ∧ a ∉ c.X ∧ (∀ h ι, RepL h ι ps vs) ∧ ps.length ≤ 1000000 ∧ K (.loc μ₃.length) (μ₃ ++ [.lst (cutL ps l u)])) : WE c A (.Subscript value (.Slice lo hi .none p) pos) env ρ μ K := ⟨fun s ι E Q I V hQ => by
  refine PyProof.Rows.Subscript_ (h.run s ι E _ I V fun o s₁ ι₁ b μ₁ S₁ I₁ r₁ k₁ => ?_)
  refine wpAny_Slice (k₁.run s₁ ι₁ E _ I₁ (V.step O I S₁) fun vl s₂ ι₂ l μ₂ S₂ I₂ r₂ k₂ => ?_)
  refine k₂.run s₂ ι₂ E _ I₂ (V.step O I (S₁.trans S₂)) fun vu s₃ ι₃ u μ₃ S₃ I₃ r₃ k₃ => ?_
  refine wpAny_evalPart_none ?_
  obtain ⟨a, vs, ps, rfl, ⟨ob, n, hB, hcl, hda⟩, hX, ra, hx, k₄⟩ := k₃
  have g := I₃.grow O (s' := { s₃ with heap := s₃.heap.push { cls := .type "slice", data := .fields #[vl, vu, .none] } }) (fun b o e => Heap.get?_push_of_some _ e) I₃.bare rfl I₃.tp
  simp only [RepV] at r₁
  subst r₁
  have ea := g.1.old _ _ hB hX
  have hl := RepL.length ps vs (ra s₃.heap ι₃)
  refine subTail (T := "list") ⟨_, ea, hcl⟩ F.slot_list_getitem.lookup ?_ (.inr rfl)
  have t := lst_new O g.1 ((ra _ _).cut l u) (h' := (s₃.heap.push { cls := .type "slice", data := .fields #[vl, vu, .none] }).push (lstOf (cutL vs l u) 0)) (D := s₃.heap.objs.size + 1) (n := 0) (tk := s₃.toks) (by
    have := fresh_size (s₃.heap.push { cls := .type "slice", data := .fields #[vl, vu, .none] })
    simpa [Heap.push] using this) (by
    have := Heap.get?_push_size (s₃.heap.push { cls := .type "slice", data := .fields #[vl, vu, .none] }) (o := lstOf (cutL vs l u) 0) rfl
    simpa [Heap.push] using this) (fun b o e => Heap.get?_push_of_some _ e) I₃.tp
  refine wpAny_getItem_list_slice (items := vs.toArray) (lo := l) (hi := u) (st := .none) ⟨_, ea, hcl, n, hda⟩ ⟨_, Heap.get?_push_size _ rfl, rfl, rfl⟩ r₂.isPart r₃.isPart (partIs.isPart (l := .none) rfl) (by simp) ?_ (by simp only [List.size_toArray]; rw [hl, sizeLine_eq]; omega)
  rw [cutL_pick]
  have := hQ _ _ _ _ _ ((((S₁.trans S₂).trans S₃).trans g.2).trans t.1) t.2.1 t.2.2 k₄
  simpa [Heap.push, lstOf] using this⟩
theorem RepL.intsOf {h : Heap} {ι : Iota} {vs : List Value} {ns : List Int} (i : IntsAre vs ns) : RepL h ι (ns.map .int) vs := by
  induction i with
  | nil => simp only [List.map_nil, RepL]
  | cons n t _ ih => simp only [List.map_cons, RepL, RepV]; exact ⟨_, _, rfl, ⟨_, rfl⟩, ih⟩
end
end Mine
namespace Mine
section
variable {c : Cx} {A : Around} {env : Env} {ρ : Rho} {μ : Mu}

theorem turn2_in (elt t1 i1 t2 i2 : Expr) (scope : Scope) (pos : Pos) (it acc : Value) (cenv : Env) :
    compTurn (.ListComp elt [⟨t1, i1, [], 0⟩, ⟨t2, i2, [], 0⟩] scope pos) 1 it acc cenv = (standAt i2.pos >>= fun _ => pyNext it >>= fun r => match r with
      | none => pure (.done .next)
      | some v => letOwnedTupleGo t2 it v >>= fun _ => assign t2 cenv v >>= fun _ =>
        (eval elt cenv >>= fun x => call (.builtin "list.append") [acc, x] >>= fun _ => pure ()) >>= fun _ =>
          again (.compLoop (.ListComp elt [⟨t1, i1, [], 0⟩, ⟨t2, i2, [], 0⟩] scope pos) 1 it acc cenv)) := by rfl
theorem turn2_out (elt t1 i1 t2 i2 : Expr) (scope : Scope) (pos : Pos) (it acc : Value) (cenv : Env) :
    compTurn (.ListComp elt [⟨t1, i1, [], 0⟩, ⟨t2, i2, [], 0⟩] scope pos) 0 it acc cenv = (standAt i1.pos >>= fun _ => pyNext it >>= fun r => match r with
      | none => pure (.done .next)
      | some v => letOwnedTupleGo t1 it v >>= fun _ => assign t1 cenv v >>= fun _ =>
        eval i2 cenv >>= fun x => standAt i2.pos >>= fun _ => foldedSetIterable i2 cenv x >>= fun x => holding [x] (pyIter x) >>= fun y =>
          runOwn (.compStart (.ListComp elt [⟨t1, i1, [], 0⟩, ⟨t2, i2, [], 0⟩] scope pos) 1 y acc cenv) cenv >>= fun _ =>
          again (.compLoop (.ListComp elt [⟨t1, i1, [], 0⟩, ⟨t2, i2, [], 0⟩] scope pos) 0 it acc cenv)) := by rfl
abbrev two (elt t1 i1 t2 i2 : Expr) (scope : Scope) (pos : Pos) : Expr := .ListComp elt [⟨t1, i1, [], 0⟩, ⟨t2, i2, [], 0⟩] scope pos
theorem loop2_in {elt t1 i1 t2 i2 : Expr} {scope : Scope} {pos : Pos} {it acc : Value} {cenv : Env} {R : Result → Shared → Prop} {s : Shared}
    (h : ∀ E, wpAny (model c.prog c.w) A (pyNext it) (fun r s₁ => match r with
      | none => R (.ok .next) s₁
      | some v => wpAny (model c.prog c.w) A (letOwnedTupleGo t2 it v) (fun _ s₁' => wpAny (model c.prog c.w) A (assign t2 cenv v) (fun _ s₂ => wpAny (model c.prog c.w) A (eval elt cenv) (fun x s₄ =>
              wpAny (model c.prog c.w) A (call (.builtin "list.append") [acc, x]) (fun _ s₅ => codeAny (model c.prog c.w) A (.compLoop (two elt t1 i1 t2 i2 scope pos) 1 it acc cenv) R s₅) E s₄) E s₂) E s₁') E s₁) E s) :
    codeAny (model c.prog c.w) A (.compLoop (two elt t1 i1 t2 i2 scope pos) 1 it acc cenv) R s := by
  refine codeAny_of_tree ?_
  show wpAny _ A ((compTurn (two elt t1 i1 t2 i2 scope pos) 1 it acc cenv).onRaise (fun x => do noteFrame x cenv; theTreesLotGoes x)) _ _ s
  refine wpAny_noted ?_
  rw [turn2_in]
  refine wpAny_bind (wpAny_standAt (wpAny_bind (wpAny_mono (h _) (fun r s₁ h₁ => ?_) fun _ _ h' => h')))
  cases r with
  | none => exact wpAny_pure h₁
  | some v =>
    refine wpAny_bind (wpAny_mono h₁ (fun _ s₁' h₁' => ?_) fun _ _ h' => h')
    refine wpAny_bind (wpAny_mono h₁' (fun _ s₂ h₂ => ?_) fun _ _ h' => h')
    exact wpAny_bind (wpAny_bind (wpAny_mono h₂ (fun x s₄ h₄ => wpAny_bind (wpAny_mono h₄ (fun _ s₅ h₅ => wpAny_pure (wpAny_pure ⟨rfl, h₅⟩)) fun _ _ h' => h')) fun _ _ h' => h'))
theorem loop2_out {elt t1 i1 t2 i2 : Expr} {scope : Scope} {pos : Pos} {it acc : Value} {cenv : Env} {R : Result → Shared → Prop} {s : Shared} (hf : ∀ x, foldedSetIterable i2 cenv x = pure x)
    (h : ∀ E, wpAny (model c.prog c.w) A (pyNext it) (fun r s₁ => match r with
      | none => R (.ok .next) s₁
      | some v => wpAny (model c.prog c.w) A (letOwnedTupleGo t1 it v) (fun _ s₁' => wpAny (model c.prog c.w) A (assign t1 cenv v) (fun _ s₂ => wpAny (model c.prog c.w) A (eval i2 cenv) (fun x s₃ =>
          wpAny (model c.prog c.w) A (pyIter x) (fun y s₄ => codeAny (model c.prog c.w) A (.compStart (two elt t1 i1 t2 i2 scope pos) 1 y acc cenv) (fun r s₅ => match r with
            | .ok _ => codeAny (model c.prog c.w) A (.compLoop (two elt t1 i1 t2 i2 scope pos) 0 it acc cenv) R s₅
            | .error _ => False) s₄) E s₃) E s₂) E s₁') E s₁) E s) :
    codeAny (model c.prog c.w) A (.compLoop (two elt t1 i1 t2 i2 scope pos) 0 it acc cenv) R s := by
  refine codeAny_of_tree ?_
  show wpAny _ A ((compTurn (two elt t1 i1 t2 i2 scope pos) 0 it acc cenv).onRaise (fun x => do noteFrame x cenv; theTreesLotGoes x)) _ _ s
  refine wpAny_noted ?_
  rw [turn2_out]
  refine wpAny_bind (wpAny_standAt (wpAny_bind (wpAny_mono (h _) (fun r s₁ h₁ => ?_) fun _ _ h' => h')))
  cases r with
  | none => exact wpAny_pure h₁
  | some v =>
    refine wpAny_bind (wpAny_mono h₁ (fun _ s₁' h₁' => ?_) fun _ _ h' => h')
    refine wpAny_bind (wpAny_mono h₁' (fun _ s₂ h₂ => ?_) fun _ _ h' => h')
    refine wpAny_bind (wpAny_mono h₂ (fun x s₃ h₃ => ?_) fun _ _ h' => h')
    refine wpAny_bind (wpAny_standAt (wpAny_bind (wpAny_of_eq (hf x) (wpAny_bind (wpAny_holding (wpAny_mono h₃ (fun y s₄ h₄ => ?_) fun _ _ h' => h'))))))
    refine wpAny_bind (wpAny_runOwn (codeAny_mono h₄ (fun r s₅ h₅ => ?_)))
    cases r with
    | ok f => exact wpAny_pure ⟨rfl, h₅⟩
    | error e => exact h₅.elim
theorem start2 {elt t1 i1 t2 i2 : Expr} {scope : Scope} {pos : Pos} {it acc : Value} {cenv : Env} {R : Result → Shared → Prop} {s : Shared}
    (h0 : codeAny (model c.prog c.w) A (.compLoop (two elt t1 i1 t2 i2 scope pos) 1 it acc cenv) R s)
    (h : ∀ E, wpAny (model c.prog c.w) A (pyIter it) (fun it' s' => codeAny (model c.prog c.w) A (.compLoop (two elt t1 i1 t2 i2 scope pos) 1 it' acc cenv) R s') E s) :
    codeAny (model c.prog c.w) A (.compStart (two elt t1 i1 t2 i2 scope pos) 1 it acc cenv) R s := by
  refine codeAny_of_tree ?_
  show wpAny _ _ ((compStart (two elt t1 i1 t2 i2 scope pos) 1 it acc cenv).onRaise (fun x => do noteFrame x cenv; standAt theWindowsPlace)) _ _ s
  refine wpAny_notedAt ?_
  unfold compStart
  show wpAny _ _ (ask >>= _) _ _ s
  refine wpAny_bind (wpAny_askSetting (wpAny_ite ?_))
  split
  · first
      | exact wpAny_bind (wpAny_pure (wpAny_pure (And.intro rfl h0)))
      | exact wpAny_pure (And.intro rfl h0)
  · refine wpAny_bind (wpAny_rule ?_)
    show wpAny _ _ (standAt i2.pos >>= _) _ _ s
    exact wpAny_bind (wpAny_standAt (wpAny_bind (wpAny_mono (h _) (fun it' s' h' => wpAny_pure (And.intro rfl h')) fun _ _ x => x)))

/-- the inner clause's turns -/
structure WCD (c : Cx) (A : Around) (e : Expr) (cenv : Env) (p : PV) (i : Nat) (ρ : Rho) (K : Mu → Prop) (j : Nat) (μ : Mu) : Prop where
  run : ∀ (s : Shared) (ι : Iota) (J D : Addr) (R : Result → Shared → Prop), Inv c s ι μ → EnvOk c cenv ρ s ι → IterAt s.heap ι J j p → c.hB.get? J = none → ι[i]? = some D →
    (∀ s' ι' μ', StepC c cenv.locals J s ι s' ι' → Inv c s' ι' μ' → EnvOk c cenv ρ s' ι' → K μ' → R (.ok .next) s') → codeAny (model c.prog c.w) A (.compLoop e 1 (.ref J) (.ref D) cenv) R s
theorem WCD.step {elt t1 i1 t2 i2 : Expr} {scope : Scope} {pos : Pos} {cenv : Env} {p : PV} {i j : Nat} {K : Mu → Prop} {its : List PV} {q : PV} (O : c.Ok) (hn : NextOk c A μ p its) (hq : its[j]? = some q)
    (h : WAL c A t2 cenv q ρ μ fun ρ' => (∀ y ∈ ρ, y ∈ ρ') ∧ WE c A elt cenv ρ' μ fun x μ₂ => ∃ ps, μ₂[i]? = some (.lst ps) ∧ ps.length ≤ 1000000 ∧ WCD c A (two elt t1 i1 t2 i2 scope pos) cenv p i ρ K (j + 1) (μ₂.set i (.lst (ps ++ [x])))) :
    WCD c A (two elt t1 i1 t2 i2 scope pos) cenv p i ρ K j μ := ⟨fun s ι J D R I V x nB hD hR => by
  refine loop2_in fun E => ?_
  refine hn s ι J j _ _ I x (fun q' v h' tk htk hq' k x' r => ?_) (fun h' tk _ hn _ => by rw [hq] at hn; cases hn)
  rw [hq] at hq'; cases hq'
  obtain ⟨oJ, eJ, hJ⟩ := x.obj
  have sc := I.scratch (env := cenv) (ρ := ρ) O eJ hJ nB (s' := { s with heap := h', toks := tk }) k I.bare rfl (Nat.lt_of_lt_of_le I.tp htk)
  obtain ⟨oJ', eJ', hJ'⟩ := x'.obj
  refine letGo_run eJ' hJ' ?_
  have S0 : StepC c cenv.locals J s ι { s with heap := h', toks := tk } ι := ⟨fun b o e _ _ _ hb => k b o e hb, fun b o e hb => ⟨o, k b o e hb⟩, [], by simp, by simp⟩
  refine h.run _ ι E _ v sc.1 (sc.2.2.2 V) (sc.2.1 _ _ r) fun s₂ ρ₂ S₂ I₂ V₂ k₂ => ?_
  obtain ⟨hsub, k₂⟩ := k₂
  have x₂ : IterAt s₂.heap ι J (j + 1) p := IterAt.stepF O sc.1 (sc.2.2.2 V) S₂.f x'
  have nd := V.nd
  have ex₂ := x₂.obj
  have S02 : StepC c cenv.locals J s ι s₂ ι := S0.trans ⟨_, eJ'⟩ S₂.c
  have hJ₂ : ∃ o, s₂.heap.get? J = some o := ⟨_, ex₂.choose_spec.1⟩
  refine WE.run k₂ s₂ ι E _ I₂ V₂ fun xv s₄ ι₄ xp μ₄ S₄ I₄ r₄ k₄ => ?_
  obtain ⟨ps, hps, hb, k₄⟩ := k₄
  have x₄ : IterAt s₄.heap ι₄ J (j + 1) p := IterAt.stepF O I₂ V₂ S₄.f x₂
  have V₄ := V₂.step O I₂ S₄
  have hJ₄ : ∃ o, s₄.heap.get? J = some o := ⟨_, x₄.obj.choose_spec.1⟩
  have S04 := S02.trans hJ₂ (S₄.c (L := cenv.locals) (J := J))
  have hD₄ : ι₄[i]? = some D := by obtain ⟨l, rfl, _⟩ := S₄.ext; exact getElem?_ext hD l
  refine (WC.append (p := xp) (K := fun _ m => m = μ₄.set i (.lst (ps ++ [xp]))) O hps hb rfl).run s₄ ι₄ E _ [.ref D, xv] I₄ (by simp only [RepL, RepV]; exact ⟨_, _, rfl, ⟨D, rfl, hD₄⟩, _, _, rfl, r₄, rfl⟩) fun v₅ s₅ ι₅ p₅ μ₅ S₅ I₅ r₅ k₅ => ?_
  subst k₅
  have x₅ : IterAt s₅.heap ι₅ J (j + 1) p := IterAt.stepF O I₄ V₄ S₅.f x₄
  have hD₅ : ι₅[i]? = some D := by obtain ⟨l, rfl, _⟩ := S₅.ext; exact getElem?_ext hD₄ l
  have hJ₅ : ∃ o, s₅.heap.get? J = some o := ⟨_, x₅.obj.choose_spec.1⟩
  have S05 := S04.trans hJ₄ (S₅.c (L := cenv.locals) (J := J))
  exact WCD.run k₄ s₅ ι₅ J D R I₅ ((V₄.step O I₄ S₅).less hsub nd) x₅ nB hD₅ fun s' ι' μ' S' I' V' k' => hR s' ι' μ' (S05.trans hJ₅ S') I' V' k'⟩
theorem WCD.done {elt t1 i1 t2 i2 : Expr} {scope : Scope} {pos : Pos} {cenv : Env} {p : PV} {i j : Nat} {K : Mu → Prop} {its : List PV} (O : c.Ok) (hn : NextOk c A μ p its) (hq : its[j]? = none) (h : K μ) :
    WCD c A (two elt t1 i1 t2 i2 scope pos) cenv p i ρ K j μ := ⟨fun s ι J D R I V x nB hD hR => by
  refine loop2_in fun E => ?_
  refine hn s ι J j _ _ I x (fun q' v h' tk _ hq' k x' r => by rw [hq] at hq'; cases hq') (fun h' tk htk _ k => ?_)
  obtain ⟨oJ, eJ, hJ⟩ := x.obj
  have sc := I.scratch (env := cenv) (ρ := ρ) O eJ hJ nB (s' := { s with heap := h', toks := tk }) k I.bare rfl (Nat.lt_of_lt_of_le I.tp htk)
  exact hR _ ι μ ⟨fun b o e _ _ _ hb => k b o e hb, fun b o e hb => ⟨o, k b o e hb⟩, [], by simp, by simp⟩ sc.1 (sc.2.2.2 V) h⟩
theorem StepC.drop {L J : Addr} {s s₁ s' : Shared} {ι ι' : Iota} (hJ : s.heap.get? J = none) (k : ∀ b o, s.heap.get? b = some o → s₁.heap.get? b = some o) (S : StepC c L J s₁ ι s' ι') : StepL c L s ι s' ι' := by
  have nJ : ∀ b o, s.heap.get? b = some o → b ≠ J := fun b o e q => by rw [q, hJ] at e; cases e
  refine ⟨fun b o e h1 h2 h3 => S.keep b o (k b o e) h1 h2 h3 (nJ b o e), fun b o e => S.there b o (k b o e) (nJ b o e), ?_⟩
  obtain ⟨l, hl, h⟩ := S.ext
  refine ⟨l, hl, fun a ha => ?_⟩
  cases q : s.heap.get? a with
  | none => rfl
  | some o => have := h a ha; rw [k a o q] at this; cases this
theorem WCL.step2 {elt t1 i1 t2 i2 : Expr} {scope : Scope} {pos : Pos} {cenv : Env} {p : PV} {i j : Nat} {K : Mu → Prop} {its : List PV} {q : PV} (O : c.Ok) (hn : NextOk c A μ p its) (hq : its[j]? = some q) (hf : ∀ x, foldedSetIterable i2 cenv x = pure x)
    (h : WAL c A t1 cenv q ρ μ fun ρ' => (∀ y ∈ ρ, y ∈ ρ') ∧ WE c A i2 cenv ρ' μ fun p2 μ₁ => ItOk c A μ₁ p2 ∧ WCD c A (two elt t1 i1 t2 i2 scope pos) cenv p2 i ρ' (fun m => WCL c A (two elt t1 i1 t2 i2 scope pos) cenv p i ρ K (j + 1) m) 0 μ₁) :
    WCL c A (two elt t1 i1 t2 i2 scope pos) cenv p i ρ K j μ := ⟨fun s ι J D R I V x nB hD hR => by
  refine loop2_out hf fun E => ?_
  refine hn s ι J j _ _ I x (fun q' v h' tk htk hq' k x' r => ?_) (fun h' tk _ hn _ => by rw [hq] at hn; cases hn)
  rw [hq] at hq'; cases hq'
  obtain ⟨oJ, eJ, hJ⟩ := x.obj
  have sc := I.scratch (env := cenv) (ρ := ρ) O eJ hJ nB (s' := { s with heap := h', toks := tk }) k I.bare rfl (Nat.lt_of_lt_of_le I.tp htk)
  obtain ⟨oJ', eJ', hJ'⟩ := x'.obj
  refine letGo_run eJ' hJ' ?_
  have S0 : StepC c cenv.locals J s ι { s with heap := h', toks := tk } ι := ⟨fun b o e _ _ _ hb => k b o e hb, fun b o e hb => ⟨o, k b o e hb⟩, [], by simp, by simp⟩
  refine h.run _ ι E _ v sc.1 (sc.2.2.2 V) (sc.2.1 _ _ r) fun s₂ ρ₂ S₂ I₂ V₂ k₂ => ?_
  obtain ⟨hsub, k₂⟩ := k₂
  have x₂ : IterAt s₂.heap ι J (j + 1) p := IterAt.stepF O sc.1 (sc.2.2.2 V) S₂.f x'
  have nd := V.nd
  have ex₂ := x₂.obj
  have S02 : StepC c cenv.locals J s ι s₂ ι := S0.trans ⟨_, eJ'⟩ S₂.c
  have hJ₂ : ∃ o, s₂.heap.get? J = some o := ⟨_, ex₂.choose_spec.1⟩
  refine WE.run k₂ s₂ ι E _ I₂ V₂ fun v₃ s₃ ι₃ p2 μ₃ S₃ I₃ r₃ k₃ => ?_
  obtain ⟨hit, kd⟩ := k₃
  have V₃ := V₂.step O I₂ S₃
  have x₃ : IterAt s₃.heap ι₃ J (j + 1) p := IterAt.stepF O I₂ V₂ S₃.f x₂
  have S03 := S02.trans hJ₂ (S₃.c (L := cenv.locals) (J := J))
  have hJ₃ : ∃ o, s₃.heap.get? J = some o := ⟨_, x₃.obj.choose_spec.1⟩
  have hD₃ : ι₃[i]? = some D := by obtain ⟨l, rfl, _⟩ := S₃.ext; exact getElem?_ext hD l
  refine hit s₃ ι₃ v₃ _ _ I₃ r₃ fun h₄ J2 hJ2 k4 xJ2 => ?_
  have g := I₃.grow O (s' := { s₃ with heap := h₄ }) k4 I₃.bare rfl I₃.tp
  have loop := kd.run _ ι₃ J2 D (fun r s₅ => match r with
            | .ok _ => codeAny (model c.prog c.w) A (.compLoop (two elt t1 i1 t2 i2 scope pos) 0 (.ref J) (.ref D) cenv) R s₅
            | .error _ => False) g.1 (V₃.step O I₃ g.2) xJ2 (I₃.fresh O hJ2).2.2 hD₃ fun s₅ ι₅ μ₅ S₅ I₅ V₅ k₅ => by
    have SL : StepL c cenv.locals s₃ ι₃ s₅ ι₅ := S₅.drop hJ2 k4
    have x₅ : IterAt s₅.heap ι₅ J (j + 1) p := IterAt.stepF O I₃ V₃ SL.f x₃
    have hJ₅ : ∃ o, s₅.heap.get? J = some o := ⟨_, x₅.obj.choose_spec.1⟩
    have hD₅ : ι₅[i]? = some D := by obtain ⟨l, rfl, _⟩ := SL.ext; exact getElem?_ext hD₃ l
    exact WCL.run k₅ s₅ ι₅ J D R I₅ (V₅.less hsub nd) x₅ nB hD₅ fun s' ι' μ' S' I' V' k' => hR s' ι' μ' ((S03.trans hJ₃ SL.c).trans hJ₅ S') I' V' k'
  exact start2 loop fun E => selfIter_run xJ2 loop⟩
theorem WCL.done2 {elt t1 i1 t2 i2 : Expr} {scope : Scope} {pos : Pos} {cenv : Env} {p : PV} {i j : Nat} {K : Mu → Prop} {its : List PV} (O : c.Ok) (hn : NextOk c A μ p its) (hq : its[j]? = none) (hf : ∀ x, foldedSetIterable i2 cenv x = pure x) (h : K μ) :
    WCL c A (two elt t1 i1 t2 i2 scope pos) cenv p i ρ K j μ := ⟨fun s ι J D R I V x nB hD hR => by
  refine loop2_out hf fun E => ?_
  refine hn s ι J j _ _ I x (fun q' v h' tk _ hq' k x' r => by rw [hq] at hq'; cases hq') (fun h' tk htk _ k => ?_)
  obtain ⟨oJ, eJ, hJ⟩ := x.obj
  have sc := I.scratch (env := cenv) (ρ := ρ) O eJ hJ nB (s' := { s with heap := h', toks := tk }) k I.bare rfl (Nat.lt_of_lt_of_le I.tp htk)
  exact hR _ ι μ ⟨fun b o e _ _ _ hb => k b o e hb, fun b o e hb => ⟨o, k b o e hb⟩, [], by simp, by simp⟩ sc.1 (sc.2.2.2 V) h⟩

/-- all pairs: the inner list is always the same, the values are told by F -/
theorem WCD.all {elt t1 i1 t2 i2 : Expr} {scope : Scope} {pos : Pos} {cenv : Env} {p : PV} {K : Mu → Prop} {μ0 : Mu} {its : List PV} (F : PV → PV) (O : c.Ok) (hn : ∀ l g, NextOk c A (μ0 ++ .lst l :: g) p its)
    (step : ∀ q ∈ its, ∀ l g, WAL c A t2 cenv q ρ (μ0 ++ .lst l :: g) fun ρ' => (∀ y ∈ ρ, y ∈ ρ') ∧ WE c A elt cenv ρ' (μ0 ++ .lst l :: g) fun x m => ∃ g', m = μ0 ++ .lst l :: g' ∧ x = F q) :
    ∀ (n j : Nat) (l : List PV) (g : Mu), its.length - j = n → l.length + n ≤ 1000000 → (∀ g, K (μ0 ++ .lst (l ++ (its.drop j).map F) :: g)) → WCD c A (two elt t1 i1 t2 i2 scope pos) cenv p μ0.length ρ K j (μ0 ++ .lst l :: g)
  | 0, j, l, g, hj, hl, hK => by
    have hd : its.length ≤ j := Nat.sub_eq_zero_iff_le.mp hj
    refine WCD.done O (hn l g) (List.getElem?_eq_none hd) ?_
    have := hK g
    rw [List.drop_of_length_le hd, List.map_nil, List.append_nil] at this
    exact this
  | n + 1, j, l, g, hj, hl, hK => by
    have hd : j < its.length := Nat.lt_of_sub_pos (by rw [hj]; exact Nat.succ_pos _)
    refine WCD.step O (hn l g) (List.getElem?_eq_getElem hd) ((step _ (List.getElem_mem hd) l g).mono fun r x => ⟨x.1, x.2.mono fun x m y => ?_⟩)
    obtain ⟨g', rfl, rfl⟩ := y
    refine ⟨l, at_end .., Nat.le_trans (Nat.le_add_right _ _) hl, ?_⟩
    rw [set_end]
    refine WCD.all F O hn step n (j + 1) _ g' (by rw [Nat.sub_add_eq, hj]; rfl) (by rw [List.length_append, List.length_singleton, Nat.add_assoc, Nat.add_comm 1 n]; exact hl) fun g => ?_
    have := hK g
    rw [List.drop_eq_getElem_cons hd, List.map_cons] at this
    rw [List.append_assoc]
    exact this
theorem WCL.all2 {elt t1 i1 t2 i2 : Expr} {scope : Scope} {pos : Pos} {cenv : Env} {p : PV} {K : Mu → Prop} {μ0 : Mu} {its its2 : List PV} (F : PV → PV → PV) (O : c.Ok) (hf : ∀ x, foldedSetIterable i2 cenv x = pure x) (hn : ∀ l g, NextOk c A (μ0 ++ .lst l :: g) p its) (h2 : its2.length ≤ 1000)
    (step : ∀ q ∈ its, ∀ l g, WAL c A t1 cenv q ρ (μ0 ++ .lst l :: g) fun ρ' => (∀ y ∈ ρ, y ∈ ρ') ∧ WE c A i2 cenv ρ' (μ0 ++ .lst l :: g) fun p2 m => m = μ0 ++ .lst l :: g ∧ ItOk c A m p2 ∧ (∀ l g, NextOk c A (μ0 ++ .lst l :: g) p2 its2) ∧
      ∀ q2 ∈ its2, ∀ l g, WAL c A t2 cenv q2 ρ' (μ0 ++ .lst l :: g) fun ρ'' => (∀ y ∈ ρ', y ∈ ρ'') ∧ WE c A elt cenv ρ'' (μ0 ++ .lst l :: g) fun x m => ∃ g', m = μ0 ++ .lst l :: g' ∧ x = F q q2) :
    ∀ (n j : Nat) (l : List PV) (g : Mu), its.length - j = n → l.length + n * its2.length ≤ 1000000 → (∀ g, K (μ0 ++ .lst (l ++ (its.drop j).flatMap fun a => its2.map (F a)) :: g)) → WCL c A (two elt t1 i1 t2 i2 scope pos) cenv p μ0.length ρ K j (μ0 ++ .lst l :: g)
  | 0, j, l, g, hj, hl, hK => by
    have hd : its.length ≤ j := Nat.sub_eq_zero_iff_le.mp hj
    refine WCL.done2 O (hn l g) (List.getElem?_eq_none hd) hf ?_
    have := hK g
    rw [List.drop_of_length_le hd, List.flatMap_nil, List.append_nil] at this
    exact this
  | n + 1, j, l, g, hj, hl, hK => by
    have hd : j < its.length := Nat.lt_of_sub_pos (by rw [hj]; exact Nat.succ_pos _)
    refine WCL.step2 O (hn l g) (List.getElem?_eq_getElem hd) hf ((step _ (List.getElem_mem hd) l g).mono fun r x => ⟨x.1, x.2.mono fun p2 m y => ?_⟩)
    obtain ⟨rfl, hit, hn2, st⟩ := y
    refine ⟨hit, WCD.all (F its[j]) O hn2 st its2.length 0 l g rfl (Nat.le_trans (Nat.add_le_add_left (Nat.le_mul_of_pos_left _ (Nat.succ_pos n)) _) hl) fun g' => ?_⟩
    rw [List.drop_zero]
    refine WCL.all2 F O hf hn h2 step n (j + 1) _ g' (by rw [Nat.sub_add_eq, hj]; rfl) (by rw [List.length_append, List.length_map, Nat.add_assoc, Nat.add_comm its2.length, ← Nat.succ_mul]; exact hl) fun g => ?_
    have := hK g
    rw [List.drop_eq_getElem_cons hd, List.flatMap_cons] at this
    rw [List.append_assoc]
    exact this
end
end Mine
namespace Mine
section
variable {prog : Program} {w : World} {A : Around} {E : Value → Shared → Prop} {s : Shared}
theorem next_seqG {it l : Addr} {i : Nat} {items : Array Value} {x : Value} {Q : Option Value → Shared → Prop} (hit : s.heap.IsListIter it l i) (hl : SeqAt s.heap l items) (hx : items[i]? = some x)
    (hQ : ∀ h', h'.IsListIter it l (i + 1) → Heap.SameBut it s.heap h' → Q (some x) { s with heap := h' }) : wpAny (model prog w) A (pyNext (.ref it)) Q E s := by
  obtain ⟨oi, hi, hc, e0⟩ := hit
  have hT : s.TypeIs (.ref it) "list_iterator" := ⟨_, hi, hc⟩
  obtain ⟨o, n, ho, hd⟩ := hl
  unfold pyNext
  refine wpAny_bind (wpAny_attempt (wpAny_callSpecial?_slot (name := Str.ofString "__next__") hT slot_listiter_next (wpAny_call_entry slot_listiter_next hT entry_listiter_next ?_ (args_listiter_next _))))
  show wpAny _ _ (field (.ref it) 0 >>= _) _ _ s
  refine wpAny_bind (wpAny_field hi e0 (x := .ref l) rfl ?_)
  show wpAny _ _ (if (Value.ref l == Value.none) = true then _ else _) _ _ s
  rw [if_neg (show ¬ ((Value.ref l == Value.none) = true) from Bool.false_ne_true)]
  show wpAny _ _ (field (.ref it) 1 >>= _) _ _ s
  refine wpAny_bind (wpAny_field hi e0 (x := .int i 0) rfl ?_)
  show wpAny _ _ (seqItems? (.ref l) >>= _) _ _ s
  refine wpAny_bind (wpAny_seqItems ho hd ?_)
  simp only [Int.toNat_natCast, hx]
  refine wpAny_bind (wpAny_setField hi e0 (by simp) (wpAny_pure ⟨x, rfl, wpAny_pure (hQ _ ?_ (Heap.SameBut.update ..))⟩))
  obtain ⟨cls, dict, data, slots⟩ := oi
  dsimp only at hc e0
  subst hc; subst e0
  exact ⟨_, Heap.get?_update_self _ hi rfl, rfl, by simp [rawInt, Obj.mapFields]⟩
theorem next_endG {it l : Addr} {i : Nat} {items : Array Value} {Q : Option Value → Shared → Prop} (hh : A.handled = none) (hit : s.heap.IsListIter it l i) (hl : SeqAt s.heap l items) (hx : items[i]? = none)
    (hQ : ∀ h', Heap.ExtBut it s.heap h' → Q none { s with heap := h' }) : wpAny (model prog w) A (pyNext (.ref it)) Q E s := by
  obtain ⟨oi, hi, hc, e0⟩ := hit
  have hT : s.TypeIs (.ref it) "list_iterator" := ⟨_, hi, hc⟩
  obtain ⟨o, n, ho, hd⟩ := hl
  unfold pyNext
  refine wpAny_bind (wpAny_attempt (wpAny_callSpecial?_slot (name := Str.ofString "__next__") hT slot_listiter_next (wpAny_call_entry slot_listiter_next hT entry_listiter_next ?_ (args_listiter_next _))))
  show wpAny _ _ (field (.ref it) 0 >>= _) _ _ s
  refine wpAny_bind (wpAny_field hi e0 (x := .ref l) rfl ?_)
  show wpAny _ _ (if (Value.ref l == Value.none) = true then _ else _) _ _ s
  rw [if_neg (show ¬ ((Value.ref l == Value.none) = true) from Bool.false_ne_true)]
  show wpAny _ _ (field (.ref it) 1 >>= _) _ _ s
  refine wpAny_bind (wpAny_field hi e0 (x := .int i 0) rfl ?_)
  show wpAny _ _ (seqItems? (.ref l) >>= _) _ _ s
  refine wpAny_bind (wpAny_seqItems ho hd ?_)
  simp only [Int.toNat_natCast, hx]
  refine wpAny_bind (wpAny_rule (wpAny_bind (wpAny_setField hi e0 (by simp) ?_)))
  show wpAny _ _ (newExc (.type "StopIteration") [] >>= _) _ _ _
  refine wpAny_bind ?_
  simp only [newExc, newTuple]
  refine wpAny_bind (wpAny_newObj_type ?_ (by size_fits))
  refine wpAny_bind (m := firstArgMember _ _) (wpAny_of_eq (a := Value.none) (by first | rfl | (simp only [firstArgMember]; rfl)) ?_)
  refine wpAny_newObj_type ?_ (by size_fits)
  simp only [raiseNew]
  refine wpAny_bind (wpAny_handled ?_)
  rw [show A.in1.handled = none from hh]
  refine wpAny_bind (wpAny_pure (wpAny_throw ?_))
  refine wpAny_bind (wpAny_isInstance (T := "StopIteration") (b := true) ⟨_, Heap.get?_push_size _ rfl, rfl⟩ isSubtype_stop ?_)
  exact wpAny_pure (hQ _ (((Heap.SameBut.update ..).extBut.push _).push _))
end
section
variable {c : Cx} {A : Around} {μ : Mu} {K : Frag}
/-- iter of a pile, next of its iterator -/
theorem ItOk.pil {i : Nat} {k : Int} {its : List (Str × Str)} (O : c.Ok) (P : PilK c K) (hi : μ[i]? = some (.pil k its)) : ItOk c A μ (.loc i) := fun s ι v E Q I r hQ => by
  obtain ⟨a, d, vs, n, od, rfl, hia, IA, hdi, hd, hdn, rl, hl⟩ := I.pil hi r
  exact pil_pyIter P I IA (hQ _ _ (fresh_size _) (fun b o e => Heap.get?_push_of_some _ e) ⟨a, hia, _, Heap.get?_push_size _ rfl, rfl, rfl⟩)
theorem NextOk.pil {i : Nat} {k : Int} {its : List (Str × Str)} (O : c.Ok) (a : A.handled = none) (hi : μ[i]? = some (.pil k its)) : NextOk c A μ (.loc i) (its.map pairPV) := fun s ι J j E Q I x h1 h2 => by
  obtain ⟨ad, hia, hit⟩ := x
  obtain ⟨a', d, vs, n, od, e, hia', IA, hdi, hd, hdn, rl, hl⟩ := I.pil hi (v := .ref ad) (by simp only [RepV]; exact ⟨ad, rfl, hia⟩)
  cases e
  have hL : SeqAt s.heap ad vs.toArray := ⟨_, _, IA.1, rfl⟩
  have g := RepL.get _ vs j rl
  have na : ad ≠ J := fun q => by
    obtain ⟨o, e', hc, _⟩ := hit
    rw [← q, IA.1] at e'; cases e'
    cases hc
  cases q : (its.map pairPV)[j]? with
  | some q' =>
    obtain ⟨v, hv, r'⟩ := g.1 q' q
    refine next_seqG hit hL (x := v) (by simpa using hv) fun h' hit' hs' => ?_
    exact h1 q' v h' s.toks (Nat.le_refl _) q (fun b o e hb => hs'.extBut b o hb e) ⟨ad, hia, hit'⟩ r'
  | none => exact next_endG a hit hL (by simpa using g.2 q) fun h' he' => h2 h' s.toks (Nat.le_refl _) q fun b o e hb => he' b o hb e
end
end Mine
namespace Mine
open Builtin.Str (occurrences)
theorem joinL_map (f : Nat → Nat) (sep : List Nat) : ∀ l : List (List Nat), (joinL sep l).map f = joinL (sep.map f) (l.map fun x => x.map f)
  | [] => rfl
  | [x] => rfl
  | x :: y :: r => by
    have ih := joinL_map f sep (y :: r)
    simp only [joinL, List.map_cons, List.map_append] at ih ⊢
    rw [ih]
theorem S_surj (x : Str) : ∃ l, x = S l := ⟨x.cps.toList, by cases x; rfl⟩
theorem all_S : ∀ ps : List Str, ∃ l : List (List Nat), ps = l.map S
  | [] => ⟨[], rfl⟩
  | p :: ps => by
    obtain ⟨a, rfl⟩ := S_surj p
    obtain ⟨l, rfl⟩ := all_S ps
    exact ⟨a :: l, rfl⟩
theorem joinS (sep : List Nat) (l : List (List Nat)) : Str.join (S sep) (l.map S) = S (joinL sep l) := by
  rw [← join_S]; exact (StrLaws.glued_eq_join _ _).symm
/-- dots by something -/
theorem replace_dots (x z : List Nat) : Txt.replace (S x) (S dots) (S z) = S (joinL z (splitD x [])) := by
  have h3 : ((S dots).length == 0) = false := rfl
  have hs := split_S x
  unfold Txt.replace
  rw [h3, Bool.false_and, Bool.or_false]
  unfold Txt.split at hs
  cases he : (occurrences (S x) (S dots) 0 (S x).length ((S x).length + 1)).isEmpty
  · rw [if_neg Bool.false_ne_true, StrLaws.glued_eq_join]
    by_cases hc : (decide ((S x).length < (S dots).length) || decide (Builtin.Str.strKind (S x) < Builtin.Str.strKind (S dots))) = true
    · exfalso
      have kd : ¬ Builtin.Str.strKind (S x) < Builtin.Str.strKind (S dots) := by
        have k1 : Builtin.Str.strKind (S dots) = 1 := by unfold Builtin.Str.strKind; simp
        rw [k1]
        unfold Builtin.Str.strKind
        split
        · omega
        · split <;> omega
      rw [decide_eq_false kd, Bool.or_false, decide_eq_true_iff] at hc
      obtain ⟨f, h⟩ := StrLaws.occ_chain (S x) (S dots) ((S x).length + 1)
      cases ho : occurrences (S x) (S dots) 0 (S x).length ((S x).length + 1) with
      | nil => rw [ho] at he; exact absurd he (by simp)
      | cons i r =>
        rw [ho] at h
        have h4 := h.2.1.1
        omega
    · rw [if_neg hc, he, if_neg Bool.false_ne_true] at hs
      rw [hs]
      exact joinS z _
  · rw [if_pos rfl]
    have : [S x] = (splitD x []).map S := by
      rw [he] at hs
      split at hs
      · exact hs
      · exact hs
    match hq : splitD x [], this with
    | [], h => cases h
    | [y], h => rw [List.map_cons, List.map_nil] at h; injection h with h _
    | y :: y' :: r, h => cases h
/-- a letter by a letter -/
theorem replace_sign (x : List Nat) (a b : Nat) : Txt.replace (S x) (S [a]) (S [b]) = S (x.map fun k => if k = a then b else k) := by
  show Txt.replace (S x) ⟨#[a]⟩ (S [b]) = _
  rw [StrLaws.replace_one]
  obtain ⟨l, hl⟩ := all_S (Txt.split (S x) ⟨#[a]⟩)
  have hj := StrLaws.join_split (S x) ⟨#[a]⟩
  have hf := StrLaws.split_free (S x) a
  rw [hl] at hj hf ⊢
  rw [show (Str.join (S [b]) (l.map S)) = S (joinL [b] l) from joinS [b] l]
  rw [show (Str.join (⟨#[a]⟩ : Str) (l.map S)) = S (joinL [a] l) from joinS [a] l] at hj
  rw [← S_inj.mp hj, joinL_map]
  congr 1
  have e1 : ([a] : List Nat).map (fun k => if k = a then b else k) = [b] := by simp
  rw [e1]
  congr 1
  have : ∀ p ∈ l, (p.map fun k => if k = a then b else k) = p := fun p hp => by
    have hfree := hf (S p) (List.mem_map.mpr ⟨p, hp, rfl⟩)
    have hfree : a ∉ p := by simpa [S] using hfree
    exact (List.map_congr_left (g := id) (fun k hk => if_neg (fun e : k = a => hfree (by rw [← e]; exact hk)))).trans (List.map_id _)
  exact (List.map_congr_left (g := id) this).trans (List.map_id _) |>.symm ▸ rfl

section
variable {c : Cx} {A : Around} {env : Env} {ρ : Rho} {μ : Mu}
/-- an expression that makes a new text -/
structure WF (c : Cx) (A : Around) (e : Expr) (env : Env) (ρ : Rho) (μ : Mu) (K : Str → Mu → Prop) : Prop where
  run : ∀ (s : Shared) (ι : Iota) (E Q : Value → Shared → Prop), Inv c s ι μ → EnvOk c env ρ s ι →
    (∀ x t s' ι' μ', Step c s ι s' ι' → Inv c s' ι' μ' → s.toks ≤ t → t < s'.toks → K x μ' → Q (.str x t) s') → wpAny (model c.prog c.w) A (eval e env) Q E s
theorem WF.const {x : Str} {k : Nat} {pos : Pos} {K : Str → Mu → Prop} (O : c.Ok) (h : K x μ) : WF c A (.Constant (.str x) k pos) env ρ μ K := ⟨fun s ι E Q I V hQ => by
  have t := toks_inv O I (s.toks + 1)
  exact wpAny_Constant_str (hQ _ _ _ ι μ t.2 t.1 (Nat.le_refl _) (Nat.lt_succ_self _) h)⟩
theorem WF.item {x y : Str} {p p' pos : Pos} {l : List Nat} {k q : Nat} {K : Str → Mu → Prop} (O : c.Ok) (hx : (x, .str (S l)) ∈ ρ) (hy : (y, .int (k : Nat)) ∈ ρ) (hk : l[k]? = some q) (hl : l.length ≤ 1000) (h : K (S [q]) μ) : WF c A (.Subscript (.Name x p) (.Name y p') pos) env ρ μ K := ⟨fun s ι E Q I V hQ => by
  have t := toks_inv O I (s.toks + 1)
  have hlt : k < l.length := (List.getElem?_eq_some_iff.mp hk).1
  obtain ⟨m, hn, _, hm⟩ := V.ns
  refine PyProof.Rows.Subscript_ (wpAny_Name (name_run V hx fun v r => ?_) (hm _ _ hx).1)
  refine wpAny_Name (name_run V hy fun u r' => ?_) (hm _ _ hy).1
  simp only [RepV] at r r'
  obtain ⟨tx, rfl⟩ := r
  obtain ⟨ty, rfl⟩ := r'
  refine subTail (T := "str") rfl F.slot_str_getitem.lookup ?_ (.inl rfl)
  refine PyProof.Rows.getItem_str (c := q) ?_ ?_ (hQ _ _ _ ι μ t.2 t.1 (Nat.le_refl _) (Nat.lt_succ_self _) h)
  · simp only [Bool.or_eq_false_iff, decide_eq_false_iff_not]; exact fit62 (natB (Nat.le_trans (Nat.le_of_lt hlt) (Nat.le_trans hl (by decide))))
  · rw [S_length]
    rw [seq_nat hlt]; simpa [S] using hk⟩
/-- x.replace(a, b) where a and b are new texts -/
theorem WE.replace {o a1 a2 : Expr} {apos pos : Pos} {K : PV → Mu → Prop} (O : c.Ok)
    (h : WE c A o env ρ μ fun p μ₁ => ∃ x : List Nat, p = .str (S x) ∧ x.length ≤ 1000 ∧ WF c A a1 env ρ μ₁ fun y μ₂ => WF c A a2 env ρ μ₂ fun z μ₃ => z.length ≤ 1000 ∧ K (.str (Txt.replace (S x) y z)) μ₃)
    (hs1 : notStar a1 = true) (hs2 : notStar a2 = true) (hc : callsMethod o "replace" apos [a1, a2] pos env) : WE c A (.Call (.Attribute o "replace" apos) [a1, a2] [] pos) env ρ μ K := ⟨fun s ι E Q I V hQ => by
  obtain ⟨pl, hc⟩ := hc
  have hs : ([a1, a2] : List Expr).all notStar = true := by rw [List.all_cons, hs1, List.all_cons, hs2]; rfl
  refine PyProof.Rows.MethodCall_ (h.run s ι E _ I V fun ov s₁ ι₁ p μ₁ S₁ I₁ r₁ k₁ => ?_) hc
  obtain ⟨x, rfl, hx, k₁⟩ := k₁
  have kt := (KindIs.type (T := "str") I₁ (show KindIs μ₁ "str" (.str (S x)) from rfl) r₁)
  simp only [RepV] at r₁
  obtain ⟨t, rfl⟩ := r₁
  refine getMethod_builtin kt.1 F.plainAttrs_str F.slot_str_replace F.type_str_replace kt.2 ?_
  refine Calls.callWith_builtin (starEach_plain hs pos) ?_
  have V₁ := V.step O I S₁
  have key : ∀ (Q' : List Value → Shared → Prop), (∀ vs s', Q' vs s' → Q' vs s') → (∀ y u z v s' ι' μ', Step c s₁ ι₁ s' ι' → Inv c s' ι' μ' → 0 < u → u < v → z.length ≤ 1000 → K (.str (Txt.replace (S x) y z)) μ' → Q' [.str y u, .str z v] s') →
      wpAny (model c.prog c.w) A (spliced (backTo pos (starEach [a1, a2] env))) Q' E s₁ := fun Q' _ hq => by
    rw [starEach_cons hs1, starEach_cons hs2]
    refine Calls.spliced_cons (k₁.run s₁ ι₁ E _ I₁ V₁ fun y u s₂ ι₂ μ₂ S₂ I₂ u1 u2 k₂ => ?_)
    refine Calls.spliced_cons (k₂.run s₂ ι₂ E _ I₂ (V₁.step O I₁ S₂) fun z v s₃ ι₃ μ₃ S₃ I₃ v1 v2 k₃ => ?_)
    exact Calls.spliced_nil (hq y u z v s₃ ι₃ μ₃ (S₂.trans S₃) I₃ (Nat.lt_of_lt_of_le I₁.tp u1) (Nat.lt_of_lt_of_le u2 v1) k₃.1 k₃.2)
  have fin : ∀ y u z v s' ι' μ', Step c s₁ ι₁ s' ι' → Inv c s' ι' μ' → 0 < u → u < v → z.length ≤ 1000 → K (.str (Txt.replace (S x) y z)) μ' → wpAny (model c.prog c.w) A (call (.builtin "str.replace") ([.str (S x) t] ++ [.str y u, .str z v])) Q E s' := fun y u z v s' ι' μ' S' I' u1 u2 hz k' => by
    refine wpAny_with_toks (Nat.le_refl s'.toks) (SC.replaceA (Nat.pos_iff_ne_zero.mp u1) (Nat.pos_iff_ne_zero.mp (Nat.lt_trans u1 u2)) (Nat.ne_of_lt u2) (by
      rw [S_length]
      have h1 : (x.length + 1) * z.length ≤ 1001 * 1000 := Nat.mul_le_mul (by omega) hz
      omega) (fun t' tk htk => ?_) (I'.noneBooked O))
    have g := toks_inv O I' tk (Nat.lt_of_lt_of_le I'.tp htk)
    exact hQ _ _ ι' (.str _) μ' (S₁.trans (S'.trans g.2)) g.1 (by simp only [RepV]; exact ⟨_, rfl⟩) k'
  have h' := key (fun vs s' => wpAny (model c.prog c.w) A (call (.builtin "str.replace") ([.str (S x) t] ++ vs)) Q E s') (fun _ _ h => h) fin
  rw [starEach_cons hs1] at h' ⊢
  exact Calls.evalArgs_plain h'⟩
end
end Mine
namespace Mine
section
variable {c : Cx} {A : Around} {env : Env} {ρ : Rho} {μ : Mu}
theorem count_map (x : Bool) : ∀ bs : List Bool, (bs.map Value.bool).countP (isBoolOf x) = bs.count x
  | [] => rfl
  | b :: r => by
    rw [List.map_cons, List.countP_cons, count_map x r, List.count_cons]
    rfl
/-- how many of a list of bools -/
theorem WC.count_bools {i : Nat} {bs : List Bool} {x : Bool} {K : PV → Mu → Prop} (O : c.Ok) (hi : μ[i]? = some (.lst (bs.map .bool))) (k : K (.int ((bs.count x : Nat) : Int)) μ) : WC c A (.builtin "list.count") [.loc i, .bool x] μ K := WC.of2 fun s ι E Q v w I r1 r2 hQ => by
  obtain ⟨a, vs, n, rfl, ha, e, r⟩ := I.lst hi r1
  simp only [RepV] at r2
  subst r2
  have hv := RepL.bools bs vs r
  subst hv
  have g := toks_inv O I (s.toks + 1)
  refine call_meets PySem.F.slot_list_count ⟨_, e, rfl⟩ PySem.F.entry_list_count (PySem.F.args_list_count_2 _ _) (SeqAt.list_countAt a (bs.map Value.bool).toArray n none #[] (.bool x) (isBoolOf x)) ⟨e, fun y hy => ?_, ?_⟩
  · obtain ⟨b, _, rfl⟩ := List.mem_map.mp (show y ∈ bs.map Value.bool by simpa using hy)
    exact SeqAt.EqAt.bool_bool b x
  · rw [show (bs.map Value.bool).toArray.toList = bs.map Value.bool from rfl, count_map]
    exact hQ _ _ ι (.int _) μ g.2 g.1 (by simp only [RepV]; exact ⟨_, rfl⟩) k
theorem pickRev (l : List Nat) (t : Tok) : (slicePicked (S l) none none (some (-1, t))).filterMap ((S l).cps[·]?) = l.reverse := by
  have e : slicePicked (S l) none none (some (-1, t)) = sliceRange (((S l).cps.size : Int) - 1) (-1) (-1) := rfl
  rw [e, krv_sliceRange, krv_range, List.filterMap_reverse, krv_all]
/-- x[::-1] of a text -/
theorem WE.revS {value st : Expr} {p pos : Pos} {K : PV → Mu → Prop} (O : c.Ok)
    (h : WE c A value env ρ μ fun b μ₁ => WPart c A (some st) env ρ μ₁ fun t μ₂ => t = some (-1) ∧ ∃ l : List Nat, b = .str (S l) ∧ l.length ≤ 1000000 ∧ K (.str (S l.reverse)) μ₂) : WE c A (.Subscript value (.Slice .none .none (some st) p) pos) env ρ μ K := ⟨fun s ι E Q I V hQ => by
  refine PyProof.Rows.Subscript_ (h.run s ι E _ I V fun o s₁ ι₁ b μ₁ S₁ I₁ r₁ k₁ => ?_)
  refine wpAny_Slice (wpAny_evalPart_none (wpAny_evalPart_none ?_))
  refine k₁.run s₁ ι₁ E _ I₁ (V.step O I S₁) fun vt s₃ ι₃ t μ₃ S₃ I₃ r₃ k₃ => ?_
  obtain ⟨rfl, l, rfl, hx, k₄⟩ := k₃
  have g := I₃.grow O (s' := { s₃ with heap := s₃.heap.push { cls := .type "slice", data := .fields #[.none, .none, vt] } }) (fun b o e => Heap.get?_push_of_some _ e) I₃.bare rfl I₃.tp
  have r₁' := (I₁.rep O (S₃.trans g.2) r₁)
  simp only [RepV] at r₁'
  obtain ⟨tx, rfl⟩ := r₁'
  obtain ⟨ti, rfl⟩ := r₃
  refine subTail (T := "str") rfl F.slot_str_getitem.lookup ?_ (.inl rfl)
  have e : sliceMade (S l) tx Option.none Option.none (Option.some (-1, ti)) = .str (S l.reverse) := by
    unfold sliceMade
    rw [pickRev]
    rfl
  refine wpAny_with_toks (Nat.le_refl _) (wpAny_getItem_str_slice (l := Option.none) (u := Option.none) (st := Option.some (-1, ti)) ⟨_, Heap.get?_push_size _ rfl, rfl, rfl⟩ rfl ?_)
  rw [e]
  refine ⟨by rw [S_length, List.length_reverse, sizeLine_eq]; omega, fun htk => ?_⟩
  have g' := toks_inv O g.1 (s₃.toks + 1)
  exact hQ _ _ ι₃ (.str (S l.reverse)) _ (((S₁.trans S₃).trans g.2).trans g'.2) g'.1 (by simp only [RepV]; exact ⟨_, rfl⟩) k₄⟩
theorem join_tree_str (sep y : Str) (t u : Tok) : Builtin.«str.join» ⟨[.str sep t, .str y u], []⟩ = (do
    let ty ← typeOf (.str y u)
    if (ty == .type "list" || ty == .type "tuple") = true then (do
      match ← seqItems? (.str y u) with
      | some xs => joinTail sep xs.toList
      | none => unsupported "internal:str.join")
    else (do
      let it ← (pyIter (.str y u)).tryCatch fun e => do
        if ← isInstance e (.type "TypeError") then rule "str.join.not-iterable"; raiseError "TypeError" "can only join an iterable" else throw e
      let items ← collect it
      joinTail sep items)) := rfl
theorem signs_list (x : List Nat) : ∀ (vs : List Value) (j : Nat), (∀ i v, vs[i]? = some v → SignAt (S x) (j + i) v) → vs.length + j = x.length → ∃ l : List (Str × Tok), strValues l = vs ∧ l.map (·.1) = (x.drop j).map fun q => S [q]
  | [], j, _, h => ⟨[], rfl, by rw [List.drop_of_length_le (by simpa using Nat.le_of_eq h.symm)]; rfl⟩
  | v :: vs, j, h, hl => by
    obtain ⟨q, u, hq, rfl⟩ := h 0 v rfl
    have hq : x[j]? = some q := by simpa [S] using hq
    have hj : j < x.length := (List.getElem?_eq_some_iff.mp hq).1
    obtain ⟨l, h1, h2⟩ := signs_list x vs (j + 1) (fun i w hw => by have := h (i + 1) w hw; rwa [Nat.add_assoc, Nat.add_comm 1 i]) (by simp at hl; omega)
    refine ⟨(S [q], u) :: l, by rw [← h1]; rfl, ?_⟩
    rw [List.drop_eq_getElem_cons hj, List.map_cons, List.map_cons, h2, (List.getElem?_eq_some_iff.mp hq).2]
theorem join_collect {prog : Program} {w : World} {s : Shared} {J : Addr} {ty : String} {x sep : List Nat} {u : Tok} (R : Result → Shared → Prop) (hh : A.handled = none) (hty : ty = "str_ascii_iterator" ∨ ty = "str_iterator") (hit : s.heap.IsStrIter J ty (S x) u 0)
    (hb : x.length ≤ 1000 ∧ sep.length ≤ 1000)
    (hR : ∀ (s' : Shared) (t' : Tok) (k : Nat), (∀ b o, b ≠ J → s.heap.get? b = some o → s'.heap.get? b = some o) → s'.gens = s.gens → s'.drawn = s.drawn → s'.os = s.os → R (.ok (.ret (.str (S (joinL sep (x.map fun q => [q]))) t'))) { s' with toks := k }) :
    wpAny (model prog w) A.in1 (collect (.ref J) >>= fun items => joinTail (S sep) items) (fun fin s' => match fin with | .done f => R (.ok f) s' | .again c' => c'.quiet = true ∧ codeAny (model prog w) A c' R s') (fun e s' => R (.error e) s') s := by
  refine wpAny_bind (wpAny_collect_strIter (show A.in1.handled = none from hh) hty hit (fun s' acc kb kg kd ko hacc => ?_) (by show (S x).length ≤ _; rw [S_length, sizeLine_eq]; omega))
  have hsz : acc.toList.length + 0 = x.length := by rw [Nat.add_zero, Array.length_toList, hacc.1]; simp [S]
  obtain ⟨l, hl, hm⟩ := signs_list x acc.toList 0 (fun i v hv => by rw [Nat.zero_add]; exact hacc.2 i v (by simpa using hv)) hsz
  rw [List.drop_zero] at hm
  have hm' : l.map (·.1) = (x.map fun q => [q]).map S := by rw [hm, List.map_map]; rfl
  have hjl : l.length = x.length := by have := congrArg List.length hm; simpa using this
  have hok := StrLaws.joinFits (sep := S sep) (texts := l.map (·.1)) (B := 1) (fun y hy => by
    rw [hm] at hy
    obtain ⟨q, _, rfl⟩ := List.mem_map.mp hy
    exact Nat.le_refl _) (by
    rw [List.length_map, hjl, S_length]
    have := Nat.mul_le_mul hb.1 hb.2
    omega)
  have ho : JoinOk (S sep) (l.map (·.1)) = true := by unfold JoinOk; rw [hok]; rfl
  have g : Gives (joinTail (S sep) (strValues l)) (joinMade (S sep) l) := by
    have g0 := gives_joinTail (S sep) l hok
    cases l with
    | nil => exact g0
    | cons p r => cases r with
      | nil => exact g0
      | cons q r' => exact g0
  rw [← hl]
  have ej : Txt.join (S sep) (l.map (·.1)) = S (joinL sep (x.map fun q => [q])) := by rw [hm', join_S]
  exact g prog w A R s' (post_join l ⟨joinFit_length hok, fun t' k => by rw [ej]; exact hR s' t' k kb kg kd ko⟩)
theorem WC.join_str {sep x : List Nat} {K : PV → Mu → Prop} (O : c.Ok) (a : A.handled = none) (hb : x.length ≤ 1000 ∧ sep.length ≤ 1000) (k : K (.str (S (joinL sep (x.map fun q => [q])))) μ) : WC c A (.builtin "str.join") [.str (S sep), .str (S x)] μ K := WC.of2 fun s ι E Q v w I r1 r2 hQ => by
  simp only [RepV] at r1 r2
  obtain ⟨t, rfl⟩ := r1
  obtain ⟨u, rfl⟩ := r2
  refine wpAny_with_toks (Nat.le_refl s.toks) ?_
  refine wpAny_call (codeAny_call_builtin F.slot_str_join.plain F.entry_str_join (F.slot_str_join.check _ _ _ _ _ _ _ _ (typeIs_str _ _ _) (F.args_str_join_2 _ _) ?_))
  rw [join_tree_str]
  refine wpAny_bind (wpAny_typeOf (T := "str") rfl ?_)
  show wpAny _ A.in1 ((pyIter (.str (S x) u)).tryCatch _ >>= fun it => collect it >>= fun items => joinTail (S sep) items) _ _ s
  have last : ∀ (J : Addr) (h' : Heap), s.heap.get? J = none → (∀ b o, s.heap.get? b = some o → h'.get? b = some o) → ∀ (s' : Shared) (t' : Tok) (n : Nat), (∀ b o, b ≠ J → h'.get? b = some o → s'.heap.get? b = some o) → s'.gens = s.gens → s'.drawn = s.drawn → s'.os = s.os →
      (s.toks ≤ n → Q (.str (S (joinL sep (x.map fun q => [q]))) t') { s' with toks := n }) := fun J h' hJ kJ s' t' n kb kg kd ko hk => by
    have g := I.grow O (s' := { s' with toks := n }) (fun b o e => kb b o (fun q => by rw [q, hJ] at e; cases e) (kJ b o e)) (by show AllBare s'.gens; rw [kg]; exact I.bare) ko (Nat.lt_of_lt_of_le I.tp hk)
    exact hQ _ _ ι (.str _) μ g.2 g.1 (by simp only [RepV]; exact ⟨_, rfl⟩) k
  cases ha : (S x).cps.all (· < 128)
  · refine wpAny_bind (wpAny_tryCatch (wpAny_pyIter_wide ha ?_))
    have hit : (s.heap.push { cls := .type "str_iterator", data := .fields #[.str (S x) u, .int 0 0] }).IsStrIter s.heap.objs.size "str_iterator" (S x) u 0 := ⟨_, Heap.get?_push_size _ rfl, rfl, rfl⟩
    exact join_collect (s := { s with heap := s.heap.push { cls := .type "str_iterator", data := .fields #[.str (S x) u, .int 0 0] } }) (wants (fun v s' => s.toks ≤ s'.toks → Q v s') (fun e s' => s.toks ≤ s'.toks → E e s')) a (.inr rfl) hit hb (last _ _ (fresh_size _) (fun b o e => Heap.get?_push_of_some _ e))
  · refine wpAny_bind (wpAny_tryCatch (wpAny_pyIter_ascii ha ?_))
    have hit : (s.heap.push { cls := .type "str_ascii_iterator", data := .fields #[.str (S x) u, .int 0 0] }).IsStrIter s.heap.objs.size "str_ascii_iterator" (S x) u 0 := ⟨_, Heap.get?_push_size _ rfl, rfl, rfl⟩
    exact join_collect (s := { s with heap := s.heap.push { cls := .type "str_ascii_iterator", data := .fields #[.str (S x) u, .int 0 0] } }) (wants (fun v s' => s.toks ≤ s'.toks → Q v s') (fun e s' => s.toks ≤ s'.toks → E e s')) a (.inl rfl) hit hb (last _ _ (fresh_size _) (fun b o e => Heap.get?_push_of_some _ e))
end
end Mine
namespace Mine
section
variable {c : Cx} {A : Around} {env : Env} {ρ : Rho} {μ : Mu}
theorem draw_run (env : Env) (ρ : Rho) {p : PV} {its : List PV} {ι : Iota} {J : Addr} (O : c.Ok) (hn : NextOk c A μ p its) (nB : c.hB.get? J = none) : ∀ (n j : Nat) (s : Shared) (E : Value → Shared → Prop) (Q : List Value → Shared → Prop), Inv c s ι μ → IterAt s.heap ι J j p → j + n ≤ its.length →
    (∀ vs h' tk, s.toks ≤ tk → (∀ b o, s.heap.get? b = some o → b ≠ J → h'.get? b = some o) → IterAt h' ι J (j + n) p → RepL h' ι ((its.drop j).take n) vs → Q vs { s with heap := h', toks := tk }) → wpAny (model c.prog c.w) A (draw (.ref J) n) Q E s
  | 0, j, s, E, Q, I, x, hj, hQ => by
    show wpAny _ _ (pure []) Q E s
    exact wpAny_pure (hQ [] s.heap s.toks (Nat.le_refl _) (fun _ _ e _ => e) x (by rw [List.take_zero]; simp only [RepL]))
  | n + 1, j, s, E, Q, I, x, hj, hQ => by
    have hlt : j < its.length := Nat.lt_of_lt_of_le (Nat.lt_add_of_pos_right (Nat.succ_pos n)) hj
    have e1 : j + (n + 1) = j + 1 + n := (Nat.succ_add j n).symm
    show wpAny _ _ (pyNext (.ref J) >>= _) Q E s
    refine wpAny_bind (hn s ι J j _ _ I x (fun q v h1 tk htk hq k x' r => ?_) (fun h' tk _ hq _ => by rw [List.getElem?_eq_getElem hlt] at hq; cases hq))
    obtain ⟨oJ, eJ, hJ⟩ := x.obj
    have sc := I.scratch (env := env) (ρ := ρ) O eJ hJ nB (s' := { s with heap := h1, toks := tk }) k I.bare rfl (Nat.lt_of_lt_of_le I.tp htk)
    obtain ⟨oJ', eJ', hJ'⟩ := x'.obj
    refine wpAny_bind (wpAny_holding (draw_run env ρ O hn nB n (j + 1) _ _ _ sc.1 x' (e1 ▸ hj) fun vs h2 tk2 htk2 k2 x2 r2 => wpAny_pure ?_))
    have sc2 := sc.1.scratch (env := env) (ρ := ρ) O eJ' hJ' nB (s' := { s with heap := h2, toks := tk2 }) k2 sc.1.bare rfl (Nat.lt_of_lt_of_le sc.1.tp htk2)
    refine hQ (v :: vs) h2 tk2 (Nat.le_trans htk htk2) (fun b o e hb => k2 b o (k b o e hb) hb) (by rw [e1]; exact x2) ?_
    have hq' : its[j] = q := by rw [List.getElem?_eq_getElem hlt] at hq; exact Option.some.inj hq
    rw [List.drop_eq_getElem_cons hlt, List.take_succ_cons, hq']
    simp only [RepL]
    exact ⟨v, vs, rfl, sc2.2.1 _ _ (sc.2.1 _ _ r), r2⟩
/-- a list's values, at names -/
theorem WAL.unlist {elts : List Expr} {k : Nat} {pos : Pos} {i : Nat} {ps : List PV} {K : Rho → Prop} (O : c.Ok) (a : A.handled = none) (hl : elts.all notStar = true) (hn : elts.length = ps.length) (hi : μ[i]? = some (.lst ps))
    (h : WALs c A (elts.map fun t v => assign t env v) env ps ρ μ K) : WAL c A (.Tuple elts k pos) env (.loc i) ρ μ K := ⟨fun s ι E Q v I V r hQ => by
  have e1 := assignEach_plain (env := env) elts hl
  have hits : itemsOf μ (.loc i) = some ps := by simp only [itemsOf, hi]
  have hp : ∀ j, PV.loc i = .loc j → ∃ l, μ[j]? = some (.lst l) := fun j e => by cases e; exact ⟨ps, hi⟩
  have hnx : NextOk c A μ (.loc i) ps := NextOk.std O a hits hp
  have hit : ItOk c A μ (.loc i) := ItOk.std O ⟨⟨ps, hits⟩, hp, fun lo hi e => by cases e⟩
  obtain ⟨ad, vs0, n0, rfl, ha, e, rl⟩ := I.lst hi r
  rw [arm_assign_Tuple]
  refine wpAny_bind (wpAny_standAt ?_)
  unfold unpack
  have hlen : (assignEach elts env).length = ps.length := by rw [e1, List.length_map, hn]
  have hst : (assignEach elts env).findIdx? (·.1) = none := by rw [e1]; simp [List.findIdx?_map, Function.comp_def]
  rw [hlen, hst]
  refine wpAny_bind (wpAny_holding ?_)
  unfold unpackItems
  refine wpAny_bind ?_
  unfold notIterableAtAll
  refine wpAny_bind (wpAny_specialOf (T := "list") ⟨_, e, rfl⟩ F.slot_list_iter.lookup ?_)
  refine wpAny_pure ?_
  dsimp only
  simp only [Bool.false_eq_true, if_false]
  refine wpAny_bind (wpAny_holding (hit s ι _ _ _ I r fun h1 J hJ k1 x1 => ?_))
  have g := I.grow O (s' := { s with heap := h1 }) k1 I.bare rfl I.tp
  have nB := (I.fresh O hJ).2.2
  refine wpAny_bind (wpAny_holding (draw_run env ρ O hnx nB ps.length 0 _ _ _ g.1 x1 (Nat.le_of_eq (Nat.zero_add _)) fun vs h2 tk2 htk2 k2 x2 r2 => ?_))
  rw [List.drop_zero, List.take_length] at r2
  have hvl := RepL.length _ _ r2
  rw [if_neg (by omega)]
  obtain ⟨oJ, eJ, hoJ⟩ := x1.obj
  have sc := g.1.scratch (env := env) (ρ := ρ) O eJ hoJ nB (s' := { s with heap := h2, toks := tk2 }) k2 g.1.bare rfl (Nat.lt_of_lt_of_le g.1.tp htk2)
  obtain ⟨oJ2, eJ2, hoJ2⟩ := x2.obj
  refine wpAny_bind (wpAny_holding (hnx _ ι J _ _ _ sc.1 x2 (fun q v h' tk _ hq _ _ _ => by rw [Nat.zero_add, List.getElem?_eq_none (Nat.le_refl _)] at hq; cases hq) (fun h3 tk3 htk3 _ k3 => ?_)))
  simp only [Option.isSome_none, Bool.false_eq_true, if_false]
  refine wpAny_pure ?_
  have sc3 := sc.1.scratch (env := env) (ρ := ρ) O eJ2 hoJ2 nB (s' := { s with heap := h3, toks := tk3 }) k3 sc.1.bare rfl (Nat.lt_of_lt_of_le sc.1.tp htk3)
  have V3 := sc3.2.2.2 (sc.2.2.2 (V.step O I g.2))
  rw [e1, List.map_map]
  have kk : ∀ b o, s.heap.get? b = some o → h3.get? b = some o := fun b o eb => by
    have hbJ : b ≠ J := fun q => by rw [q, hJ] at eb; cases eb
    exact k3 b o (k2 b o (k1 b o eb) hbJ) hbJ
  have gg := I.grow O (s' := { s with heap := h3, toks := tk3 }) kk I.bare rfl sc3.1.tp
  exact h.run _ ι E Q vs gg.1 V3 (sc3.2.2.1 _ _ r2) fun s₂ ρ₂ S₂ I₂ V₂ k₂ => hQ s₂ ρ₂ (gg.2.l.trans S₂) I₂ V₂ k₂⟩
end
end Mine
namespace Mine
/-- what all ends of a sort's questions are like -/
def kasAll (n : Nat) (P : Array Nat → Prop) : KasT (Array Nat) → Prop
  | .ret a => P a
  | .ask i j k => i < n ∧ j < n ∧ ∀ b, kasAll n P (k b)
def kasAllB (n : Nat) (P : Array Nat → Bool) : KasT (Array Nat) → Bool
  | .ret a => P a
  | .ask i j k => decide (i < n) && (decide (j < n) && (kasAllB n P (k true) && kasAllB n P (k false)))
theorem kasAll_of {n : Nat} {P : Array Nat → Bool} : ∀ t, kasAllB n P t = true → kasAll n (fun a => P a = true) t
  | .ret a, h => h
  | .ask i j k, h => by
    simp only [kasAllB, Bool.and_eq_true, decide_eq_true_eq] at h
    refine ⟨h.1, h.2.1, fun b => ?_⟩
    cases b with
    | true => exact kasAll_of _ h.2.2.1
    | false => exact kasAll_of _ h.2.2.2
theorem kasAll_wp {n : Nat} {P : Array Nat → Prop} {cmp : Nat → Nat → (Bool → Shared → Prop) → Shared → Prop} {s : Shared} {G : Array Nat → Shared → Prop} (hc : ∀ i j C, i < n → j < n → (∀ b, C b s) → cmp i j C s) (hG : ∀ a, P a → G a s) :
    ∀ t, kasAll n P t → KasT.kasWp cmp t G s
  | .ret a, h => hG a h
  | .ask i j k, h => hc i j _ h.1 h.2.1 fun b => kasAll_wp hc hG (k b) (h.2.2 b)
def isPerm5 (p : Array Nat) : Bool := p.toList.length == 5 && p.toList.all (· < 5) && decide p.toList.Nodup
theorem sort5 : kasAllB 5 isPerm5 (kas_sort 5) = true := by kernel_rfl

section
variable {prog : Program} {w : World} {A : Around} {E : Value → Shared → Prop} {s : Shared}
theorem list_sort_any {a : Addr} {vs : List Value} {n : Nat} {κ : SortKind} {L : Array Nat → Prop} {P : PySem.Fin → Shared → Prop} (ho : s.heap.get? a = some (seqObj "list" vs.toArray n)) (h2 : 2 ≤ vs.length) (h64 : vs.length < 64)
    (hk : ∀ h', (∀ b o, b ≠ a → s.heap.get? b = some o → h'.get? b = some o) → ∀ Q : SortKind → Shared → Prop, Q κ { s with heap := h' } → wpAny (model prog w) A (keyKind' vs.toArray) Q (fun _ _ => False) { s with heap := h' })
    (ha : ∀ h', (∀ b o, b ≠ a → s.heap.get? b = some o → h'.get? b = some o) → ∀ i j C, i < vs.length → j < vs.length → (∀ b, C b { s with heap := h' }) → kas_ask prog w A κ vs i j C { s with heap := h' })
    (hl : kasAll vs.length L (kas_sort vs.length))
    (h : ∀ p, L p → P (.done (.ret .none)) { s with heap := sortedHeap s.heap a vs (p.toList.map fun i => vs.getD i Value.none).toArray }) : wpAny (model prog w) A (Builtin.«list.sort» ⟨[.ref a], []⟩) P E s := by
  rw [list_sort_plain]
  have hal : a < s.heap.objs.size := Heap.lt_size ho
  refine wpAny_bind (listItems_at ho rfl ?_)
  refine wpAny_bind (listUpdate_at ho rfl ?_ (by rw [List.size_toArray, sizeLine_eq]; omega) (Nat.zero_le _))
  obtain ⟨e1, ho1⟩ : ∃ e1, (s.heap.update a (Obj.mapSeq fun _ => #[])).get? a = some (seqObj "list" #[] e1) := ⟨_, get?_update_seq ho (fun _ => #[])⟩
  refine wpAny_bind (seqEpoch_at ho1 rfl ?_)
  refine wpAny_bind (wpAny_newTuple ?_ (by show vs.length ≤ _; rw [sizeLine_eq]; omega))
  refine wpAny_bind (wpAny_newList ?_ (Nat.zero_le _))
  refine wpAny_holding ?_
  have ho6 : (((s.heap.update a (Obj.mapSeq fun _ => #[])).push (seqObj "tuple" vs.toArray 0)).push (seqObj "list" #[] 0)).get? a = some (seqObj "list" #[] e1) := Heap.get?_push_of_some _ (Heap.get?_push_of_some _ ho1)
  have keep : ∀ b o, b ≠ a → s.heap.get? b = some o → (((s.heap.update a (Obj.mapSeq fun _ => #[])).push (seqObj "tuple" vs.toArray 0)).push (seqObj "list" #[] 0)).get? b = some o := fun b o hb e =>
    Heap.get?_push_of_some _ (Heap.get?_push_of_some _ (by rw [Heap.get?_update_ne _ _ _ _ hb]; exact e))
  show wpAny (model prog w) A _ P E { s with heap := ((s.heap.update a (Obj.mapSeq fun _ => #[])).push (seqObj "tuple" vs.toArray 0)).push (seqObj "list" #[] 0) }
  dsimp only
  have hn2 : ¬ vs.toArray.size < 2 := by rw [List.size_toArray]; omega
  rw [if_neg hn2, if_neg hn2]
  refine wpAny_bind (wpAny_mono (hk _ keep (fun κ' s' => κ' = κ ∧ s' = _) ⟨rfl, rfl⟩) (fun κ' s0 hk => ?_) fun _ _ x => x.elim)
  obtain ⟨rfl, rfl⟩ := hk
  refine wpAny_bind (wpAny_mono (kat_run (ks := vs) (vs := vs) (κ := κ') (G := fun p s' => L p ∧ s' = { s with heap := ((s.heap.update a (Obj.mapSeq fun _ => #[])).push (seqObj "tuple" vs.toArray 0)).push (seqObj "list" #[] 0) })
    (Q := fun st' s' => ∃ p : Array Nat, p.size = vs.length ∧ arrOf st' = p.map (kas_item (vs.toArray.zip vs.toArray)) ∧ failedOf st' = none ∧ L p ∧ s' = { s with heap := ((s.heap.update a (Obj.mapSeq fun _ => #[])).push (seqObj "tuple" vs.toArray 0)).push (seqObj "list" #[] 0) })
    rfl h2 h64 (fun p' st' s' a1 a2 a3 a4 => ⟨p', a1, a2, a3, a4⟩) (kasAll_wp (ha _ keep) (fun p hp => ⟨hp, rfl⟩) _ hl)) ?_ fun _ _ e => e)
  rintro ⟨⟨⟩, st'⟩ s' ⟨p, hp, har, hf, hL, rfl⟩
  dsimp only
  have hs := kat_snds (ks := vs) (vs := vs) rfl har
  refine wpAny_bind (seqEpoch_at ho6 rfl ?_)
  refine wpAny_bind (listUpdate_at ho6 rfl ?_ (Nat.zero_le _) (by rw [hs, List.size_toArray, List.length_map, Array.length_toList, hp, sizeLine_eq]; omega))
  rw [hf]
  simp only [bne_self_eq_false, Bool.false_eq_true, if_false]
  rw [hs]
  exact wpAny_pure (h p hL)
theorem sorted_any {l : Addr} {vs : List Value} {κ : SortKind} {L : Array Nat → Prop} {Q : Value → Shared → Prop} (hl : s.heap.IsList l vs.toArray) (h2 : 2 ≤ vs.length) (h64 : vs.length < 64)
    (hk : ∀ h', (∀ b o, s.heap.get? b = some o → h'.get? b = some o) → ∀ Q : SortKind → Shared → Prop, Q κ { s with heap := h' } → wpAny (model prog w) A.in1.in1 (keyKind' vs.toArray) Q (fun _ _ => False) { s with heap := h' })
    (ha : ∀ h', (∀ b o, s.heap.get? b = some o → h'.get? b = some o) → ∀ i j C, i < vs.length → j < vs.length → (∀ b, C b { s with heap := h' }) → kas_ask prog w A.in1.in1 κ vs i j C { s with heap := h' })
    (hL : kasAll vs.length L (kas_sort vs.length))
    (h : ∀ p, L p → Q (.ref (s.heap.objs.size + 1)) { s with heap := sortedAll s.heap vs (p.toList.map fun i => vs.getD i Value.none).toArray }) : wpAny (model prog w) A (call (.builtin "sorted") [.ref l]) Q E s := by
  refine Calls.call_function_entry kind_sorted plain_sorted entry_sorted (args_sorted1 _) ?_
  unfold Builtin.«sorted»
  refine wpAny_bind (m := checkCount "sorted" 1 1 _) (wpAny_pure ?_)
  refine wpAny_bind (collect_list hl ?_ (by rw [sizeLine_eq]; omega))
  refine wpAny_bind (wpAny_newList ?_ (by rw [sizeLine_eq]; omega))
  have hsz : ((s.heap.push (seqObj "list" #[] 0)).update s.heap.objs.size (Obj.mapSeq (· ++ vs.toArray))).objs.size = s.heap.objs.size + 1 := by
    rw [Heap.size_update, size_push']
  have hoL : (((s.heap.push (seqObj "list" #[] 0)).update s.heap.objs.size (Obj.mapSeq (· ++ vs.toArray))).push (seqObj "list" vs.toArray 0)).get? (s.heap.objs.size + 1) = some (seqObj "list" vs.toArray 0) := by
    rw [← hsz]; exact Heap.get?_push_size _ rfl
  have keep : ∀ b o, s.heap.get? b = some o → b ≠ s.heap.objs.size + 1 ∧ (((s.heap.push (seqObj "list" #[] 0)).update s.heap.objs.size (Obj.mapSeq (· ++ vs.toArray))).push (seqObj "list" vs.toArray 0)).get? b = some o := fun b o q => by
    have hlt : b < s.heap.objs.size := Heap.lt_size q
    refine ⟨Nat.ne_of_lt (Nat.lt_succ_of_lt hlt), Heap.get?_push_of_some _ ?_⟩
    rw [Heap.get?_update_ne _ _ _ _ (Nat.ne_of_lt hlt)]
    exact Heap.get?_push_of_some _ q
  show wpAny _ _ _ _ _ { s with heap := ((s.heap.push (seqObj "list" #[] 0)).update s.heap.objs.size (Obj.mapSeq (· ++ vs.toArray))).push (seqObj "list" vs.toArray 0) }
  rw [hsz]
  refine wpAny_bind (wpAny_holding (wpAny_call_entry slot_list_sort ⟨_, hoL, rfl⟩ entry_list_sort (list_sort_any (κ := κ) (L := L) hoL h2 h64 (fun h' k => hk h' fun b o e => k b o (keep b o e).1 (keep b o e).2) (fun h' k => ha h' fun b o e => k b o (keep b o e).1 (keep b o e).2) hL fun p hp => ⟨_, rfl, ?_⟩) (args_list_sort _)))
  exact wpAny_pure ⟨_, rfl, h p hp⟩
theorem oneLt_flt {a b : UInt64} {t u : Tok} {Q : Bool → Shared → Prop} (h : ∀ x, Q x s) : wpAny (model prog w) A (oneLt' true (.float a t) (.float b u)) Q E s := by
  rw [oneLt'_eq]
  simp only [if_true]
  refine wpAny_bind (wpAny_cRoomFor_byValue rfl ?_)
  refine wpAny_bind (wpAny_callSpecialIfBound?_slot (T := "float") rfl F.slot_float_lt (call_gives F.slot_float_lt (T := "float") rfl F.entry_float_lt (F.args_float_lt_2 _ _) (AutoFloatG5.float___lt___float_float_0 a t b u) ?_))
  exact wpAny_truthy_bool (h _)
end
end Mine
namespace Mine
section
variable {c : Cx} {A : Around} {env : Env} {ρ : Rho} {μ : Mu}
abbrev fsPV (x : UInt64 × Str) : PV := .tup [.flt x.1, .str x.2]
theorem eqF_any {prog : Program} {w : World} {E : Value → Shared → Prop} {s : Shared} (hb : NoneBooked s.heap) {a b : UInt64} {t u : Tok} (h0 : t ≠ 0 ∧ u ≠ 0) {Q : Bool → Shared → Prop} (h : ∀ x, Q x s) : wpAny (model prog w) A (eqBool (.float a t) (.float b u)) Q E s := by
  have rc : wpAny (model prog w) A (do truthOfDropped (← richCompare .Eq (.float a t) (.float b u))) Q E s := wpAny_bind (rc_flt a b t u prog w E _ (wpAny_truthy_bool (h _)))
  unfold eqBool
  refine wpAny_holding ?_
  refine wpAny_ite_split (fun hab => wpAny_bind (wpAny_rule (wpAny_pure (h _)))) (fun _ => ?_)
  have hs : wpAny (model prog w) A (isSame.created (a == b && !Float64.isNaN a) t u) (fun b' s' => s' = s) E s := by
    unfold isSame.created
    refine wpAny_ite ?_
    split
    · rename_i h; simp at h; exact absurd h (by rintro (h | h); exact h0.1 h; exact h0.2 h)
    refine wpAny_ite ?_
    split
    · exact wpAny_pure rfl
    refine wpAny_ite ?_
    split
    · exact wpAny_pure rfl
    refine wpAny_bind (PySem.wpAny_sharingNotTold_none hb ?_)
    first | rw [if_neg Bool.false_ne_true] | simp only [Bool.false_eq_true, if_false]
    refine wpAny_bind (PySem.wpAny_sharingNotTold_none hb ?_)
    first | rw [if_neg Bool.false_ne_true] | simp only [Bool.false_eq_true, if_false]
    exact wpAny_bind (wpAny_rule (wpAny_bind (wpAny_askSetting (wpAny_pure rfl))))
  refine wpAny_bind (wpAny_mono hs (fun b' s' e => ?_) fun _ _ h => h)
  subst e
  cases b' with
  | true => exact wpAny_pure (h _)
  | false => exact rc
/-- one of the pairs -/
theorem pair_at {h : Heap} {ι : Iota} {fs : List (UInt64 × Str)} {vs : List Value} (r : RepL h ι (fs.map fsPV) vs) {i : Nat} (hi : i < vs.length) : ∃ b n f t x u, vs.getD i Value.none = .ref b ∧ h.get? b = some (tupOf [.float f t, .str x u] n) ∧ t ≠ 0 := by
  have hl := RepL.length _ _ r
  have g := RepL.get _ vs i r
  have hlt : i < (fs.map fsPV).length := by rw [← hl]; exact hi
  obtain ⟨v, hv, rv⟩ := g.1 _ (List.getElem?_eq_getElem hlt)
  rw [List.getElem_map] at rv
  simp only [fsPV, RepV, RepL] at rv
  obtain ⟨b, ws, n, rfl, e, x, r1, rfl, ⟨t, rfl, ht⟩, y, r2, rfl, ⟨u, rfl⟩, rfl⟩ := rv
  refine ⟨b, n, _, t, _, u, ?_, e, ht⟩
  rw [List.getD_eq_getElem?_getD, hv]; rfl
theorem tups_of {h : Heap} {ι : Iota} : ∀ (fs : List (UInt64 × Str)) (vs : List Value), RepL h ι (fs.map fsPV) vs → ∃ ks, KatTups h vs ks ∧ ks.length = fs.length ∧ ∀ v ∈ ks, ∃ f t, v = .float f t
  | [], vs, r => by
    simp only [List.map_nil, RepL] at r
    subst r
    exact ⟨[], KatTups.nil, rfl, fun v hv => by cases hv⟩
  | f :: fs, vs, r => by
    simp only [List.map_cons, fsPV, RepL, RepV] at r
    obtain ⟨v, r', rfl, ⟨b, ws, n, rfl, e, x, r1, rfl, ⟨t, rfl, ht⟩, y, r2, rfl, ⟨u, rfl⟩, rfl⟩, h2⟩ := r
    obtain ⟨ks, h3, h4, h5⟩ := tups_of fs r' h2
    refine ⟨.float f.1 t :: ks, KatTups.cons e rfl rfl rfl h3, by rw [List.length_cons, h4, List.length_cons], fun v hv => ?_⟩
    rcases List.mem_cons.mp hv with rfl | hv
    · exact ⟨_, _, rfl⟩
    · exact h5 v hv
theorem RepL.picked {h : Heap} {ι : Iota} {ps : List PV} {vs : List Value} (r : RepL h ι ps vs) : ∀ p : List Nat, (∀ j ∈ p, j < ps.length) → RepL h ι (p.map fun j => ps.getD j .none) (p.map fun j => vs.getD j Value.none)
  | [], _ => by simp only [List.map_nil, RepL]
  | j :: p, hp => by
    have hj := hp j (List.mem_cons_self ..)
    obtain ⟨v, hv, rv⟩ := (RepL.get _ vs j r).1 _ (List.getElem?_eq_getElem hj)
    simp only [List.map_cons, RepL]
    refine ⟨_, _, rfl, ?_, RepL.picked r p fun k hk => hp k (List.mem_cons_of_mem _ hk)⟩
    rw [List.getD_eq_getElem?_getD, List.getD_eq_getElem?_getD, hv, List.getElem?_eq_getElem hj]
    exact rv
theorem WC.sorted5 {i : Nat} {fs : List (UInt64 × Str)} {K : PV → Mu → Prop} (O : c.Ok) (h5 : fs.length = 5) (hi : μ[i]? = some (.lst (fs.map fsPV)))
    (k : ∀ p : List Nat, p.length = 5 → (∀ j ∈ p, j < 5) → p.Nodup → K (.loc μ.length) (μ ++ [.lst (p.map fun j => (fs.map fsPV).getD j .none)])) : WC c A (.builtin "sorted") [.loc i] μ K := WC.of1 fun s ι E Q v I r hQ => by
  obtain ⟨a, vs, n, rfl, ha, e, rl⟩ := I.lst hi r
  have hl : vs.length = 5 := by have := RepL.length _ _ rl; rw [this, List.length_map, h5]
  have hL := kasAll_of _ sort5
  rw [← hl] at hL
  have rep : ∀ h', (∀ b o, s.heap.get? b = some o → h'.get? b = some o) → RepL h' ι (fs.map fsPV) vs := fun h' kp => by
    have := RepL.mono (l := []) (fun b o e _ => kp b o e) _ _ rl
    rwa [List.append_nil] at this
  refine sorted_any (κ := tuples' (Value.type "float" != Value.type "tuple")) (lst_isList e) (by omega) (by omega) (fun h' kp Q' hq => ?_) (fun h' kp x y C hx hy hC => ?_) hL fun p hp => ?_
  · obtain ⟨ks, h1, h2, h3⟩ := tups_of fs vs (rep h' kp)
    exact kat_kind (s := { s with heap := h' }) h1 (by omega) (fun v hv => by obtain ⟨f, t, rfl⟩ := h3 v hv; exact Looks.of_pure rfl) rfl hq
  · obtain ⟨b1, n1, f1, t1, x1, u1, e1, g1, z1⟩ := pair_at (rep h' kp) hx
    obtain ⟨b2, n2, f2, t2, x2, u2, e2, g2, z2⟩ := pair_at (rep h' kp) hy
    have nb := (I.grow O (s' := { s with heap := h' }) kp I.bare rfl I.tp).1.noneBooked O
    unfold kas_ask
    rw [e1, e2]
    refine kat_lt (s := { s with heap := h' }) g1 rfl g2 rfl ?_
    show KatLex _ _ _ _ _ _ [(.float f1 t1, .float f2 t2), (.str x1 u1, .str x2 u2)] 0 _
    refine kat_cons (eqF_any nb ⟨z1, z2⟩ fun q => ?_)
    cases q with
    | true =>
      refine kat_yes (kat_cons (wpAny_eqBool_str ?_))
      cases decide (x1 = x2) with
      | true => exact kat_yes (kat_nil (hC _))
      | false => exact kat_no (kat_one _ _ (PyProof.Rows.lt_str (hC _)))
    | false => exact kat_no (oneLt_flt hC)
  · simp only [isPerm5, Bool.and_eq_true, beq_iff_eq, List.all_eq_true, decide_eq_true_eq] at hp
    obtain ⟨⟨p1, p2⟩, p3⟩ := hp
    obtain ⟨e', he⟩ := sortedAll_at s.heap vs (p.toList.map fun i => vs.getD i Value.none).toArray
    have rp := rl.picked p.toList (fun j hj => by rw [List.length_map, h5]; exact p2 j hj)
    have hf : s.heap.get? (s.heap.objs.size + 1) = none := Heap.get?_none_of_le (Nat.le_succ _)
    have t := lst_new O I rp (h' := sortedAll s.heap vs (p.toList.map fun i => vs.getD i Value.none).toArray) (D := s.heap.objs.size + 1) (n := e') (tk := s.toks) hf he (fun b o e => sortedAll_old e) I.tp
    exact hQ _ _ _ _ _ t.1 t.2.1 t.2.2 (k p.toList p1 p2 p3)
end
end Mine
namespace Mine
noncomputable section
/-- a comprehension that names some names of its frame -/
theorem CompOk.many {scope : Scope} {env : Env} {ρ ρc : Rho} {cl : List (Str × Addr)} (h1 : closureFor scope env = pure cl) (h2 : scope.kind = .function) (h3 : (scope.names.all fun x => !(x.2 == .local) || (scope.names.lookup x.1 == some .local)) = true) (h4 : ∀ x ∈ scope.names, x.2 ≠ .cell)
    (h5 : ∀ C, (compEnvC scope cl C env).kindOf ("_initial_size" : Str) = none) (hs : ∀ y ∈ cl, env.cells.lookup y.1 = some y.2) (hr : ∀ y ∈ ρc, y ∈ ρ)
    (hq : ∀ y ∈ ρc, (cl.lookup y.1).isSome = true ∧ (∀ C, (compEnvC scope cl C env).kindOf y.1 = some .cell) ∧ env.kindOf y.1 = some .cell) (nd : (ρc.map (·.1)).Nodup) : CompOk scope env cl ρ ρc :=
  ⟨h1, h2, allLoc h3, h4, h5, (fun x cc h => by
    have : ∀ l : List (Str × Addr), l.lookup x = some cc → (x, cc) ∈ l := fun l => by
      induction l with
      | nil => intro h; cases h
      | cons y l ih =>
        intro h
        rw [List.lookup_cons] at h
        split at h
        · rename_i e
          have e := eq_of_beq e
          cases h
          rw [e]; exact List.mem_cons_self
        · exact List.mem_cons_of_mem _ (ih h)
    exact hs _ (this _ h)), (fun x p h => ⟨hr _ h, (hq _ h).1, (hq _ h).2.1, .inl (hq _ h).2.2⟩), nd⟩
theorem def131 {w : World} {c : Cx} (G : G2 w c) : DefOk c 131 (fd2 w 131) (bodyOf (fd2 w 131)) ["amount"] where
  fn := ⟨⟨_, (G.here (a := 131) rfl).1, rfl⟩, (G.here (a := 131) rfl).2⟩
  code := ⟨130, _, _, _, rfl, (G.here (a := 130) rfl).1, (G.here (a := 130) rfl).2, rfl, rfl⟩
  body := rfl
  bind := fun s vs k h => by
    obtain ⟨a, rfl⟩ := len1 h
    exact BindsTo.of_eq (by kernel_rfl)
  nd := by decide
  dbg := fun x hx => by rw [List.mem_singleton.mp hx]; decide
  clo := rfl
  glo := rfl
  bi := rfl
  co := rfl
  gen := rfl
  kind := rfl
theorem def136 {w : World} {c : Cx} (G : G2 w c) : DefOk c 136 (fd2 w 136) (bodyOf (fd2 w 136)) ["numbers", "order"] where
  fn := ⟨⟨_, (G.here (a := 136) rfl).1, rfl⟩, (G.here (a := 136) rfl).2⟩
  code := ⟨135, _, _, _, rfl, (G.here (a := 135) rfl).1, (G.here (a := 135) rfl).2, rfl, rfl⟩
  body := rfl
  bind := fun s vs k h => by
    obtain ⟨a, b, rfl⟩ := len2 h
    exact BindsTo.of_eq (by kernel_rfl)
  nd := by decide
  dbg := mem2 (by decide) (by decide)
  clo := rfl
  glo := rfl
  bi := rfl
  co := rfl
  gen := rfl
  kind := rfl
theorem def143 {w : World} {c : Cx} (G : G2 w c) : DefOk c 143 (fd2 w 143) (bodyOf (fd2 w 143)) ["row", "known"] where
  fn := ⟨⟨_, (G.here (a := 143) rfl).1, rfl⟩, (G.here (a := 143) rfl).2⟩
  code := ⟨142, _, _, _, rfl, (G.here (a := 142) rfl).1, (G.here (a := 142) rfl).2, rfl, rfl⟩
  body := rfl
  bind := fun s vs k h => by
    obtain ⟨a, b, rfl⟩ := len2 h
    exact BindsTo.of_eq (by kernel_rfl)
  nd := by decide
  dbg := mem2 (by decide) (by decide)
  clo := rfl
  glo := rfl
  bi := rfl
  co := rfl
  gen := rfl
  kind := rfl
theorem def148 {w : World} {c : Cx} (G : G2 w c) : DefOk c 148 (fd2 w 148) (bodyOf (fd2 w 148)) ["row", "order"] where
  fn := ⟨⟨_, (G.here (a := 148) rfl).1, rfl⟩, (G.here (a := 148) rfl).2⟩
  code := ⟨147, _, _, _, rfl, (G.here (a := 147) rfl).1, (G.here (a := 147) rfl).2, rfl, rfl⟩
  body := rfl
  bind := fun s vs k h => by
    obtain ⟨a, b, rfl⟩ := len2 h
    exact BindsTo.of_eq (by kernel_rfl)
  nd := by decide
  dbg := mem2 (by decide) (by decide)
  clo := rfl
  glo := rfl
  bi := rfl
  co := rfl
  gen := rfl
  kind := rfl
theorem def153 {w : World} {c : Cx} (G : G2 w c) : DefOk c 153 (fd2 w 153) (bodyOf (fd2 w 153)) ["stages"] where
  fn := ⟨⟨_, (G.here (a := 153) rfl).1, rfl⟩, (G.here (a := 153) rfl).2⟩
  code := ⟨152, _, _, _, rfl, (G.here (a := 152) rfl).1, (G.here (a := 152) rfl).2, rfl, rfl⟩
  body := rfl
  bind := fun s vs k h => by
    obtain ⟨a, rfl⟩ := len1 h
    exact BindsTo.of_eq (by kernel_rfl)
  nd := by decide
  dbg := fun x hx => by rw [List.mem_singleton.mp hx]; decide
  clo := rfl
  glo := rfl
  bi := rfl
  co := rfl
  gen := rfl
  kind := rfl
theorem def158 {w : World} {c : Cx} (G : G2 w c) : DefOk c 158 (fd2 w 158) (bodyOf (fd2 w 158)) ["row"] where
  fn := ⟨⟨_, (G.here (a := 158) rfl).1, rfl⟩, (G.here (a := 158) rfl).2⟩
  code := ⟨157, _, _, _, rfl, (G.here (a := 157) rfl).1, (G.here (a := 157) rfl).2, rfl, rfl⟩
  body := rfl
  bind := fun s vs k h => by
    obtain ⟨a, rfl⟩ := len1 h
    exact BindsTo.of_eq (by kernel_rfl)
  nd := by decide
  dbg := fun x hx => by rw [List.mem_singleton.mp hx]; decide
  clo := rfl
  glo := rfl
  bi := rfl
  co := rfl
  gen := rfl
  kind := rfl
end
end Mine
namespace Mine
variable {c : Cx} {A : Around} {μ : Mu}
theorem WV.add_S {a b : List Nat} {K : PV → Mu → Prop} (O : c.Ok) (hb : a.length ≤ 1000000 ∧ b.length ≤ 1000000) (k : K (.str (S (a ++ b))) μ) : WV c A (f2 (binaryOp .Add)) [.str (S a), .str (S b)] μ K :=
  WV.add_str O ⟨by rw [S_length]; exact hb.1, by rw [S_length]; exact hb.2⟩ (by rw [← S_append] at k; exact k)
theorem cutL_to {α : Type} (xs : List α) (m : Nat) (h : m ≤ xs.length) : cutL xs none (some (m : Int)) = xs.take m := by
  unfold cutL
  simp only [Option.elim, clipAt_nat _ _ h, List.drop_zero, Nat.sub_zero]
theorem S_bne (a b : List Nat) : (S a != S b) = (a != b) := by rw [bne, S_beq]; rfl
/-- a text's j-th sign -/
theorem sign_at {row : List Nat} {j : Nat} {q : PV} (hq : (row.map signPV)[j]? = some q) : ∃ h : j < row.length, q = .str (S [row[j]]) := by
  have hj : j < row.length := by
    have := (List.getElem?_eq_some_iff.mp hq).1
    simpa using this
  rw [List.getElem?_map, List.getElem?_eq_getElem hj] at hq
  exact ⟨hj, (Option.some.inj hq).symm⟩
theorem le_cast (j k : Nat) : decide ((j : Int) ≤ (k : Int)) = decide (j ≤ k) := decide_eq_decide.mpr Int.ofNat_le
theorem eq_cast (j k : Nat) : ((j : Int) == (k : Int)) = (j == k) := by
  rw [Bool.eq_iff_iff, beq_iff_eq, beq_iff_eq]; exact Int.ofNat_inj
theorem six_len (w cur : List Nat) : (joinL (dots ++ dots) (splitD w cur)).length ≤ 2 * w.length + cur.length := by
  induction w, cur using splitD.induct with
  | case1 r cur ih =>
    rw [splitD_dots]
    obtain ⟨a, l, e⟩ : ∃ a l, splitD r [] = a :: l := by
      cases h : splitD r [] with
      | nil => exact absurd h (splitD_ne r [])
      | cons a l => exact ⟨a, l, rfl⟩
    rw [e] at ih ⊢
    rw [joinL]
    simp only [List.length_append, List.length_cons, List.length_nil] at ih ⊢
    omega
  | case2 c r cur h ih =>
    rw [splitD]
    · rw [List.length_append, List.length_singleton] at ih
      rw [List.length_cons]
      omega
    · exact h
  | case3 cur => simp [splitD, joinL]
theorem s_dots : ("..." : Str) = S dots := by with_unfolding_all rfl
theorem s_six : ("......" : Str) = S (dots ++ dots) := by with_unfolding_all rfl
theorem bne_self (b : Bool) : (b != b) = false := by cases b <;> rfl
theorem rng_at {n k : Nat} {q : PV} (h : ((List.range ((n : Nat) - 0 : Int).toNat).map fun (k : Nat) => PV.int (0 + (k : Int)))[k]? = some q) : k < n ∧ q = .int (k : Nat) := by
  obtain ⟨h1, h2⟩ := List.getElem?_eq_some_iff.mp h
  rw [List.length_map, List.length_range, Int.sub_zero, Int.toNat_natCast] at h1
  refine ⟨h1, ?_⟩
  rw [← h2, List.getElem_map, List.getElem_range, Int.zero_add]
theorem rng_mem {n : Nat} {q : PV} (h : q ∈ (List.range ((n : Nat) - 0 : Int).toNat).map fun (k : Nat) => PV.int (0 + (k : Int))) : ∃ k, k < n ∧ q = .int (k : Nat) := by
  obtain ⟨k, hk, rfl⟩ := List.mem_map.mp h
  have := List.mem_range.mp hk
  rw [Int.sub_zero, Int.toNat_natCast] at this
  exact ⟨k, this, by rw [Int.zero_add]⟩
theorem strL_get {st : List (List Nat)} {k : Nat} (h : k < st.length) : (strL st)[k]? = some (.str (S (st.getD k []))) := by
  rw [strL_at, List.getD_eq_getElem?_getD, List.getElem?_eq_getElem h]; rfl
end Mine
namespace Mine
/- ---- the first law in plain ---- -/
def inL (a : Nat) (known : List Nat) : Bool := (findB known [a] 0 known.length).isSome
def last3 (t : List Nat) : List Nat := cutL t (some (-3)) none
def covStep (known t : List Nat) (a : Nat) : List Nat := if inL a known = true then t ++ [a] else if (last3 t != dots) = true then t ++ dots else t
def covB (known row : List Nat) : List Nat := row.foldl (covStep known) []

/-- the row told by dots -/
def aheadB (row low high : List Nat) (light : Nat) : List Bool := low.flatMap fun a => high.map fun c => ellB (dots ++ [c] ++ [a] ++ dots ++ [light] ++ dots) row
def firstB (row low : List Nat) (light : Nat) : List Bool := ellB ([light] ++ dots) row :: low.map fun a => ellB (dots ++ [a] ++ [light] ++ dots) row
def behindB (row low high : List Nat) (light : Nat) : List Bool := low.flatMap fun a => high.map fun c => ellB (dots ++ [light] ++ dots ++ [a] ++ [c] ++ dots) row
def lastB (row low : List Nat) (light : Nat) : List Bool := ellB (dots ++ [light]) row :: low.map fun a => ellB (dots ++ [light] ++ [a] ++ dots) row
def toldAt (row order : List Nat) (k : Nat) : List Int :=
  [((aheadB row (order.take k) (order.drop (k + 1)) (order.getD k 0)).count true : Nat), 1 - ((firstB row (order.take k) (order.getD k 0)).count true : Nat),
   ((behindB row (order.take k) (order.drop (k + 1)) (order.getD k 0)).count true : Nat), 1 - ((lastB row (order.take k) (order.getD k 0)).count true : Nat)]
def toldB (row order : List Nat) : List (List Int) := (List.range 5).map (toldAt row order)

/-- the stages take the later ones -/
def takenB (st : List (List Nat)) : Bool :=
  ((List.range 6).all fun j => (List.range 6).all fun k => ellB (st.getD j []) (st.getD k []) == decide (j ≤ k)) &&
  (st.take 5).all fun t => ellB (joinL (dots ++ dots) (splitD t [])) (st.getD 5 [])

def putB (row : List Nat) (a b : Nat) : List Nat := row.map fun k => if k = a then b else k
def twiceB (row : List Nat) (m : Nat) : List Nat := row.take (m + 1) ++ row.drop m
def lapB (row : List Nat) (k : Nat) : List Nat := row.take (k + 1) ++ dots ++ row.drop k
def lapOk (row : List Nat) (k : Nat) : Bool :=
  (ellB (lapB row k) row == false && (List.range 5).all fun m => ellB (lapB row k) (twiceB row m) == (m == k)) &&
  (([dots ++ lapB row k, lapB row k ++ dots, dots ++ lapB row k ++ dots] : List (List Nat)).all fun w => ellB w row == false && ellB w (twiceB row k) == true) &&
  (ellB (row.take k ++ dots ++ row.drop k) row == true && ellB row (twiceB row k) == false) &&
  (List.range 5).all fun m => ellB row (putB row (row.getD k 0) (row.getD m 0)) == (m == k)
def backB (row : List Nat) : List Nat := dots ++ joinL dots (row.reverse.map fun q => [q]) ++ dots
def timesB (row : List Nat) (n : Nat) : List Nat := (List.replicate n row).flatten
def askedB (row : List Nat) : List (List Nat × List Nat × Bool) :=
  [(row, row.reverse, false), (row, [], false), ([], row, false), (backB row, timesB row 4, false), (backB row, timesB row 5, true),
   (row.take 2 ++ dots ++ [row.getD 3 0], row, false), ([row.getD 1 0] ++ dots ++ row.drop 3, row, false), (row ++ dots, row, true),
   (dots ++ [row.getD 4 0] ++ dots ++ [row.getD 4 0], row, false), ([46, 46, 46, 46] ++ row, row, false), ([46, 46, 46, 46] ++ row, row ++ [46] ++ row, true),
   (dots, [], true), ([], [], true)]
def lapsB (row : List Nat) : Bool := (List.range 5).all (lapOk row) && (askedB row).all fun x => ellB x.1 x.2.1 == x.2.2

/-- one light laid -/
abbrev Pile := List (List Nat × List Nat)
structure Laid where
  pile : Pile
  drawn : List (List Int)
  stages : List (List Nat)
def freeB (p : Pile) : List Nat := (List.range p.length).filter fun j => (p.getD j ([], [])).1 == dots
def wayOk (f k w : Nat) : Bool := (decide ((0 : Int) < (f : Int) - 1 + ((w % 2 : Nat) : Int) + ((w / 2 : Nat) : Int)) && decide ((f : Int) - 1 + ((w % 2 : Nat) : Int) + ((w / 2 : Nat) : Int) < 5 - (k : Int))) || (k == 4 && w == 0)
def waysB (f k : Nat) : List Nat := (List.range 4).filter (wayOk f k)
def flatB (p : Pile) : List Nat := (p.map fun x => x.1 ++ x.2).flatten
def popB (p : Pile) : (List Nat × List Nat) × Pile := match p.getLast? with
  | some x => (x, p.dropLast)
  | none => (([], []), [])
def layB (a k way place : Nat) (s : Laid) : Laid :=
  let free := freeB s.pile
  let j := free.getD place 0
  let tail := s.pile.drop j
  let r := if way % 2 = 1 then ((dots, []), s.pile.take j) else popB (s.pile.take j)
  let put : Pile := if way / 2 = 1 then [(r.1.1, r.1.2 ++ [a]), (dots, (tail.getD 0 ([], [])).2)] else [(r.1.1, r.1.2 ++ [a] ++ (tail.getD 0 ([], [])).2)]
  let p := r.2 ++ put ++ tail.drop 1
  { pile := p, drawn := s.drawn ++ [[(place : Int), ((way % 2 : Nat) : Int), (free.length : Int) - 1 - (place : Int), ((way / 2 : Nat) : Int)]], stages := s.stages ++ [flatB p] }
def laid0 : Laid := { pile := [(dots, [])], drawn := [], stages := [dots] }
/-- the numbers' choice -/
def layX (a k x : Nat) (s : Laid) : Laid := layB a k ((waysB (freeB s.pile).length k).getD (x % (waysB (freeB s.pile).length k).length) 0) (x / (waysB (freeB s.pile).length k).length % (freeB s.pile).length) s
def laidTo (order xs : List Nat) : Nat → Laid
  | 0 => laid0
  | k + 1 => layX (order.getD k 0) k (xs.getD k 0) (laidTo order xs k)

def lawOk (order : List Nat) (s : Laid) : Bool :=
  (s.stages == (List.range 6).map fun n => covB (order.take n) (s.stages.getD 5 [])) && (toldB (s.stages.getD 5 []) order == s.drawn) && takenB s.stages && lapsB (s.stages.getD 5 [])
/-- all histories -/
def histB (order : List Nat) : Nat → List Laid
  | 0 => [laid0]
  | k + 1 => (histB order k).flatMap fun s => (waysB (freeB s.pile).length k).flatMap fun w => (List.range (freeB s.pile).length).map fun p => layB (order.getD k 0) k w p s
end Mine
namespace Mine
noncomputable section
variable {w : World} {c : Cx} {A : Around} {μ : Mu}
abbrev cvBase (row known t : List Nat) : Rho := [("row", .str (S row)), ("known", .str (S known)), ("text", .str (S t))]
theorem cov_ok (G : G2 w c) (ao : AOk 1 A) {row known : List Nat} (hr : row.length ≤ 1000) (hk : known.length ≤ 1000) {K' : PV → Mu → Prop} (hK : K' (.str (S (covB known row))) μ) : WC c A (.ref 143) [.str (S row), .str (S known)] μ K' := by
  have O := G.ok
  refine WC.def (n := 0) O (def143 G) ao rfl (noCell rfl) (mem2 rfl rfl) (fun L => rfl) (by decide) (fun L => mem2 rfl rfl) fun L A ao => ?_
  show WSs c A _ _ [("row", .str (S row)), ("known", .str (S known))] _ _
  refine WSs.cons O ?_
  with_reducible refine WS.assign_name O ?_ (.inl (by with_unfolding_all rfl)) (by with_unfolding_all rfl) (by with_unfolding_all rfl)
  with_reducible refine WE.strS (l := []) O (by with_unfolding_all rfl) ?_
  with_reducible refine updE (by walk_at "u") ?_
  with_reducible refine WSs.cons O ?_
  refine WS.for_ O ?_ (fun _ => (by with_unfolding_all rfl))
  with_reducible refine WE.name (by walk_at "m") ?_
  with_reducible refine loopStr ?_
  refine WL.inv (fun j ρ m => m = μ ∧ ∃ t, t = (row.take j).foldl (covStep known) [] ∧ t.length ≤ 3 * j ∧ (∀ y ∈ cvBase row known t, y ∈ ρ)) _ O ao.h ?_ (fun j ρ m _ => ⟨rfl, fun i e => by cases e⟩) (fun j q ρ m hq hV => ?_) fun ρ m hV => ?_
  · exact ⟨rfl, [], rfl, Nat.zero_le _, fun y hy => hy⟩
  · obtain ⟨rfl, t, ht, htl, hb⟩ := hV
    obtain ⟨hj, rfl⟩ := sign_at (row := row) hq
    have hnext : (row.take (j + 1)).foldl (covStep known) [] = covStep known t row[j] := by
      rw [← List.take_append_getElem hj, List.foldl_append, ← ht]; rfl
    generalize row[j] = a at *
    have hsl : (covStep known t a).length ≤ 3 * (j + 1) := by
      unfold covStep
      split
      · rw [List.length_append]; show t.length + 1 ≤ _; omega
      · split
        · rw [List.length_append]; show t.length + 3 ≤ _; omega
        · omega
    refine WA.less (ρ' := cvBase row known t) hb (by show (["row", "known", "text"] : List Str).Nodup; decide) ?_
    refine WA.name O (by walk_at "u") (.inl rfl) rfl ?_
    refine WSs.cons O ?_
    with_reducible refine WS.ite O ?_
    with_reducible refine WB.cmp1 O ?_ (by with_unfolding_all rfl)
    with_reducible refine WE.name (by walk_at "m") ?_
    with_reducible refine WE.name (by walk_at "m") ?_
    with_reducible refine WV.in_str ?_
    with_reducible refine Exists.intro _ (And.intro rfl ?_)
    rw [inB_S]
    show if inL a known = true then _ else _
    cases h1 : inL a known
    · refine iteF (by decide) ?_
      have hc : covStep known t a = if (last3 t != dots) = true then t ++ dots else t := by unfold covStep; rw [h1, if_neg (by decide)]
      refine WSs.cons O ?_
      with_reducible refine WS.ite O ?_
      with_reducible refine WB.cmp1 O ?_ (by with_unfolding_all rfl)
      with_reducible refine WE.slice O ?_
      with_reducible refine WE.name (by walk_at "m") ?_
      with_reducible refine WPart.some ?_
      with_reducible refine WE.negint O ?_
      with_reducible refine Exists.intro _ (And.intro rfl ?_)
      with_reducible refine WPart.none ?_
      refine ⟨_, _, .str t (lim (Nat.le_trans htl (by omega : 3 * j ≤ 3000))), ?_⟩
      with_reducible refine WE.strS (l := [46, 46, 46]) O (by with_unfolding_all rfl) ?_
      with_reducible refine WV.ne_str ?_
      with_reducible refine Exists.intro _ (And.intro rfl ?_)
      rw [S_bne]
      show if (last3 t != dots) = true then _ else _
      cases h2 : last3 t != dots
      · refine iteF (by decide) (WSs.nil (WSs.nil (WSs.nil ⟨rfl, _, hnext.symm, hsl, ?_⟩)))
        rw [hc, h2, if_neg (by decide)]
        exact (by walk_at "s")
      · refine iteT rfl ?_
        refine WSs.cons O ?_
        with_reducible refine WS.assign_name O ?_ (.inl (by with_unfolding_all rfl)) (by with_unfolding_all rfl) (by with_unfolding_all rfl)
        with_reducible refine WE.bin O ?_
        with_reducible refine WE.name (by walk_at "m") ?_
        with_reducible refine WE.strS (l := [46, 46, 46]) O (by with_unfolding_all rfl) ?_
        refine WV.add_S O ⟨lim (Nat.le_trans htl (by omega : 3 * j ≤ 3000)), by decide⟩ ?_
        with_reducible refine updE (by walk_at "u") ?_
        with_reducible refine WSs.nil ?_
        with_reducible refine WSs.nil ?_
        with_reducible refine WSs.nil ?_
        refine ⟨rfl, _, hnext.symm, hsl, ?_⟩
        rw [hc, h2, if_pos rfl]
        exact (by walk_at "s")
    · refine iteT rfl ?_
      have hc : covStep known t a = t ++ [a] := by unfold covStep; rw [h1, if_pos rfl]
      refine WSs.cons O ?_
      with_reducible refine WS.assign_name O ?_ (.inl (by with_unfolding_all rfl)) (by with_unfolding_all rfl) (by with_unfolding_all rfl)
      with_reducible refine WE.bin O ?_
      with_reducible refine WE.name (by walk_at "m") ?_
      with_reducible refine WE.name (by walk_at "m") ?_
      refine WV.add_S O ⟨lim (Nat.le_trans htl (by omega : 3 * j ≤ 3000)), lim (Nat.le_refl 1)⟩ ?_
      with_reducible refine updE (by walk_at "u") ?_
      with_reducible refine WSs.nil ?_
      with_reducible refine WSs.nil ?_
      refine ⟨rfl, _, hnext.symm, hsl, ?_⟩
      rw [hc]
      exact (by walk_at "s")
  · obtain ⟨rfl, t, ht, htl, hb⟩ := hV
    rw [List.length_map] at ht
    rw [List.take_of_length_le (by simp [S])] at ht
    subst ht
    refine WSs.less (ρ' := cvBase row known (covB known row)) hb (by show (["row", "known", "text"] : List Str).Nodup; decide) ?_
    refine WSs.cons O ?_
    with_reducible refine WS.ret O ?_
    with_reducible refine WE.name (by walk_at "m") ?_
    exact hK
end
end Mine
namespace Mine
noncomputable section
theorem seq_last {n : Nat} (h : 0 < n) : seqIndex? (-1) n = some (n - 1) := by
  unfold seqIndex?
  simp
  omega
theorem ell_ok {w : World} {c : Cx} (G : G2 w c) {A : Around} {μ : Mu} {want got : List Nat} (ao : AOk 1 A) (hw : want.length ≤ 100000) (hg : got.length ≤ 100000) {K : PV → Mu → Prop} (hK : ∀ g, K (.bool (ellB want got)) (μ ++ g)) :
    WC c A (.ref 28) [.str (S want), .str (S got)] μ K := by
  have O := G.ok
  refine WC.def (n := 0) O (def28 G) ao rfl (noCell rfl) (mem2 rfl rfl) (fun L => rfl) (by decide) (fun L => mem2 rfl rfl) fun L A ao => ?_
  show WSs c A _ _ [("want", .str (S want)), ("got", .str (S got))] _ _
  refine WSs.cons O ?_
  with_reducible refine WS.ite O ?_
  with_reducible refine WB.cmp1 O ?_ (by with_unfolding_all rfl)
  with_reducible refine WE.glob_str O (G2.g_dots G) (by with_unfolding_all rfl) (by with_unfolding_all rfl) ?_
  with_reducible refine WE.name (by walk_at "m") ?_
  refine WV.notin_str ⟨_, rfl, ?_⟩
  rw [inB_S]
  cases hd : (findB want dots 0 want.length).isSome with
  | false =>
    refine iteT rfl ?_
    with_reducible refine WSs.cons O ?_
    with_reducible refine WS.ret O ?_
    with_reducible refine WE.cmp1 O ?_ (by with_unfolding_all rfl)
    with_reducible refine WE.name (by walk_at "m") ?_
    with_reducible refine WE.name (by walk_at "m") ?_
    refine WV.eq_str ?_
    rw [S_beq]
    have := hK []
    rw [List.append_nil] at this
    unfold ellB at this
    rw [hd, if_pos rfl] at this
    exact this
  | true =>
    refine iteF rfl ?_
    with_reducible refine WSs.nil ?_
    with_reducible refine WSs.cons O ?_
    with_reducible refine WS.assign_name O ?_ (.inl (by with_unfolding_all rfl)) (by with_unfolding_all rfl) (by with_unfolding_all rfl)
    with_reducible refine WE.meth O F.plainAttrs_str F.slot_str_split F.type_str_split ?_ (by with_unfolding_all rfl) ⟨_, by with_unfolding_all rfl⟩
    with_reducible refine WE.name (by walk_at "m") ?_
    with_reducible refine kindStr ?_
    with_reducible refine WEs.cons O ?_ (by with_unfolding_all rfl)
    with_reducible refine WE.glob_str O (G2.g_dots G) (by with_unfolding_all rfl) (by with_unfolding_all rfl) ?_
    with_reducible refine WEs.nil ?_
    refine WC.split O (lim hw) ?_
    obtain ⟨a, b, r, hs⟩ := splitD_two hd
    have hcount := splitD_count want []
    have hlen := splitD_len want []
    rw [hs] at hcount hlen ⊢
    have ha : a.length ≤ 100000 := Nat.le_trans (hlen a (by simp)) hw
    simp only [List.length_cons] at hcount
    have hr1 : r.length + 1 ≤ want.length := Nat.le_of_succ_le_succ hcount
    have hr : r.length ≤ 100000 := Nat.le_trans (Nat.le_of_succ_le hr1) hw
    with_reducible refine updE (by walk_at "u") ?_
    with_reducible refine WSs.cons O ?_
    with_reducible refine WS.assert_ O ?_
    with_reducible refine WB.cmp1 O ?_ (by with_unfolding_all rfl)
    with_reducible refine WE.call_bi O (G2.n_len G) (G2.b_len G) ?_ (by with_unfolding_all rfl) (by with_unfolding_all rfl) (by with_unfolding_all rfl) (by with_unfolding_all rfl)
    with_reducible refine WEs.cons O ?_ (by with_unfolding_all rfl)
    with_reducible refine WE.name (by walk_at "m") ?_
    with_reducible refine WEs.nil ?_
    refine WC.len_lst O (at_end ..) (by simp; exact lim hr) ?_
    with_reducible refine WE.int O ?_
    refine WV.ge_int ⟨_, rfl, decide_eq_true (by simp; omega), ?_⟩
    with_reducible refine WSs.cons O ?_
    refine WS.assign_swap (names := ["startpos", "endpos"]) O ao.h ?_ (by with_unfolding_all rfl) (by with_unfolding_all rfl)
    with_reducible refine WE.tuple O ?_
    with_reducible refine WEs.cons O ?_ (by with_unfolding_all rfl)
    with_reducible refine WE.int O ?_
    with_reducible refine WEs.cons O ?_ (by with_unfolding_all rfl)
    with_reducible refine WE.call_bi O (G2.n_len G) (G2.b_len G) ?_ (by with_unfolding_all rfl) (by with_unfolding_all rfl) (by with_unfolding_all rfl) (by with_unfolding_all rfl)
    with_reducible refine WEs.cons O ?_ (by with_unfolding_all rfl)
    with_reducible refine WE.name (by walk_at "m") ?_
    with_reducible refine WEs.nil ?_
    refine WC.len_str O (lim hg) ?_
    with_reducible refine WEs.nil ?_
    refine ⟨by simp, _, rfl, rfl, ?_⟩
    refine WAs.bind O (by walk_at "u") (.inl rfl) rfl (WAs.bind O (by walk_at "u") (.inl rfl) rfl (WAs.nil ?_))
    with_reducible refine WSs.cons O ?_
    with_reducible refine WS.assign_name O ?_ (.inl (by with_unfolding_all rfl)) (by with_unfolding_all rfl) (by with_unfolding_all rfl)
    with_reducible refine WE.sub O ?_ (fun _ _ => by with_unfolding_all rfl)
    with_reducible refine WE.name (by walk_at "m") ?_
    with_reducible refine WE.int O ?_
    refine subLst (at_end ..) (WV.item_lst (at_end ..) (k := 0) (q := .str (S a)) (seq_nat (m := 0) (by simp)) (by simp) (by simp; exact lim hr) ?_)
    with_reducible refine updE (by walk_at "u") ?_
    with_reducible refine WSs.cons O ?_
    refine WS.mono (K := fun f ρ' μ' => (preB a got = false ∧ f = .ret (.bool false) ∧ ∃ g, μ' = μ ++ g) ∨ (preB a got = true ∧ f = .next ∧ ρ' = ([("want", .str (S want)), ("got", .str (S got)), ("ws", .loc μ.length), ("endpos", .int got.length), ("startpos", .int a.length), ("w", .str (S a))] : Rho) ∧ μ' = μ ++ [.lst (strL (ws1 (a :: b :: r)))])) ?_ ?_
    · with_reducible refine WS.ite O ?_
      with_reducible refine WB.value O ?_ (fun _ => by with_unfolding_all rfl)
      with_reducible refine WE.name (by walk_at "m") ?_
      refine ⟨_, .str _ (by rw [S_length]; exact lim ha), ?_⟩
      rw [truth_S]
      by_cases h0 : a = []
      · subst h0
        refine iteF rfl ?_
        refine WSs.nil ?_
        exact .inr ⟨preB_nil _, rfl, rfl, rfl⟩
      · refine iteT (decide_eq_true h0) ?_
        with_reducible refine WSs.cons O ?_
        with_reducible refine WS.ite O ?_
        with_reducible refine WB.value O ?_ (fun _ => by with_unfolding_all rfl)
        with_reducible refine WE.meth O F.plainAttrs_str F.slot_str_startswith F.type_str_startswith ?_ (by with_unfolding_all rfl) ⟨_, by with_unfolding_all rfl⟩
        with_reducible refine WE.name (by walk_at "m") ?_
        with_reducible refine kindStr ?_
        with_reducible refine WEs.cons O ?_ (by with_unfolding_all rfl)
        with_reducible refine WE.name (by walk_at "m") ?_
        with_reducible refine WEs.nil ?_
        refine WC.startswith ⟨_, .bool _, ?_⟩
        cases hp : preB a got with
        | false =>
          refine iteF rfl ?_
          with_reducible refine WSs.cons O ?_
          with_reducible refine WS.ret O ?_
          with_reducible refine WE.bool ?_
          exact .inl ⟨rfl, rfl, _, rfl⟩
        | true =>
          refine iteT rfl ?_
          with_reducible refine WSs.cons O ?_
          with_reducible refine WS.assign_name O ?_ (.inl (by with_unfolding_all rfl)) (by with_unfolding_all rfl) (by with_unfolding_all rfl)
          with_reducible refine WE.call_bi O (G2.n_len G) (G2.b_len G) ?_ (by with_unfolding_all rfl) (by with_unfolding_all rfl) (by with_unfolding_all rfl) (by with_unfolding_all rfl)
          with_reducible refine WEs.cons O ?_ (by with_unfolding_all rfl)
          with_reducible refine WE.name (by walk_at "m") ?_
          with_reducible refine WEs.nil ?_
          refine WC.len_str O (lim ha) ?_
          with_reducible refine updE (by walk_at "u") ?_
          with_reducible refine WSs.cons O ?_
          refine WS.del1 O ?_
          with_reducible refine WE.name (by walk_at "m") ?_
          with_reducible refine WE.int O ?_
          refine ⟨_, _, _, 0, rfl, rfl, at_end .., seq_nat (m := 0) (by simp), by simp; exact lim hr, by decide, by decide, ?_⟩
          rw [set_end]
          with_reducible refine WSs.nil ?_
          with_reducible refine WSs.nil ?_
          refine .inr ⟨rfl, rfl, rfl, ?_⟩
          simp [ws1, h0, strL]
    rintro f ρ' μ' (⟨hp, rfl, g, rfl⟩ | ⟨hp, rfl, rfl, rfl⟩)
    · have := hK g
      unfold ellB at this
      rw [hd, hs, if_neg (by simp), List.headD_cons, hp, if_pos rfl] at this
      exact this
    have hL : ws1 (a :: b :: r) ≠ [] := by unfold ws1; split <;> simp
    have hLn : (ws1 (a :: b :: r)).length ≤ 100001 := by unfold ws1; split <;> simp <;> first | exact Nat.le_of_succ_le_succ (Nat.le_trans hr1 hw) | exact hr
    have hLl : ∀ p ∈ ws1 (a :: b :: r), p.length ≤ 100000 := fun p hp => by
      have : p ∈ a :: b :: r := by
        unfold ws1 at hp; split at hp
        · exact hp
        · exact List.mem_of_mem_tail hp
      exact Nat.le_trans (hlen p this) hw
    have hall : ellB want got = if sufB ((ws1 (a :: b :: r)).getLastD []) got = false then false else
        if got.length < a.length + ((ws1 (a :: b :: r)).getLastD []).length then false else
        ellGo got (got.length - ((ws1 (a :: b :: r)).getLastD []).length) a.length (ws2 (ws1 (a :: b :: r))) := by
      unfold ellB
      rw [hd, hs, if_neg (by simp), List.headD_cons, hp, if_neg (by simp)]
    rw [hall] at hK
    generalize ws1 (a :: b :: r) = L1 at hL hLn hLl hK
    have hz : (L1.getLastD []).length ≤ 100000 := hLl _ (by
      cases L1 with
      | nil => exact absurd rfl hL
      | cons x r => rw [List.getLastD_cons]; exact List.getLastD_mem_cons)
    have hpos : 0 < L1.length := List.length_pos_iff.mpr hL
    have hlast := lastAt L1 hL
    generalize hze : L1.getLastD [] = z at hz hlast hK
    with_reducible refine WSs.cons O ?_
    with_reducible refine WS.assign_name O ?_ (.inl (by with_unfolding_all rfl)) (by with_unfolding_all rfl) (by with_unfolding_all rfl)
    with_reducible refine WE.sub O ?_ (fun _ _ => by with_unfolding_all rfl)
    with_reducible refine WE.name (by walk_at "m") ?_
    with_reducible refine WE.negint O ?_
    refine subLst (at_end ..) (WV.item_lst (at_end ..) (k := L1.length - 1) (q := .str (S z)) (by unfold strL; rw [List.length_map]; exact seq_last hpos) hlast (by simp; exact lim hLn) ?_)
    with_reducible refine updE (by walk_at "u") ?_
    with_reducible refine WSs.cons O ?_
    refine WS.mono (K := fun f ρ' μ' => (sufB z got = false ∧ f = .ret (.bool false) ∧ ∃ g, μ' = μ ++ g) ∨ (sufB z got = true ∧ f = .next ∧ ρ' = ([("want", .str (S want)), ("got", .str (S got)), ("ws", .loc μ.length), ("endpos", .int ((got.length : Int) - z.length)), ("startpos", .int a.length), ("w", .str (S z))] : Rho) ∧ μ' = μ ++ [.lst (strL (ws2 L1))])) ?_ ?_
    · with_reducible refine WS.ite O ?_
      with_reducible refine WB.value O ?_ (fun _ => by with_unfolding_all rfl)
      with_reducible refine WE.name (by walk_at "m") ?_
      refine ⟨_, .str _ (by rw [S_length]; exact lim hz), ?_⟩
      rw [truth_S]
      by_cases h0 : z = []
      · subst h0
        refine iteF rfl ?_
        refine WSs.nil ?_
        refine .inr ⟨sufB_nil _, rfl, by simp, ?_⟩
        have e : ws2 L1 = L1 := by unfold ws2; rw [hze]; rfl
        rw [e]
      · refine iteT (decide_eq_true h0) ?_
        with_reducible refine WSs.cons O ?_
        with_reducible refine WS.ite O ?_
        with_reducible refine WB.value O ?_ (fun _ => by with_unfolding_all rfl)
        with_reducible refine WE.meth O F.plainAttrs_str F.slot_str_endswith F.type_str_endswith ?_ (by with_unfolding_all rfl) ⟨_, by with_unfolding_all rfl⟩
        with_reducible refine WE.name (by walk_at "m") ?_
        with_reducible refine kindStr ?_
        with_reducible refine WEs.cons O ?_ (by with_unfolding_all rfl)
        with_reducible refine WE.name (by walk_at "m") ?_
        with_reducible refine WEs.nil ?_
        refine WC.endswith ⟨_, .bool _, ?_⟩
        cases hp : sufB z got with
        | false =>
          refine iteF rfl ?_
          with_reducible refine WSs.cons O ?_
          with_reducible refine WS.ret O ?_
          with_reducible refine WE.bool ?_
          exact .inl ⟨rfl, rfl, _, rfl⟩
        | true =>
          refine iteT rfl ?_
          with_reducible refine WSs.cons O ?_
          refine WS.aug_name O (by walk_at "m") ?_ (.inl rfl) rfl
          with_reducible refine WE.call_bi O (G2.n_len G) (G2.b_len G) ?_ (by with_unfolding_all rfl) (by with_unfolding_all rfl) (by with_unfolding_all rfl) (by with_unfolding_all rfl)
          with_reducible refine WEs.cons O ?_ (by with_unfolding_all rfl)
          with_reducible refine WE.name (by walk_at "m") ?_
          with_reducible refine WEs.nil ?_
          refine WC.len_str O (lim hz) (WV.isub_int O ?_)
          with_reducible refine updE (by walk_at "u") ?_
          with_reducible refine WSs.cons O ?_
          refine WS.del1 O ?_
          with_reducible refine WE.name (by walk_at "m") ?_
          with_reducible refine WE.negint O ?_
          refine ⟨_, _, _, L1.length - 1, rfl, rfl, at_end .., by unfold strL; rw [List.length_map]; exact seq_last hpos, by simp; exact lim hLn, by decide, by decide, ?_⟩
          rw [set_end, erase_last L1 hL]
          with_reducible refine WSs.nil ?_
          with_reducible refine WSs.nil ?_
          refine .inr ⟨rfl, rfl, rfl, ?_⟩
          have e : ws2 L1 = L1.dropLast := by unfold ws2; rw [hze, if_neg h0]
          rw [e]
    rintro f ρ' μ' (⟨hp2, rfl, g, rfl⟩ | ⟨hp2, rfl, rfl, rfl⟩)
    · have := hK g
      rw [hp2, if_pos rfl] at this
      exact this
    rw [hp2, if_neg (by simp)] at hK
    have hle := sufB_le hp2
    with_reducible refine WSs.cons O ?_
    with_reducible refine WS.ite O ?_
    with_reducible refine WB.cmp1 O ?_ (by with_unfolding_all rfl)
    with_reducible refine WE.name (by walk_at "m") ?_
    with_reducible refine WE.name (by walk_at "m") ?_
    refine WV.gt_int ⟨_, rfl, ?_⟩
    by_cases hgt : got.length < a.length + z.length
    · rw [if_pos hgt] at hK
      refine iteT (decide_eq_true (Int.sub_right_lt_of_lt_add (Int.ofNat_lt.mpr hgt))) ?_
      with_reducible refine WSs.cons O ?_
      with_reducible refine WS.ret O ?_
      with_reducible refine WE.bool ?_
      exact hK _
    rw [if_neg hgt] at hK
    refine iteF (decide_eq_false (Int.not_lt.mpr (Int.le_sub_right_of_add_le (Int.ofNat_le.mpr (Nat.not_lt.mp hgt))))) ?_
    with_reducible refine WSs.nil ?_
    with_reducible refine WSs.cons O ?_
    have hl2 : ∀ p ∈ ws2 L1, p.length ≤ 100000 := fun p hp => hLl p (by
      unfold ws2 at hp; split at hp
      · exact hp
      · exact (List.dropLast_sublist _).mem hp)
    generalize ws2 L1 = L2 at hK hl2
    have hhi : ((got.length : Int) - z.length) = ((got.length - z.length : Nat) : Int) := (Int.ofNat_sub (Nat.le_trans (Nat.le_add_left ..) (Nat.not_lt.mp hgt))).symm
    rw [hhi]
    have hlo : a.length ≤ got.length - z.length := Nat.le_sub_of_add_le (Nat.not_lt.mp hgt)
    have hhg : got.length - z.length ≤ got.length := Nat.sub_le ..
    generalize got.length - z.length = hi at hK hlo hhg
    refine WS.for_ O ?_ (fun _ => by with_unfolding_all rfl)
    with_reducible refine WE.name (by walk_at "m") ?_
    refine loopLst (at_end ..) ?_
    refine WL.inv (fun j ρ' μ' => ∃ lo y, lo ≤ hi ∧ ellGo got hi lo (L2.drop j) = ellGo got hi a.length L2 ∧ μ' = μ ++ [.lst (strL L2)] ∧ ρ' = ([("want", .str (S want)), ("got", .str (S got)), ("ws", .loc μ.length), ("endpos", .int (hi : Nat)), ("startpos", .int (lo : Nat)), ("w", .str (S y))] : Rho)) (strL L2) O ao.h ?_ ?_ ?_ ?_
    · exact ⟨a.length, z, hlo, by simp, rfl, rfl⟩
    · rintro j ρ' μ' ⟨lo, y, _, _, rfl, rfl⟩
      exact ⟨by simp [itemsOf], fun i e => by cases e; exact ⟨_, at_end ..⟩⟩
    · rintro j q ρ' μ' hq ⟨lo, y, hlo', hgo, rfl, rfl⟩
      rw [strL_at] at hq
      obtain ⟨v, hv, rfl⟩ := Option.map_eq_some_iff.mp hq
      have hdj : L2.drop j = v :: L2.drop (j + 1) := by
        obtain ⟨hj, e⟩ := List.getElem?_eq_some_iff.mp hv
        rw [List.drop_eq_getElem_cons hj, e]
      rw [hdj] at hgo
      have hvl := hl2 v (List.mem_of_getElem? hv)
      refine WA.name O (by walk_at "u") (.inl rfl) rfl ?_
      with_reducible refine WSs.cons O ?_
      with_reducible refine WS.assign_name O ?_ (.inl (by with_unfolding_all rfl)) (by with_unfolding_all rfl) (by with_unfolding_all rfl)
      with_reducible refine WE.meth O F.plainAttrs_str F.slot_str_find F.type_str_find ?_ (by with_unfolding_all rfl) ⟨_, by with_unfolding_all rfl⟩
      with_reducible refine WE.name (by walk_at "m") ?_
      with_reducible refine kindStr ?_
      with_reducible refine WEs.cons O ?_ (by with_unfolding_all rfl)
      with_reducible refine WE.name (by walk_at "m") ?_
      with_reducible refine WEs.cons O ?_ (by with_unfolding_all rfl)
      with_reducible refine WE.name (by walk_at "m") ?_
      with_reducible refine WEs.cons O ?_ (by with_unfolding_all rfl)
      with_reducible refine WE.name (by walk_at "m") ?_
      with_reducible refine WEs.nil ?_
      refine WC.find4 O hhg ?_
      with_reducible refine updE (by walk_at "u") ?_
      with_reducible refine WSs.cons O ?_
      refine WS.mono (K := fun f ρ' μ' => μ' = μ ++ [.lst (strL L2)] ∧ ((findB got v lo hi = none ∧ f = .ret (.bool false)) ∨ ∃ i, findB got v lo hi = some i ∧ f = .next ∧ ρ' = ([("want", .str (S want)), ("got", .str (S got)), ("ws", .loc μ.length), ("endpos", .int (hi : Nat)), ("startpos", .int (i : Nat)), ("w", .str (S v))] : Rho))) ?_ ?_
      · with_reducible refine WS.ite O ?_
        with_reducible refine WB.cmp1 O ?_ (by with_unfolding_all rfl)
        with_reducible refine WE.name (by walk_at "m") ?_
        with_reducible refine WE.int O ?_
        refine WV.lt_int ⟨_, rfl, ?_⟩
        cases hf : findB got v lo hi with
        | none =>
          refine iteT (by decide) ?_
          with_reducible refine WSs.cons O ?_
          with_reducible refine WS.ret O ?_
          with_reducible refine WE.bool ?_
          exact ⟨rfl, .inl ⟨rfl, rfl⟩⟩
        | some i =>
          refine iteF (decide_eq_false (nn i)) ?_
          with_reducible refine WSs.nil ?_
          exact ⟨rfl, .inr ⟨i, rfl, rfl, rfl⟩⟩
      · rintro f ρ' μ' ⟨rfl, ⟨hf, rfl⟩ | ⟨i, hf, rfl, rfl⟩⟩
        · have := hK [.lst (strL L2)]
          rw [← hgo] at this
          simp only [ellGo, hf] at this
          exact this
        · with_reducible refine WSs.cons O ?_
          refine WS.aug_name O (by walk_at "m") ?_ (.inl rfl) rfl
          with_reducible refine WE.call_bi O (G2.n_len G) (G2.b_len G) ?_ (by with_unfolding_all rfl) (by with_unfolding_all rfl) (by with_unfolding_all rfl) (by with_unfolding_all rfl)
          with_reducible refine WEs.cons O ?_ (by with_unfolding_all rfl)
          with_reducible refine WE.name (by walk_at "m") ?_
          with_reducible refine WEs.nil ?_
          refine WC.len_str O (by omega) (WV.iadd_int O ?_)
          with_reducible refine updE (by walk_at "u") ?_
          with_reducible refine WSs.nil ?_
          have hb := findB_some hf
          simp only [ellGo, hf] at hgo
          exact ⟨i + v.length, v, hb.2.1, hgo, rfl, by simp⟩
    · rintro ρ' μ' ⟨lo, y, hlo', hgo, rfl, rfl⟩
      with_reducible refine WSs.cons O ?_
      with_reducible refine WS.ret O ?_
      with_reducible refine WE.bool ?_
      have := hK [.lst (strL L2)]
      rw [← hgo] at this
      simp [ellGo] at this
      exact this
end
end Mine
namespace Mine
noncomputable section
variable {w : World} {c : Cx} {A : Around} {μ : Mu}
theorem getD_mem {α : Type} {l : List α} {k : Nat} {d : α} (h : k < l.length) : l.getD k d ∈ l := by
  rw [List.getD_eq_getElem?_getD, List.getElem?_eq_getElem h]; exact List.getElem_mem h
theorem taken_ok (G : G2 w c) (ao : AOk 2 A) {i : Nat} {st : List (List Nat)} (hi : μ[i]? = some (.lst (strL st))) (h6 : st.length = 6) (hb : ∀ t ∈ st, t.length ≤ 1000) (hok : takenB st = true) {K' : PV → Mu → Prop} (hK : ∀ g, K' (.bool true) (μ ++ g)) : WC c A (.ref 153) [.loc i] μ K' := by
  have O := G.ok
  unfold takenB at hok
  rw [Bool.and_eq_true] at hok
  obtain ⟨ok1, ok2⟩ := hok
  have ok1 : ∀ j, j < 6 → ∀ k, k < 6 → ellB (st.getD j []) (st.getD k []) = decide (j ≤ k) := fun j hj k hk => eq_of_beq (List.all_eq_true.mp (List.all_eq_true.mp ok1 j (List.mem_range.mpr hj)) k (List.mem_range.mpr hk))
  have hbk : ∀ k, k < 6 → (st.getD k []).length ≤ 1000 := fun k hk => hb _ (getD_mem (by omega))
  refine WC.defC (n := 1) O (def153 G) ao rfl (fun L => mem1 (by first | exact .inl rfl | exact .inr ⟨rfl, rfl⟩)) (fun L => rfl) (by decide) (fun L => mem1 (by first | exact .inl rfl | exact .inr ⟨rfl, rfl⟩)) fun L A ao => ?_
  show WSs c A _ _ [("stages", .loc i)] _ _
  refine WSs.cons O ?_
  refine WS.for_ O ?_ (fun _ => (by with_unfolding_all rfl))
  with_reducible refine WE.call_ty O (G2.n_range G) (G2.b_range G) ?_ (by with_unfolding_all rfl) (by with_unfolding_all rfl) (by with_unfolding_all rfl) (by with_unfolding_all rfl)
  with_reducible refine WEs.cons O ?_ (by with_unfolding_all rfl)
  with_reducible refine WE.int O ?_
  with_reducible refine WEs.nil ?_
  refine WC.range1 O ?_
  refine loopRng (by decide) ?_
  refine WL.inv (fun j ρ m => (∃ g, m = μ ++ g) ∧ (("stages" : Str), PV.loc i) ∈ ρ) _ O ao.h ⟨⟨[], (List.append_nil _).symm⟩, (by walk_at "m")⟩ (fun j ρ m _ => ⟨rfl, fun i e => by cases e⟩) (fun j q ρ m hq hV => ?_) fun ρ m hV => ?_
  · obtain ⟨⟨g, rfl⟩, hs⟩ := hV
    obtain ⟨hj, rfl⟩ := rng_at (n := 6) hq
    refine WA.less (ρ' := [("stages", .loc i)]) (fun y hy => by rw [List.mem_singleton.mp hy]; exact hs) (by show (["stages"] : List Str).Nodup; decide) ?_
    refine WA.name O (by walk_at "u") (.inl rfl) rfl ?_
    refine WSs.cons O ?_
    refine WS.for_ O ?_ (fun _ => (by with_unfolding_all rfl))
    with_reducible refine WE.call_ty O (G2.n_range G) (G2.b_range G) ?_ (by with_unfolding_all rfl) (by with_unfolding_all rfl) (by with_unfolding_all rfl) (by with_unfolding_all rfl)
    with_reducible refine WEs.cons O ?_ (by with_unfolding_all rfl)
    with_reducible refine WE.int O ?_
    with_reducible refine WEs.nil ?_
    refine WC.range1 O ?_
    refine loopRng (by decide) ?_
    refine WL.inv (fun k ρ m => (∃ g, m = μ ++ g) ∧ ∀ y ∈ ([("stages", .loc i), ("j", .int (j : Nat))] : Rho), y ∈ ρ) _ O ao.h ⟨⟨g, rfl⟩, (by walk_at "s")⟩ (fun j ρ m _ => ⟨rfl, fun i e => by cases e⟩) (fun k q ρ m hq hV => ?_) fun ρ m hV => ?_
    · obtain ⟨⟨g, rfl⟩, hs⟩ := hV
      obtain ⟨hk, rfl⟩ := rng_at (n := 6) hq
      refine WA.less (ρ' := [("stages", .loc i), ("j", .int (j : Nat))]) hs (by show (["stages", "j"] : List Str).Nodup; decide) ?_
      refine WA.name O (by walk_at "u") (.inl rfl) rfl ?_
      refine WSs.cons O ?_
      have hi' := getElem?_ext hi g
      with_reducible refine WS.ite O ?_
      with_reducible refine WB.cmp1 O ?_ (by with_unfolding_all rfl)
      with_reducible refine WE.call_def O (G2.g28 G) (def28 G).fn ?_ (by with_unfolding_all rfl) (by with_unfolding_all rfl) (by with_unfolding_all rfl) (by with_unfolding_all rfl)
      with_reducible refine WEs.cons O ?_ (by with_unfolding_all rfl)
      with_reducible refine WE.sub O ?_ (fun _ _ => by with_unfolding_all rfl)
      with_reducible refine WE.name (by walk_at "m") ?_
      with_reducible refine WE.name (by walk_at "m") ?_
      refine subLst hi' (WV.item_lst hi' (seq_nat (by rw [List.length_map, h6]; exact hj)) (strL_get (by rw [h6]; exact hj)) (by rw [List.length_map, h6]; decide) ?_)
      with_reducible refine WEs.cons O ?_ (by with_unfolding_all rfl)
      with_reducible refine WE.sub O ?_ (fun _ _ => by with_unfolding_all rfl)
      with_reducible refine WE.name (by walk_at "m") ?_
      with_reducible refine WE.name (by walk_at "m") ?_
      refine subLst hi' (WV.item_lst hi' (seq_nat (by rw [List.length_map, h6]; exact hk)) (strL_get (by rw [h6]; exact hk)) (by rw [List.length_map, h6]; decide) ?_)
      with_reducible refine WEs.nil ?_
      refine ell_ok G (ao.mono (by decide)) (lim (hbk _ hj)) (lim (hbk _ hk)) fun g3 => ?_
      with_reducible refine WE.cmp1 O ?_ (by with_unfolding_all rfl)
      with_reducible refine WE.name (by walk_at "m") ?_
      with_reducible refine WE.name (by walk_at "m") ?_
      with_reducible refine WV.le_int ?_
      with_reducible refine WV.isnot_bool ?_
      with_reducible refine Exists.intro _ (And.intro rfl ?_)
      rw [ok1 j hj k hk, le_cast, bne_self]
      exact iteF rfl (WSs.nil (WSs.nil ⟨⟨g ++ g3, List.append_assoc ..⟩, (by walk_at "s")⟩))
    · obtain ⟨hg, hs⟩ := hV
      exact WSs.nil ⟨hg, hs _ (by walk_at "m")⟩
  · obtain ⟨⟨g, rfl⟩, hs⟩ := hV
    refine WSs.less (ρ' := [("stages", .loc i)]) (fun y hy => by rw [List.mem_singleton.mp hy]; exact hs) (by show (["stages"] : List Str).Nodup; decide) ?_
    refine WSs.cons O ?_
    have hi' := getElem?_ext hi g
    with_reducible refine WS.ret O ?_
    with_reducible refine WE.cmp1 O ?_ (by with_unfolding_all rfl)
    refine WE.comp O (CompOk.one (x := "stages") (cc := L + 1) (by with_unfolding_all rfl) rfl rfl (noCell rfl) (fun C => rfl) rfl (fun C => rfl) (.inl rfl) (by walk_at "m")) ?_ (fun _ => (by with_unfolding_all rfl))
    with_reducible refine WE.slice O ?_
    with_reducible refine WE.name (by walk_at "m") ?_
    with_reducible refine WPart.none ?_
    with_reducible refine WPart.some ?_
    with_reducible refine WE.int O ?_
    with_reducible refine Exists.intro _ (And.intro rfl ?_)
    refine ⟨_, _, .lst i (strL st) hi' (by rw [List.length_map, h6]; decide), ?_⟩
    rw [show cutL (strL st) none (some 5) = (strL st).take 5 from cutL_to _ 5 (by rw [List.length_map, h6]; decide)]
    rw [← List.map_take]
    refine loopLst (at_end ..) ?_
    intro C
    refine WCL.inv (fun j m' => ∃ g', m' = (μ ++ g ++ [MO.lst (strL (st.take 5))]) ++ MO.lst [] :: g') (strL (st.take 5)) O ao.h ⟨[], rfl⟩ (fun j m hV => ?_) (fun j q m hq hV => ?_) fun m hV => ?_
    · obtain ⟨g', rfl⟩ := hV
      have h := getElem?_ext (at_end (μ ++ g) (MO.lst (strL (st.take 5))) []) (MO.lst [] :: g')
      exact ⟨by simp only [itemsOf]; rw [h], fun i e => by cases e; exact ⟨_, h⟩⟩
    · obtain ⟨g', rfl⟩ := hV
      rw [strL_at] at hq
      cases ht : (st.take 5)[j]? with
      | none => rw [ht] at hq; cases hq
      | some t =>
        rw [ht] at hq
        cases hq
        have htm : t ∈ st.take 5 := List.mem_of_getElem? ht
        have ok := List.all_eq_true.mp ok2 t htm
        have tl := hb t (List.mem_of_mem_take htm)
        have hi2 : ((μ ++ g ++ [MO.lst (strL (st.take 5))]) ++ MO.lst [] :: g')[i]? = some (.lst (strL st)) := getElem?_ext (getElem?_ext hi' _) _
        refine WAL.name O (by walk_at "u") rfl rfl ⟨(by walk_at "s"), WIfs.one ?_⟩
        with_reducible refine WB.cmp1 O ?_ (by with_unfolding_all rfl)
        with_reducible refine WE.call_def O (G2.g28 G) (def28 G).fn ?_ (by with_unfolding_all rfl) (by with_unfolding_all rfl) (by with_unfolding_all rfl) (by with_unfolding_all rfl)
        with_reducible refine WEs.cons O ?_ (by with_unfolding_all rfl)
        refine WE.replace O (WE.name (by walk_at "m") ⟨t, rfl, tl, WF.const O (WF.const O ⟨by rw [s_six, S_length]; decide, ?_⟩)⟩) rfl rfl ⟨_, (by with_unfolding_all rfl)⟩
        rw [s_dots, s_six, replace_dots]
        with_reducible refine WEs.cons O ?_ (by with_unfolding_all rfl)
        with_reducible refine WE.sub O ?_ (fun _ _ => by with_unfolding_all rfl)
        with_reducible refine WE.name (by walk_at "m") ?_
        with_reducible refine WE.int O ?_
        refine subLst hi2 (WV.item_lst hi2 (seq_nat (m := 5) (by rw [List.length_map, h6]; decide)) (strL_get (by rw [h6]; decide)) (by rw [List.length_map, h6]; decide) ?_)
        with_reducible refine WEs.nil ?_
        refine ell_ok G (ao.mono (by decide)) (Nat.le_trans (six_len t []) (by rw [List.length_nil]; omega)) (lim (hbk 5 (by decide))) fun g3 => ?_
        with_reducible refine WE.bool ?_
        with_reducible refine WV.isnot_bool ?_
        with_reducible refine Exists.intro _ (And.intro rfl ?_)
        rw [ok]
        refine iteF rfl ⟨g' ++ g3, by rw [List.append_assoc, List.cons_append]⟩
    · obtain ⟨g', rfl⟩ := hV
      with_reducible refine WE.list O ?_
      with_reducible refine WEs.nil ?_
      refine ⟨Nat.zero_le _, ?_⟩
      refine WV.eq_lst (i := (μ ++ g ++ [MO.lst (strL (st.take 5))]).length) O (ao.mono (by decide)) (getElem?_ext (at_end ..) _) (at_end (μ ++ g ++ [MO.lst (strL (st.take 5))] ++ MO.lst [] :: g') _ []) EqsOk.nil ?_
      show K' (.bool true) _
      rw [List.append_assoc, List.append_assoc, List.append_assoc]
      exact hK _
end
end Mine
namespace Mine
section
variable {c : Cx} {A : Around} {ρ : Rho} {μ : Mu}
theorem nx_rng (O : c.Ok) (a : A.handled = none) (lo hi : Int) (m : Mu) : NextOk c A m (.rng lo hi) ((List.range (hi - lo).toNat).map fun (k : Nat) => .int (lo + (k : Int))) := NextOk.std O a rfl (fun i e => by cases e)
theorem nx_str (O : c.Ok) (a : A.handled = none) (x : List Nat) (m : Mu) : NextOk c A m (.str (S x)) (x.map signPV) := NextOk.std O a rfl (fun i e => by cases e)
theorem nx_lst (O : c.Ok) (a : A.handled = none) {i : Nat} {ps : List PV} (hi : μ[i]? = some (.lst ps)) (g : Mu) : NextOk c A (μ ++ g) (.loc i) ps := by
  have h := getElem?_ext hi g
  exact NextOk.std O a (by simp only [itemsOf]; rw [h]) (fun j e => by cases e; exact ⟨ps, h⟩)
/-- a comprehension whose element and tests leave the store as it is but for new things -/
theorem WCL.mapG {elt tgt iter : Expr} {ifs : List Expr} {scope : Scope} {pos : Pos} {cenv : Env} {p : PV} {K : Mu → Prop} (F : PV → Option PV) (its : List PV) (O : c.Ok)
    (hn : ∀ l g, NextOk c A (μ ++ .lst l :: g) p its) (hb : its.length ≤ 1000000)
    (step : ∀ q ∈ its, ∀ l g, WAL c A tgt cenv q ρ (μ ++ .lst l :: g) fun ρ' => (∀ y ∈ ρ, y ∈ ρ') ∧ WIfs c A ifs cenv ρ' (μ ++ .lst l :: g) fun ok m => ∃ g1, m = μ ++ .lst l :: g1 ∧ ok = (F q).isSome ∧ (ok = true → WE c A elt cenv ρ' m fun x m2 => ∃ g2, m2 = μ ++ .lst l :: g2 ∧ F q = some x))
    (done : ∀ g, K (μ ++ .lst (its.filterMap F) :: g)) : WCL c A (.ListComp elt [⟨tgt, iter, ifs, 0⟩] scope pos) cenv p μ.length ρ K 0 (μ ++ [.lst []]) := by
  refine WCL.invN (fun j m => ∃ g, m = μ ++ .lst ((its.take j).filterMap F) :: g) its O ⟨[], by simp⟩ (fun j m hV => ?_) (fun j q m hq hV => ?_) fun m hV => ?_
  · obtain ⟨g, rfl⟩ := hV; exact hn _ _
  · obtain ⟨g, rfl⟩ := hV
    have hm : q ∈ its := List.mem_of_getElem? hq
    have e : its.take (j + 1) = its.take j ++ [q] := by rw [List.take_add_one, hq]; rfl
    refine (step q hm _ _).mono fun ρ' h => ⟨h.1, h.2.mono fun ok m h => ?_⟩
    obtain ⟨g1, rfl, rfl, h⟩ := h
    cases hF : F q with
    | none =>
      simp only [Option.isSome_none, Bool.false_eq_true, if_false]
      rw [e, List.filterMap_append]
      exact ⟨g1, by simp [hF]⟩
    | some x =>
      simp only [Option.isSome_some, if_true]
      rw [hF] at h
      refine (h rfl).mono fun y m h => ?_
      obtain ⟨g2, rfl, h⟩ := h
      cases h
      refine ⟨_, at_end .., ?_, g2, ?_⟩
      · have h1 : ((its.take j).filterMap F).length ≤ (its.take j).length := List.length_filterMap_le ..
        have h2 : (its.take j).length ≤ its.length := (List.take_sublist _ _).length_le
        exact Nat.le_trans h1 (Nat.le_trans h2 hb)
      · rw [set_end, e, List.filterMap_append]
        simp [hF]
  · obtain ⟨g, rfl⟩ := hV
    rw [List.take_of_length_le (Nat.le_refl _)]
    exact done g
end
end Mine
namespace Mine
noncomputable section
variable {w : World} {c : Cx} {A : Around} {μ : Mu}
theorem join1_len (sep : List Nat) : ∀ x : List Nat, (joinL sep (x.map fun q => [q])).length ≤ x.length * (1 + sep.length)
  | [] => Nat.zero_le _
  | [a] => by show 1 ≤ 1 * _; omega
  | a :: b :: r => by
    have ih := join1_len sep (b :: r)
    simp only [List.map_cons, joinL, List.length_append, List.length_cons, List.length_nil] at ih ⊢
    rw [Nat.succ_mul]
    omega
theorem WV.mul_T {a : List Nat} {n : Nat} {K : PV → Mu → Prop} (O : c.Ok) (hb : a.length ≤ 1000000 ∧ 1 ≤ n ∧ n ≤ 10) (k : K (.str (S (timesB a n))) μ) : WV c A (f2 (binaryOp .Mult)) [.str (S a), .int (n : Nat)] μ K :=
  WV.mul_str O ⟨by rw [S_length]; exact hb.1, by omega, by omega⟩ (by rw [Mine.mul_S]; exact k)
abbrev Asked := List Nat × List Nat × Bool
def askPV (x : Asked) : MO := .lst [.str (S x.1), .str (S x.2.1), .bool x.2.2]
def AskOk (m : Mu) (L : List (Nat × Asked)) : Prop := ∀ y ∈ L, m[y.1]? = some (askPV y.2)
theorem AskOk.more {m : Mu} {L : List (Nat × Asked)} (h : AskOk m L) (g : Mu) : AskOk (m ++ g) L := fun y hy => getElem?_ext (h y hy) g
theorem AskOk.add {m : Mu} {L : List (Nat × Asked)} (h : AskOk m L) (x : Asked) : AskOk (m ++ [askPV x]) (L ++ [(m.length, x)]) := fun y hy => by
  rcases List.mem_append.mp hy with hy | hy
  · exact h.more _ y hy
  · rw [List.mem_singleton.mp hy]; exact at_end m _ []
theorem ext_add {μ m : Mu} (h : ∃ g, m = μ ++ g) (o : Mu) : ∃ g, m ++ o = μ ++ g := by
  obtain ⟨g, rfl⟩ := h
  exact ⟨g ++ o, List.append_assoc ..⟩
theorem ask_all {m : Mu} {row : List Nat} {L : List (Nat × Asked)} {its : List PV} (R : AskOk m L) (h1 : its = L.map fun y => PV.loc y.1) (h2 : L.map (·.2) = askedB row) : ∀ q ∈ its, ∃ a x, q = PV.loc a ∧ x ∈ askedB row ∧ m[a]? = some (askPV x) := fun q hq => by
  rw [h1] at hq
  obtain ⟨y, hy, rfl⟩ := List.mem_map.mp hq
  exact ⟨y.1, y.2, rfl, by rw [← h2]; exact List.mem_map_of_mem hy, R y hy⟩
theorem ask_len {row : List Nat} (h5 : row.length = 5) : ∀ x ∈ askedB row, x.1.length ≤ 100 ∧ x.2.1.length ≤ 100 := fun x hx => by
  have jl : (backB row).length ≤ 26 := lapp (lapp (Nat.le_refl 3) (Nat.le_trans (join1_len dots row.reverse) (by rw [List.length_reverse, h5]; exact Nat.le_refl 20)) (N := 23)) (Nat.le_refl 3)
  have tl : ∀ n, (timesB row n).length = n * 5 := fun n => by unfold timesB; simp [h5]
  unfold askedB at hx
  simp only [List.mem_cons, List.not_mem_nil, or_false] at hx
  rcases hx with rfl | rfl | rfl | rfl | rfl | rfl | rfl | rfl | rfl | rfl | rfl | rfl | rfl <;> simp [h5, tl] <;> omega
def Asks (m : Mu) (n : Nat) (l : List Asked) : Prop := ∃ L : List (Nat × Asked), L.map (·.2) = l ∧ m[n]? = some (.lst (L.map fun y => PV.loc y.1)) ∧ AskOk m L
abbrev apBase (row : List Nat) (n : Nat) : Rho := [("row", .str (S row)), ("asked", .loc n)]
def askA (row : List Nat) : List Asked := [(row, row.reverse, false), (row, [], false), ([], row, false), (backB row, timesB row 4, false), (backB row, timesB row 5, true)]
def askB (row : List Nat) : List Asked := [(row.take 2 ++ dots ++ [row.getD 3 0], row, false), ([row.getD 1 0] ++ dots ++ row.drop 3, row, false), (row ++ dots, row, true)]
def askC (row : List Nat) : List Asked := [(dots ++ [row.getD 4 0] ++ dots ++ [row.getD 4 0], row, false), ([46, 46, 46, 46] ++ row, row, false), ([46, 46, 46, 46] ++ row, row ++ [46] ++ row, true)]
def askD : List Asked := [(dots, [], true), ([], [], true)]
theorem ask_parts (row : List Nat) : askedB row = askA row ++ askB row ++ askC row ++ askD := rfl
/-- lists put together -/
theorem ask_join (O : c.Ok) {m0 m : Mu} {n n' : Nat} {l : List Asked} {L2 : List (Nat × Asked)} {K : PV → Mu → Prop} (hA : Asks m0 n l) (ex : ∃ g, m = m0 ++ g) (R : AskOk m L2) (h1 : l.length ≤ 20) (h2 : L2.length ≤ 20) (hi : m[n']? = some (.lst (L2.map fun y => PV.loc y.1)))
    (hK : ∀ g n2, Asks (m0 ++ g) n2 (l ++ L2.map (·.2)) → K (.loc n2) (m0 ++ g)) : WV c A (f2 (binaryOp .Add)) [.loc n, .loc n'] m K := by
  obtain ⟨L, hL, hn, hR⟩ := hA
  obtain ⟨g, rfl⟩ := ex
  subst hL
  rw [List.length_map] at h1
  refine WV.add_lst O (getElem?_ext hn g) hi ⟨by rw [List.length_map]; omega, by rw [List.length_map]; omega⟩ ?_
  rw [← List.map_append, List.append_assoc m0]
  refine hK _ _ ⟨L ++ L2, by rw [List.map_append], ?_, fun y hy => ?_⟩
  · rw [← List.append_assoc]; exact at_end ..
  · rw [← List.append_assoc]
    rcases List.mem_append.mp hy with hy | hy
    · exact (hR.more g).more _ y hy
    · exact R.more _ y hy
theorem laps_a (G : G2 w c) (ao : AOk 1 A) {row : List Nat} (h5 : row.length = 5) {m0 : Mu} {L : Addr} {K : PF → Rho → Mu → Prop}
    (hK : ∀ g n, Asks (m0 ++ g) n (askA row) → WSs c A ((bodyOf (fd2 w 158)).drop 4) (callEnvC (fd2 w 158) L 158) (apBase row n) (m0 ++ g) K) :
    WSs c A ((bodyOf (fd2 w 158)).drop 2) (callEnvC (fd2 w 158) L 158) [("row", .str (S row))] m0 K := by
  have O := G.ok
  have hr : row.length ≤ 1000000 := lim (Nat.le_of_eq h5)
  have rk : ∀ m, m < 5 → row[m]? = some (row.getD m 0) := fun m hm => by rw [List.getD_eq_getElem?_getD, List.getElem?_eq_getElem (by omega)]; rfl
  have R0 : AskOk m0 [] := fun y hy => by cases hy
  have ex : ∃ g, m0 = m0 ++ g := ⟨[], (List.append_nil _).symm⟩
  obtain ⟨mb, hmb⟩ : ∃ mb, mb = m0 := ⟨_, rfl⟩
  rw [← hmb] at hK
  have ex : ∃ g, m0 = mb ++ g := ⟨[], by rw [hmb, List.append_nil]⟩
  clear hmb
  refine WSs.cons O ?_
  with_reducible refine WS.assign_name O ?_ (.inl (by with_unfolding_all rfl)) (by with_unfolding_all rfl) (by with_unfolding_all rfl)
  with_reducible refine WE.bin O ?_
  with_reducible refine WE.bin O ?_
  with_reducible refine WE.strS (l := [46, 46, 46]) O (by with_unfolding_all rfl) ?_
  with_reducible refine WE.meth O F.plainAttrs_str F.slot_str_join F.type_str_join ?_ (by with_unfolding_all rfl) ⟨_, by with_unfolding_all rfl⟩
  with_reducible refine WE.strS (l := [46, 46, 46]) O (by with_unfolding_all rfl) ?_
  with_reducible refine kindStr ?_
  with_reducible refine WEs.cons O ?_ (by with_unfolding_all rfl)
  with_reducible refine WE.revS O ?_
  with_reducible refine WE.name (by walk_at "m") ?_
  with_reducible refine WPart.some ?_
  with_reducible refine WE.negint O ?_
  with_reducible refine Exists.intro _ (And.intro rfl ?_)
  refine ⟨rfl, row, rfl, hr, ?_⟩
  with_reducible refine WEs.nil ?_
  refine WC.join_str O ao.h ⟨by rw [List.length_reverse]; omega, by decide⟩ ?_
  have jl : (joinL dots (row.reverse.map fun q => [q])).length ≤ 20 := Nat.le_trans (join1_len dots row.reverse) (by rw [List.length_reverse, h5]; decide)
  refine WV.add_S O ⟨by decide, lim jl⟩ ?_
  with_reducible refine WE.strS (l := [46, 46, 46]) O (by with_unfolding_all rfl) ?_
  refine WV.add_S O ⟨lapp (Nat.le_refl 3) jl, by decide⟩ ?_
  rw [show [46, 46, 46] ++ joinL [46, 46, 46] (List.map (fun q => [q]) row.reverse) ++ [46, 46, 46] = backB row from rfl]
  with_reducible refine updE (by walk_at "u") ?_
  with_reducible refine WSs.cons O ?_
  with_reducible refine WS.assign_name O ?_ (.inl (by with_unfolding_all rfl)) (by with_unfolding_all rfl) (by with_unfolding_all rfl)
  with_reducible refine WE.list O ?_
  with_reducible refine WEs.cons O ?_ (by with_unfolding_all rfl)
  with_reducible refine WE.list O ?_
  with_reducible refine WEs.cons O ?_ (by with_unfolding_all rfl)
  with_reducible refine WE.name (by walk_at "m") ?_
  with_reducible refine WEs.cons O ?_ (by with_unfolding_all rfl)
  with_reducible refine WE.revS O ?_
  with_reducible refine WE.name (by walk_at "m") ?_
  with_reducible refine WPart.some ?_
  with_reducible refine WE.negint O ?_
  with_reducible refine Exists.intro _ (And.intro rfl ?_)
  refine ⟨rfl, row, rfl, hr, ?_⟩
  with_reducible refine WEs.cons O ?_ (by with_unfolding_all rfl)
  with_reducible refine WE.bool ?_
  with_reducible refine WEs.nil ?_
  refine ⟨show 3 ≤ 1000 by decide, ?_⟩
  have R1 : AskOk (m0 ++ [MO.lst [PV.str (S (row)), PV.str (S (row.reverse)), PV.bool false]]) (_ ++ [(m0.length, (row, row.reverse, false))]) := R0.add (row, row.reverse, false)
  replace ex := ext_add ex [MO.lst [PV.str (S (row)), PV.str (S (row.reverse)), PV.bool false]]
  clear R0
  generalize m0 ++ [MO.lst [PV.str (S (row)), PV.str (S (row.reverse)), PV.bool false]] = m1 at *
  generalize m0.length = a1 at *
  with_reducible refine WEs.cons O ?_ (by with_unfolding_all rfl)
  with_reducible refine WE.list O ?_
  with_reducible refine WEs.cons O ?_ (by with_unfolding_all rfl)
  with_reducible refine WE.name (by walk_at "m") ?_
  with_reducible refine WEs.cons O ?_ (by with_unfolding_all rfl)
  with_reducible refine WE.strS (l := []) O (by with_unfolding_all rfl) ?_
  with_reducible refine WEs.cons O ?_ (by with_unfolding_all rfl)
  with_reducible refine WE.bool ?_
  with_reducible refine WEs.nil ?_
  refine ⟨show 3 ≤ 1000 by decide, ?_⟩
  have R2 : AskOk (m1 ++ [MO.lst [PV.str (S (row)), PV.str (S ([])), PV.bool false]]) (_ ++ [(m1.length, (row, [], false))]) := R1.add (row, [], false)
  replace ex := ext_add ex [MO.lst [PV.str (S (row)), PV.str (S ([])), PV.bool false]]
  clear R1
  generalize m1 ++ [MO.lst [PV.str (S (row)), PV.str (S ([])), PV.bool false]] = m2 at *
  generalize m1.length = a2 at *
  with_reducible refine WEs.cons O ?_ (by with_unfolding_all rfl)
  with_reducible refine WE.list O ?_
  with_reducible refine WEs.cons O ?_ (by with_unfolding_all rfl)
  with_reducible refine WE.strS (l := []) O (by with_unfolding_all rfl) ?_
  with_reducible refine WEs.cons O ?_ (by with_unfolding_all rfl)
  with_reducible refine WE.name (by walk_at "m") ?_
  with_reducible refine WEs.cons O ?_ (by with_unfolding_all rfl)
  with_reducible refine WE.bool ?_
  with_reducible refine WEs.nil ?_
  refine ⟨show 3 ≤ 1000 by decide, ?_⟩
  have R3 : AskOk (m2 ++ [MO.lst [PV.str (S ([])), PV.str (S (row)), PV.bool false]]) (_ ++ [(m2.length, ([], row, false))]) := R2.add ([], row, false)
  replace ex := ext_add ex [MO.lst [PV.str (S ([])), PV.str (S (row)), PV.bool false]]
  clear R2
  generalize m2 ++ [MO.lst [PV.str (S ([])), PV.str (S (row)), PV.bool false]] = m3 at *
  generalize m2.length = a3 at *
  with_reducible refine WEs.cons O ?_ (by with_unfolding_all rfl)
  with_reducible refine WE.list O ?_
  with_reducible refine WEs.cons O ?_ (by with_unfolding_all rfl)
  with_reducible refine WE.name (by walk_at "m") ?_
  with_reducible refine WEs.cons O ?_ (by with_unfolding_all rfl)
  with_reducible refine WE.bin O ?_
  with_reducible refine WE.name (by walk_at "m") ?_
  with_reducible refine WE.int O ?_
  refine WV.mul_T (n := 4) O ⟨hr, by decide, by decide⟩ ?_
  with_reducible refine WEs.cons O ?_ (by with_unfolding_all rfl)
  with_reducible refine WE.bool ?_
  with_reducible refine WEs.nil ?_
  refine ⟨show 3 ≤ 1000 by decide, ?_⟩
  have R4 : AskOk (m3 ++ [MO.lst [PV.str (S (backB row)), PV.str (S (timesB row 4)), PV.bool false]]) (_ ++ [(m3.length, (backB row, timesB row 4, false))]) := R3.add (backB row, timesB row 4, false)
  replace ex := ext_add ex [MO.lst [PV.str (S (backB row)), PV.str (S (timesB row 4)), PV.bool false]]
  clear R3
  generalize m3 ++ [MO.lst [PV.str (S (backB row)), PV.str (S (timesB row 4)), PV.bool false]] = m4 at *
  generalize m3.length = a4 at *
  with_reducible refine WEs.cons O ?_ (by with_unfolding_all rfl)
  with_reducible refine WE.list O ?_
  with_reducible refine WEs.cons O ?_ (by with_unfolding_all rfl)
  with_reducible refine WE.name (by walk_at "m") ?_
  with_reducible refine WEs.cons O ?_ (by with_unfolding_all rfl)
  with_reducible refine WE.bin O ?_
  with_reducible refine WE.name (by walk_at "m") ?_
  with_reducible refine WE.int O ?_
  refine WV.mul_T (n := 5) O ⟨hr, by decide, by decide⟩ ?_
  with_reducible refine WEs.cons O ?_ (by with_unfolding_all rfl)
  with_reducible refine WE.bool ?_
  with_reducible refine WEs.nil ?_
  refine ⟨show 3 ≤ 1000 by decide, ?_⟩
  have R5 : AskOk (m4 ++ [MO.lst [PV.str (S (backB row)), PV.str (S (timesB row 5)), PV.bool true]]) (_ ++ [(m4.length, (backB row, timesB row 5, true))]) := R4.add (backB row, timesB row 5, true)
  replace ex := ext_add ex [MO.lst [PV.str (S (backB row)), PV.str (S (timesB row 5)), PV.bool true]]
  clear R4
  generalize m4 ++ [MO.lst [PV.str (S (backB row)), PV.str (S (timesB row 5)), PV.bool true]] = m5 at *
  generalize m4.length = a5 at *
  with_reducible refine WEs.nil ?_
  refine ⟨show 5 ≤ 1000 by decide, ?_⟩
  have f1 := at_end m5 (MO.lst [PV.loc a1, PV.loc a2, PV.loc a3, PV.loc a4, PV.loc a5]) []
  replace R5 := R5.more [MO.lst [PV.loc a1, PV.loc a2, PV.loc a3, PV.loc a4, PV.loc a5]]
  replace ex := ext_add ex [MO.lst [PV.loc a1, PV.loc a2, PV.loc a3, PV.loc a4, PV.loc a5]]
  generalize m5 ++ [MO.lst [PV.loc a1, PV.loc a2, PV.loc a3, PV.loc a4, PV.loc a5]] = m6 at *
  refine updE (by walk_at "u") ?_
  obtain ⟨g, rfl⟩ := ex
  refine WSs.less (ρ' := apBase row _) (by walk_at "s") (by show (["row", "asked"] : List Str).Nodup; decide) ?_
  refine hK g m5.length ⟨_, ?_, ?_, R5⟩
  · rfl
  · exact f1
theorem laps_b (G : G2 w c) (ao : AOk 1 A) {row : List Nat} (h5 : row.length = 5) {m0 : Mu} {n : Nat} {l : List Asked} {L : Addr} {K : PF → Rho → Mu → Prop} (hA : Asks m0 n l) (hl : l.length ≤ 20)
    (hK : ∀ g n, Asks (m0 ++ g) n (l ++ askB row) → WSs c A ((bodyOf (fd2 w 158)).drop 5) (callEnvC (fd2 w 158) L 158) (apBase row n) (m0 ++ g) K) :
    WSs c A ((bodyOf (fd2 w 158)).drop 4) (callEnvC (fd2 w 158) L 158) (apBase row n) m0 K := by
  have O := G.ok
  have hr : row.length ≤ 1000000 := lim (Nat.le_of_eq h5)
  have rk : ∀ m, m < 5 → row[m]? = some (row.getD m 0) := fun m hm => by rw [List.getD_eq_getElem?_getD, List.getElem?_eq_getElem (by omega)]; rfl
  have R0 : AskOk m0 [] := fun y hy => by cases hy
  obtain ⟨mb, hmb⟩ : ∃ mb, mb = m0 := ⟨_, rfl⟩
  rw [← hmb] at hK hA
  have ex : ∃ g, m0 = mb ++ g := ⟨[], by rw [hmb, List.append_nil]⟩
  clear hmb
  refine WSs.cons O ?_
  with_reducible refine WS.assign_name O ?_ (.inl (by with_unfolding_all rfl)) (by with_unfolding_all rfl) (by with_unfolding_all rfl)
  with_reducible refine WE.bin O ?_
  with_reducible refine WE.name (by walk_at "m") ?_
  with_reducible refine WE.list O ?_
  with_reducible refine WEs.cons O ?_ (by with_unfolding_all rfl)
  with_reducible refine WE.list O ?_
  with_reducible refine WEs.cons O ?_ (by with_unfolding_all rfl)
  with_reducible refine WE.bin O ?_
  with_reducible refine WE.bin O ?_
  with_reducible refine WE.slice O ?_
  with_reducible refine WE.name (by walk_at "m") ?_
  with_reducible refine WPart.none ?_
  with_reducible refine WPart.some ?_
  with_reducible refine WE.int O ?_
  with_reducible refine Exists.intro _ (And.intro rfl ?_)
  refine ⟨_, _, .str row hr, ?_⟩
  rw [show cutL row none (some 2) = row.take 2 from cutL_to row 2 (by omega)]
  with_reducible refine WE.strS (l := [46, 46, 46]) O (by with_unfolding_all rfl) ?_
  refine WV.add_S O ⟨lim (List.length_take_le ..), by decide⟩ ?_
  with_reducible refine WE.sub O ?_ (fun _ _ => by with_unfolding_all rfl)
  with_reducible refine WE.name (by walk_at "m") ?_
  with_reducible refine WE.int O ?_
  with_reducible refine subStr ?_
  refine WV.item_str O (n := ((3 : Nat) : Int)) (k := 3) (q := row.getD 3 0) (seq_nat (m := 3) (by omega)) (rk 3 (by decide)) (by decide) ?_
  refine WV.add_S O ⟨lapp (List.length_take_le ..) (Nat.le_refl 3), (show 1 ≤ 1000000 by decide)⟩ ?_
  with_reducible refine WEs.cons O ?_ (by with_unfolding_all rfl)
  with_reducible refine WE.name (by walk_at "m") ?_
  with_reducible refine WEs.cons O ?_ (by with_unfolding_all rfl)
  with_reducible refine WE.bool ?_
  with_reducible refine WEs.nil ?_
  refine ⟨show 3 ≤ 1000 by decide, ?_⟩
  have R6 : AskOk (m0 ++ [MO.lst [PV.str (S (row.take 2 ++ [46, 46, 46] ++ [row.getD 3 0])), PV.str (S (row)), PV.bool false]]) (_ ++ [(m0.length, (row.take 2 ++ [46, 46, 46] ++ [row.getD 3 0], row, false))]) := R0.add (row.take 2 ++ [46, 46, 46] ++ [row.getD 3 0], row, false)
  replace ex := ext_add ex [MO.lst [PV.str (S (row.take 2 ++ [46, 46, 46] ++ [row.getD 3 0])), PV.str (S (row)), PV.bool false]]
  clear R0
  generalize m0 ++ [MO.lst [PV.str (S (row.take 2 ++ [46, 46, 46] ++ [row.getD 3 0])), PV.str (S (row)), PV.bool false]] = m7 at *
  generalize m0.length = a6 at *
  with_reducible refine WEs.cons O ?_ (by with_unfolding_all rfl)
  with_reducible refine WE.list O ?_
  with_reducible refine WEs.cons O ?_ (by with_unfolding_all rfl)
  with_reducible refine WE.bin O ?_
  with_reducible refine WE.bin O ?_
  with_reducible refine WE.sub O ?_ (fun _ _ => by with_unfolding_all rfl)
  with_reducible refine WE.name (by walk_at "m") ?_
  with_reducible refine WE.int O ?_
  with_reducible refine subStr ?_
  refine WV.item_str O (n := ((1 : Nat) : Int)) (k := 1) (q := row.getD 1 0) (seq_nat (m := 1) (by omega)) (rk 1 (by decide)) (by decide) ?_
  with_reducible refine WE.strS (l := [46, 46, 46]) O (by with_unfolding_all rfl) ?_
  refine WV.add_S O ⟨(show 1 ≤ 1000000 by decide), by decide⟩ ?_
  with_reducible refine WE.slice O ?_
  with_reducible refine WE.name (by walk_at "m") ?_
  with_reducible refine WPart.some ?_
  with_reducible refine WE.int O ?_
  with_reducible refine Exists.intro _ (And.intro rfl ?_)
  with_reducible refine WPart.none ?_
  refine ⟨_, _, .str row hr, ?_⟩
  rw [show cutL row (some 3) none = row.drop 3 from cutL_from row 3 (by omega)]
  refine WV.add_S O ⟨(show 4 ≤ 1000000 by decide), by rw [List.length_drop]; omega⟩ ?_
  with_reducible refine WEs.cons O ?_ (by with_unfolding_all rfl)
  with_reducible refine WE.name (by walk_at "m") ?_
  with_reducible refine WEs.cons O ?_ (by with_unfolding_all rfl)
  with_reducible refine WE.bool ?_
  with_reducible refine WEs.nil ?_
  refine ⟨show 3 ≤ 1000 by decide, ?_⟩
  have R7 : AskOk (m7 ++ [MO.lst [PV.str (S ([row.getD 1 0] ++ [46, 46, 46] ++ row.drop 3)), PV.str (S (row)), PV.bool false]]) (_ ++ [(m7.length, ([row.getD 1 0] ++ [46, 46, 46] ++ row.drop 3, row, false))]) := R6.add ([row.getD 1 0] ++ [46, 46, 46] ++ row.drop 3, row, false)
  replace ex := ext_add ex [MO.lst [PV.str (S ([row.getD 1 0] ++ [46, 46, 46] ++ row.drop 3)), PV.str (S (row)), PV.bool false]]
  clear R6
  generalize m7 ++ [MO.lst [PV.str (S ([row.getD 1 0] ++ [46, 46, 46] ++ row.drop 3)), PV.str (S (row)), PV.bool false]] = m8 at *
  generalize m7.length = a7 at *
  with_reducible refine WEs.cons O ?_ (by with_unfolding_all rfl)
  with_reducible refine WE.list O ?_
  with_reducible refine WEs.cons O ?_ (by with_unfolding_all rfl)
  with_reducible refine WE.bin O ?_
  with_reducible refine WE.name (by walk_at "m") ?_
  with_reducible refine WE.strS (l := [46, 46, 46]) O (by with_unfolding_all rfl) ?_
  refine WV.add_S O ⟨lim (Nat.le_of_eq h5), by decide⟩ ?_
  with_reducible refine WEs.cons O ?_ (by with_unfolding_all rfl)
  with_reducible refine WE.name (by walk_at "m") ?_
  with_reducible refine WEs.cons O ?_ (by with_unfolding_all rfl)
  with_reducible refine WE.bool ?_
  with_reducible refine WEs.nil ?_
  refine ⟨show 3 ≤ 1000 by decide, ?_⟩
  have R8 : AskOk (m8 ++ [MO.lst [PV.str (S (row ++ [46, 46, 46])), PV.str (S (row)), PV.bool true]]) (_ ++ [(m8.length, (row ++ [46, 46, 46], row, true))]) := R7.add (row ++ [46, 46, 46], row, true)
  replace ex := ext_add ex [MO.lst [PV.str (S (row ++ [46, 46, 46])), PV.str (S (row)), PV.bool true]]
  clear R7
  generalize m8 ++ [MO.lst [PV.str (S (row ++ [46, 46, 46])), PV.str (S (row)), PV.bool true]] = m9 at *
  generalize m8.length = a8 at *
  with_reducible refine WEs.nil ?_
  refine ⟨show 3 ≤ 1000 by decide, ?_⟩
  have f1 := at_end m9 (MO.lst [PV.loc a6, PV.loc a7, PV.loc a8]) []
  replace R8 := R8.more [MO.lst [PV.loc a6, PV.loc a7, PV.loc a8]]
  replace ex := ext_add ex [MO.lst [PV.loc a6, PV.loc a7, PV.loc a8]]
  generalize m9 ++ [MO.lst [PV.loc a6, PV.loc a7, PV.loc a8]] = me at *
  refine ask_join O hA ex R8 hl (show 3 ≤ 20 by decide) f1 fun g n2 h => ?_
  refine updE (by walk_at "u") ?_
  exact hK g _ h
theorem laps_c (G : G2 w c) (ao : AOk 1 A) {row : List Nat} (h5 : row.length = 5) {m0 : Mu} {n : Nat} {l : List Asked} {L : Addr} {K : PF → Rho → Mu → Prop} (hA : Asks m0 n l) (hl : l.length ≤ 20)
    (hK : ∀ g n, Asks (m0 ++ g) n (l ++ askC row) → WSs c A ((bodyOf (fd2 w 158)).drop 6) (callEnvC (fd2 w 158) L 158) (apBase row n) (m0 ++ g) K) :
    WSs c A ((bodyOf (fd2 w 158)).drop 5) (callEnvC (fd2 w 158) L 158) (apBase row n) m0 K := by
  have O := G.ok
  have hr : row.length ≤ 1000000 := lim (Nat.le_of_eq h5)
  have rk : ∀ m, m < 5 → row[m]? = some (row.getD m 0) := fun m hm => by rw [List.getD_eq_getElem?_getD, List.getElem?_eq_getElem (by omega)]; rfl
  have R0 : AskOk m0 [] := fun y hy => by cases hy
  obtain ⟨mb, hmb⟩ : ∃ mb, mb = m0 := ⟨_, rfl⟩
  rw [← hmb] at hK hA
  have ex : ∃ g, m0 = mb ++ g := ⟨[], by rw [hmb, List.append_nil]⟩
  clear hmb
  refine WSs.cons O ?_
  with_reducible refine WS.assign_name O ?_ (.inl (by with_unfolding_all rfl)) (by with_unfolding_all rfl) (by with_unfolding_all rfl)
  with_reducible refine WE.bin O ?_
  with_reducible refine WE.name (by walk_at "m") ?_
  with_reducible refine WE.list O ?_
  with_reducible refine WEs.cons O ?_ (by with_unfolding_all rfl)
  with_reducible refine WE.list O ?_
  with_reducible refine WEs.cons O ?_ (by with_unfolding_all rfl)
  with_reducible refine WE.bin O ?_
  with_reducible refine WE.bin O ?_
  with_reducible refine WE.bin O ?_
  with_reducible refine WE.strS (l := [46, 46, 46]) O (by with_unfolding_all rfl) ?_
  with_reducible refine WE.sub O ?_ (fun _ _ => by with_unfolding_all rfl)
  with_reducible refine WE.name (by walk_at "m") ?_
  with_reducible refine WE.int O ?_
  with_reducible refine subStr ?_
  refine WV.item_str O (n := ((4 : Nat) : Int)) (k := 4) (q := row.getD 4 0) (seq_nat (m := 4) (by omega)) (rk 4 (by decide)) (by decide) ?_
  refine WV.add_S O ⟨by decide, (show 1 ≤ 1000000 by decide)⟩ ?_
  with_reducible refine WE.strS (l := [46, 46, 46]) O (by with_unfolding_all rfl) ?_
  refine WV.add_S O ⟨(show 4 ≤ 1000000 by decide), by decide⟩ ?_
  with_reducible refine WE.sub O ?_ (fun _ _ => by with_unfolding_all rfl)
  with_reducible refine WE.name (by walk_at "m") ?_
  with_reducible refine WE.int O ?_
  with_reducible refine subStr ?_
  refine WV.item_str O (n := ((4 : Nat) : Int)) (k := 4) (q := row.getD 4 0) (seq_nat (m := 4) (by omega)) (rk 4 (by decide)) (by decide) ?_
  refine WV.add_S O ⟨(show 7 ≤ 1000000 by decide), (show 1 ≤ 1000000 by decide)⟩ ?_
  with_reducible refine WEs.cons O ?_ (by with_unfolding_all rfl)
  with_reducible refine WE.name (by walk_at "m") ?_
  with_reducible refine WEs.cons O ?_ (by with_unfolding_all rfl)
  with_reducible refine WE.bool ?_
  with_reducible refine WEs.nil ?_
  refine ⟨show 3 ≤ 1000 by decide, ?_⟩
  have R9 : AskOk (m0 ++ [MO.lst [PV.str (S ([46, 46, 46] ++ [row.getD 4 0] ++ [46, 46, 46] ++ [row.getD 4 0])), PV.str (S (row)), PV.bool false]]) (_ ++ [(m0.length, ([46, 46, 46] ++ [row.getD 4 0] ++ [46, 46, 46] ++ [row.getD 4 0], row, false))]) := R0.add ([46, 46, 46] ++ [row.getD 4 0] ++ [46, 46, 46] ++ [row.getD 4 0], row, false)
  replace ex := ext_add ex [MO.lst [PV.str (S ([46, 46, 46] ++ [row.getD 4 0] ++ [46, 46, 46] ++ [row.getD 4 0])), PV.str (S (row)), PV.bool false]]
  clear R0
  generalize m0 ++ [MO.lst [PV.str (S ([46, 46, 46] ++ [row.getD 4 0] ++ [46, 46, 46] ++ [row.getD 4 0])), PV.str (S (row)), PV.bool false]] = m12 at *
  generalize m0.length = a9 at *
  with_reducible refine WEs.cons O ?_ (by with_unfolding_all rfl)
  with_reducible refine WE.list O ?_
  with_reducible refine WEs.cons O ?_ (by with_unfolding_all rfl)
  with_reducible refine WE.bin O ?_
  with_reducible refine WE.strS (l := [46, 46, 46, 46]) O (by with_unfolding_all rfl) ?_
  with_reducible refine WE.name (by walk_at "m") ?_
  refine WV.add_S O ⟨by decide, lim (Nat.le_of_eq h5)⟩ ?_
  with_reducible refine WEs.cons O ?_ (by with_unfolding_all rfl)
  with_reducible refine WE.name (by walk_at "m") ?_
  with_reducible refine WEs.cons O ?_ (by with_unfolding_all rfl)
  with_reducible refine WE.bool ?_
  with_reducible refine WEs.nil ?_
  refine ⟨show 3 ≤ 1000 by decide, ?_⟩
  have R10 : AskOk (m12 ++ [MO.lst [PV.str (S ([46, 46, 46, 46] ++ row)), PV.str (S (row)), PV.bool false]]) (_ ++ [(m12.length, ([46, 46, 46, 46] ++ row, row, false))]) := R9.add ([46, 46, 46, 46] ++ row, row, false)
  replace ex := ext_add ex [MO.lst [PV.str (S ([46, 46, 46, 46] ++ row)), PV.str (S (row)), PV.bool false]]
  clear R9
  generalize m12 ++ [MO.lst [PV.str (S ([46, 46, 46, 46] ++ row)), PV.str (S (row)), PV.bool false]] = m13 at *
  generalize m12.length = a10 at *
  with_reducible refine WEs.cons O ?_ (by with_unfolding_all rfl)
  with_reducible refine WE.list O ?_
  with_reducible refine WEs.cons O ?_ (by with_unfolding_all rfl)
  with_reducible refine WE.bin O ?_
  with_reducible refine WE.strS (l := [46, 46, 46, 46]) O (by with_unfolding_all rfl) ?_
  with_reducible refine WE.name (by walk_at "m") ?_
  refine WV.add_S O ⟨by decide, lim (Nat.le_of_eq h5)⟩ ?_
  with_reducible refine WEs.cons O ?_ (by with_unfolding_all rfl)
  with_reducible refine WE.bin O ?_
  with_reducible refine WE.bin O ?_
  with_reducible refine WE.name (by walk_at "m") ?_
  with_reducible refine WE.strS (l := [46]) O (by with_unfolding_all rfl) ?_
  refine WV.add_S O ⟨lim (Nat.le_of_eq h5), by decide⟩ ?_
  with_reducible refine WE.name (by walk_at "m") ?_
  refine WV.add_S O ⟨lapp (Nat.le_of_eq h5) (Nat.le_refl 1), lim (Nat.le_of_eq h5)⟩ ?_
  with_reducible refine WEs.cons O ?_ (by with_unfolding_all rfl)
  with_reducible refine WE.bool ?_
  with_reducible refine WEs.nil ?_
  refine ⟨show 3 ≤ 1000 by decide, ?_⟩
  have R11 : AskOk (m13 ++ [MO.lst [PV.str (S ([46, 46, 46, 46] ++ row)), PV.str (S (row ++ [46] ++ row)), PV.bool true]]) (_ ++ [(m13.length, ([46, 46, 46, 46] ++ row, row ++ [46] ++ row, true))]) := R10.add ([46, 46, 46, 46] ++ row, row ++ [46] ++ row, true)
  replace ex := ext_add ex [MO.lst [PV.str (S ([46, 46, 46, 46] ++ row)), PV.str (S (row ++ [46] ++ row)), PV.bool true]]
  clear R10
  generalize m13 ++ [MO.lst [PV.str (S ([46, 46, 46, 46] ++ row)), PV.str (S (row ++ [46] ++ row)), PV.bool true]] = m14 at *
  generalize m13.length = a11 at *
  with_reducible refine WEs.nil ?_
  refine ⟨show 3 ≤ 1000 by decide, ?_⟩
  have f1 := at_end m14 (MO.lst [PV.loc a9, PV.loc a10, PV.loc a11]) []
  replace R11 := R11.more [MO.lst [PV.loc a9, PV.loc a10, PV.loc a11]]
  replace ex := ext_add ex [MO.lst [PV.loc a9, PV.loc a10, PV.loc a11]]
  generalize m14 ++ [MO.lst [PV.loc a9, PV.loc a10, PV.loc a11]] = me at *
  refine ask_join O hA ex R11 hl (show 3 ≤ 20 by decide) f1 fun g n2 h => ?_
  refine updE (by walk_at "u") ?_
  exact hK g _ h
theorem laps_d (G : G2 w c) (ao : AOk 1 A) {row : List Nat} (h5 : row.length = 5) {m0 : Mu} {n : Nat} {l : List Asked} {L : Addr} {K : PF → Rho → Mu → Prop} (hA : Asks m0 n l) (hl : l.length ≤ 20)
    (hK : ∀ g n, Asks (m0 ++ g) n (l ++ askD) → WSs c A ((bodyOf (fd2 w 158)).drop 7) (callEnvC (fd2 w 158) L 158) (apBase row n) (m0 ++ g) K) :
    WSs c A ((bodyOf (fd2 w 158)).drop 6) (callEnvC (fd2 w 158) L 158) (apBase row n) m0 K := by
  have O := G.ok
  have hr : row.length ≤ 1000000 := lim (Nat.le_of_eq h5)
  have rk : ∀ m, m < 5 → row[m]? = some (row.getD m 0) := fun m hm => by rw [List.getD_eq_getElem?_getD, List.getElem?_eq_getElem (by omega)]; rfl
  have R0 : AskOk m0 [] := fun y hy => by cases hy
  obtain ⟨mb, hmb⟩ : ∃ mb, mb = m0 := ⟨_, rfl⟩
  rw [← hmb] at hK hA
  have ex : ∃ g, m0 = mb ++ g := ⟨[], by rw [hmb, List.append_nil]⟩
  clear hmb
  refine WSs.cons O ?_
  with_reducible refine WS.assign_name O ?_ (.inl (by with_unfolding_all rfl)) (by with_unfolding_all rfl) (by with_unfolding_all rfl)
  with_reducible refine WE.bin O ?_
  with_reducible refine WE.name (by walk_at "m") ?_
  with_reducible refine WE.list O ?_
  with_reducible refine WEs.cons O ?_ (by with_unfolding_all rfl)
  with_reducible refine WE.list O ?_
  with_reducible refine WEs.cons O ?_ (by with_unfolding_all rfl)
  with_reducible refine WE.strS (l := [46, 46, 46]) O (by with_unfolding_all rfl) ?_
  with_reducible refine WEs.cons O ?_ (by with_unfolding_all rfl)
  with_reducible refine WE.strS (l := []) O (by with_unfolding_all rfl) ?_
  with_reducible refine WEs.cons O ?_ (by with_unfolding_all rfl)
  with_reducible refine WE.bool ?_
  with_reducible refine WEs.nil ?_
  refine ⟨show 3 ≤ 1000 by decide, ?_⟩
  have R12 : AskOk (m0 ++ [MO.lst [PV.str (S ([46, 46, 46])), PV.str (S ([])), PV.bool true]]) (_ ++ [(m0.length, ([46, 46, 46], [], true))]) := R0.add ([46, 46, 46], [], true)
  replace ex := ext_add ex [MO.lst [PV.str (S ([46, 46, 46])), PV.str (S ([])), PV.bool true]]
  clear R0
  generalize m0 ++ [MO.lst [PV.str (S ([46, 46, 46])), PV.str (S ([])), PV.bool true]] = m17 at *
  generalize m0.length = a12 at *
  with_reducible refine WEs.cons O ?_ (by with_unfolding_all rfl)
  with_reducible refine WE.list O ?_
  with_reducible refine WEs.cons O ?_ (by with_unfolding_all rfl)
  with_reducible refine WE.strS (l := []) O (by with_unfolding_all rfl) ?_
  with_reducible refine WEs.cons O ?_ (by with_unfolding_all rfl)
  with_reducible refine WE.strS (l := []) O (by with_unfolding_all rfl) ?_
  with_reducible refine WEs.cons O ?_ (by with_unfolding_all rfl)
  with_reducible refine WE.bool ?_
  with_reducible refine WEs.nil ?_
  refine ⟨show 3 ≤ 1000 by decide, ?_⟩
  have R13 : AskOk (m17 ++ [MO.lst [PV.str (S ([])), PV.str (S ([])), PV.bool true]]) (_ ++ [(m17.length, ([], [], true))]) := R12.add ([], [], true)
  replace ex := ext_add ex [MO.lst [PV.str (S ([])), PV.str (S ([])), PV.bool true]]
  clear R12
  generalize m17 ++ [MO.lst [PV.str (S ([])), PV.str (S ([])), PV.bool true]] = m18 at *
  generalize m17.length = a13 at *
  with_reducible refine WEs.nil ?_
  refine ⟨show 2 ≤ 1000 by decide, ?_⟩
  have f1 := at_end m18 (MO.lst [PV.loc a12, PV.loc a13]) []
  replace R13 := R13.more [MO.lst [PV.loc a12, PV.loc a13]]
  replace ex := ext_add ex [MO.lst [PV.loc a12, PV.loc a13]]
  generalize m18 ++ [MO.lst [PV.loc a12, PV.loc a13]] = me at *
  refine ask_join O hA ex R13 hl (show 2 ≤ 20 by decide) f1 fun g n2 h => ?_
  refine updE (by walk_at "u") ?_
  exact hK g _ h
theorem laps_tail (G : G2 w c) (ao : AOk 1 A) {row : List Nat} (h5 : row.length = 5) (ok2 : ((askedB row).all fun x => ellB x.1 x.2.1 == x.2.2) = true) {m0 : Mu} (ex : ∃ g, m0 = μ ++ g) {K' : PV → Mu → Prop} (hK : ∀ g, K' (.bool true) (μ ++ g)) (L : Addr) :
    WSs c A ((bodyOf (fd2 w 158)).drop 2) (callEnvC (fd2 w 158) L 158) [("row", .str (S row))] m0 (retK K') := by
  have O := G.ok
  refine laps_a G ao h5 fun g1 n1 h1 => ?_
  refine laps_b G ao h5 h1 (show 5 ≤ 20 by decide) fun g2 n2 h2 => ?_
  refine laps_c G ao h5 h2 (show 8 ≤ 20 by decide) fun g3 n3 h3 => ?_
  refine laps_d G ao h5 h3 (show 11 ≤ 20 by decide) fun g4 n4 h4 => ?_
  rw [← ask_parts] at h4
  replace ex := ext_add (ext_add (ext_add (ext_add ex g1) g2) g3) g4
  obtain ⟨Lq, hq, f0, hR⟩ := h4
  generalize m0 ++ g1 ++ g2 ++ g3 = mb at *
  generalize hgq : g4 = gq at *
  refine WSs.cons O ?_
  with_reducible refine WS.ret O ?_
  with_reducible refine WE.cmp1 O ?_ (by with_unfolding_all rfl)
  refine WE.comp O (CompOk.plain (by with_unfolding_all rfl) rfl rfl (noCell rfl) (fun C => rfl)) ?_ (fun _ => (by with_unfolding_all rfl))
  with_reducible refine WE.name (by walk_at "m") ?_
  refine loopLst f0 ?_
  intro C
  have hall := ask_all (row := row) hR rfl hq
  have hl : (Lq.map fun y => PV.loc y.1).length ≤ 1000000 := by
    have := congrArg List.length hq
    rw [List.length_map] at this ⊢
    rw [this]; show 13 ≤ 1000000; decide
  clear hR hq
  generalize (Lq.map fun y => PV.loc y.1) = its at *
  generalize mb ++ gq = m at *
  refine WCL.mapG (fun _ => none) its O (fun l g => nx_lst O ao.h f0 (.lst l :: g)) hl (fun q hq l g2 => ?_) fun g2 => ?_
  · obtain ⟨a, x, rfl, hx, ha⟩ := hall q hq
    have ha' := getElem?_ext ha (MO.lst l :: g2)
    have hlen := ask_len h5 x hx
    refine WAL.unlist O ao.h rfl rfl ha' ?_
    refine WALs.cons O (WAL.name O (by walk_at "u") rfl rfl (WALs.cons O (WAL.name O (by walk_at "u") rfl rfl (WALs.cons O (WAL.name O (by walk_at "u") rfl rfl (WALs.nil ⟨(by walk_at "s"), WIfs.one ?_⟩))))))
    with_reducible refine WB.cmp1 O ?_ (by with_unfolding_all rfl)
    with_reducible refine WE.call_def O (G2.g28 G) (def28 G).fn ?_ (by with_unfolding_all rfl) (by with_unfolding_all rfl) (by with_unfolding_all rfl) (by with_unfolding_all rfl)
    with_reducible refine WEs.cons O ?_ (by with_unfolding_all rfl)
    with_reducible refine WE.name (by walk_at "m") ?_
    with_reducible refine WEs.cons O ?_ (by with_unfolding_all rfl)
    with_reducible refine WE.name (by walk_at "m") ?_
    with_reducible refine WEs.nil ?_
    refine ell_ok G (ao.mono (by decide)) (lim hlen.1) (lim hlen.2) fun g3 => ?_
    rw [eq_of_beq (List.all_eq_true.mp ok2 x hx)]
    with_reducible refine WE.name (by walk_at "m") ?_
    with_reducible refine WV.isnot_bool ?_
    with_reducible refine Exists.intro _ (And.intro rfl ?_)
    rw [bne_self]
    refine ⟨g2 ++ g3, by rw [List.append_assoc, List.cons_append], rfl, fun h => by cases h⟩
  rw [show its.filterMap (fun _ => (none : Option PV)) = [] by simp]
  with_reducible refine WE.list O ?_
  with_reducible refine WEs.nil ?_
  refine ⟨Nat.zero_le _, ?_⟩
  refine WV.eq_lst O (ao.mono (by decide)) (getElem?_ext (at_end ..) _) (at_end _ _ []) EqsOk.nil ?_
  show K' (.bool true) _
  obtain ⟨g, rfl⟩ := ex
  rw [List.append_assoc, List.append_assoc]
  exact hK _
end
end Mine
namespace Mine
noncomputable section
variable {w : World} {c : Cx} {A : Around} {μ : Mu}
abbrev rngL (n : Int) : List PV := (List.range (n - 0).toNat).map fun (k : Nat) => PV.int (0 + (k : Int))
abbrev lpBase (row : List Nat) (n k : Nat) : Rho := [("row", .str (S row)), ("twice", .loc n), ("k", .int (k : Nat)), ("lap", .str (S (lapB row k)))]
abbrev twL (row : List Nat) : List (List Nat) := (List.range 5).map (twiceB row)
theorem twL_get {row : List Nat} {k : Nat} (h : k < 5) : (strL (twL row))[k]? = some (.str (S (twiceB row k))) := by
  rw [strL_at, List.getElem?_map, List.getElem?_range h]; rfl
theorem laps_ok (G : G2 w c) (ao : AOk 2 A) {row : List Nat} (h5 : row.length = 5) (hok : lapsB row = true) {K' : PV → Mu → Prop} (hK : ∀ g, K' (.bool true) (μ ++ g)) : WC c A (.ref 158) [.str (S row)] μ K' := by
  have O := G.ok
  refine WC.defC (n := 1) O (def158 G) ao rfl (fun L => mem1 (by first | exact .inl rfl | exact .inr ⟨rfl, rfl⟩)) (fun L => rfl) (by decide) (fun L => mem1 (by first | exact .inl rfl | exact .inr ⟨rfl, rfl⟩)) fun L A ao => ?_
  show WSs c A _ _ [("row", .str (S row))] _ _
  refine WSs.cons O ?_
  with_reducible refine WS.assign_name O ?_ (.inr ⟨by with_unfolding_all rfl, by with_unfolding_all rfl⟩) (by with_unfolding_all rfl) (by with_unfolding_all rfl)
  refine WE.comp O (CompOk.one (x := "row") (cc := L + 1) (by with_unfolding_all rfl) rfl rfl (noCell rfl) (fun C => rfl) rfl (fun C => rfl) (.inl rfl) (by walk_at "m")) ?_ (fun _ => (by with_unfolding_all rfl))
  with_reducible refine WE.call_ty O (G2.n_range G) (G2.b_range G) ?_ (by with_unfolding_all rfl) (by with_unfolding_all rfl) (by with_unfolding_all rfl) (by with_unfolding_all rfl)
  with_reducible refine WEs.cons O ?_ (by with_unfolding_all rfl)
  with_reducible refine WE.int O ?_
  with_reducible refine WEs.nil ?_
  refine WC.range1 O ?_
  refine loopRng (by decide) ?_
  intro C
  have hr : row.length ≤ 1000000 := lim (Nat.le_of_eq h5)
  refine WCL.mapG (fun q => match q with | .int n => some (.str (S (twiceB row n.toNat))) | _ => none) (rngL 5) O (fun l g => nx_rng O ao.h _ _ _) (by decide) (fun q hq l g => ?_) fun g => ?_
  · obtain ⟨k, hk, rfl⟩ := rng_mem (n := 5) hq
    refine WAL.name O (by walk_at "u") rfl rfl ⟨(by walk_at "s"), WIfs.nil ⟨g, rfl, rfl, fun _ => ?_⟩⟩
    with_reducible refine WE.bin O ?_
    with_reducible refine WE.slice O ?_
    with_reducible refine WE.name (by walk_at "m") ?_
    with_reducible refine WPart.none ?_
    with_reducible refine WPart.some ?_
    with_reducible refine WE.bin O ?_
    with_reducible refine WE.name (by walk_at "m") ?_
    with_reducible refine WE.int O ?_
    with_reducible refine WV.add_nat O (by with_unfolding_all rfl) (by with_unfolding_all rfl) ?_
    with_reducible refine Exists.intro _ (And.intro rfl ?_)
    refine ⟨_, _, .str row hr, ?_⟩
    rw [cutL_to row (k + 1) (Nat.le_trans hk (Nat.le_of_eq h5.symm))]
    with_reducible refine WE.slice O ?_
    with_reducible refine WE.name (by walk_at "m") ?_
    with_reducible refine WPart.some ?_
    with_reducible refine WE.name (by walk_at "m") ?_
    with_reducible refine Exists.intro _ (And.intro rfl ?_)
    with_reducible refine WPart.none ?_
    refine ⟨_, _, .str row hr, ?_⟩
    rw [cutL_from row k (Nat.le_trans (Nat.le_of_lt hk) (Nat.le_of_eq h5.symm))]
    refine WV.add_S O ⟨Nat.le_trans (List.length_take_le ..) (Nat.le_trans hk (by decide)), by rw [List.length_drop, h5]; exact Nat.le_trans (Nat.sub_le ..) (by decide)⟩ ?_
    exact ⟨g, rfl, rfl⟩
  refine updE (by walk_at "u") ?_
  refine WSs.cons O ?_
  rw [show ((List.range (5 - 0 : Int).toNat).map fun (k : Nat) => PV.int (0 + (k : Int))).filterMap (fun q => match q with | .int n => some (PV.str (S (twiceB row n.toNat))) | _ => none) = strL (twL row) from rfl]
  refine WS.for_ O ?_ (fun _ => (by with_unfolding_all rfl))
  with_reducible refine WE.call_ty O (G2.n_range G) (G2.b_range G) ?_ (by with_unfolding_all rfl) (by with_unfolding_all rfl) (by with_unfolding_all rfl) (by with_unfolding_all rfl)
  with_reducible refine WEs.cons O ?_ (by with_unfolding_all rfl)
  with_reducible refine WE.int O ?_
  with_reducible refine WEs.nil ?_
  refine WC.range1 O ?_
  refine loopRng (by decide) ?_
  unfold lapsB at hok
  rw [Bool.and_eq_true] at hok
  obtain ⟨ok1, ok2⟩ := hok
  refine WL.inv (fun j ρ m => (∃ g, m = μ ++ .lst (strL (twL row)) :: g) ∧ ∀ y ∈ ([("row", .str (S row)), ("twice", .loc μ.length)] : Rho), y ∈ ρ) _ O ao.h ⟨⟨g, rfl⟩, (by walk_at "s")⟩ (fun j ρ m _ => ⟨rfl, fun i e => by cases e⟩) (fun k q ρ m hq hV => ?_) fun ρ m hV => ?_
  · obtain ⟨⟨g, rfl⟩, hs⟩ := hV
    obtain ⟨hk, rfl⟩ := rng_at (n := 5) hq
    have ok := List.all_eq_true.mp ok1 k (List.mem_range.mpr hk)
    unfold lapOk at ok
    simp only [Bool.and_eq_true] at ok
    obtain ⟨⟨⟨⟨a1, a2⟩, a3⟩, a4, a5⟩, a6⟩ := ok
    have a1 := eq_of_beq a1
    have a2 : ∀ m, m < 5 → ellB (lapB row k) (twiceB row m) = (m == k) := fun m hm => eq_of_beq (List.all_eq_true.mp a2 m (List.mem_range.mpr hm))
    have a4 := eq_of_beq a4
    have a5 := eq_of_beq a5
    have a6 : ∀ m, m < 5 → ellB row (putB row (row.getD k 0) (row.getD m 0)) = (m == k) := fun m hm => eq_of_beq (List.all_eq_true.mp a6 m (List.mem_range.mpr hm))
    refine WA.less (ρ' := [("row", .str (S row)), ("twice", .loc μ.length)]) hs (by show (["row", "twice"] : List Str).Nodup; decide) ?_
    refine WA.name O (by walk_at "u") (.inr ⟨(by with_unfolding_all rfl), (by with_unfolding_all rfl)⟩) rfl ?_
    refine WSs.cons O ?_
    with_reducible refine WS.assign_name O ?_ (.inr ⟨by with_unfolding_all rfl, by with_unfolding_all rfl⟩) (by with_unfolding_all rfl) (by with_unfolding_all rfl)
    with_reducible refine WE.bin O ?_
    with_reducible refine WE.bin O ?_
    with_reducible refine WE.slice O ?_
    with_reducible refine WE.name (by walk_at "m") ?_
    with_reducible refine WPart.none ?_
    with_reducible refine WPart.some ?_
    with_reducible refine WE.bin O ?_
    with_reducible refine WE.name (by walk_at "m") ?_
    with_reducible refine WE.int O ?_
    with_reducible refine WV.add_nat O (by with_unfolding_all rfl) (by with_unfolding_all rfl) ?_
    with_reducible refine Exists.intro _ (And.intro rfl ?_)
    refine ⟨_, _, .str row hr, ?_⟩
    rw [cutL_to row (k + 1) (Nat.le_trans hk (Nat.le_of_eq h5.symm))]
    with_reducible refine WE.strS (l := [46, 46, 46]) O (by with_unfolding_all rfl) ?_
    refine WV.add_S O ⟨Nat.le_trans (List.length_take_le ..) (by omega), by decide⟩ ?_
    with_reducible refine WE.slice O ?_
    with_reducible refine WE.name (by walk_at "m") ?_
    with_reducible refine WPart.some ?_
    with_reducible refine WE.name (by walk_at "m") ?_
    with_reducible refine Exists.intro _ (And.intro rfl ?_)
    with_reducible refine WPart.none ?_
    refine ⟨_, _, .str row hr, ?_⟩
    rw [cutL_from row k (Nat.le_trans (Nat.le_of_lt hk) (Nat.le_of_eq h5.symm))]
    refine WV.add_S O ⟨lapp (Nat.le_trans (List.length_take_le ..) hk) (Nat.le_refl 3), by rw [List.length_drop, h5]; exact Nat.le_trans (Nat.sub_le ..) (by decide)⟩ ?_
    rw [show row.take (k + 1) ++ [46, 46, 46] ++ row.drop k = lapB row k from rfl]
    have ll : (lapB row k).length ≤ 20 := by unfold lapB; simp; exact Nat.le_trans (Nat.add_le_add (Nat.min_le_right ..) (Nat.add_le_add_right (Nat.sub_le row.length k) 3)) (by rw [h5]; decide)
    have lt : ∀ m, m < 5 → (twiceB row m).length ≤ 20 := fun m hm => by unfold twiceB; simp; exact Nat.le_trans (Nat.add_le_add (Nat.min_le_right ..) (Nat.sub_le row.length m)) (by rw [h5]; decide)
    with_reducible refine updE (by walk_at "u") ?_
    with_reducible refine WSs.cons O ?_
    with_reducible refine WS.ite O ?_
    with_reducible refine WB.boolop ?_
    with_reducible refine WAll.or O ?_
    with_reducible refine WB.cmp1 O ?_ (by with_unfolding_all rfl)
    with_reducible refine WE.call_def O (G2.g28 G) (def28 G).fn ?_ (by with_unfolding_all rfl) (by with_unfolding_all rfl) (by with_unfolding_all rfl) (by with_unfolding_all rfl)
    with_reducible refine WEs.cons O ?_ (by with_unfolding_all rfl)
    with_reducible refine WE.name (by walk_at "m") ?_
    with_reducible refine WEs.cons O ?_ (by with_unfolding_all rfl)
    with_reducible refine WE.name (by walk_at "m") ?_
    with_reducible refine WEs.nil ?_
    refine ell_ok G (ao.mono (by decide)) (lim ll) (lim (Nat.le_of_eq h5)) fun g1 => ?_
    rw [a1]
    with_reducible refine WE.bool ?_
    with_reducible refine WV.isnot_bool ?_
    with_reducible refine Exists.intro _ (And.intro rfl ?_)
    refine iteF rfl ?_
    with_reducible refine WAll.or O ?_
    with_reducible refine WB.cmp1 O ?_ (by with_unfolding_all rfl)
    refine WE.comp O (CompOk.many (ρc := [("lap", .str (S (lapB row k))), ("twice", .loc μ.length), ("k", .int (k : Nat))]) (by with_unfolding_all rfl) rfl rfl (noCell rfl) (fun C => rfl) (mem3 rfl rfl rfl) (by walk_at "s") (mem3 ⟨rfl, fun C => rfl, rfl⟩ ⟨rfl, fun C => rfl, rfl⟩ ⟨rfl, fun C => rfl, rfl⟩) (by show (["lap", "twice", "k"] : List Str).Nodup; decide)) ?_ (fun _ => (by with_unfolding_all rfl))
    with_reducible refine WE.call_ty O (G2.n_range G) (G2.b_range G) ?_ (by with_unfolding_all rfl) (by with_unfolding_all rfl) (by with_unfolding_all rfl) (by with_unfolding_all rfl)
    with_reducible refine WEs.cons O ?_ (by with_unfolding_all rfl)
    with_reducible refine WE.int O ?_
    with_reducible refine WEs.nil ?_
    refine WC.range1 O ?_
    refine loopRng (by decide) ?_
    intro C2
    refine WCL.mapG (fun _ => none) (rngL 5) O (fun l g => nx_rng O ao.h _ _ _) (by decide) (fun q hq l g2 => ?_) fun g2 => ?_
    · obtain ⟨m, hm, rfl⟩ := rng_mem (n := 5) hq
      refine WAL.name O (by walk_at "u") rfl rfl ⟨(by walk_at "s"), WIfs.one ?_⟩
      with_reducible refine WB.cmp1 O ?_ (by with_unfolding_all rfl)
      with_reducible refine WE.call_def O (G2.g28 G) (def28 G).fn ?_ (by with_unfolding_all rfl) (by with_unfolding_all rfl) (by with_unfolding_all rfl) (by with_unfolding_all rfl)
      with_reducible refine WEs.cons O ?_ (by with_unfolding_all rfl)
      with_reducible refine WE.name (by walk_at "m") ?_
      with_reducible refine WEs.cons O ?_ (by with_unfolding_all rfl)
      with_reducible refine WE.sub O ?_ (fun _ _ => by with_unfolding_all rfl)
      with_reducible refine WE.name (by walk_at "m") ?_
      with_reducible refine WE.name (by walk_at "m") ?_
      have hi2 : (μ ++ MO.lst (strL (twL row)) :: g ++ g1 ++ MO.lst l :: g2)[μ.length]? = some (.lst (strL (twL row))) := getElem?_ext (getElem?_ext (at_end ..) _) _
      refine subLst hi2 (WV.item_lst hi2 (seq_nat (m := m) (n := 5) hm) (twL_get hm) (show 5 ≤ 1000000 by decide) ?_)
      with_reducible refine WEs.nil ?_
      refine ell_ok G (ao.mono (by decide)) (lim ll) (lim (lt m hm)) fun g3 => ?_
      with_reducible refine WE.cmp1 O ?_ (by with_unfolding_all rfl)
      with_reducible refine WE.name (by walk_at "m") ?_
      with_reducible refine WE.name (by walk_at "m") ?_
      with_reducible refine WV.eq_int ?_
      with_reducible refine WV.isnot_bool ?_
      with_reducible refine Exists.intro _ (And.intro rfl ?_)
      rw [a2 m hm, eq_cast, bne_self]
      refine ⟨g2 ++ g3, by rw [List.append_assoc, List.cons_append], rfl, fun h => by cases h⟩
    with_reducible refine WE.list O ?_
    with_reducible refine WEs.nil ?_
    refine ⟨Nat.zero_le _, ?_⟩
    refine WV.ne_lst O (ao.mono (by decide)) (getElem?_ext (at_end ..) _) (at_end _ _ []) EqsOk.nil ?_
    with_reducible refine Exists.intro _ (And.intro rfl ?_)
    refine iteF rfl (WAll.or_nil (iteF rfl (WSs.nil ?_)))
    rw [show μ ++ MO.lst (strL (twL row)) :: g ++ g1 ++ MO.lst (List.filterMap (fun x => none) (rngL 5)) :: g2 ++ [MO.lst []] = μ ++ MO.lst (strL (twL row)) :: (g ++ g1 ++ MO.lst (List.filterMap (fun x => none) (rngL 5)) :: g2 ++ [MO.lst []]) by simp]
    generalize (g ++ g1 ++ MO.lst (List.filterMap (fun x => none) (rngL 5)) :: g2 ++ [MO.lst []]) = g at *
    refine WSs.cons O ?_
    refine WS.for_ O ?_ (fun _ => (by with_unfolding_all rfl))
    with_reducible refine WE.list O ?_
    with_reducible refine WEs.cons O ?_ (by with_unfolding_all rfl)
    with_reducible refine WE.bin O ?_
    with_reducible refine WE.strS (l := [46, 46, 46]) O (by with_unfolding_all rfl) ?_
    with_reducible refine WE.name (by walk_at "m") ?_
    refine WV.add_S O ⟨by decide, lim ll⟩ ?_
    with_reducible refine WEs.cons O ?_ (by with_unfolding_all rfl)
    with_reducible refine WE.bin O ?_
    with_reducible refine WE.name (by walk_at "m") ?_
    with_reducible refine WE.strS (l := [46, 46, 46]) O (by with_unfolding_all rfl) ?_
    refine WV.add_S O ⟨lim ll, by decide⟩ ?_
    with_reducible refine WEs.cons O ?_ (by with_unfolding_all rfl)
    with_reducible refine WE.bin O ?_
    with_reducible refine WE.bin O ?_
    with_reducible refine WE.strS (l := [46, 46, 46]) O (by with_unfolding_all rfl) ?_
    with_reducible refine WE.name (by walk_at "m") ?_
    refine WV.add_S O ⟨by decide, lim ll⟩ ?_
    with_reducible refine WE.strS (l := [46, 46, 46]) O (by with_unfolding_all rfl) ?_
    refine WV.add_S O ⟨lapp (Nat.le_refl 3) ll, by decide⟩ ?_
    with_reducible refine WEs.nil ?_
    refine ⟨by show 3 ≤ 1000; decide, ?_⟩
    rw [show [PV.str (S ([46, 46, 46] ++ lapB row k)), PV.str (S (lapB row k ++ [46, 46, 46])), PV.str (S ([46, 46, 46] ++ lapB row k ++ [46, 46, 46]))] = strL [dots ++ lapB row k, lapB row k ++ dots, dots ++ lapB row k ++ dots] from rfl]
    have hws : ∀ wd ∈ [dots ++ lapB row k, lapB row k ++ dots, dots ++ lapB row k ++ dots], ellB wd row = false ∧ ellB wd (twiceB row k) = true ∧ wd.length ≤ 26 := fun wd hw => by
      have := List.all_eq_true.mp a3 wd hw
      rw [Bool.and_eq_true] at this
      refine ⟨eq_of_beq this.1, eq_of_beq this.2, ?_⟩
      simp only [List.mem_cons, List.not_mem_nil, or_false] at hw
      rcases hw with rfl | rfl | rfl
      · exact lapp (Nat.le_refl 3) ll
      · exact lapp ll (Nat.le_refl 3)
      · exact lapp (lapp (Nat.le_refl 3) ll (N := 23)) (Nat.le_refl 3)
    generalize [dots ++ lapB row k, lapB row k ++ dots, dots ++ lapB row k ++ dots] = ws at *
    refine loopLst (at_end ..) ?_
    refine WL.inv (fun j ρ m => (∃ g', m = (μ ++ MO.lst (strL (twL row)) :: g) ++ MO.lst (strL ws) :: g') ∧ ∀ y ∈ lpBase row μ.length k, y ∈ ρ) (strL ws) O ao.h ⟨⟨[], rfl⟩, (by walk_at "s")⟩ (fun j ρ m hV => ?_) (fun j q ρ m hq hV => ?_) fun ρ m hV => ?_
    · obtain ⟨⟨g', rfl⟩, _⟩ := hV
      exact ⟨by simp only [itemsOf]; rw [at_end], fun i e => by cases e; exact ⟨_, at_end ..⟩⟩
    · obtain ⟨⟨g', rfl⟩, hs⟩ := hV
      rw [strL_at] at hq
      cases hw : ws[j]? with
      | none => rw [hw] at hq; cases hq
      | some wd =>
        rw [hw] at hq
        cases hq
        obtain ⟨w1, w2, w3⟩ := hws wd (List.mem_of_getElem? hw)
        refine WA.less (ρ' := lpBase row μ.length k) hs (by show (["row", "twice", "k", "lap"] : List Str).Nodup; decide) ?_
        refine WA.name O (by walk_at "u") (.inl rfl) rfl ?_
        refine WSs.cons O ?_
        with_reducible refine WS.ite O ?_
        with_reducible refine WB.boolop ?_
        with_reducible refine WAll.or O ?_
        with_reducible refine WB.cmp1 O ?_ (by with_unfolding_all rfl)
        with_reducible refine WE.call_def O (G2.g28 G) (def28 G).fn ?_ (by with_unfolding_all rfl) (by with_unfolding_all rfl) (by with_unfolding_all rfl) (by with_unfolding_all rfl)
        with_reducible refine WEs.cons O ?_ (by with_unfolding_all rfl)
        with_reducible refine WE.name (by walk_at "m") ?_
        with_reducible refine WEs.cons O ?_ (by with_unfolding_all rfl)
        with_reducible refine WE.name (by walk_at "m") ?_
        with_reducible refine WEs.nil ?_
        refine ell_ok G (ao.mono (by decide)) (lim w3) (lim (Nat.le_of_eq h5)) fun g3 => ?_
        rw [w1]
        with_reducible refine WE.bool ?_
        with_reducible refine WV.isnot_bool ?_
        with_reducible refine Exists.intro _ (And.intro rfl ?_)
        refine iteF rfl ?_
        with_reducible refine WAll.or O ?_
        with_reducible refine WB.cmp1 O ?_ (by with_unfolding_all rfl)
        with_reducible refine WE.call_def O (G2.g28 G) (def28 G).fn ?_ (by with_unfolding_all rfl) (by with_unfolding_all rfl) (by with_unfolding_all rfl) (by with_unfolding_all rfl)
        with_reducible refine WEs.cons O ?_ (by with_unfolding_all rfl)
        with_reducible refine WE.name (by walk_at "m") ?_
        with_reducible refine WEs.cons O ?_ (by with_unfolding_all rfl)
        with_reducible refine WE.sub O ?_ (fun _ _ => by with_unfolding_all rfl)
        with_reducible refine WE.name (by walk_at "m") ?_
        with_reducible refine WE.name (by walk_at "m") ?_
        have hi2 : ((μ ++ MO.lst (strL (twL row)) :: g) ++ MO.lst (strL ws) :: g' ++ g3)[μ.length]? = some (.lst (strL (twL row))) := getElem?_ext (getElem?_ext (at_end ..) _) _
        refine subLst hi2 (WV.item_lst hi2 (seq_nat (m := k) (n := 5) hk) (twL_get hk) (show 5 ≤ 1000000 by decide) ?_)
        with_reducible refine WEs.nil ?_
        refine ell_ok G (ao.mono (by decide)) (lim w3) (lim (lt k hk)) fun g4 => ?_
        rw [w2]
        with_reducible refine WE.bool ?_
        with_reducible refine WV.isnot_bool ?_
        with_reducible refine Exists.intro _ (And.intro rfl ?_)
        refine iteF rfl (WAll.or_nil (iteF rfl (WSs.nil (WSs.nil ⟨⟨g' ++ g3 ++ g4, by simp⟩, (by walk_at "s")⟩))))
    obtain ⟨⟨g', rfl⟩, hs⟩ := hV
    refine WSs.less (ρ' := lpBase row μ.length k) hs (by show (["row", "twice", "k", "lap"] : List Str).Nodup; decide) ?_
    rw [List.append_assoc, List.cons_append]
    generalize (g ++ MO.lst (strL ws) :: g') = g at *
    refine WSs.cons O ?_
    with_reducible refine WS.ite O ?_
    with_reducible refine WB.boolop ?_
    with_reducible refine WAll.or O ?_
    with_reducible refine WB.cmp1 O ?_ (by with_unfolding_all rfl)
    with_reducible refine WE.call_def O (G2.g28 G) (def28 G).fn ?_ (by with_unfolding_all rfl) (by with_unfolding_all rfl) (by with_unfolding_all rfl) (by with_unfolding_all rfl)
    with_reducible refine WEs.cons O ?_ (by with_unfolding_all rfl)
    with_reducible refine WE.bin O ?_
    with_reducible refine WE.bin O ?_
    with_reducible refine WE.slice O ?_
    with_reducible refine WE.name (by walk_at "m") ?_
    with_reducible refine WPart.none ?_
    with_reducible refine WPart.some ?_
    with_reducible refine WE.name (by walk_at "m") ?_
    with_reducible refine Exists.intro _ (And.intro rfl ?_)
    refine ⟨_, _, .str row hr, ?_⟩
    rw [cutL_to row k (Nat.le_trans (Nat.le_of_lt hk) (Nat.le_of_eq h5.symm))]
    with_reducible refine WE.strS (l := [46, 46, 46]) O (by with_unfolding_all rfl) ?_
    refine WV.add_S O ⟨Nat.le_trans (List.length_take_le ..) (by omega), by decide⟩ ?_
    with_reducible refine WE.slice O ?_
    with_reducible refine WE.name (by walk_at "m") ?_
    with_reducible refine WPart.some ?_
    with_reducible refine WE.name (by walk_at "m") ?_
    with_reducible refine Exists.intro _ (And.intro rfl ?_)
    with_reducible refine WPart.none ?_
    refine ⟨_, _, .str row hr, ?_⟩
    rw [cutL_from row k (Nat.le_trans (Nat.le_of_lt hk) (Nat.le_of_eq h5.symm))]
    refine WV.add_S O ⟨lapp (Nat.le_trans (List.length_take_le ..) (Nat.le_of_lt hk)) (Nat.le_refl 3), by rw [List.length_drop, h5]; exact Nat.le_trans (Nat.sub_le ..) (by decide)⟩ ?_
    with_reducible refine WEs.cons O ?_ (by with_unfolding_all rfl)
    with_reducible refine WE.name (by walk_at "m") ?_
    with_reducible refine WEs.nil ?_
    refine ell_ok G (ao.mono (by decide)) (by simp; exact Nat.le_trans (Nat.add_le_add (Nat.min_le_right ..) (Nat.add_le_add_right (Nat.sub_le row.length k) 3)) (by rw [h5]; decide)) (lim (Nat.le_of_eq h5)) fun g3 => ?_
    rw [show row.take k ++ [46, 46, 46] ++ row.drop k = row.take k ++ dots ++ row.drop k from rfl, a4]
    with_reducible refine WE.bool ?_
    with_reducible refine WV.isnot_bool ?_
    with_reducible refine Exists.intro _ (And.intro rfl ?_)
    refine iteF rfl ?_
    with_reducible refine WAll.or O ?_
    with_reducible refine WB.cmp1 O ?_ (by with_unfolding_all rfl)
    with_reducible refine WE.call_def O (G2.g28 G) (def28 G).fn ?_ (by with_unfolding_all rfl) (by with_unfolding_all rfl) (by with_unfolding_all rfl) (by with_unfolding_all rfl)
    with_reducible refine WEs.cons O ?_ (by with_unfolding_all rfl)
    with_reducible refine WE.name (by walk_at "m") ?_
    with_reducible refine WEs.cons O ?_ (by with_unfolding_all rfl)
    with_reducible refine WE.sub O ?_ (fun _ _ => by with_unfolding_all rfl)
    with_reducible refine WE.name (by walk_at "m") ?_
    with_reducible refine WE.name (by walk_at "m") ?_
    have hi2 : ((μ ++ MO.lst (strL (twL row)) :: g) ++ g3)[μ.length]? = some (.lst (strL (twL row))) := getElem?_ext (at_end ..) _
    refine subLst hi2 (WV.item_lst hi2 (seq_nat (m := k) (n := 5) hk) (twL_get hk) (show 5 ≤ 1000000 by decide) ?_)
    with_reducible refine WEs.nil ?_
    refine ell_ok G (ao.mono (by decide)) (lim (Nat.le_of_eq h5)) (lim (lt k hk)) fun g4 => ?_
    rw [a5]
    with_reducible refine WE.bool ?_
    with_reducible refine WV.isnot_bool ?_
    with_reducible refine Exists.intro _ (And.intro rfl ?_)
    refine iteF rfl (WAll.or_nil (iteF rfl (WSs.nil ?_)))
    rw [show μ ++ MO.lst (strL (twL row)) :: g ++ g3 ++ g4 = μ ++ MO.lst (strL (twL row)) :: (g ++ g3 ++ g4) by simp]
    generalize (g ++ g3 ++ g4) = g at *
    refine WSs.cons O ?_
    with_reducible refine WS.ite O ?_
    with_reducible refine WB.cmp1 O ?_ (by with_unfolding_all rfl)
    refine WE.comp O (CompOk.many (ρc := [("row", .str (S row)), ("k", .int (k : Nat))]) (by with_unfolding_all rfl) rfl rfl (noCell rfl) (fun C => rfl) (mem2 rfl rfl) (by walk_at "s") (mem2 ⟨rfl, fun C => rfl, rfl⟩ ⟨rfl, fun C => rfl, rfl⟩) (by show (["row", "k"] : List Str).Nodup; decide)) ?_ (fun _ => (by with_unfolding_all rfl))
    with_reducible refine WE.call_ty O (G2.n_range G) (G2.b_range G) ?_ (by with_unfolding_all rfl) (by with_unfolding_all rfl) (by with_unfolding_all rfl) (by with_unfolding_all rfl)
    with_reducible refine WEs.cons O ?_ (by with_unfolding_all rfl)
    with_reducible refine WE.int O ?_
    with_reducible refine WEs.nil ?_
    refine WC.range1 O ?_
    refine loopRng (by decide) ?_
    intro C2
    have rk : ∀ m, m < 5 → row[m]? = some (row.getD m 0) := fun m hm => by rw [List.getD_eq_getElem?_getD, List.getElem?_eq_getElem (Nat.lt_of_lt_of_le hm (Nat.le_of_eq h5.symm))]; rfl
    refine WCL.mapG (fun _ => none) (rngL 5) O (fun l g => nx_rng O ao.h _ _ _) (by decide) (fun q hq l g2 => ?_) fun g2 => ?_
    · obtain ⟨m, hm, rfl⟩ := rng_mem (n := 5) hq
      refine WAL.name O (by walk_at "u") rfl rfl ⟨(by walk_at "s"), WIfs.one ?_⟩
      with_reducible refine WB.cmp1 O ?_ (by with_unfolding_all rfl)
      with_reducible refine WE.call_def O (G2.g28 G) (def28 G).fn ?_ (by with_unfolding_all rfl) (by with_unfolding_all rfl) (by with_unfolding_all rfl) (by with_unfolding_all rfl)
      with_reducible refine WEs.cons O ?_ (by with_unfolding_all rfl)
      with_reducible refine WE.name (by walk_at "m") ?_
      with_reducible refine WEs.cons O ?_ (by with_unfolding_all rfl)
      refine WE.replace O (WE.name (by walk_at "m") ⟨row, rfl, lim (Nat.le_of_eq h5), WF.item O (by walk_at "m") (by walk_at "m") (rk k hk) (lim (Nat.le_of_eq h5)) (WF.item O (by walk_at "m") (by walk_at "m") (rk m hm) (lim (Nat.le_of_eq h5)) ⟨by rw [S_length]; exact (show 1 ≤ 1000 by decide), ?_⟩)⟩) rfl rfl ⟨_, (by with_unfolding_all rfl)⟩
      rw [replace_sign]
      with_reducible refine WEs.nil ?_
      refine ell_ok G (ao.mono (by decide)) (lim (Nat.le_of_eq h5)) (by rw [List.length_map, h5]; decide) fun g3 => ?_
      rw [show ellB row (row.map fun t => if t = row.getD k 0 then row.getD m 0 else t) = (m == k) from a6 m hm]
      with_reducible refine WE.cmp1 O ?_ (by with_unfolding_all rfl)
      with_reducible refine WE.name (by walk_at "m") ?_
      with_reducible refine WE.name (by walk_at "m") ?_
      with_reducible refine WV.eq_int ?_
      with_reducible refine WV.isnot_bool ?_
      with_reducible refine Exists.intro _ (And.intro rfl ?_)
      rw [eq_cast, bne_self]
      refine ⟨g2 ++ g3, by rw [List.append_assoc, List.cons_append], rfl, fun h => by cases h⟩
    with_reducible refine WE.list O ?_
    with_reducible refine WEs.nil ?_
    refine ⟨Nat.zero_le _, ?_⟩
    refine WV.ne_lst O (ao.mono (by decide)) (getElem?_ext (at_end ..) _) (at_end _ _ []) EqsOk.nil ?_
    with_reducible refine Exists.intro _ (And.intro rfl ?_)
    refine iteF rfl (WSs.nil (WSs.nil ⟨⟨g ++ MO.lst (List.filterMap (fun x => none) (rngL 5)) :: g2 ++ [MO.lst []], by simp⟩, (by walk_at "s")⟩))
  · obtain ⟨⟨g, rfl⟩, hs⟩ := hV
    refine WSs.less (ρ' := [("row", .str (S row))]) (fun y hy => by rw [List.mem_singleton.mp hy]; exact hs _ (by walk_at "m")) (by show (["row"] : List Str).Nodup; decide) ?_
    exact laps_tail G ao h5 ok2 ⟨_, rfl⟩ hK L
end
end Mine
namespace Mine
noncomputable section
variable {w : World} {c : Cx} {A : Around} {μ : Mu}
/-- lists of ints, in a list -/
def IntLists (m : Mu) (as : List Nat) (ll : List (List Int)) : Prop := as.length = ll.length ∧ ∀ (j a : Nat) (l : List Int), as[j]? = some a → ll[j]? = some l → m[a]? = some (.lst (l.map .int))
theorem IntLists.more {m : Mu} {as : List Nat} {ll : List (List Int)} (h : IntLists m as ll) (g : Mu) : IntLists (m ++ g) as ll := ⟨h.1, fun j a l h1 h2 => getElem?_ext (h.2 j a l h1 h2) g⟩
def sg : PV → List Nat
  | .str x => x.cps.toList
  | _ => []
theorem itok_str (O : c.Ok) (x : List Nat) (m : Mu) : ItOk c A m (.str (S x)) := ItOk.std O ⟨⟨_, rfl⟩, (fun i e => by cases e), (fun lo hi e => by cases e)⟩
theorem mem_sign {x : List Nat} {q : PV} (h : q ∈ x.map signPV) : ∃ a, q = .str (S [a]) := by
  obtain ⟨a, _, rfl⟩ := List.mem_map.mp h
  exact ⟨a, rfl⟩
theorem flat_bools (low high : List Nat) (f : Nat → Nat → Bool) (F : PV → PV → PV) (hF : ∀ a c, F (.str (S [a])) (.str (S [c])) = .bool (f a c)) : ((low.map signPV).drop 0).flatMap (fun a => (high.map signPV).map (F a)) = (low.flatMap fun a => high.map fun c => f a c).map .bool := by
  rw [List.drop_zero, List.flatMap_map, List.map_flatMap]
  congr 1
  funext a
  rw [List.map_map, List.map_map]
  apply List.map_congr_left
  intro c _
  exact hF a c
theorem map_bools (low : List Nat) (f : Nat → Bool) (F : PV → Option PV) (hF : ∀ a, F (.str (S [a])) = some (.bool (f a))) : (low.map signPV).filterMap F = (low.map f).map .bool := by
  rw [List.filterMap_map, List.map_map]
  induction low with
  | nil => rfl
  | cons a r ih =>
    rw [List.filterMap_cons, List.map_cons, ih]
    have : (F ∘ signPV) a = some (.bool (f a)) := hF a
    rw [this]; rfl
def toldC (row low high : List Nat) (light : Nat) : List Int :=
  [((aheadB row low high light).count true : Nat), 1 - ((firstB row low light).count true : Nat), ((behindB row low high light).count true : Nat), 1 - ((lastB row low light).count true : Nat)]
theorem toldAt_eq (row order : List Nat) (k : Nat) : toldAt row order k = toldC row (order.take k) (order.drop (k + 1)) (order.getD k 0) := rfl
theorem ext_cons {μ m : Mu} {o : MO} (h : ∃ g, m = μ ++ o :: g) (x : Mu) : ∃ g, m ++ x = μ ++ o :: g := by
  obtain ⟨g, rfl⟩ := h
  exact ⟨g ++ x, by simp⟩
theorem sum_const (n : Nat) (l : List Nat) : (l.map fun _ => n).sum = l.length * n := by
  induction l with
  | nil => simp
  | cons a r ih => rw [List.map_cons, List.sum_cons, ih, List.length_cons, Nat.succ_mul, Nat.add_comm]
theorem IntLists.push {m : Mu} {as : List Nat} {n : Nat} {ll : List (List Int)} {l : List Int} (h : IntLists m as ll) (hT : m[n]? = some (.lst (as.map .loc))) (hne : ∀ x ∈ ll, x ≠ []) :
    IntLists ((m ++ [MO.lst (l.map PV.int)]).set n (MO.lst (as.map PV.loc ++ [PV.loc m.length]))) (as ++ [m.length]) (ll ++ [l]) := by
  have hn : n < m.length := (List.getElem?_eq_some_iff.mp hT).1
  refine ⟨by rw [List.length_append, List.length_append, h.1]; rfl, fun j a x h1 h2 => ?_⟩
  by_cases hj : j < as.length
  · rw [List.getElem?_append_left hj] at h1
    rw [List.getElem?_append_left (by rw [← h.1]; exact hj)] at h2
    have hx := h.2 j a x h1 h2
    have ha : n ≠ a := fun q => by
      subst q
      rw [hT] at hx
      have := hne x (List.mem_of_getElem? h2)
      cases x with
      | nil => exact this rfl
      | cons y r => cases as <;> cases hx
    rw [List.getElem?_set_ne ha]
    exact getElem?_ext hx _
  · have hj2 : j = as.length := by
      have := (List.getElem?_eq_some_iff.mp h1).1
      rw [List.length_append, List.length_singleton] at this
      omega
    subst hj2
    rw [List.getElem?_append_right (Nat.le_refl _), Nat.sub_self] at h1
    rw [h.1, List.getElem?_append_right (Nat.le_refl _), Nat.sub_self] at h2
    cases h1; cases h2
    rw [List.getElem?_set_ne (Nat.ne_of_lt hn)]
    exact at_end m _ []
theorem told_ok (G : G2 w c) (ao : AOk 2 A) {row order : List Nat} (hr : row.length ≤ 1000) (h5 : order.length = 5) {K' : PV → Mu → Prop} (hK : ∀ i m as, (∃ g, m = μ ++ g) → m[i]? = some (.lst (as.map .loc)) → IntLists m as (toldB row order) → K' (.loc i) m) : WC c A (.ref 148) [.str (S row), .str (S order)] μ K' := by
  have O := G.ok
  refine WC.defC (n := 1) O (def148 G) ao rfl (fun L => mem2 (by first | exact .inl rfl | exact .inr ⟨rfl, rfl⟩) (by first | exact .inl rfl | exact .inr ⟨rfl, rfl⟩)) (fun L => rfl) (by decide) (fun L => mem2 (by first | exact .inl rfl | exact .inr ⟨rfl, rfl⟩) (by first | exact .inl rfl | exact .inr ⟨rfl, rfl⟩)) fun L A ao => ?_
  show WSs c A _ _ [("row", .str (S row)), ("order", .str (S order))] _ _
  refine WSs.cons O ?_
  with_reducible refine WS.assign_name O ?_ (.inl (by with_unfolding_all rfl)) (by with_unfolding_all rfl) (by with_unfolding_all rfl)
  with_reducible refine WE.list O ?_
  with_reducible refine WEs.nil ?_
  refine ⟨Nat.zero_le _, ?_⟩
  with_reducible refine updE (by walk_at "u") ?_
  with_reducible refine WSs.cons O ?_
  refine WS.for_ O ?_ (fun _ => (by with_unfolding_all rfl))
  with_reducible refine WE.call_ty O (G2.n_range G) (G2.b_range G) ?_ (by with_unfolding_all rfl) (by with_unfolding_all rfl) (by with_unfolding_all rfl) (by with_unfolding_all rfl)
  with_reducible refine WEs.cons O ?_ (by with_unfolding_all rfl)
  with_reducible refine WE.int O ?_
  with_reducible refine WEs.nil ?_
  refine WC.range1 O ?_
  refine loopRng (by decide) ?_
  refine WL.inv (fun j ρ m => (∃ as g, m = μ ++ MO.lst (as.map .loc) :: g ∧ IntLists m as ((List.range j).map (toldAt row order))) ∧ ∀ y ∈ ([("row", .str (S row)), ("order", .str (S order)), ("told", .loc μ.length)] : Rho), y ∈ ρ) _ O ao.h ?_ (fun j ρ m _ => ⟨rfl, fun i e => by cases e⟩) (fun k q ρ m hq hV => ?_) fun ρ m hV => ?_
  · exact ⟨⟨[], [], rfl, rfl, fun j a l h _ => by cases h⟩, (by walk_at "s")⟩
  · obtain ⟨⟨as, g, rfl, hIL⟩, hs⟩ := hV
    obtain ⟨hk, rfl⟩ := rng_at (n := 5) hq
    refine WA.less (ρ' := [("row", .str (S row)), ("order", .str (S order)), ("told", .loc μ.length)]) hs (by show (["row", "order", "told"] : List Str).Nodup; decide) ?_
    refine WA.name O (by walk_at "u") (.inl rfl) rfl ?_
    refine WSs.cons O ?_
    have ho : order.length ≤ 1000000 := lim (Nat.le_of_eq h5)
    with_reducible refine WS.assign_tup O ?_ (by with_unfolding_all rfl) (by with_unfolding_all rfl)
    with_reducible refine WE.tuple O ?_
    with_reducible refine WEs.cons O ?_ (by with_unfolding_all rfl)
    with_reducible refine WE.sub O ?_ (fun _ _ => by with_unfolding_all rfl)
    with_reducible refine WE.name (by walk_at "m") ?_
    with_reducible refine WE.name (by walk_at "m") ?_
    with_reducible refine subStr ?_
    refine WV.item_str O (n := ((k : Nat) : Int)) (k := k) (q := order.getD k 0) (seq_nat (Nat.le_trans hk (Nat.le_of_eq h5.symm))) (by rw [List.getD_eq_getElem?_getD, List.getElem?_eq_getElem (Nat.le_trans hk (Nat.le_of_eq h5.symm))]; rfl) (natB (Nat.le_trans (Nat.le_of_lt hk) (by decide))) ?_
    with_reducible refine WEs.cons O ?_ (by with_unfolding_all rfl)
    with_reducible refine WE.slice O ?_
    with_reducible refine WE.name (by walk_at "m") ?_
    with_reducible refine WPart.none ?_
    with_reducible refine WPart.some ?_
    with_reducible refine WE.name (by walk_at "m") ?_
    with_reducible refine Exists.intro _ (And.intro rfl ?_)
    refine ⟨_, _, .str order ho, ?_⟩
    rw [cutL_to order k (Nat.le_trans (Nat.le_of_lt hk) (Nat.le_of_eq h5.symm))]
    with_reducible refine WEs.cons O ?_ (by with_unfolding_all rfl)
    with_reducible refine WE.slice O ?_
    with_reducible refine WE.name (by walk_at "m") ?_
    with_reducible refine WPart.some ?_
    with_reducible refine WE.bin O ?_
    with_reducible refine WE.name (by walk_at "m") ?_
    with_reducible refine WE.int O ?_
    with_reducible refine WV.add_nat O (by with_unfolding_all rfl) (by with_unfolding_all rfl) ?_
    with_reducible refine Exists.intro _ (And.intro rfl ?_)
    with_reducible refine WPart.none ?_
    refine ⟨_, _, .str order ho, ?_⟩
    rw [cutL_from order (k + 1) (Nat.le_trans hk (Nat.le_of_eq h5.symm))]
    with_reducible refine WEs.nil ?_
    refine ⟨show 3 ≤ 1000 by decide, ?_⟩
    refine WA.tuple O ao.h (by with_unfolding_all rfl) (by with_unfolding_all rfl) ?_
    refine WAs.cons O (WA.name O (by walk_at "u") (.inr ⟨(by with_unfolding_all rfl), (by with_unfolding_all rfl)⟩) rfl ?_)
    refine WAs.cons O (WA.name O (by walk_at "u") (.inl rfl) rfl ?_)
    refine WAs.cons O (WA.name O (by walk_at "u") (.inr ⟨(by with_unfolding_all rfl), (by with_unfolding_all rfl)⟩) rfl (WAs.nil ?_))
    have hlow : (order.take k).length ≤ 5 := Nat.le_trans (List.length_take_le ..) (Nat.le_of_lt hk)
    have hhigh : (order.drop (k + 1)).length ≤ 5 := by rw [List.length_drop, h5]; exact Nat.sub_le ..
    have hTA := toldAt_eq row order k
    generalize order.take k = low at *
    generalize order.drop (k + 1) = high at *
    generalize order.getD k 0 = light at *
    have hT := at_end μ (MO.lst (as.map .loc)) g
    obtain ⟨n, hn⟩ : ∃ n, n = μ.length := ⟨_, rfl⟩
    have ex : ∃ g', μ ++ MO.lst (as.map .loc) :: g = μ ++ MO.lst (as.map .loc) :: g' := ⟨g, rfl⟩
    generalize μ ++ MO.lst (as.map .loc) :: g = m0 at *
    refine WSs.cons O ?_
    refine WS.assign_compN O (CompOk.many (ρc := [("row", .str (S row)), ("light", .str (S [light])), ("high", .str (S high))]) (by with_unfolding_all rfl) rfl rfl (noCell rfl) (fun C => rfl) (mem3 rfl rfl rfl) (by walk_at "s") (mem3 ⟨rfl, fun C => rfl, rfl⟩ ⟨rfl, fun C => rfl, rfl⟩ ⟨rfl, fun C => rfl, rfl⟩) (by show (["row", "light", "high"] : List Str).Nodup; decide)) ?_ (fun _ => (by with_unfolding_all rfl)) rfl rfl (by with_unfolding_all rfl)
    refine WE.name (by walk_at "m") ⟨itok_str O _ _, fun C => ?_⟩
    refine WCL.all2 (fun p q => .bool (ellB (dots ++ sg q ++ sg p ++ dots ++ [light] ++ dots) row)) O (fun _ => (by with_unfolding_all rfl)) (fun l g => nx_str O ao.h low _) (its2 := high.map signPV) (by rw [List.length_map]; exact Nat.le_trans hhigh (by decide)) (fun q hq l g => ?_) (low.map signPV).length 0 [] [] rfl (by rw [List.length_map, List.length_map]; have := Nat.mul_le_mul hlow hhigh; simp; exact Nat.le_trans this (by decide)) fun g1 => ?_
    · obtain ⟨a, rfl⟩ := mem_sign hq
      refine WAL.name O (by walk_at "u") rfl rfl ⟨(by walk_at "s"), ?_⟩
      refine WE.name (by walk_at "m") ⟨rfl, itok_str O _ _, fun l g => nx_str O ao.h high _, fun q2 hq2 l g => ?_⟩
      obtain ⟨b, rfl⟩ := mem_sign hq2
      refine WAL.name O (by walk_at "u") rfl rfl ⟨(by walk_at "s"), ?_⟩
      with_reducible refine WE.call_def O (G2.g28 G) (def28 G).fn ?_ (by with_unfolding_all rfl) (by with_unfolding_all rfl) (by with_unfolding_all rfl) (by with_unfolding_all rfl)
      with_reducible refine WEs.cons O ?_ (by with_unfolding_all rfl)
      with_reducible refine WE.bin O ?_
      with_reducible refine WE.bin O ?_
      with_reducible refine WE.bin O ?_
      with_reducible refine WE.bin O ?_
      with_reducible refine WE.bin O ?_
      with_reducible refine WE.strS (l := [46, 46, 46]) O (by with_unfolding_all rfl) ?_
      with_reducible refine WE.name (by walk_at "m") ?_
      refine WV.add_S O ⟨by decide, show 1 ≤ 1000000 by decide⟩ ?_
      with_reducible refine WE.name (by walk_at "m") ?_
      refine WV.add_S O ⟨show 4 ≤ 1000000 by decide, show 1 ≤ 1000000 by decide⟩ ?_
      with_reducible refine WE.strS (l := [46, 46, 46]) O (by with_unfolding_all rfl) ?_
      refine WV.add_S O ⟨show 5 ≤ 1000000 by decide, show 3 ≤ 1000000 by decide⟩ ?_
      with_reducible refine WE.name (by walk_at "m") ?_
      refine WV.add_S O ⟨show 8 ≤ 1000000 by decide, show 1 ≤ 1000000 by decide⟩ ?_
      with_reducible refine WE.strS (l := [46, 46, 46]) O (by with_unfolding_all rfl) ?_
      refine WV.add_S O ⟨show 9 ≤ 1000000 by decide, show 3 ≤ 1000000 by decide⟩ ?_
      with_reducible refine WEs.cons O ?_ (by with_unfolding_all rfl)
      with_reducible refine WE.name (by walk_at "m") ?_
      with_reducible refine WEs.nil ?_
      refine ell_ok (want := [46, 46, 46] ++ [b] ++ [a] ++ [46, 46, 46] ++ [light] ++ [46, 46, 46]) G (ao.mono (by decide)) (Nat.le_of_ble_eq_true rfl) (lim hr) fun g3 => ?_
      exact ⟨g ++ g3, by rw [List.append_assoc, List.cons_append], rfl⟩
    rw [List.nil_append, flat_bools low high (fun a c => ellB (dots ++ [c] ++ [a] ++ dots ++ [light] ++ dots) row) _ (fun a c => rfl)]
    refine updE (by walk_at "u") ?_
    have hA := at_end m0 (MO.lst ((aheadB row low high light).map .bool)) g1
    rw [show (low.flatMap fun a => high.map fun c => ellB (dots ++ [c] ++ [a] ++ dots ++ [light] ++ dots) row) = aheadB row low high light from rfl]
    replace hT := getElem?_ext hT (MO.lst ((aheadB row low high light).map .bool) :: g1)
    replace hIL := hIL.more (MO.lst ((aheadB row low high light).map .bool) :: g1)
    replace ex := ext_cons ex (MO.lst ((aheadB row low high light).map .bool) :: g1)
    generalize m0 ++ MO.lst ((aheadB row low high light).map .bool) :: g1 = m1 at *
    generalize m0.length = nA at *
    -- first
    refine WSs.cons O ?_
    with_reducible refine WS.assign_name O ?_ (.inl (by with_unfolding_all rfl)) (by with_unfolding_all rfl) (by with_unfolding_all rfl)
    with_reducible refine WE.bin O ?_
    with_reducible refine WE.list O ?_
    with_reducible refine WEs.cons O ?_ (by with_unfolding_all rfl)
    with_reducible refine WE.call_def O (G2.g28 G) (def28 G).fn ?_ (by with_unfolding_all rfl) (by with_unfolding_all rfl) (by with_unfolding_all rfl) (by with_unfolding_all rfl)
    with_reducible refine WEs.cons O ?_ (by with_unfolding_all rfl)
    with_reducible refine WE.bin O ?_
    with_reducible refine WE.name (by walk_at "m") ?_
    with_reducible refine WE.strS (l := [46, 46, 46]) O (by with_unfolding_all rfl) ?_
    refine WV.add_S O ⟨show 1 ≤ 1000000 by decide, by decide⟩ ?_
    with_reducible refine WEs.cons O ?_ (by with_unfolding_all rfl)
    with_reducible refine WE.name (by walk_at "m") ?_
    with_reducible refine WEs.nil ?_
    refine ell_ok (want := [light] ++ [46, 46, 46]) G (ao.mono (by decide)) (Nat.le_of_ble_eq_true rfl) (lim hr) fun g2 => ?_
    with_reducible refine WEs.nil ?_
    refine ⟨show 1 ≤ 1000 by decide, ?_⟩
    replace hA := getElem?_ext (getElem?_ext hA g2) [MO.lst [PV.bool (ellB ([light] ++ dots) row)]]
    replace hT := getElem?_ext (getElem?_ext hT g2) [MO.lst [PV.bool (ellB ([light] ++ dots) row)]]
    replace hIL := (hIL.more g2).more [MO.lst [PV.bool (ellB ([light] ++ dots) row)]]
    replace ex := ext_cons (ext_cons ex g2) [MO.lst [PV.bool (ellB ([light] ++ dots) row)]]
    have hB := at_end (m1 ++ g2) (MO.lst [PV.bool (ellB ([light] ++ dots) row)]) []
    rw [show ellB ([light] ++ [46, 46, 46]) row = ellB ([light] ++ dots) row from rfl]
    generalize m1 ++ g2 ++ [MO.lst [PV.bool (ellB ([light] ++ dots) row)]] = m2 at *
    generalize (m1 ++ g2).length = nB at *
    refine WE.comp O (CompOk.many (ρc := [("row", .str (S row)), ("light", .str (S [light]))]) (by with_unfolding_all rfl) rfl rfl (noCell rfl) (fun C => rfl) (mem2 rfl rfl) (by walk_at "s") (mem2 ⟨rfl, fun C => rfl, rfl⟩ ⟨rfl, fun C => rfl, rfl⟩) (by show (["row", "light"] : List Str).Nodup; decide)) ?_ (fun _ => (by with_unfolding_all rfl))
    refine WE.name (by walk_at "m") (loopStr ?_)
    intro C2
    refine WCL.mapG (fun p => some (.bool (ellB (dots ++ sg p ++ [light] ++ dots) row))) (low.map signPV) O (fun l g => nx_str O ao.h low _) (by rw [List.length_map]; exact Nat.le_trans hlow (by decide)) (fun q hq l g => ?_) fun g1 => ?_
    · obtain ⟨a, rfl⟩ := mem_sign hq
      refine WAL.name O (by walk_at "u") rfl rfl ⟨(by walk_at "s"), WIfs.nil ⟨g, rfl, rfl, fun _ => ?_⟩⟩
      with_reducible refine WE.call_def O (G2.g28 G) (def28 G).fn ?_ (by with_unfolding_all rfl) (by with_unfolding_all rfl) (by with_unfolding_all rfl) (by with_unfolding_all rfl)
      with_reducible refine WEs.cons O ?_ (by with_unfolding_all rfl)
      with_reducible refine WE.bin O ?_
      with_reducible refine WE.bin O ?_
      with_reducible refine WE.bin O ?_
      with_reducible refine WE.strS (l := [46, 46, 46]) O (by with_unfolding_all rfl) ?_
      with_reducible refine WE.name (by walk_at "m") ?_
      refine WV.add_S O ⟨by decide, show 1 ≤ 1000000 by decide⟩ ?_
      with_reducible refine WE.name (by walk_at "m") ?_
      refine WV.add_S O ⟨show 4 ≤ 1000000 by decide, show 1 ≤ 1000000 by decide⟩ ?_
      with_reducible refine WE.strS (l := [46, 46, 46]) O (by with_unfolding_all rfl) ?_
      refine WV.add_S O ⟨show 5 ≤ 1000000 by decide, show 3 ≤ 1000000 by decide⟩ ?_
      with_reducible refine WEs.cons O ?_ (by with_unfolding_all rfl)
      with_reducible refine WE.name (by walk_at "m") ?_
      with_reducible refine WEs.nil ?_
      refine ell_ok (want := [46, 46, 46] ++ [a] ++ [light] ++ [46, 46, 46]) G (ao.mono (by decide)) (Nat.le_of_ble_eq_true rfl) (lim hr) fun g3 => ?_
      exact ⟨g ++ g3, by rw [List.append_assoc, List.cons_append], rfl⟩
    rw [map_bools low (fun a => ellB (dots ++ [a] ++ [light] ++ dots) row) _ (fun a => rfl)]
    refine WV.add_lst O (getElem?_ext hB _) (at_end ..) ⟨show 1 ≤ 1000000 by decide, by rw [List.length_map, List.length_map]; exact Nat.le_trans hlow (by decide)⟩ ?_
    refine updE (by walk_at "u") ?_
    have hF : (m2 ++ MO.lst ((low.map fun a => ellB (dots ++ [a] ++ [light] ++ dots) row).map .bool) :: g1 ++ [MO.lst ((firstB row low light).map .bool)])[(m2 ++ MO.lst ((low.map fun a => ellB (dots ++ [a] ++ [light] ++ dots) row).map .bool) :: g1).length]? = some (MO.lst ((firstB row low light).map .bool)) := at_end _ _ []
    rw [show ([PV.bool (ellB ([light] ++ dots) row)] ++ (low.map fun a => ellB (dots ++ [a] ++ [light] ++ dots) row).map .bool) = (firstB row low light).map .bool from rfl]
    replace hA := getElem?_ext (getElem?_ext hA (MO.lst ((low.map fun a => ellB (dots ++ [a] ++ [light] ++ dots) row).map .bool) :: g1)) [MO.lst ((firstB row low light).map .bool)]
    replace hT := getElem?_ext (getElem?_ext hT (MO.lst ((low.map fun a => ellB (dots ++ [a] ++ [light] ++ dots) row).map .bool) :: g1)) [MO.lst ((firstB row low light).map .bool)]
    replace hIL := (hIL.more (MO.lst ((low.map fun a => ellB (dots ++ [a] ++ [light] ++ dots) row).map .bool) :: g1)).more [MO.lst ((firstB row low light).map .bool)]
    replace ex := ext_cons (ext_cons ex (MO.lst ((low.map fun a => ellB (dots ++ [a] ++ [light] ++ dots) row).map .bool) :: g1)) [MO.lst ((firstB row low light).map .bool)]
    clear hB
    generalize m2 ++ MO.lst ((low.map fun a => ellB (dots ++ [a] ++ [light] ++ dots) row).map .bool) :: g1 ++ [MO.lst ((firstB row low light).map .bool)] = m3 at *
    generalize (m2 ++ MO.lst ((low.map fun a => ellB (dots ++ [a] ++ [light] ++ dots) row).map .bool) :: g1).length = nF at *
    -- behind
    refine WSs.cons O ?_
    refine WS.assign_compN O (CompOk.many (ρc := [("row", .str (S row)), ("light", .str (S [light])), ("high", .str (S high))]) (by with_unfolding_all rfl) rfl rfl (noCell rfl) (fun C => rfl) (mem3 rfl rfl rfl) (by walk_at "s") (mem3 ⟨rfl, fun C => rfl, rfl⟩ ⟨rfl, fun C => rfl, rfl⟩ ⟨rfl, fun C => rfl, rfl⟩) (by show (["row", "light", "high"] : List Str).Nodup; decide)) ?_ (fun _ => (by with_unfolding_all rfl)) rfl rfl (by with_unfolding_all rfl)
    refine WE.name (by walk_at "m") ⟨itok_str O _ _, fun C => ?_⟩
    refine WCL.all2 (fun p q => .bool (ellB (dots ++ [light] ++ dots ++ sg p ++ sg q ++ dots) row)) O (fun _ => (by with_unfolding_all rfl)) (fun l g => nx_str O ao.h low _) (its2 := high.map signPV) (by rw [List.length_map]; exact Nat.le_trans hhigh (by decide)) (fun q hq l g => ?_) (low.map signPV).length 0 [] [] rfl (by rw [List.length_map, List.length_map]; have := Nat.mul_le_mul hlow hhigh; simp; exact Nat.le_trans this (by decide)) fun g1 => ?_
    · obtain ⟨a, rfl⟩ := mem_sign hq
      refine WAL.name O (by walk_at "u") rfl rfl ⟨(by walk_at "s"), ?_⟩
      refine WE.name (by walk_at "m") ⟨rfl, itok_str O _ _, fun l g => nx_str O ao.h high _, fun q2 hq2 l g => ?_⟩
      obtain ⟨b, rfl⟩ := mem_sign hq2
      refine WAL.name O (by walk_at "u") rfl rfl ⟨(by walk_at "s"), ?_⟩
      with_reducible refine WE.call_def O (G2.g28 G) (def28 G).fn ?_ (by with_unfolding_all rfl) (by with_unfolding_all rfl) (by with_unfolding_all rfl) (by with_unfolding_all rfl)
      with_reducible refine WEs.cons O ?_ (by with_unfolding_all rfl)
      with_reducible refine WE.bin O ?_
      with_reducible refine WE.bin O ?_
      with_reducible refine WE.bin O ?_
      with_reducible refine WE.bin O ?_
      with_reducible refine WE.bin O ?_
      with_reducible refine WE.strS (l := [46, 46, 46]) O (by with_unfolding_all rfl) ?_
      with_reducible refine WE.name (by walk_at "m") ?_
      refine WV.add_S O ⟨by decide, show 1 ≤ 1000000 by decide⟩ ?_
      with_reducible refine WE.strS (l := [46, 46, 46]) O (by with_unfolding_all rfl) ?_
      refine WV.add_S O ⟨show 4 ≤ 1000000 by decide, show 3 ≤ 1000000 by decide⟩ ?_
      with_reducible refine WE.name (by walk_at "m") ?_
      refine WV.add_S O ⟨show 7 ≤ 1000000 by decide, show 1 ≤ 1000000 by decide⟩ ?_
      with_reducible refine WE.name (by walk_at "m") ?_
      refine WV.add_S O ⟨show 8 ≤ 1000000 by decide, show 1 ≤ 1000000 by decide⟩ ?_
      with_reducible refine WE.strS (l := [46, 46, 46]) O (by with_unfolding_all rfl) ?_
      refine WV.add_S O ⟨show 9 ≤ 1000000 by decide, show 3 ≤ 1000000 by decide⟩ ?_
      with_reducible refine WEs.cons O ?_ (by with_unfolding_all rfl)
      with_reducible refine WE.name (by walk_at "m") ?_
      with_reducible refine WEs.nil ?_
      refine ell_ok (want := [46, 46, 46] ++ [light] ++ [46, 46, 46] ++ [a] ++ [b] ++ [46, 46, 46]) G (ao.mono (by decide)) (Nat.le_of_ble_eq_true rfl) (lim hr) fun g3 => ?_
      exact ⟨g ++ g3, by rw [List.append_assoc, List.cons_append], rfl⟩
    rw [List.nil_append, flat_bools low high (fun a c => ellB (dots ++ [light] ++ dots ++ [a] ++ [c] ++ dots) row) _ (fun a c => rfl)]
    refine updE (by walk_at "u") ?_
    have hD := at_end m3 (MO.lst ((behindB row low high light).map .bool)) g1
    rw [show (low.flatMap fun a => high.map fun c => ellB (dots ++ [light] ++ dots ++ [a] ++ [c] ++ dots) row) = behindB row low high light from rfl]
    replace hA := getElem?_ext hA (MO.lst ((behindB row low high light).map .bool) :: g1)
    replace hF := getElem?_ext hF (MO.lst ((behindB row low high light).map .bool) :: g1)
    replace hT := getElem?_ext hT (MO.lst ((behindB row low high light).map .bool) :: g1)
    replace hIL := hIL.more (MO.lst ((behindB row low high light).map .bool) :: g1)
    replace ex := ext_cons ex (MO.lst ((behindB row low high light).map .bool) :: g1)
    generalize m3 ++ MO.lst ((behindB row low high light).map .bool) :: g1 = m4 at *
    generalize m3.length = nD at *
    -- last
    refine WSs.cons O ?_
    with_reducible refine WS.assign_name O ?_ (.inl (by with_unfolding_all rfl)) (by with_unfolding_all rfl) (by with_unfolding_all rfl)
    with_reducible refine WE.bin O ?_
    with_reducible refine WE.list O ?_
    with_reducible refine WEs.cons O ?_ (by with_unfolding_all rfl)
    with_reducible refine WE.call_def O (G2.g28 G) (def28 G).fn ?_ (by with_unfolding_all rfl) (by with_unfolding_all rfl) (by with_unfolding_all rfl) (by with_unfolding_all rfl)
    with_reducible refine WEs.cons O ?_ (by with_unfolding_all rfl)
    with_reducible refine WE.bin O ?_
    with_reducible refine WE.strS (l := [46, 46, 46]) O (by with_unfolding_all rfl) ?_
    with_reducible refine WE.name (by walk_at "m") ?_
    refine WV.add_S O ⟨by decide, show 1 ≤ 1000000 by decide⟩ ?_
    with_reducible refine WEs.cons O ?_ (by with_unfolding_all rfl)
    with_reducible refine WE.name (by walk_at "m") ?_
    with_reducible refine WEs.nil ?_
    refine ell_ok (want := [46, 46, 46] ++ [light]) G (ao.mono (by decide)) (Nat.le_of_ble_eq_true rfl) (lim hr) fun g2 => ?_
    with_reducible refine WEs.nil ?_
    refine ⟨show 1 ≤ 1000 by decide, ?_⟩
    replace hA := getElem?_ext (getElem?_ext hA g2) [MO.lst [PV.bool (ellB (dots ++ [light]) row)]]
    replace hF := getElem?_ext (getElem?_ext hF g2) [MO.lst [PV.bool (ellB (dots ++ [light]) row)]]
    replace hD := getElem?_ext (getElem?_ext hD g2) [MO.lst [PV.bool (ellB (dots ++ [light]) row)]]
    replace hT := getElem?_ext (getElem?_ext hT g2) [MO.lst [PV.bool (ellB (dots ++ [light]) row)]]
    replace hIL := (hIL.more g2).more [MO.lst [PV.bool (ellB (dots ++ [light]) row)]]
    replace ex := ext_cons (ext_cons ex g2) [MO.lst [PV.bool (ellB (dots ++ [light]) row)]]
    have hB := at_end (m4 ++ g2) (MO.lst [PV.bool (ellB (dots ++ [light]) row)]) []
    rw [show ellB ([46, 46, 46] ++ [light]) row = ellB (dots ++ [light]) row from rfl]
    generalize m4 ++ g2 ++ [MO.lst [PV.bool (ellB (dots ++ [light]) row)]] = m5 at *
    generalize (m4 ++ g2).length = nB at *
    refine WE.comp O (CompOk.many (ρc := [("row", .str (S row)), ("light", .str (S [light]))]) (by with_unfolding_all rfl) rfl rfl (noCell rfl) (fun C => rfl) (mem2 rfl rfl) (by walk_at "s") (mem2 ⟨rfl, fun C => rfl, rfl⟩ ⟨rfl, fun C => rfl, rfl⟩) (by show (["row", "light"] : List Str).Nodup; decide)) ?_ (fun _ => (by with_unfolding_all rfl))
    refine WE.name (by walk_at "m") (loopStr ?_)
    intro C2
    refine WCL.mapG (fun p => some (.bool (ellB (dots ++ [light] ++ sg p ++ dots) row))) (low.map signPV) O (fun l g => nx_str O ao.h low _) (by rw [List.length_map]; exact Nat.le_trans hlow (by decide)) (fun q hq l g => ?_) fun g1 => ?_
    · obtain ⟨a, rfl⟩ := mem_sign hq
      refine WAL.name O (by walk_at "u") rfl rfl ⟨(by walk_at "s"), WIfs.nil ⟨g, rfl, rfl, fun _ => ?_⟩⟩
      with_reducible refine WE.call_def O (G2.g28 G) (def28 G).fn ?_ (by with_unfolding_all rfl) (by with_unfolding_all rfl) (by with_unfolding_all rfl) (by with_unfolding_all rfl)
      with_reducible refine WEs.cons O ?_ (by with_unfolding_all rfl)
      with_reducible refine WE.bin O ?_
      with_reducible refine WE.bin O ?_
      with_reducible refine WE.bin O ?_
      with_reducible refine WE.strS (l := [46, 46, 46]) O (by with_unfolding_all rfl) ?_
      with_reducible refine WE.name (by walk_at "m") ?_
      refine WV.add_S O ⟨by decide, show 1 ≤ 1000000 by decide⟩ ?_
      with_reducible refine WE.name (by walk_at "m") ?_
      refine WV.add_S O ⟨show 4 ≤ 1000000 by decide, show 1 ≤ 1000000 by decide⟩ ?_
      with_reducible refine WE.strS (l := [46, 46, 46]) O (by with_unfolding_all rfl) ?_
      refine WV.add_S O ⟨show 5 ≤ 1000000 by decide, show 3 ≤ 1000000 by decide⟩ ?_
      with_reducible refine WEs.cons O ?_ (by with_unfolding_all rfl)
      with_reducible refine WE.name (by walk_at "m") ?_
      with_reducible refine WEs.nil ?_
      refine ell_ok (want := [46, 46, 46] ++ [light] ++ [a] ++ [46, 46, 46]) G (ao.mono (by decide)) (Nat.le_of_ble_eq_true rfl) (lim hr) fun g3 => ?_
      exact ⟨g ++ g3, by rw [List.append_assoc, List.cons_append], rfl⟩
    rw [map_bools low (fun a => ellB (dots ++ [light] ++ [a] ++ dots) row) _ (fun a => rfl)]
    refine WV.add_lst O (getElem?_ext hB _) (at_end ..) ⟨show 1 ≤ 1000000 by decide, by rw [List.length_map, List.length_map]; exact Nat.le_trans hlow (by decide)⟩ ?_
    refine updE (by walk_at "u") ?_
    have hE : (m5 ++ MO.lst ((low.map fun a => ellB (dots ++ [light] ++ [a] ++ dots) row).map .bool) :: g1 ++ [MO.lst ((lastB row low light).map .bool)])[(m5 ++ MO.lst ((low.map fun a => ellB (dots ++ [light] ++ [a] ++ dots) row).map .bool) :: g1).length]? = some (MO.lst ((lastB row low light).map .bool)) := at_end _ _ []
    rw [show ([PV.bool (ellB (dots ++ [light]) row)] ++ (low.map fun a => ellB (dots ++ [light] ++ [a] ++ dots) row).map .bool) = (lastB row low light).map .bool from rfl]
    replace hA := getElem?_ext (getElem?_ext hA (MO.lst ((low.map fun a => ellB (dots ++ [light] ++ [a] ++ dots) row).map .bool) :: g1)) [MO.lst ((lastB row low light).map .bool)]
    replace hF := getElem?_ext (getElem?_ext hF (MO.lst ((low.map fun a => ellB (dots ++ [light] ++ [a] ++ dots) row).map .bool) :: g1)) [MO.lst ((lastB row low light).map .bool)]
    replace hD := getElem?_ext (getElem?_ext hD (MO.lst ((low.map fun a => ellB (dots ++ [light] ++ [a] ++ dots) row).map .bool) :: g1)) [MO.lst ((lastB row low light).map .bool)]
    replace hT := getElem?_ext (getElem?_ext hT (MO.lst ((low.map fun a => ellB (dots ++ [light] ++ [a] ++ dots) row).map .bool) :: g1)) [MO.lst ((lastB row low light).map .bool)]
    replace hIL := (hIL.more (MO.lst ((low.map fun a => ellB (dots ++ [light] ++ [a] ++ dots) row).map .bool) :: g1)).more [MO.lst ((lastB row low light).map .bool)]
    replace ex := ext_cons (ext_cons ex (MO.lst ((low.map fun a => ellB (dots ++ [light] ++ [a] ++ dots) row).map .bool) :: g1)) [MO.lst ((lastB row low light).map .bool)]
    clear hB
    generalize m5 ++ MO.lst ((low.map fun a => ellB (dots ++ [light] ++ [a] ++ dots) row).map .bool) :: g1 ++ [MO.lst ((lastB row low light).map .bool)] = m6 at *
    generalize (m5 ++ MO.lst ((low.map fun a => ellB (dots ++ [light] ++ [a] ++ dots) row).map .bool) :: g1).length = nE at *
    refine WSs.cons O ?_
    with_reducible refine WS.ite O ?_
    with_reducible refine WB.cmp1 O ?_ (by with_unfolding_all rfl)
    have lA : ((aheadB row low high light).map PV.bool).length ≤ 25 := by
      rw [List.length_map]; unfold aheadB; rw [List.length_flatMap]; simp only [List.length_map]; rw [sum_const]; exact Nat.mul_le_mul hlow hhigh
    have lF : ((firstB row low light).map PV.bool).length ≤ 6 := by rw [List.length_map]; unfold firstB; simp; exact hlow
    have lD : ((behindB row low high light).map PV.bool).length ≤ 25 := by
      rw [List.length_map]; unfold behindB; rw [List.length_flatMap]; simp only [List.length_map]; rw [sum_const]; exact Nat.mul_le_mul hlow hhigh
    have lE : ((lastB row low light).map PV.bool).length ≤ 6 := by rw [List.length_map]; unfold lastB; simp; exact hlow
    generalize hbA : aheadB row low high light = bA at *
    generalize hbF : firstB row low light = bF at *
    generalize hbD : behindB row low high light = bD at *
    generalize hbE : lastB row low light = bE at *
    refine WE.comp O (CompOk.plain (by with_unfolding_all rfl) rfl rfl (noCell rfl) (fun C => rfl)) ?_ (fun _ => (by with_unfolding_all rfl))
    with_reducible refine WE.bin O ?_
    with_reducible refine WE.bin O ?_
    with_reducible refine WE.bin O ?_
    with_reducible refine WE.name (by walk_at "m") ?_
    with_reducible refine WE.name (by walk_at "m") ?_
    refine WV.add_lst O hA hF ⟨lim lA, lim lF⟩ ?_
    refine WE.name (by walk_at "m") ?_
    refine WV.add_lst O (at_end m6 (MO.lst (bA.map PV.bool ++ bF.map PV.bool)) []) (getElem?_ext hD _) ⟨by rw [List.length_append]; exact Nat.le_trans (Nat.add_le_add lA lF) (by decide), lim lD⟩ ?_
    refine WE.name (by walk_at "m") ?_
    refine WV.add_lst O (at_end (m6 ++ [MO.lst (bA.map PV.bool ++ bF.map PV.bool)]) (MO.lst (bA.map PV.bool ++ bF.map PV.bool ++ bD.map PV.bool)) []) (getElem?_ext (getElem?_ext hE _) _) ⟨by rw [List.length_append, List.length_append]; exact Nat.le_trans (Nat.add_le_add (Nat.add_le_add lA lF) lD) (by decide), lim lE⟩ ?_
    have hl := at_end (m6 ++ [MO.lst (bA.map PV.bool ++ bF.map PV.bool)] ++ [MO.lst (bA.map PV.bool ++ bF.map PV.bool ++ bD.map PV.bool)]) (MO.lst (bA.map PV.bool ++ bF.map PV.bool ++ bD.map PV.bool ++ bE.map PV.bool)) []
    have hm : ∃ g, m6 ++ [MO.lst (bA.map PV.bool ++ bF.map PV.bool)] ++ [MO.lst (bA.map PV.bool ++ bF.map PV.bool ++ bD.map PV.bool)] ++ [MO.lst (bA.map PV.bool ++ bF.map PV.bool ++ bD.map PV.bool ++ bE.map PV.bool)] = m6 ++ g := ⟨_, by rw [List.append_assoc, List.append_assoc]⟩
    generalize m6 ++ [MO.lst (bA.map PV.bool ++ bF.map PV.bool)] ++ [MO.lst (bA.map PV.bool ++ bF.map PV.bool ++ bD.map PV.bool)] ++ [MO.lst (bA.map PV.bool ++ bF.map PV.bool ++ bD.map PV.bool ++ bE.map PV.bool)] = m7 at *
    generalize (m6 ++ [MO.lst (bA.map PV.bool ++ bF.map PV.bool)] ++ [MO.lst (bA.map PV.bool ++ bF.map PV.bool ++ bD.map PV.bool)]).length = nS at *
    rw [show bA.map PV.bool ++ bF.map PV.bool ++ bD.map PV.bool ++ bE.map PV.bool = (bA ++ bF ++ bD ++ bE).map PV.bool by simp] at hl
    have lS : ((bA ++ bF ++ bD ++ bE).map PV.bool).length ≤ 1000000 := by
      rw [List.length_map] at lA lF lD lE
      rw [List.length_map, List.length_append, List.length_append, List.length_append]; exact Nat.le_trans (Nat.add_le_add (Nat.add_le_add (Nat.add_le_add lA lF) lD) lE) (by decide)
    obtain ⟨g7, rfl⟩ := hm
    generalize bA ++ bF ++ bD ++ bE = bS at *
    refine loopLst hl ?_
    intro C3
    refine WCL.mapG (fun _ => none) (bS.map PV.bool) O (fun l g => nx_lst O ao.h hl (.lst l :: g)) lS (fun q hq l g => ?_) fun g => ?_
    · obtain ⟨b, _, rfl⟩ := List.mem_map.mp hq
      refine WAL.name O (by walk_at "u") rfl rfl ⟨(by walk_at "s"), WIfs.one ?_⟩
      with_reducible refine WB.boolop ?_
      with_reducible refine WAll.and O ?_
      with_reducible refine WB.cmp1 O ?_ (by with_unfolding_all rfl)
      with_reducible refine WE.name (by walk_at "m") ?_
      with_reducible refine WE.bool ?_
      with_reducible refine WV.isnot_bool ?_
      with_reducible refine Exists.intro _ (And.intro rfl ?_)
      cases b
      · refine iteT rfl ?_
        with_reducible refine WAll.and O ?_
        with_reducible refine WB.cmp1 O ?_ (by with_unfolding_all rfl)
        with_reducible refine WE.name (by walk_at "m") ?_
        with_reducible refine WE.bool ?_
        with_reducible refine WV.isnot_bool ?_
        with_reducible refine Exists.intro _ (And.intro rfl ?_)
        exact iteF rfl ⟨g, rfl, rfl, fun h => by cases h⟩
      · exact iteF rfl ⟨g, rfl, rfl, fun h => by cases h⟩
    rw [show (bS.map PV.bool).filterMap (fun _ => (none : Option PV)) = [] by simp]
    with_reducible refine WE.list O ?_
    with_reducible refine WEs.nil ?_
    refine ⟨Nat.zero_le _, ?_⟩
    refine WV.ne_lst O (ao.mono (by decide)) (getElem?_ext (at_end ..) _) (at_end _ _ []) EqsOk.nil ?_
    with_reducible refine Exists.intro _ (And.intro rfl ?_)
    refine iteF rfl (WSs.nil ?_)
    rw [show m6 ++ g7 ++ MO.lst [] :: g ++ [MO.lst []] = m6 ++ (g7 ++ MO.lst [] :: g ++ [MO.lst []]) by simp]
    replace hA := getElem?_ext hA (g7 ++ MO.lst [] :: g ++ [MO.lst []])
    replace hF := getElem?_ext hF (g7 ++ MO.lst [] :: g ++ [MO.lst []])
    replace hD := getElem?_ext hD (g7 ++ MO.lst [] :: g ++ [MO.lst []])
    replace hE := getElem?_ext hE (g7 ++ MO.lst [] :: g ++ [MO.lst []])
    replace hT := getElem?_ext hT (g7 ++ MO.lst [] :: g ++ [MO.lst []])
    replace hIL := hIL.more (g7 ++ MO.lst [] :: g ++ [MO.lst []])
    replace ex := ext_cons ex (g7 ++ MO.lst [] :: g ++ [MO.lst []])
    clear hl
    generalize m6 ++ (g7 ++ MO.lst [] :: g ++ [MO.lst []]) = m8 at *
    refine WSs.cons O ?_
    with_reducible refine WS.expr O ?_ (by with_unfolding_all rfl) (by with_unfolding_all rfl)
    with_reducible refine WE.meth O F.plainAttrs_list F.slot_list_append F.type_list_append ?_ (by with_unfolding_all rfl) ⟨_, by with_unfolding_all rfl⟩
    with_reducible refine WE.name (by walk_at "m") ?_
    refine kindLst hT ?_
    with_reducible refine WEs.cons O ?_ (by with_unfolding_all rfl)
    with_reducible refine WE.list O ?_
    with_reducible refine WEs.cons O ?_ (by with_unfolding_all rfl)
    with_reducible refine WE.meth O F.plainAttrs_list F.slot_list_count F.type_list_count ?_ (by with_unfolding_all rfl) ⟨_, by with_unfolding_all rfl⟩
    with_reducible refine WE.name (by walk_at "m") ?_
    refine kindLst hA ?_
    with_reducible refine WEs.cons O ?_ (by with_unfolding_all rfl)
    with_reducible refine WE.bool ?_
    with_reducible refine WEs.nil ?_
    refine WC.count_bools O hA ?_
    with_reducible refine WEs.cons O ?_ (by with_unfolding_all rfl)
    with_reducible refine WE.bin O ?_
    with_reducible refine WE.int O ?_
    with_reducible refine WE.meth O F.plainAttrs_list F.slot_list_count F.type_list_count ?_ (by with_unfolding_all rfl) ⟨_, by with_unfolding_all rfl⟩
    with_reducible refine WE.name (by walk_at "m") ?_
    refine kindLst hF ?_
    with_reducible refine WEs.cons O ?_ (by with_unfolding_all rfl)
    with_reducible refine WE.bool ?_
    with_reducible refine WEs.nil ?_
    refine WC.count_bools O hF ?_
    with_reducible refine WV.sub_int O ?_
    with_reducible refine WEs.cons O ?_ (by with_unfolding_all rfl)
    with_reducible refine WE.meth O F.plainAttrs_list F.slot_list_count F.type_list_count ?_ (by with_unfolding_all rfl) ⟨_, by with_unfolding_all rfl⟩
    with_reducible refine WE.name (by walk_at "m") ?_
    refine kindLst hD ?_
    with_reducible refine WEs.cons O ?_ (by with_unfolding_all rfl)
    with_reducible refine WE.bool ?_
    with_reducible refine WEs.nil ?_
    refine WC.count_bools O hD ?_
    with_reducible refine WEs.cons O ?_ (by with_unfolding_all rfl)
    with_reducible refine WE.bin O ?_
    with_reducible refine WE.int O ?_
    with_reducible refine WE.meth O F.plainAttrs_list F.slot_list_count F.type_list_count ?_ (by with_unfolding_all rfl) ⟨_, by with_unfolding_all rfl⟩
    with_reducible refine WE.name (by walk_at "m") ?_
    refine kindLst hE ?_
    with_reducible refine WEs.cons O ?_ (by with_unfolding_all rfl)
    with_reducible refine WE.bool ?_
    with_reducible refine WEs.nil ?_
    refine WC.count_bools O hE ?_
    with_reducible refine WV.sub_int O ?_
    with_reducible refine WEs.nil ?_
    refine ⟨show 4 ≤ 1000 by decide, ?_⟩
    with_reducible refine WEs.nil ?_
    have hlen : as.length = k := by rw [hIL.1, List.length_map, List.length_range]
    refine WC.append O (getElem?_ext hT _) (by rw [List.length_map, hlen]; exact Nat.le_trans (Nat.le_of_lt hk) (by decide)) ?_
    have hC : toldC row low high light = [((bA.count true : Nat) : Int), 1 - ((bF.count true : Nat) : Int), ((bD.count true : Nat) : Int), 1 - ((bE.count true : Nat) : Int)] := by
      unfold toldC; rw [hbA, hbF, hbD, hbE]
    rw [show ([PV.int ((bA.count true : Nat) : Int), PV.int (1 - ((bF.count true : Nat) : Int)), PV.int ((bD.count true : Nat) : Int), PV.int (1 - ((bE.count true : Nat) : Int))] : List PV) = (toldAt row order k).map .int by rw [hTA, hC]; rfl]
    have hP := hIL.push (l := toldAt row order k) hT (fun x hx => by
      obtain ⟨j, _, rfl⟩ := List.mem_map.mp hx
      exact fun q => by cases q)
    rw [← List.map_singleton (f := toldAt row order), ← List.map_append, ← List.range_succ] at hP
    obtain ⟨g9, rfl⟩ := ex
    rw [show (μ ++ MO.lst (as.map .loc) :: g9 ++ [MO.lst ((toldAt row order k).map .int)]) = μ ++ MO.lst (as.map .loc) :: (g9 ++ [MO.lst ((toldAt row order k).map .int)]) by simp] at hP ⊢
    rw [set_end] at hP ⊢
    refine WSs.nil ⟨⟨as ++ [_], g9 ++ [MO.lst ((toldAt row order k).map .int)], ?_, hP⟩, (by walk_at "s")⟩
    rw [List.map_append]; rfl
  · obtain ⟨⟨as, g, rfl, hIL⟩, hs⟩ := hV
    refine WSs.less (ρ' := [("row", .str (S row)), ("order", .str (S order)), ("told", .loc μ.length)]) hs (by show (["row", "order", "told"] : List Str).Nodup; decide) ?_
    refine WSs.cons O ?_
    with_reducible refine WS.ret O ?_
    with_reducible refine WE.name (by walk_at "m") ?_
    exact hK _ _ as ⟨_, rfl⟩ (at_end ..) hIL
end
end Mine
namespace Mine
noncomputable section
def prs (p : Pile) : List (Str × Str) := p.map fun x => (S x.1, S x.2)
theorem prs_len (p : Pile) : (prs p).length = p.length := List.length_map ..
theorem prs_pilLen (p : Pile) : pilLen (prs p) = ((flatB p).length : Nat) := by
  induction p with
  | nil => rfl
  | cons a l ih =>
    have : pilLen (prs (a :: l)) = (((S a.1).length : Int) + (S a.2).length) + pilLen (prs l) := rfl
    have e : flatB (a :: l) = (a.1 ++ a.2) ++ flatB l := rfl
    rw [this, ih, S_length, S_length, e, List.length_append, List.length_append]
    omega
theorem prs_pilTxt (p : Pile) : pilTxt (prs p) = S (flatB p) := by
  have h1 : ("" : Str) = S [] := rfl
  unfold pilTxt prs flatB
  rw [List.map_map]
  have h2 : (fun x : Str × Str => Txt.join "" [x.1, x.2]) ∘ (fun x : List Nat × List Nat => (S x.1, S x.2)) = fun x => S (x.1 ++ x.2) := by
    funext a
    have := join_S [] [a.1, a.2]
    rw [joinNil] at this
    simpa [h1] using this
  rw [h2]
  have := join_S [] (p.map fun x => x.1 ++ x.2)
  rw [joinNil, List.map_map] at this
  rw [h1]
  exact this
theorem prs_small {p : Pile} (h : (flatB p).length ≤ 1000) : ∀ x ∈ prs p, small x := fun x hx => by
  obtain ⟨y, hy, rfl⟩ := List.mem_map.mp hx
  have : (y.1 ++ y.2).length ≤ (flatB p).length := by
    obtain ⟨l1, l2, rfl⟩ := List.append_of_mem hy
    unfold flatB
    rw [List.map_append, List.map_cons, List.flatten_append, List.flatten_cons]
    simp only [List.length_append]
    omega
  rw [List.length_append] at this
  exact ⟨by show (S y.1).length ≤ 1000; rw [S_length]; omega, by show (S y.2).length ≤ 1000; rw [S_length]; omega⟩
variable {w : World} {c : Cx} {A : Around} {μ : Mu}
theorem len89P (G : G2 w c) (ao : AOk 1 A) {i : Nat} {k : Int} {p : Pile} {K' : PV → Mu → Prop} (hi : μ[i]? = some (.pil k (prs p))) (hb : p.length ≤ 1000) (hf : (flatB p).length ≤ 1000) (hk : -1000000 ≤ k ∧ k ≤ 1000000) (hK : K' (.int (k + ((flatB p).length : Nat))) μ) : WC c A (.ref 89) [.loc i] μ K' := by
  have O := G.ok
  refine WC.def (n := 0) O (def89 G) ao rfl (noCell rfl) (mem1 rfl) (fun L => rfl) (by decide) (fun L => mem1 rfl) fun L A ao => ?_
  show WSs c A _ _ [("self", .loc i)] _ _
  refine WSs.cons O ?_
  refine WS.ret O ?_
  refine WE.pilsum (cl := []) O (pilK G) G.gl G.bm rfl ao.h (by have := ao.d; show A.depth < 1000; omega) (by walk_at "m") hi (by rw [prs_len]; exact hb) hk (prs_small hf) ⟨rfl, (by with_unfolding_all rfl), noCell rfl, rfl, rfl, rfl, by decide, rfl⟩ (by with_unfolding_all rfl) (fun _ => (by with_unfolding_all rfl)) rfl (by with_unfolding_all rfl) (by with_unfolding_all rfl) (G2.n_len G) (G2.b_len G) rfl (G2.n_sum G) (G2.b_sum G) (by with_unfolding_all rfl) ?_
  rw [prs_pilLen]
  exact hK
theorem str96P (G : G2 w c) (ao : AOk 1 A) {i : Nat} {k : Int} {p : Pile} {K' : PV → Mu → Prop} (hi : μ[i]? = some (.pil k (prs p))) (hb : p.length ≤ 1000) (hf : (flatB p).length ≤ 1000) (hK : K' (.str (S (flatB p))) μ) : WC c A (.ref 96) [.loc i] μ K' := by
  have O := G.ok
  refine WC.def (n := 0) O (def96 G) ao rfl (noCell rfl) (mem1 rfl) (fun L => rfl) (by decide) (fun L => mem1 rfl) fun L A ao => ?_
  show WSs c A _ _ [("self", .loc i)] _ _
  refine WSs.cons O ?_
  refine WS.ret O ?_
  refine WE.piljoin (cl := []) O (pilK G) G.gs G.bm rfl ao.h (by have := ao.d; show A.depth < 1000; omega) (by walk_at "m") hi (by rw [prs_len]; exact hb) (prs_small hf) ⟨rfl, (by with_unfolding_all rfl), noCell rfl, rfl, rfl, rfl, by decide, rfl⟩ (by with_unfolding_all rfl) (fun _ => (by with_unfolding_all rfl)) rfl (by with_unfolding_all rfl) (by with_unfolding_all rfl) (G2.n_empty G) rfl (fun _ _ => ⟨_, (by with_unfolding_all rfl)⟩) ⟨_, (by with_unfolding_all rfl)⟩ ?_
  rw [prs_pilTxt]
  exact hK
theorem plenP (G : G2 w c) (ao : AOk 2 A) {i : Nat} {k : Int} {p : Pile} {K' : PV → Mu → Prop} (hi : μ[i]? = some (.pil k (prs p))) (hb : p.length ≤ 1000) (hf : (flatB p).length ≤ 1000) (hk : 0 ≤ k ∧ k ≤ 1000000) (hK : K' (.int (k + ((flatB p).length : Nat))) μ) : WC c A (.builtin "len") [.loc i] μ K' :=
  WC.len_pil G.ok (pilK G) (f := 89) (by rw [G.C]; kernel_rfl) (by kernel_rfl) hi (len89P G ao.in1 hi hb hf (by omega) ⟨_, rfl, by omega, by omega, hK⟩)
theorem pstrP (G : G2 w c) (ao : AOk 3 A) {i : Nat} {k : Int} {p : Pile} {K' : PV → Mu → Prop} (hi : μ[i]? = some (.pil k (prs p))) (hb : p.length ≤ 1000) (hf : (flatB p).length ≤ 1000) (hK : K' (.str (S (flatB p))) μ) : WC c A (.type "str") [.loc i] μ K' :=
  WC.str_pil G.ok (ao.mono (by decide)) (pilK G) (f := 96) (by rw [G.C]; kernel_rfl) (by kernel_rfl) hi (str96P G ao.in1.in1 hi hb hf ⟨_, rfl, hK⟩)
end
end Mine
namespace Mine
noncomputable section
variable {w : World} {c : Cx} {A : Around} {μ : Mu}
def laidBody (w : World) : List Stmt := match (bodyOf (fd2 w 136))[3]? with
  | some (PySem.Stmt.For _ _ b _ _) => b
  | _ => []
abbrev ldBase (i : Nat) (order : List Nat) (h P k : Nat) : Rho := [("numbers", .loc i), ("order", .str (S order)), ("head", .int (h : Nat)), ("pile", .loc P), ("drawn", .loc (P + 1)), ("stages", .loc (P + 2)), ("k", .int (k : Nat))]
theorem marks_eq : ∀ p : Pile, ((prs p).map pairPV).filterMap (fun q => match q with | PV.tup [a, b] => some a | _ => none) = strL (p.map (·.1))
  | [] => rfl
  | a :: r => by
    have ih := marks_eq r
    rw [show (prs (a :: r)).map pairPV = pairPV (S a.1, S a.2) :: (prs r).map pairPV from rfl, List.filterMap_cons, ih]
    rfl
theorem filterMap_if (P : Nat → Bool) : ∀ l : List Nat, (l.map fun (k : Nat) => PV.int (0 + (k : Int))).filterMap (fun q => match q with | PV.int n => if P n.toNat = true then some (PV.int n) else none | _ => none) = (l.filter P).map fun j => PV.int (j : Nat)
  | [] => rfl
  | a :: r => by
    have ih := filterMap_if P r
    rw [List.map_cons, List.filterMap_cons, ih, Int.zero_add]
    dsimp only
    rw [Int.toNat_natCast, List.filter_cons]
    cases P a <;> rfl
theorem isSome_if (b : Bool) (x : PV) : b = (if b = true then some x else none).isSome := by cases b <;> rfl
abbrev ldFree (i : Nat) (order : List Nat) (h P k nF nW : Nat) : Rho := [("numbers", .loc i), ("order", .str (S order)), ("head", .int (h : Nat)), ("pile", .loc P), ("drawn", .loc (P + 1)), ("stages", .loc (P + 2)), ("k", .int (k : Nat)), ("free", .loc nF), ("ways", .loc nW)]
theorem laid_1 (G : G2 w c) (ao : AOk 3 A) {i h P k : Nat} {order : List Nat} {p : Pile} {m : Mu} {L : Addr} {K : PF → Rho → Mu → Prop} (hp : m[P]? = some (.pil (h : Nat) (prs p))) (hpl : p.length ≤ 20) (hk : k < 5)
    (hK : ∀ (g : Mu) (nF nW : Nat), m.length ≤ nF → (m ++ g)[nF]? = some (MO.lst ((freeB p).map fun j => PV.int (j : Nat))) → (m ++ g)[nW]? = some (MO.lst ((waysB (freeB p).length k).map fun j => PV.int (j : Nat))) → WSs c A ((laidBody w).drop 3) (callEnvC (fd2 w 136) L 136) (ldFree i order h P k nF nW) (m ++ g) K) :
    WSs c A (laidBody w) (callEnvC (fd2 w 136) L 136) (ldBase i order h P k) m K := by
  have O := G.ok
  refine WSs.cons O ?_
  with_reducible refine WS.assign_name O ?_ (.inr ⟨by with_unfolding_all rfl, by with_unfolding_all rfl⟩) (by with_unfolding_all rfl) (by with_unfolding_all rfl)
  refine WE.compN O (CompOk.plain (by with_unfolding_all rfl) rfl rfl (noCell rfl) (fun C => rfl)) ?_ (fun _ => (by with_unfolding_all rfl))
  refine WE.name (by walk_at "m") ⟨ItOk.pil O (pilK G) hp, fun C => ?_⟩
  refine WCL.mapG (fun q => match q with | PV.tup [a, b] => some a | _ => none) ((prs p).map pairPV) O (fun l g => NextOk.pil O ao.h (getElem?_ext hp _)) (by rw [List.length_map, prs_len]; omega) (fun q hq l g => ?_) fun g => ?_
  · obtain ⟨x, hx, rfl⟩ := List.mem_map.mp hq
    refine WAL.tuple O ao.h rfl rfl ?_
    refine WALs.cons O (WAL.name O (by walk_at "u") rfl rfl (WALs.cons O (WAL.name O (by walk_at "u") rfl rfl (WALs.nil ⟨(by walk_at "s"), WIfs.nil ⟨g, rfl, rfl, fun _ => ?_⟩⟩))))
    with_reducible refine WE.name (by walk_at "m") ?_
    with_reducible refine Exists.intro _ (And.intro rfl ?_)
    exact rfl
  rw [marks_eq]
  refine updE (by walk_at "u") ?_
  have hM := at_end m (MO.lst (strL (p.map (·.1)))) g
  obtain ⟨g1, hg1⟩ : ∃ g1, MO.lst (strL (p.map (·.1))) :: g = g1 := ⟨_, rfl⟩
  rw [hg1] at hM ⊢
  clear hg1
  generalize m.length = nM at hM ⊢
  refine WSs.cons O ?_
  with_reducible refine WS.assign_name O ?_ (.inr ⟨by with_unfolding_all rfl, by with_unfolding_all rfl⟩) (by with_unfolding_all rfl) (by with_unfolding_all rfl)
  refine WE.comp O (CompOk.many (ρc := [("marks", .loc nM)]) (by with_unfolding_all rfl) rfl rfl (noCell rfl) (fun C => rfl) (mem1 rfl) (by walk_at "s") (mem1 ⟨rfl, fun C => rfl, rfl⟩) (by show (["marks"] : List Str).Nodup; decide)) ?_ (fun _ => (by with_unfolding_all rfl))
  with_reducible refine WE.call_ty O (G2.n_range G) (G2.b_range G) ?_ (by with_unfolding_all rfl) (by with_unfolding_all rfl) (by with_unfolding_all rfl) (by with_unfolding_all rfl)
  with_reducible refine WEs.cons O ?_ (by with_unfolding_all rfl)
  with_reducible refine WE.call_bi O (G2.n_len G) (G2.b_len G) ?_ (by with_unfolding_all rfl) (by with_unfolding_all rfl) (by with_unfolding_all rfl) (by with_unfolding_all rfl)
  with_reducible refine WEs.cons O ?_ (by with_unfolding_all rfl)
  with_reducible refine WE.name (by walk_at "m") ?_
  with_reducible refine WEs.nil ?_
  have lM : (strL (p.map (·.1))).length = p.length := by rw [List.length_map, List.length_map]
  refine WC.len_lst O hM (by rw [lM]; omega) ?_
  rw [lM]
  with_reducible refine WEs.nil ?_
  refine WC.range1 O ?_
  refine loopRng (by omega) ?_
  intro C2
  refine WCL.mapG (fun q => match q with | PV.int n => if ((p.getD n.toNat ([], [])).1 == dots) = true then some (PV.int n) else none | _ => none) ((List.range ((p.length : Nat) - 0 : Int).toNat).map fun (k : Nat) => PV.int (0 + (k : Int))) O (fun l g => nx_rng O ao.h _ _ _) (by simp; omega) (fun q hq l g => ?_) fun g => ?_
  · obtain ⟨j, hj, rfl⟩ := rng_mem hq
    refine WAL.name O (by walk_at "u") rfl rfl ⟨(by walk_at "s"), WIfs.one ?_⟩
    with_reducible refine WB.cmp1 O ?_ (by with_unfolding_all rfl)
    with_reducible refine WE.sub O ?_ (fun _ _ => by with_unfolding_all rfl)
    with_reducible refine WE.name (by walk_at "m") ?_
    with_reducible refine WE.name (by walk_at "m") ?_
    have hM2 := getElem?_ext hM (MO.lst l :: g)
    refine subLst hM2 (WV.item_lst hM2 (seq_nat (by rw [lM]; exact hj)) (q := .str (S (p.getD j ([], [])).1)) (by rw [strL_at, List.getElem?_map, List.getElem?_eq_getElem hj, List.getD_eq_getElem?_getD, List.getElem?_eq_getElem hj]; rfl) (by rw [lM]; omega) ?_)
    with_reducible refine WE.strS (l := [46, 46, 46]) O (by with_unfolding_all rfl) ?_
    with_reducible refine WV.eq_str ?_
    with_reducible refine Exists.intro _ (And.intro rfl ?_)
    with_reducible refine Exists.intro _ (And.intro rfl ?_)
    rw [S_beq]
    refine ⟨?_, fun h => ?_⟩
    · dsimp only
      rw [Int.toNat_natCast]
      exact isSome_if _ _
    · with_reducible refine WE.name (by walk_at "m") ?_
      with_reducible refine Exists.intro _ (And.intro rfl ?_)
      dsimp only
      rw [Int.toNat_natCast]
      exact if_pos h
  rw [filterMap_if (fun j => (p.getD j ([], [])).1 == dots)]
  rw [show (List.range ((p.length : Nat) - 0 : Int).toNat).filter (fun j => (p.getD j ([], [])).1 == dots) = freeB p by unfold freeB; simp]
  refine updE (by walk_at "u") ?_
  have hF := at_end (m ++ g1) (MO.lst ((freeB p).map fun j => PV.int (j : Nat))) g
  have hge : m.length ≤ (m ++ g1).length := by rw [List.length_append]; exact Nat.le_add_right ..
  have fl : (freeB p).length ≤ 20 := by
    have := List.length_filter_le (fun j => (p.getD j ([], [])).1 == dots) (List.range p.length)
    rw [List.length_range] at this
    unfold freeB; omega
  generalize freeB p = fr at *
  rw [show m ++ g1 ++ MO.lst (fr.map fun j => PV.int (j : Nat)) :: g = m ++ (g1 ++ MO.lst (fr.map fun j => PV.int (j : Nat)) :: g) by simp] at hF ⊢
  generalize g1 ++ MO.lst (fr.map fun j => PV.int (j : Nat)) :: g = g2 at *
  generalize (m ++ g1).length = nF at *
  refine WSs.cons O ?_
  refine WS.assign_comp O (CompOk.many (ρc := [("free", .loc nF), ("k", .int (k : Nat))]) (by with_unfolding_all rfl) rfl rfl (noCell rfl) (fun C => rfl) (mem2 rfl rfl) (by walk_at "s") (mem2 ⟨rfl, fun C => rfl, rfl⟩ ⟨rfl, fun C => rfl, rfl⟩) (by show (["free", "k"] : List Str).Nodup; decide)) ?_ (fun _ => (by with_unfolding_all rfl)) rfl rfl (by with_unfolding_all rfl)
  with_reducible refine WE.call_ty O (G2.n_range G) (G2.b_range G) ?_ (by with_unfolding_all rfl) (by with_unfolding_all rfl) (by with_unfolding_all rfl) (by with_unfolding_all rfl)
  with_reducible refine WEs.cons O ?_ (by with_unfolding_all rfl)
  with_reducible refine WE.int O ?_
  with_reducible refine WEs.nil ?_
  refine WC.range1 O ?_
  refine loopRng (by decide) ?_
  intro C3
  refine WCL.mapG (fun q => match q with | PV.int n => if wayOk fr.length k n.toNat = true then some (PV.int n) else none | _ => none) ((List.range ((4 : Nat) - 0 : Int).toNat).map fun (k : Nat) => PV.int (0 + (k : Int))) O (fun l g => nx_rng O ao.h _ _ _) (by decide) (fun q hq l g => ?_) fun g => ?_
  · obtain ⟨x, hx, rfl⟩ := rng_mem hq
    refine WAL.name O (by walk_at "u") rfl rfl ⟨(by walk_at "s"), WIfs.one ?_⟩
    with_reducible refine WB.boolop ?_
    with_reducible refine WAll.or O ?_
    refine WB.chain2 O ?_ rfl
    with_reducible refine WE.int O ?_
    with_reducible refine WE.bin O ?_
    with_reducible refine WE.bin O ?_
    with_reducible refine WE.bin O ?_
    with_reducible refine WE.call_bi O (G2.n_len G) (G2.b_len G) ?_ (by with_unfolding_all rfl) (by with_unfolding_all rfl) (by with_unfolding_all rfl) (by with_unfolding_all rfl)
    with_reducible refine WEs.cons O ?_ (by with_unfolding_all rfl)
    with_reducible refine WE.name (by walk_at "m") ?_
    with_reducible refine WEs.nil ?_
    have hF2 := getElem?_ext hF (MO.lst l :: g)
    refine WC.len_lst O hF2 (by rw [List.length_map]; omega) ?_
    rw [List.length_map]
    with_reducible refine WE.int O ?_
    with_reducible refine WV.sub_int O ?_
    with_reducible refine WE.bin O ?_
    with_reducible refine WE.name (by walk_at "m") ?_
    with_reducible refine WE.int O ?_
    with_reducible refine WV.mod_nat O (by with_unfolding_all rfl) (by with_unfolding_all rfl) (by decide) ?_
    with_reducible refine WV.add_int O ?_
    with_reducible refine WE.bin O ?_
    with_reducible refine WE.name (by walk_at "m") ?_
    with_reducible refine WE.int O ?_
    with_reducible refine WV.div_nat O (by with_unfolding_all rfl) (by with_unfolding_all rfl) (by decide) ?_
    with_reducible refine WV.add_int O ?_
    with_reducible refine WV.lt_int ?_
    with_reducible refine Exists.intro _ (And.intro rfl ?_)
    have hW : wayOk fr.length k x = ((decide ((0 : Int) < (fr.length : Int) - 1 + ((x % 2 : Nat) : Int) + ((x / 2 : Nat) : Int)) && decide ((fr.length : Int) - 1 + ((x % 2 : Nat) : Int) + ((x / 2 : Nat) : Int) < 5 - (k : Int))) || (decide ((k : Int) = 4) && decide ((x : Int) = 0))) := by
      unfold wayOk
      congr 2
      · by_cases h : k = 4
        · subst h; rfl
        · rw [decide_eq_false (by omega)]; exact beq_eq_false_iff_ne.mpr h
      · by_cases h : x = 0
        · subst h; rfl
        · rw [decide_eq_false (by omega)]; exact beq_eq_false_iff_ne.mpr h
    by_cases h1 : (0 : Int) < (fr.length : Int) - 1 + ((x % 2 : Nat) : Int) + ((x / 2 : Nat) : Int)
    · rw [decide_eq_true h1] at hW ⊢
      rw [if_pos rfl]
      with_reducible refine WE.bin O ?_
      with_reducible refine WE.int O ?_
      with_reducible refine WE.name (by walk_at "m") ?_
      with_reducible refine WV.sub_int O ?_
      with_reducible refine WV.lt_int ?_
      with_reducible refine Exists.intro _ (And.intro rfl ?_)
      by_cases h2 : (fr.length : Int) - 1 + ((x % 2 : Nat) : Int) + ((x / 2 : Nat) : Int) < 5 - (k : Int)
      · rw [decide_eq_true h2] at hW ⊢
        rw [if_pos rfl]
        refine ⟨g, rfl, ?_, fun _ => ?_⟩
        · dsimp only
          rw [Int.toNat_natCast, hW]; rfl
        · with_reducible refine WE.name (by walk_at "m") ?_
          with_reducible refine Exists.intro _ (And.intro rfl ?_)
          dsimp only
          rw [Int.toNat_natCast, hW]; rfl
      · rw [decide_eq_false h2] at hW ⊢
        rw [if_neg Bool.false_ne_true]
        with_reducible refine WAll.or O ?_
        with_reducible refine WB.boolop ?_
        with_reducible refine WAll.and O ?_
        with_reducible refine WB.cmp1 O ?_ (by with_unfolding_all rfl)
        with_reducible refine WE.name (by walk_at "m") ?_
        with_reducible refine WE.int O ?_
        with_reducible refine WV.eq_int ?_
        with_reducible refine Exists.intro _ (And.intro rfl ?_)
        by_cases hk4 : (k : Int) = 4
        · rw [decide_eq_true hk4] at hW
          rw [if_pos (beq_iff_eq.mpr hk4)]
          with_reducible refine WAll.and O ?_
          with_reducible refine WB.cmp1 O ?_ (by with_unfolding_all rfl)
          with_reducible refine WE.name (by walk_at "m") ?_
          with_reducible refine WE.int O ?_
          with_reducible refine WV.eq_int ?_
          with_reducible refine Exists.intro _ (And.intro rfl ?_)
          by_cases hx0 : (x : Int) = 0
          · rw [decide_eq_true hx0] at hW
            rw [if_pos (beq_iff_eq.mpr hx0)]
            with_reducible refine WAll.and_nil ?_
            rw [if_pos rfl]
            refine ⟨g, rfl, by dsimp only; rw [Int.toNat_natCast, hW]; rfl, fun _ => ?_⟩
            with_reducible refine WE.name (by walk_at "m") ?_
            with_reducible refine Exists.intro _ (And.intro rfl ?_)
            dsimp only
            rw [Int.toNat_natCast, hW]; rfl
          · rw [decide_eq_false hx0] at hW
            rw [if_neg (fun q => hx0 (beq_iff_eq.mp q)), if_neg Bool.false_ne_true]
            with_reducible refine WAll.or_nil ?_
            with_reducible refine Exists.intro _ (And.intro rfl ?_)
            exact ⟨by dsimp only; rw [Int.toNat_natCast, hW]; rfl, fun h => by cases h⟩
        · rw [decide_eq_false hk4] at hW
          rw [if_neg (fun q => hk4 (beq_iff_eq.mp q)), if_neg Bool.false_ne_true]
          with_reducible refine WAll.or_nil ?_
          with_reducible refine Exists.intro _ (And.intro rfl ?_)
          exact ⟨by dsimp only; rw [Int.toNat_natCast, hW]; rfl, fun h => by cases h⟩
    · rw [decide_eq_false h1] at hW ⊢
      rw [if_neg Bool.false_ne_true, if_neg Bool.false_ne_true]
      with_reducible refine WAll.or O ?_
      with_reducible refine WB.boolop ?_
      with_reducible refine WAll.and O ?_
      with_reducible refine WB.cmp1 O ?_ (by with_unfolding_all rfl)
      with_reducible refine WE.name (by walk_at "m") ?_
      with_reducible refine WE.int O ?_
      with_reducible refine WV.eq_int ?_
      with_reducible refine Exists.intro _ (And.intro rfl ?_)
      by_cases hk4 : (k : Int) = 4
      · rw [decide_eq_true hk4] at hW
        rw [if_pos (beq_iff_eq.mpr hk4)]
        with_reducible refine WAll.and O ?_
        with_reducible refine WB.cmp1 O ?_ (by with_unfolding_all rfl)
        with_reducible refine WE.name (by walk_at "m") ?_
        with_reducible refine WE.int O ?_
        with_reducible refine WV.eq_int ?_
        with_reducible refine Exists.intro _ (And.intro rfl ?_)
        by_cases hx0 : (x : Int) = 0
        · rw [decide_eq_true hx0] at hW
          rw [if_pos (beq_iff_eq.mpr hx0)]
          with_reducible refine WAll.and_nil ?_
          rw [if_pos rfl]
          refine ⟨g, rfl, by dsimp only; rw [Int.toNat_natCast, hW]; rfl, fun _ => ?_⟩
          with_reducible refine WE.name (by walk_at "m") ?_
          with_reducible refine Exists.intro _ (And.intro rfl ?_)
          dsimp only
          rw [Int.toNat_natCast, hW]; rfl
        · rw [decide_eq_false hx0] at hW
          rw [if_neg (fun q => hx0 (beq_iff_eq.mp q)), if_neg Bool.false_ne_true]
          with_reducible refine WAll.or_nil ?_
          with_reducible refine Exists.intro _ (And.intro rfl ?_)
          exact ⟨by dsimp only; rw [Int.toNat_natCast, hW]; rfl, fun h => by cases h⟩
      · rw [decide_eq_false hk4] at hW
        rw [if_neg (fun q => hk4 (beq_iff_eq.mp q)), if_neg Bool.false_ne_true]
        with_reducible refine WAll.or_nil ?_
        with_reducible refine Exists.intro _ (And.intro rfl ?_)
        exact ⟨by dsimp only; rw [Int.toNat_natCast, hW]; rfl, fun h => by cases h⟩
  rw [filterMap_if (wayOk fr.length k)]
  rw [show (List.range ((4 : Nat) - 0 : Int).toNat).filter (wayOk fr.length k) = waysB fr.length k from rfl]
  refine updE (by walk_at "u") ?_
  have e : m ++ g2 ++ MO.lst ((waysB fr.length k).map fun j => PV.int (j : Nat)) :: g = m ++ (g2 ++ MO.lst ((waysB fr.length k).map fun j => PV.int (j : Nat)) :: g) := by simp
  have hW := at_end (m ++ g2) (MO.lst ((waysB fr.length k).map fun j => PV.int (j : Nat))) g
  have hF2 := getElem?_ext hF (MO.lst ((waysB fr.length k).map fun j => PV.int (j : Nat)) :: g)
  rw [e] at hW hF2 ⊢
  refine WSs.less (ρ' := ldFree i order h P k nF _) (by walk_at "s") (by show (["numbers", "order", "head", "pile", "drawn", "stages", "k", "free", "ways"] : List Str).Nodup; decide) ?_
  exact hK _ nF _ hge hF2 hW
end
end Mine
namespace Mine
noncomputable section
variable {w : World} {c : Cx} {A : Around} {μ : Mu}
abbrev ldWay (i : Nat) (order : List Nat) (h P k nF way place : Nat) : Rho := [("numbers", .loc i), ("order", .str (S order)), ("head", .int (h : Nat)), ("pile", .loc P), ("drawn", .loc (P + 1)), ("stages", .loc (P + 2)), ("k", .int (k : Nat)), ("free", .loc nF), ("way", .int (way : Nat)), ("place", .int (place : Nat))]
theorem getD_at {l : List Nat} {k : Nat} (h : k < l.length) : (l.map fun (x : Nat) => PV.int (x : Nat))[k]? = some (.int (l.getD k 0 : Nat)) := by
  rw [List.getElem?_map, List.getD_eq_getElem?_getD, List.getElem?_eq_getElem h]; rfl
theorem laid_2 (G : G2 w c) (ao : AOk 3 A) {i h P k nF nW : Nat} {order xs fr ws : List Nat} {m : Mu} {L : Addr} {K : PF → Rho → Mu → Prop}
    (hN : m[i]? = some (.lst (xs.map fun (x : Nat) => .int (x : Nat)))) (hF : m[nF]? = some (.lst (fr.map fun (x : Nat) => .int (x : Nat)))) (hW : m[nW]? = some (.lst (ws.map fun (x : Nat) => .int (x : Nat))))
    (hx : k < xs.length) (lx : xs.length ≤ 5) (f0 : 0 < fr.length) (f1 : fr.length ≤ 20) (w0 : 0 < ws.length) (w1 : ws.length ≤ 20)
    (hK : WSs c A ((laidBody w).drop 4) (callEnvC (fd2 w 136) L 136) (ldWay i order h P k nF (ws.getD (xs.getD k 0 % ws.length) 0) (xs.getD k 0 / ws.length % fr.length)) m K) :
    WSs c A ((laidBody w).drop 3) (callEnvC (fd2 w 136) L 136) (ldFree i order h P k nF nW) m K := by
  have O := G.ok
  refine WSs.cons O ?_
  refine WS.assign_swap (names := ["way", "place"]) O ao.h ?_ (by with_unfolding_all rfl) (by with_unfolding_all rfl)
  with_reducible refine WE.tuple O ?_
  with_reducible refine WEs.cons O ?_ (by with_unfolding_all rfl)
  with_reducible refine WE.sub O ?_ (fun _ _ => by with_unfolding_all rfl)
  with_reducible refine WE.name (by walk_at "m") ?_
  with_reducible refine WE.bin O ?_
  with_reducible refine WE.sub O ?_ (fun _ _ => by with_unfolding_all rfl)
  with_reducible refine WE.name (by walk_at "m") ?_
  with_reducible refine WE.name (by walk_at "m") ?_
  refine subLst hN ?_
  refine WV.item_lst hN (seq_nat (by rw [List.length_map]; exact hx)) (getD_at hx) (by rw [List.length_map]; omega) ?_
  with_reducible refine WE.call_bi O (G2.n_len G) (G2.b_len G) ?_ (by with_unfolding_all rfl) (by with_unfolding_all rfl) (by with_unfolding_all rfl) (by with_unfolding_all rfl)
  with_reducible refine WEs.cons O ?_ (by with_unfolding_all rfl)
  with_reducible refine WE.name (by walk_at "m") ?_
  with_reducible refine WEs.nil ?_
  refine WC.len_lst O hW (by rw [List.length_map]; omega) ?_
  rw [List.length_map]
  refine WV.mod_nat O rfl rfl w0 ?_
  have hx2 := Nat.mod_lt (xs.getD k 0) w0
  refine subLst hW ?_
  refine WV.item_lst hW (seq_nat (by rw [List.length_map]; exact hx2)) (getD_at hx2) (by rw [List.length_map]; omega) ?_
  with_reducible refine WEs.cons O ?_ (by with_unfolding_all rfl)
  with_reducible refine WE.bin O ?_
  with_reducible refine WE.bin O ?_
  with_reducible refine WE.sub O ?_ (fun _ _ => by with_unfolding_all rfl)
  with_reducible refine WE.name (by walk_at "m") ?_
  with_reducible refine WE.name (by walk_at "m") ?_
  refine subLst hN ?_
  refine WV.item_lst hN (seq_nat (by rw [List.length_map]; exact hx)) (getD_at hx) (by rw [List.length_map]; omega) ?_
  with_reducible refine WE.call_bi O (G2.n_len G) (G2.b_len G) ?_ (by with_unfolding_all rfl) (by with_unfolding_all rfl) (by with_unfolding_all rfl) (by with_unfolding_all rfl)
  with_reducible refine WEs.cons O ?_ (by with_unfolding_all rfl)
  with_reducible refine WE.name (by walk_at "m") ?_
  with_reducible refine WEs.nil ?_
  refine WC.len_lst O hW (by rw [List.length_map]; omega) ?_
  rw [List.length_map]
  refine WV.div_nat O rfl rfl ⟨w0, by omega⟩ ?_
  with_reducible refine WE.call_bi O (G2.n_len G) (G2.b_len G) ?_ (by with_unfolding_all rfl) (by with_unfolding_all rfl) (by with_unfolding_all rfl) (by with_unfolding_all rfl)
  with_reducible refine WEs.cons O ?_ (by with_unfolding_all rfl)
  with_reducible refine WE.name (by walk_at "m") ?_
  with_reducible refine WEs.nil ?_
  refine WC.len_lst O hF (by rw [List.length_map]; omega) ?_
  rw [List.length_map]
  refine WV.mod_nat O rfl rfl f0 ?_
  with_reducible refine WEs.nil ?_
  refine ⟨show 2 ≤ 1000 by decide, _, rfl, rfl, ?_⟩
  refine WAs.bind O (by walk_at "u") (.inl rfl) rfl (WAs.bind O (by walk_at "u") (.inl rfl) rfl (WAs.nil ?_))
  refine WSs.less (ρ' := ldWay i order h P k nF _ _) (by walk_at "s") (by show (["numbers", "order", "head", "pile", "drawn", "stages", "k", "free", "way", "place"] : List Str).Nodup; decide) ?_
  exact hK
abbrev ldTail (i : Nat) (order : List Nat) (h P k nF way place nT : Nat) : Rho := [("numbers", .loc i), ("order", .str (S order)), ("head", .int (h : Nat)), ("pile", .loc P), ("drawn", .loc (P + 1)), ("stages", .loc (P + 2)), ("k", .int (k : Nat)), ("free", .loc nF), ("way", .int (way : Nat)), ("place", .int (place : Nat)), ("tail", .loc nT)]
def st3 (μ : Mu) (a b d : MO) (g : Mu) : Mu := μ ++ a :: b :: d :: g
theorem st3_ext (μ : Mu) (a b d : MO) (g g' : Mu) : st3 μ a b d g ++ g' = st3 μ a b d (g ++ g') := by simp [st3]
theorem st3_0 (μ : Mu) (a b d : MO) (g : Mu) : (st3 μ a b d g)[μ.length]? = some a := by simp [st3]
theorem st3_1 (μ : Mu) (a b d : MO) (g : Mu) : (st3 μ a b d g)[μ.length + 1]? = some b := by
  unfold st3; rw [List.getElem?_append_right (by omega)]; simp
theorem st3_2 (μ : Mu) (a b d : MO) (g : Mu) : (st3 μ a b d g)[μ.length + 2]? = some d := by
  unfold st3; rw [List.getElem?_append_right (by omega)]; simp
theorem st3_g (μ : Mu) (a b d : MO) (g : Mu) (j : Nat) : (st3 μ a b d g)[μ.length + 3 + j]? = g[j]? := by
  unfold st3; rw [List.getElem?_append_right (by omega), show μ.length + 3 + j - μ.length = j + 3 by omega]; rfl
theorem st3_old {μ : Mu} (a b d : MO) (g : Mu) {i : Nat} {x : MO} (h : μ[i]? = some x) : (st3 μ a b d g)[i]? = some x := getElem?_ext h _
theorem st3_s0 (μ : Mu) (a a' b d : MO) (g : Mu) : (st3 μ a b d g).set μ.length a' = st3 μ a' b d g := by simp [st3]
theorem st3_s1 (μ : Mu) (a b b' d : MO) (g : Mu) : (st3 μ a b d g).set (μ.length + 1) b' = st3 μ a b' d g := by
  unfold st3; rw [List.set_append_right _ _ (by omega)]; simp
theorem st3_s2 (μ : Mu) (a b d d' : MO) (g : Mu) : (st3 μ a b d g).set (μ.length + 2) d' = st3 μ a b d' g := by
  unfold st3; rw [List.set_append_right _ _ (by omega)]; simp
theorem st3_len (μ : Mu) (a b d : MO) (g : Mu) : (st3 μ a b d g).length = μ.length + 3 + g.length := by
  unfold st3; simp; omega
theorem prs_take (p : Pile) (j : Nat) : (prs p).take j = prs (p.take j) := by unfold prs; rw [List.map_take]
theorem prs_drop (p : Pile) (j : Nat) : (prs p).drop j = prs (p.drop j) := by unfold prs; rw [List.map_drop]
theorem laid_3 (G : G2 w c) (ao : AOk 3 A) {i h k nF way place j : Nat} {order fr : List Nat} {p : Pile} {b d : MO} {g : Mu} {L : Addr} {K : PF → Rho → Mu → Prop}
    (hF : g[nF]? = some (.lst (fr.map fun (x : Nat) => .int (x : Nat)))) (f1 : fr.length ≤ 20) (hpl : place < fr.length) (hj : fr.getD place 0 = j) (hjp : j < p.length) (hpb : p.length ≤ 20)
    (hK : ∀ g' nT, g'[nF]? = some (.lst (fr.map fun (x : Nat) => .int (x : Nat))) → (∃ x, g' = g ++ x) → g'[nT]? = some (.lst ((prs (p.drop j)).map pairPV)) → WSs c A ((laidBody w).drop 5) (callEnvC (fd2 w 136) L 136) (ldTail i order h μ.length k (μ.length + 3 + nF) way place (μ.length + 3 + nT)) (st3 μ (.pil (h : Nat) (prs (p.take j))) b d g') K) :
    WSs c A ((laidBody w).drop 4) (callEnvC (fd2 w 136) L 136) (ldWay i order h μ.length k (μ.length + 3 + nF) way place) (st3 μ (.pil (h : Nat) (prs p)) b d g) K := by
  have O := G.ok
  have hF2 := st3_g μ (.pil (h : Nat) (prs p)) b d g nF
  rw [hF] at hF2
  refine WSs.cons O ?_
  refine WS.assign_name O ?_ (.inl (by with_unfolding_all rfl)) (by with_unfolding_all rfl) (by with_unfolding_all rfl)
  refine WE.pmeth (fa := 74) (fd := fd2 w 74) O (pilK G) (by rw [G.C]; kernel_rfl) (by kernel_rfl) (by decide) (def74 G).fn ?_ (by with_unfolding_all rfl) ⟨_, (by with_unfolding_all rfl)⟩
  refine WE.name (by walk_at "m") ⟨⟨_, _, _, rfl, st3_0 ..⟩, ?_⟩
  with_reducible refine WEs.cons O ?_ (by with_unfolding_all rfl)
  with_reducible refine WE.sub O ?_ (fun _ _ => by with_unfolding_all rfl)
  with_reducible refine WE.name (by walk_at "m") ?_
  with_reducible refine WE.name (by walk_at "m") ?_
  refine subLst hF2 ?_
  refine WV.item_lst hF2 (seq_nat (by rw [List.length_map]; exact hpl)) (getD_at hpl) (by rw [List.length_map]; omega) ?_
  rw [hj]
  with_reducible refine WEs.nil ?_
  refine pop_from_ok G (ao.mono (by decide)) (st3_0 ..) (by rw [prs_len]; omega) (by rw [prs_len]; omega) ?_
  rw [prs_take, prs_drop, st3_ext, st3_s0, st3_len]
  refine updE (by walk_at "u") ?_
  exact hK _ g.length (getElem?_ext hF _) ⟨_, rfl⟩ (at_end ..)
end
end Mine
namespace Mine
noncomputable section
variable {w : World} {c : Cx} {A : Around} {μ : Mu}
abbrev ldMark (i : Nat) (order : List Nat) (h P k nF way place nT : Nat) (mark word : List Nat) : Rho := [("numbers", .loc i), ("order", .str (S order)), ("head", .int (h : Nat)), ("pile", .loc P), ("drawn", .loc (P + 1)), ("stages", .loc (P + 2)), ("k", .int (k : Nat)), ("free", .loc nF), ("way", .int (way : Nat)), ("place", .int (place : Nat)), ("tail", .loc nT), ("mark", .str (S mark)), ("word", .str (S word))]
theorem is_one {a : Nat} (h : a = 1) : ((a : Int) == 1) = true := by subst h; rfl
theorem not_one {a : Nat} (h : a ≠ 1) : ¬ ((a : Int) == 1) = true := fun q => h (by have := beq_iff_eq.mp q; omega)
def offB (way : Nat) (p : Pile) : (List Nat × List Nat) × Pile := if way % 2 = 1 then ((dots, []), p) else popB p
theorem popB_snoc (l : Pile) (x : List Nat × List Nat) : popB (l ++ [x]) = (x, l) := by simp [popB]
theorem prs_snoc (l : Pile) (x : List Nat × List Nat) : prs (l ++ [x]) = prs l ++ [(S x.1, S x.2)] := by simp [prs]
theorem laid_4 (G : G2 w c) (ao : AOk 3 A) {i h k nF way place nT : Nat} {order : List Nat} {p : Pile} {b d : MO} {g : Mu} {L : Addr} {K : PF → Rho → Mu → Prop} (hpb : p.length ≤ 20)
    (hK : WSs c A ((laidBody w).drop 6) (callEnvC (fd2 w 136) L 136) (ldMark i order h μ.length k nF way place nT (offB way p).1.1 (offB way p).1.2) (st3 μ (.pil (h : Nat) (prs (offB way p).2)) b d g) K) :
    WSs c A ((laidBody w).drop 5) (callEnvC (fd2 w 136) L 136) (ldTail i order h μ.length k nF way place nT) (st3 μ (.pil (h : Nat) (prs p)) b d g) K := by
  have O := G.ok
  refine WSs.cons O ?_
  with_reducible refine WS.assign_tup O ?_ (by with_unfolding_all rfl) (by with_unfolding_all rfl)
  with_reducible refine WE.ife O ?_
  with_reducible refine WB.cmp1 O ?_ (by with_unfolding_all rfl)
  with_reducible refine WE.bin O ?_
  with_reducible refine WE.name (by walk_at "m") ?_
  with_reducible refine WE.int O ?_
  with_reducible refine WV.mod_nat O (by with_unfolding_all rfl) (by with_unfolding_all rfl) (by decide) ?_
  with_reducible refine WE.int O ?_
  with_reducible refine WV.eq_int ?_
  with_reducible refine Exists.intro _ (And.intro rfl ?_)
  by_cases hw : way % 2 = 1
  · rw [if_pos (is_one hw)]
    rw [show offB way p = ((dots, []), p) from if_pos hw] at hK
    with_reducible refine WE.tuple O ?_
    with_reducible refine WEs.cons O ?_ (by with_unfolding_all rfl)
    with_reducible refine WE.strS (l := [46, 46, 46]) O (by with_unfolding_all rfl) ?_
    with_reducible refine WEs.cons O ?_ (by with_unfolding_all rfl)
    with_reducible refine WE.strS (l := []) O (by with_unfolding_all rfl) ?_
    with_reducible refine WEs.nil ?_
    refine ⟨show 2 ≤ 1000 by decide, ?_⟩
    refine WA.tuple O ao.h (by with_unfolding_all rfl) (by with_unfolding_all rfl) ?_
    refine WAs.cons O (WA.name O (by walk_at "u") (.inl rfl) rfl ?_)
    refine WAs.cons O (WA.name O (by walk_at "u") (.inl rfl) rfl (WAs.nil ?_))
    exact hK
  · rw [if_neg (not_one hw)]
    rw [show offB way p = popB p from if_neg hw] at hK
    refine WE.pmeth0 (fa := 82) (fd := fd2 w 82) O (pilK G) (by rw [G.C]; kernel_rfl) (by kernel_rfl) (by decide) (defS82 G).fn ?_ ⟨_, (by with_unfolding_all rfl)⟩
    refine WE.name (by walk_at "m") ⟨⟨_, _, _, rfl, st3_0 ..⟩, ?_⟩
    have hfin : ∀ x l, popB p = (x, l) → WA c A (.Tuple [.Name "mark" { line := 132, col := 8, endLine := 132, endCol := 12 }, .Name "word" { line := 132, col := 14, endLine := 132, endCol := 18 }] 0 { line := 132, col := 8, endLine := 132, endCol := 18 }) (callEnvC (fd2 w 136) L 136) (.tup [.str (S x.1), .str (S x.2)]) (ldTail i order h μ.length k nF way place nT) (st3 μ (.pil (h : Nat) (prs l)) b d g) fun ρ' => WSs c A ((laidBody w).drop 6) (callEnvC (fd2 w 136) L 136) ρ' (st3 μ (.pil (h : Nat) (prs l)) b d g) K := fun x l e => by
      rw [e] at hK
      refine WA.tuple O ao.h (by with_unfolding_all rfl) (by with_unfolding_all rfl) ?_
      refine WAs.cons O (WA.name O (by walk_at "u") (.inl rfl) rfl ?_)
      refine WAs.cons O (WA.name O (by walk_at "u") (.inl rfl) rfl (WAs.nil ?_))
      exact hK
    refine pop_ok G (ao.mono (by decide)) (st3_0 ..) (by rw [prs_len]; omega) (fun he => ?_) fun r x he => ?_
    · have hp : p = [] := by cases p with
        | nil => rfl
        | cons a l => cases he
      subst hp
      exact hfin ([], []) [] rfl
    · rcases List.eq_nil_or_concat p with hp | ⟨l, y, hp⟩
      · subst hp
        have := congrArg List.length he
        simp [prs] at this
      · subst hp
        rw [List.concat_eq_append, prs_snoc] at he
        obtain ⟨rfl, h2⟩ := List.append_inj' he rfl
        cases h2
        rw [st3_s0]
        exact hfin y l (by rw [List.concat_eq_append]; exact popB_snoc l y)
end
end Mine
namespace Mine
noncomputable section
variable {w : World} {c : Cx} {A : Around} {μ : Mu}
def putP (way a : Nat) (mark word t : List Nat) : Pile := if way / 2 = 1 then [(mark, word ++ [a]), (dots, t)] else [(mark, word ++ [a] ++ t)]
theorem order_at {order : List Nat} {k : Nat} (h : k < order.length) : order[k]? = some (order.getD k 0) := by
  rw [List.getD_eq_getElem?_getD, List.getElem?_eq_getElem h]; rfl
theorem laid_5 (G : G2 w c) (ao : AOk 3 A) {i h k nF way place nT : Nat} {order mark word : List Nat} {p tl : Pile} {t0 : List Nat × List Nat} {b d : MO} {g : Mu} {L : Addr} {K : PF → Rho → Mu → Prop} (hpb : p.length ≤ 20) (hk : k < order.length) (ho : order.length ≤ 5)
    (hT : g[nT]? = some (.lst ((prs (t0 :: tl)).map pairPV))) (htl : tl.length ≤ 20) (hwl : word.length ≤ 1000) (h0l : t0.2.length ≤ 1000)
    (hK : WSs c A ((laidBody w).drop 7) (callEnvC (fd2 w 136) L 136) (ldMark i order h μ.length k nF way place (μ.length + 3 + nT) mark word) (st3 μ (.pil (h : Nat) (prs (p ++ putP way (order.getD k 0) mark word t0.2))) b d g) K) :
    WSs c A ((laidBody w).drop 6) (callEnvC (fd2 w 136) L 136) (ldMark i order h μ.length k nF way place (μ.length + 3 + nT) mark word) (st3 μ (.pil (h : Nat) (prs p)) b d g) K := by
  have O := G.ok
  have hT2 : ∀ x, (st3 μ x b d g)[μ.length + 3 + nT]? = some (.lst ((prs (t0 :: tl)).map pairPV)) := fun x => by rw [st3_g]; exact hT
  refine WSs.cons O ?_
  with_reducible refine WS.ite O ?_
  with_reducible refine WB.cmp1 O ?_ (by with_unfolding_all rfl)
  with_reducible refine WE.bin O ?_
  with_reducible refine WE.name (by walk_at "m") ?_
  with_reducible refine WE.int O ?_
  with_reducible refine WV.div_nat O (by with_unfolding_all rfl) (by with_unfolding_all rfl) (by decide) ?_
  with_reducible refine WE.int O ?_
  with_reducible refine WV.eq_int ?_
  with_reducible refine Exists.intro _ (And.intro rfl ?_)
  by_cases hw : way / 2 = 1
  · refine iteT (is_one hw) ?_
    rw [show putP way (order.getD k 0) mark word t0.2 = [(mark, word ++ [order.getD k 0]), (dots, t0.2)] from if_pos hw] at hK
    refine WSs.cons O ?_
    refine WS.expr O ?_ (by with_unfolding_all rfl) (by with_unfolding_all rfl)
    refine WE.pmeth (fa := 66) (fd := fd2 w 66) O (pilK G) (by rw [G.C]; kernel_rfl) (by kernel_rfl) (by decide) (def66 G).fn ?_ (by with_unfolding_all rfl) ⟨_, (by with_unfolding_all rfl)⟩
    refine WE.name (by walk_at "m") ⟨⟨_, _, _, rfl, st3_0 ..⟩, ?_⟩
    with_reducible refine WEs.cons O ?_ (by with_unfolding_all rfl)
    with_reducible refine WE.name (by walk_at "m") ?_
    with_reducible refine WEs.cons O ?_ (by with_unfolding_all rfl)
    with_reducible refine WE.bin O ?_
    with_reducible refine WE.name (by walk_at "m") ?_
    with_reducible refine WE.sub O ?_ (fun _ _ => by with_unfolding_all rfl)
    with_reducible refine WE.name (by walk_at "m") ?_
    with_reducible refine WE.name (by walk_at "m") ?_
    with_reducible refine subStr ?_
    refine WV.item_str O (n := ((k : Nat) : Int)) (k := k) (q := order.getD k 0) (seq_nat hk) (order_at hk) (by omega) ?_
    refine WV.add_S O ⟨by omega, show 1 ≤ 1000000 by decide⟩ ?_
    with_reducible refine WEs.nil ?_
    refine push_ok G (ao.mono (by decide)) (st3_0 ..) (by rw [prs_len]; omega) ?_
    rw [st3_s0, show prs p ++ [(S mark, S (word ++ [order.getD k 0]))] = prs (p ++ [(mark, word ++ [order.getD k 0])]) from (prs_snoc p (mark, _)).symm]
    refine WSs.cons O ?_
    refine WS.expr O ?_ (by with_unfolding_all rfl) (by with_unfolding_all rfl)
    refine WE.pmeth (fa := 66) (fd := fd2 w 66) O (pilK G) (by rw [G.C]; kernel_rfl) (by kernel_rfl) (by decide) (def66 G).fn ?_ (by with_unfolding_all rfl) ⟨_, (by with_unfolding_all rfl)⟩
    refine WE.name (by walk_at "m") ⟨⟨_, _, _, rfl, st3_0 ..⟩, ?_⟩
    with_reducible refine WEs.cons O ?_ (by with_unfolding_all rfl)
    with_reducible refine WE.strS (l := [46, 46, 46]) O (by with_unfolding_all rfl) ?_
    with_reducible refine WEs.cons O ?_ (by with_unfolding_all rfl)
    with_reducible refine WE.sub O ?_ (fun _ _ => by with_unfolding_all rfl)
    with_reducible refine WE.sub O ?_ (fun _ _ => by with_unfolding_all rfl)
    with_reducible refine WE.name (by walk_at "m") ?_
    with_reducible refine WE.int O ?_
    refine subLst (hT2 _) ?_
    refine WV.item_lst (hT2 _) (k := 0) (q := .tup [.str (S t0.1), .str (S t0.2)]) (show seqIndex? ((0 : Nat) : Int) _ = some 0 from seq_nat (by rw [List.length_map, prs_len]; simp)) rfl (by rw [List.length_map, prs_len]; simp; omega) ?_
    with_reducible refine WE.int O ?_
    with_reducible refine subTup ?_
    refine WV.item_tup (ps := [.str (S t0.1), .str (S t0.2)]) (k := 1) (q := .str (S t0.2)) rfl rfl (by decide) ?_
    with_reducible refine WEs.nil ?_
    refine push_ok G (ao.mono (by decide)) (st3_0 ..) (by rw [prs_len]; simp; omega) ?_
    rw [st3_s0, show (S [46, 46, 46], S t0.2) = (S (dots, t0.2).1, S (dots, t0.2).2) from rfl, ← prs_snoc]
    refine WSs.nil ?_
    rw [List.append_assoc]
    exact hK
  · refine iteF (Bool.eq_false_iff.mpr (not_one hw)) ?_
    rw [show putP way (order.getD k 0) mark word t0.2 = [(mark, word ++ [order.getD k 0] ++ t0.2)] from if_neg hw] at hK
    refine WSs.cons O ?_
    refine WS.expr O ?_ (by with_unfolding_all rfl) (by with_unfolding_all rfl)
    refine WE.pmeth (fa := 66) (fd := fd2 w 66) O (pilK G) (by rw [G.C]; kernel_rfl) (by kernel_rfl) (by decide) (def66 G).fn ?_ (by with_unfolding_all rfl) ⟨_, (by with_unfolding_all rfl)⟩
    refine WE.name (by walk_at "m") ⟨⟨_, _, _, rfl, st3_0 ..⟩, ?_⟩
    with_reducible refine WEs.cons O ?_ (by with_unfolding_all rfl)
    with_reducible refine WE.name (by walk_at "m") ?_
    with_reducible refine WEs.cons O ?_ (by with_unfolding_all rfl)
    with_reducible refine WE.bin O ?_
    with_reducible refine WE.bin O ?_
    with_reducible refine WE.name (by walk_at "m") ?_
    with_reducible refine WE.sub O ?_ (fun _ _ => by with_unfolding_all rfl)
    with_reducible refine WE.name (by walk_at "m") ?_
    with_reducible refine WE.name (by walk_at "m") ?_
    with_reducible refine subStr ?_
    refine WV.item_str O (n := ((k : Nat) : Int)) (k := k) (q := order.getD k 0) (seq_nat hk) (order_at hk) (by omega) ?_
    refine WV.add_S O ⟨by omega, show 1 ≤ 1000000 by decide⟩ ?_
    with_reducible refine WE.sub O ?_ (fun _ _ => by with_unfolding_all rfl)
    with_reducible refine WE.sub O ?_ (fun _ _ => by with_unfolding_all rfl)
    with_reducible refine WE.name (by walk_at "m") ?_
    with_reducible refine WE.int O ?_
    refine subLst (hT2 _) ?_
    refine WV.item_lst (hT2 _) (k := 0) (q := .tup [.str (S t0.1), .str (S t0.2)]) (show seqIndex? ((0 : Nat) : Int) _ = some 0 from seq_nat (by rw [List.length_map, prs_len]; simp)) rfl (by rw [List.length_map, prs_len]; simp; omega) ?_
    with_reducible refine WE.int O ?_
    with_reducible refine subTup ?_
    refine WV.item_tup (ps := [.str (S t0.1), .str (S t0.2)]) (k := 1) (q := .str (S t0.2)) rfl rfl (by decide) ?_
    refine WV.add_S O ⟨by rw [List.length_append]; simp; omega, by omega⟩ ?_
    with_reducible refine WEs.nil ?_
    refine push_ok G (ao.mono (by decide)) (st3_0 ..) (by rw [prs_len]; omega) ?_
    rw [st3_s0, show prs p ++ [(S mark, S (word ++ [order.getD k 0] ++ t0.2))] = prs (p ++ [(mark, word ++ [order.getD k 0] ++ t0.2)]) from (prs_snoc p (mark, _)).symm]
    refine WSs.nil ?_
    exact hK
theorem laid_6 (G : G2 w c) (ao : AOk 3 A) {i h k nF way place nT : Nat} {order mark word : List Nat} {p tl : Pile} {t0 : List Nat × List Nat} {b d : MO} {g : Mu} {L : Addr} {K : PF → Rho → Mu → Prop} (hpb : p.length ≤ 20)
    (hT : g[nT]? = some (.lst ((prs (t0 :: tl)).map pairPV))) (htl : tl.length ≤ 20)
    (hK : ∀ g', (∃ x, g' = g ++ x) → WSs c A ((laidBody w).drop 8) (callEnvC (fd2 w 136) L 136) (ldTail i order h μ.length k nF way place (μ.length + 3 + nT)) (st3 μ (.pil (h : Nat) (prs (p ++ tl))) b d g') K) :
    WSs c A ((laidBody w).drop 7) (callEnvC (fd2 w 136) L 136) (ldMark i order h μ.length k nF way place (μ.length + 3 + nT) mark word) (st3 μ (.pil (h : Nat) (prs p)) b d g) K := by
  have O := G.ok
  have hT2 : ∀ x, (st3 μ x b d g)[μ.length + 3 + nT]? = some (.lst ((prs (t0 :: tl)).map pairPV)) := fun x => by rw [st3_g]; exact hT
  refine WSs.cons O ?_
  refine WS.for_ O ?_ (fun _ => (by with_unfolding_all rfl))
  with_reducible refine WE.slice O ?_
  with_reducible refine WE.name (by walk_at "m") ?_
  with_reducible refine WPart.some ?_
  with_reducible refine WE.int O ?_
  with_reducible refine Exists.intro _ (And.intro rfl ?_)
  with_reducible refine WPart.none ?_
  refine ⟨_, _, .lst _ _ (hT2 _) (by rw [List.length_map, prs_len]; simp; omega), ?_⟩
  rw [show cutL ((prs (t0 :: tl)).map pairPV) (some 1) none = (prs tl).map pairPV from cutL_from _ 1 (by rw [List.length_map, prs_len]; simp), st3_len, st3_ext]
  have hl : ∀ x y, (st3 μ x b d ((g ++ [MO.lst ((prs tl).map pairPV)]) ++ y))[μ.length + 3 + g.length]? = some (.lst ((prs tl).map pairPV)) := fun x y => by rw [st3_g]; exact getElem?_ext (at_end g _ []) y
  refine loopLst (by have := hl (.pil (h : Nat) (prs p)) []; rw [List.append_nil] at this; exact this) ?_
  refine WL.inv (fun j ρ m => (∃ x, m = st3 μ (.pil (h : Nat) (prs (p ++ tl.take j))) b d ((g ++ [MO.lst ((prs tl).map pairPV)]) ++ x)) ∧ ∀ y ∈ ldTail i order h μ.length k nF way place (μ.length + 3 + nT), y ∈ ρ) ((prs tl).map pairPV) O ao.h ?_ (fun j ρ m hV => ?_) (fun j q ρ m hq hV => ?_) fun ρ m hV => ?_
  · exact ⟨⟨[], by rw [List.take_zero, List.append_nil, List.append_nil]⟩, (by walk_at "s")⟩
  · obtain ⟨⟨x, rfl⟩, _⟩ := hV
    exact ⟨by unfold itemsOf; dsimp only; rw [hl], fun i' e => by cases e; exact ⟨_, hl _ _⟩⟩
  · obtain ⟨⟨x, rfl⟩, hs⟩ := hV
    obtain ⟨hj, hq2⟩ := List.getElem?_eq_some_iff.mp hq
    rw [List.length_map, prs_len] at hj
    have e : q = .tup [.str (S tl[j].1), .str (S tl[j].2)] := by
      rw [← hq2, List.getElem_map]; unfold prs; rw [List.getElem_map]; rfl
    subst e
    refine WA.less (ρ' := ldTail i order h μ.length k nF way place (μ.length + 3 + nT)) hs (by show (["numbers", "order", "head", "pile", "drawn", "stages", "k", "free", "way", "place", "tail"] : List Str).Nodup; decide) ?_
    refine WA.tuple O ao.h (by with_unfolding_all rfl) (by with_unfolding_all rfl) ?_
    refine WAs.cons O (WA.name O (by walk_at "u") (.inl rfl) rfl ?_)
    refine WAs.cons O (WA.name O (by walk_at "u") (.inl rfl) rfl (WAs.nil ?_))
    refine WSs.cons O ?_
    refine WS.expr O ?_ (by with_unfolding_all rfl) (by with_unfolding_all rfl)
    refine WE.pmeth (fa := 66) (fd := fd2 w 66) O (pilK G) (by rw [G.C]; kernel_rfl) (by kernel_rfl) (by decide) (def66 G).fn ?_ (by with_unfolding_all rfl) ⟨_, (by with_unfolding_all rfl)⟩
    refine WE.name (by walk_at "m") ⟨⟨_, _, _, rfl, st3_0 ..⟩, ?_⟩
    with_reducible refine WEs.cons O ?_ (by with_unfolding_all rfl)
    with_reducible refine WE.name (by walk_at "m") ?_
    with_reducible refine WEs.cons O ?_ (by with_unfolding_all rfl)
    with_reducible refine WE.name (by walk_at "m") ?_
    with_reducible refine WEs.nil ?_
    refine push_ok G (ao.mono (by decide)) (st3_0 ..) (by rw [prs_len, List.length_append, List.length_take]; omega) ?_
    rw [st3_s0, ← prs_snoc, List.append_assoc, List.take_append_getElem hj]
    refine WSs.nil ⟨⟨x, rfl⟩, (by walk_at "s")⟩
  · obtain ⟨⟨x, rfl⟩, hs⟩ := hV
    rw [List.length_map, prs_len, List.take_length]
    refine WSs.less (ρ' := ldTail i order h μ.length k nF way place (μ.length + 3 + nT)) hs (by show (["numbers", "order", "head", "pile", "drawn", "stages", "k", "free", "way", "place", "tail"] : List Str).Nodup; decide) ?_
    exact hK _ ⟨_, List.append_assoc ..⟩
end
end Mine
namespace Mine
/- ---- the sides of a word ---- -/
/- ---- the tree of a word: the free band's normal form ---- -/
end Mine
namespace Mine
end Mine
namespace Mine
/- ---- words without dots ---- -/
/- ---- what is said twice ---- -/
end Mine
namespace Mine
/-- a change of letters that keeps the dot -/
structure Ren (f : Nat → Nat) : Prop where
  inj : ∀ a b, f a = f b → a = b
  dot : f 46 = 46
section
variable {f : Nat → Nat} (R : Ren f)
include R
theorem Ren.lst : ∀ {a b : List Nat}, a.map f = b.map f → a = b
  | [], [], _ => rfl
  | [], _ :: _, h => by cases h
  | _ :: _, [], h => by cases h
  | x :: a, y :: b, h => by
    rw [List.map_cons, List.map_cons] at h
    injection h with h1 h2
    rw [R.inj _ _ h1, Ren.lst h2]
theorem Ren.beq (a b : List Nat) : (a.map f == b.map f) = (a == b) := by
  rw [Bool.eq_iff_iff, beq_iff_eq, beq_iff_eq]
  exact ⟨fun h => R.lst h, fun h => by rw [h]⟩
theorem Ren.r_dots : dots.map f = dots := by simp [dots, R.dot]
theorem Ren.r_find (x y : List Nat) (lo hi : Nat) : findB (x.map f) (y.map f) lo hi = findB x y lo hi := by
  unfold findB
  congr 1
  funext i
  unfold atB
  rw [List.length_map, ← List.map_drop, ← List.map_take, R.beq]
theorem Ren.r_pre (y x : List Nat) : preB (y.map f) (x.map f) = preB y x := by
  unfold preB
  rw [List.length_map, ← List.map_take, R.beq]
theorem Ren.r_suf (y x : List Nat) : sufB (y.map f) (x.map f) = sufB y x := by
  unfold sufB
  rw [List.length_map, List.length_map, ← List.map_drop, R.beq]
theorem Ren.r_split (w cur : List Nat) : splitD (w.map f) (cur.map f) = (splitD w cur).map fun p => p.map f := by
  induction w, cur using splitD.induct with
  | case1 r cur ih =>
    rw [splitD_dots, List.map_cons, List.map_cons, List.map_cons, R.dot, splitD_dots, List.map_cons]
    congr 1
  | case2 c r cur h ih =>
    have h0 : (c :: r).take 3 ≠ Mine.dots := fun q => by
      match c, r, h, q with
      | _, [], _, q => cases q
      | _, [_], _, q => cases q
      | _, a :: b :: r', h, q =>
        simp [Mine.dots] at q
        obtain ⟨rfl, rfl, rfl⟩ := q
        exact h r' rfl rfl
    have h1 : (f c :: r.map f).take 3 ≠ Mine.dots := fun q => h0 (R.lst (by
      rw [R.r_dots, List.map_take, List.map_cons]; exact q))
    rw [List.map_cons, splitD_plain _ _ _ h0, splitD_plain _ _ _ h1, ← ih, List.map_append, List.map_cons, List.map_nil]
  | case3 cur => simp [splitD]
theorem Ren.r_go (got : List Nat) (hi : Nat) : ∀ (ws : List (List Nat)) (lo : Nat), ellGo (got.map f) hi lo (ws.map fun p => p.map f) = ellGo got hi lo ws
  | [], lo => rfl
  | w :: ws, lo => by
    rw [List.map_cons, ellGo, ellGo, R.r_find]
    cases findB got w lo hi with
    | none => rfl
    | some i => dsimp only; rw [List.length_map, Ren.r_go got hi ws]
theorem Ren.r_ell (want got : List Nat) : ellB (want.map f) (got.map f) = ellB want got := by
  have hs := R.r_split want []
  rw [List.map_nil] at hs
  have hd : ((splitD want []).map fun p => p.map f).headD [] = ((splitD want []).headD []).map f := by cases splitD want [] <;> rfl
  have e1 : ws1 ((splitD want []).map fun p => p.map f) = (ws1 (splitD want [])).map fun p => p.map f := by
    unfold ws1
    rw [hd]
    by_cases h : (splitD want []).headD [] = []
    · rw [if_pos h, if_pos (by rw [h]; rfl)]
    · rw [if_neg h, if_neg (fun q => h (List.map_eq_nil_iff.mp q)), List.map_tail]
  have hl : ∀ l : List (List Nat), (l.map fun p => p.map f).getLastD [] = (l.getLastD []).map f := fun l => by
    rw [List.getLastD_eq_getLast?, List.getLastD_eq_getLast?, List.getLast?_map]
    cases l.getLast? <;> rfl
  have e2 : ∀ l : List (List Nat), ws2 (l.map fun p => p.map f) = (ws2 l).map fun p => p.map f := fun l => by
    unfold ws2
    rw [hl]
    by_cases h : l.getLastD [] = []
    · rw [if_pos h, if_pos (by rw [h]; rfl)]
    · rw [if_neg h, if_neg (fun q => h (List.map_eq_nil_iff.mp q)), List.map_dropLast]
  unfold ellB
  rw [hs, e1, e2, hl, hd, R.r_pre, R.r_suf, R.r_go, List.length_map, List.length_map, List.length_map, List.length_map]
  have hfind : findB (want.map f) Mine.dots 0 want.length = findB want Mine.dots 0 want.length := by
    have := R.r_find want Mine.dots 0 want.length
    rwa [R.r_dots] at this
  rw [hfind, R.beq]
theorem Ren.r_inL (a : Nat) (k : List Nat) : inL (f a) (k.map f) = inL a k := by
  unfold Mine.inL
  have := R.r_find k [a] 0 k.length
  rw [List.length_map]
  rw [← this]; rfl
theorem Ren.r_cov (known : List Nat) : ∀ (row t : List Nat), (row.map f).foldl (covStep (known.map f)) (t.map f) = (row.foldl (covStep known) t).map f
  | [], t => rfl
  | a :: r, t => by
    rw [List.map_cons, List.foldl_cons, List.foldl_cons, ← Ren.r_cov known r]
    congr 1
    unfold covStep
    have e3 : last3 (t.map f) = (last3 t).map f := by unfold last3 cutL; simp [List.map_drop, List.map_take]
    have e4 : (last3 (t.map f) != Mine.dots) = (last3 t != Mine.dots) := by
      rw [e3, bne, bne]
      congr 1
      have := R.beq (last3 t) Mine.dots
      rwa [R.r_dots] at this
    rw [R.r_inL, e4]
    split
    · rw [List.map_append]; rfl
    · split
      · rw [List.map_append, R.r_dots]
      · rfl
theorem Ren.r_covB (known row : List Nat) : Mine.covB (known.map f) (row.map f) = (Mine.covB known row).map f := R.r_cov known row []
theorem Ren.r_toldAt (row order : List Nat) {k : Nat} (hk : k < order.length) : toldAt (row.map f) (order.map f) k = toldAt row order k := by
  have hg : (order.map f).getD k 0 = f (order.getD k 0) := by
    rw [List.getD_eq_getElem?_getD, List.getD_eq_getElem?_getD, List.getElem?_map, List.getElem?_eq_getElem hk]; rfl
  have E := R.r_ell
  have D := R.r_dots
  have e0 : ∀ (w : List Nat) (g : List Nat), g = w.map f → ellB g (row.map f) = ellB w row := fun w g h => by rw [h, E]
  unfold Mine.toldAt
  rw [hg, ← List.map_take, ← List.map_drop]
  generalize order.take k = low
  generalize order.drop (k + 1) = high
  generalize order.getD k 0 = light
  have a1 : aheadB (row.map f) (low.map f) (high.map f) (f light) = aheadB row low high light := by
    unfold aheadB
    rw [List.flatMap_map]
    congr 1
    funext a
    rw [List.map_map]
    congr 1
    funext x
    exact e0 _ _ (by simp [D, List.map_append, R.dot])
  have a2 : firstB (row.map f) (low.map f) (f light) = firstB row low light := by
    unfold firstB
    rw [List.map_map]
    congr 1
    · exact e0 _ _ (by simp [R.dot])
    · congr 1
      funext a
      exact e0 _ _ (by simp [R.dot])
  have a3 : behindB (row.map f) (low.map f) (high.map f) (f light) = behindB row low high light := by
    unfold behindB
    rw [List.flatMap_map]
    congr 1
    funext a
    rw [List.map_map]
    congr 1
    funext x
    exact e0 _ _ (by simp [R.dot])
  have a4 : lastB (row.map f) (low.map f) (f light) = lastB row low light := by
    unfold lastB
    rw [List.map_map]
    congr 1
    · exact e0 _ _ (by simp [R.dot])
    · congr 1
      funext a
      exact e0 _ _ (by simp [R.dot])
  rw [a1, a2, a3, a4]
end
end Mine
namespace Mine
def mapL (f : Nat → Nat) (s : Laid) : Laid := { pile := s.pile.map fun x => (x.1.map f, x.2.map f), drawn := s.drawn, stages := s.stages.map fun t => t.map f }
theorem map_snoc {α β : Type} (g : α → β) (l : List α) (x : α) : (l ++ [x]).map g = l.map g ++ [g x] := by rw [List.map_append]; rfl
theorem joinL_ren (f : Nat → Nat) (sep : List Nat) : ∀ l : List (List Nat), (joinL sep l).map f = joinL (sep.map f) (l.map fun x => x.map f)
  | [] => rfl
  | [x] => rfl
  | x :: y :: r => by
    have ih := joinL_ren f sep (y :: r)
    simp only [joinL, List.map_cons, List.map_append] at ih ⊢
    rw [ih]
theorem getD_ren {α β : Type} (g : α → β) (l : List α) (k : Nat) (d : α) (e : β) (h : g d = e) : (l.map g).getD k e = g (l.getD k d) := by
  rw [List.getD_eq_getElem?_getD, List.getD_eq_getElem?_getD, List.getElem?_map]
  cases l[k]? with
  | none => exact h.symm
  | some x => rfl
section
variable {f : Nat → Nat} (R : Ren f)
include R
theorem Ren.getD1 {l : List Nat} {k : Nat} (h : k < l.length) : (l.map f).getD k 0 = f (l.getD k 0) := by
  rw [List.getD_eq_getElem?_getD, List.getD_eq_getElem?_getD, List.getElem?_map, List.getElem?_eq_getElem h]; rfl
theorem Ren.free (p : Pile) : freeB (p.map fun x => (x.1.map f, x.2.map f)) = freeB p := by
  unfold freeB
  rw [List.length_map]
  congr 1
  funext j
  rw [getD_ren (fun x : List Nat × List Nat => (x.1.map f, x.2.map f)) p j ([], []) ([], []) rfl]
  have := R.beq (p.getD j ([], [])).1 dots
  rwa [R.r_dots] at this
theorem Ren.flat (p : Pile) : flatB (p.map fun x => (x.1.map f, x.2.map f)) = (flatB p).map f := by
  unfold flatB
  rw [List.map_flatten, List.map_map, List.map_map]
  congr 1
  apply List.map_congr_left
  intro x _
  simp
theorem Ren.pop (p : Pile) : popB (p.map fun x => (x.1.map f, x.2.map f)) = (((popB p).1.1.map f, (popB p).1.2.map f), (popB p).2.map fun x => (x.1.map f, x.2.map f)) := by
  unfold popB
  rw [List.getLast?_map]
  cases p.getLast? with
  | none => rfl
  | some x => simp [List.map_dropLast]
theorem Ren.lay (a k w pl : Nat) (s : Laid) : layB (f a) k w pl (mapL f s) = mapL f (layB a k w pl s) := by
  have F := R.free s.pile
  have hp : (mapL f s).pile = s.pile.map fun x => (x.1.map f, x.2.map f) := rfl
  have hd0 : ∀ j, (((s.pile.map fun x => (x.1.map f, x.2.map f)).drop j).getD 0 ([], [])).2 = ((s.pile.drop j).getD 0 ([], [])).2.map f := fun j => by
    rw [← List.map_drop, getD_ren (fun x : List Nat × List Nat => (x.1.map f, x.2.map f)) (s.pile.drop j) 0 ([], []) ([], []) rfl]
  have key : ∀ j, (let tail := (s.pile.map fun x => (x.1.map f, x.2.map f)).drop j
      let r := if w % 2 = 1 then ((dots, []), (s.pile.map fun x => (x.1.map f, x.2.map f)).take j) else popB ((s.pile.map fun x => (x.1.map f, x.2.map f)).take j)
      let put : Pile := if w / 2 = 1 then [(r.1.1, r.1.2 ++ [f a]), (dots, (tail.getD 0 ([], [])).2)] else [(r.1.1, r.1.2 ++ [f a] ++ (tail.getD 0 ([], [])).2)]
      r.2 ++ put ++ tail.drop 1) = (let tail := s.pile.drop j
      let r := if w % 2 = 1 then ((dots, []), s.pile.take j) else popB (s.pile.take j)
      let put : Pile := if w / 2 = 1 then [(r.1.1, r.1.2 ++ [a]), (dots, (tail.getD 0 ([], [])).2)] else [(r.1.1, r.1.2 ++ [a] ++ (tail.getD 0 ([], [])).2)]
      r.2 ++ put ++ tail.drop 1).map fun x => (x.1.map f, x.2.map f) := fun j => by
    dsimp only
    rw [hd0]
    have er : (if w % 2 = 1 then ((dots, []), (s.pile.map fun x => (x.1.map f, x.2.map f)).take j) else popB ((s.pile.map fun x => (x.1.map f, x.2.map f)).take j))
        = (((if w % 2 = 1 then ((dots, []), s.pile.take j) else popB (s.pile.take j)).1.1.map f, (if w % 2 = 1 then ((dots, []), s.pile.take j) else popB (s.pile.take j)).1.2.map f), (if w % 2 = 1 then ((dots, []), s.pile.take j) else popB (s.pile.take j)).2.map fun x => (x.1.map f, x.2.map f)) := by
      split
      · simp only [R.r_dots, List.map_nil, List.map_take]
      · rw [← List.map_take, R.pop]
    rw [er]
    generalize (if w % 2 = 1 then ((dots, []), s.pile.take j) else popB (s.pile.take j)) = r
    obtain ⟨⟨r1, r2⟩, r3⟩ := r
    dsimp only
    rw [List.map_append, List.map_append, List.map_drop, List.map_drop]
    congr 2
    split
    · simp only [List.map_cons, List.map_nil, List.map_append, R.r_dots]
    · simp only [List.map_cons, List.map_nil, List.map_append]
  unfold layB
  rw [hp, F]
  have e1 := key ((freeB s.pile).getD pl 0)
  dsimp only at e1 ⊢
  rw [e1]
  unfold mapL
  dsimp only
  congr 1
  rw [R.flat]
  exact (map_snoc (fun t : List Nat => t.map f) _ _).symm
theorem Ren.laid (order xs : List Nat) : ∀ k, k ≤ order.length → laidTo (order.map f) xs k = mapL f (laidTo order xs k)
  | 0, _ => by
    show laid0 = mapL f laid0
    unfold mapL laid0
    simp [R.dot]
  | k + 1, h => by
    rw [laidTo, laidTo, Ren.laid order xs k (Nat.le_of_lt h), R.getD1 h]
    unfold layX
    have F : freeB (mapL f (laidTo order xs k)).pile = freeB (laidTo order xs k).pile := R.free _
    rw [F, R.lay]
theorem Ren.taken (st : List (List Nat)) : takenB (st.map fun t => t.map f) = takenB st := by
  have g : ∀ k, (st.map fun t => t.map f).getD k [] = (st.getD k []).map f := fun k => getD_ren (fun t : List Nat => t.map f) st k [] [] rfl
  unfold takenB
  simp only [g, R.r_ell]
  congr 1
  rw [← List.map_take, List.all_map]
  congr 1
  funext t
  show ellB (joinL (dots ++ dots) (splitD (t.map f) [])) _ = _
  have := R.r_split t []
  rw [List.map_nil] at this
  rw [this]
  have hj := joinL_ren f (dots ++ dots) (splitD t [])
  rw [List.map_append, R.r_dots] at hj
  rw [← hj, R.r_ell]
theorem Ren.lap {row : List Nat} (h5 : row.length = 5) {k : Nat} (hk : k < 5) : lapOk (row.map f) k = lapOk row k := by
  have e1 : lapB (row.map f) k = (lapB row k).map f := by unfold lapB; simp only [List.map_append, List.map_take, List.map_drop, R.r_dots]
  have e2 : ∀ m, twiceB (row.map f) m = (twiceB row m).map f := fun m => by unfold twiceB; simp only [List.map_append, List.map_take, List.map_drop]
  have e3 : ∀ a b, putB (row.map f) (f a) (f b) = (putB row a b).map f := fun a b => by
    unfold putB
    rw [List.map_map, List.map_map]
    apply List.map_congr_left
    intro x _
    show (if f x = f a then f b else f x) = f (if x = a then b else x)
    by_cases h : x = a
    · rw [if_pos h, if_pos (by rw [h])]
    · rw [if_neg h, if_neg fun q => h (R.inj _ _ q)]
  have e4 : (row.map f).take k ++ dots ++ (row.map f).drop k = (row.take k ++ dots ++ row.drop k).map f := by simp only [List.map_append, List.map_take, List.map_drop, R.r_dots]
  have e5 : ∀ w : List Nat, dots ++ w.map f = (dots ++ w).map f := fun w => by rw [List.map_append, R.r_dots]
  have e6 : ∀ w : List Nat, w.map f ++ dots = (w ++ dots).map f := fun w => by rw [List.map_append, R.r_dots]
  have gk : (row.map f).getD k 0 = f (row.getD k 0) := R.getD1 (by rw [h5]; exact hk)
  unfold lapOk
  rw [gk, e1, e4]
  simp only [e2, e5, e6, R.r_ell, List.all_cons, List.all_nil]
  congr 1
  have : ∀ m ∈ List.range 5, (ellB (row.map f) (putB (row.map f) (f (row.getD k 0)) ((row.map f).getD m 0)) == (m == k)) = (ellB row (putB row (row.getD k 0) (row.getD m 0)) == (m == k)) := fun m hm => by
    rw [R.getD1 (by rw [h5]; exact List.mem_range.mp hm), e3, R.r_ell]
  rw [Bool.eq_iff_iff, List.all_eq_true, List.all_eq_true]
  exact ⟨fun h m hm => by rw [← this m hm]; exact h m hm, fun h m hm => by rw [this m hm]; exact h m hm⟩
theorem Ren.laps {row : List Nat} (h5 : row.length = 5) : lapsB (row.map f) = lapsB row := by
  have g : ∀ k, k < 5 → (row.map f).getD k 0 = f (row.getD k 0) := fun k hk => R.getD1 (by rw [h5]; exact hk)
  have d := R.dot
  have bk : backB (row.map f) = (backB row).map f := by
    unfold backB
    rw [List.map_append, List.map_append, R.r_dots, joinL_ren, R.r_dots, List.map_map, ← List.map_reverse, List.map_map]
    rfl
  have tm : ∀ n, timesB (row.map f) n = (timesB row n).map f := fun n => by unfold timesB; rw [List.map_flatten, List.map_replicate]
  have ea : askedB (row.map f) = (askedB row).map fun x => (x.1.map f, x.2.1.map f, x.2.2) := by
    unfold askedB
    rw [bk, tm, tm, g 3 (by decide), g 1 (by decide), g 4 (by decide)]
    simp only [List.map_cons, List.map_nil, List.map_append, List.map_reverse, List.map_take, List.map_drop, d]
  unfold lapsB
  rw [ea, List.all_map]
  congr 1
  · rw [Bool.eq_iff_iff, List.all_eq_true, List.all_eq_true]
    exact ⟨fun h m hm => by rw [← R.lap h5 (List.mem_range.mp hm)]; exact h m hm, fun h m hm => by rw [R.lap h5 (List.mem_range.mp hm)]; exact h m hm⟩
  · congr 1
    funext x
    show (ellB (x.1.map f) (x.2.1.map f) == x.2.2) = _
    rw [R.r_ell]
theorem Ren.beq2 : ∀ a b : List (List Nat), ((a.map fun t => t.map f) == (b.map fun t => t.map f)) = (a == b)
  | [], [] => rfl
  | [], _ :: _ => rfl
  | _ :: _, [] => rfl
  | x :: a, y :: b => by
    have h1 := R.beq x y
    have h2 := Ren.beq2 a b
    show (x.map f == y.map f && (a.map fun t => t.map f) == (b.map fun t => t.map f)) = (x == y && a == b)
    rw [h1, h2]
theorem Ren.lawOk {order : List Nat} (ho : order.length = 5) (s : Laid) (h5 : (s.stages.getD 5 []).length = 5) : lawOk (order.map f) (mapL f s) = Mine.lawOk order s := by
  have g : (mapL f s).stages.getD 5 [] = (s.stages.getD 5 []).map f := getD_ren (fun t : List Nat => t.map f) s.stages 5 [] [] rfl
  have e1 : ((List.range 6).map fun n => covB ((order.map f).take n) ((s.stages.getD 5 []).map f)) = ((List.range 6).map fun n => covB (order.take n) (s.stages.getD 5 [])).map fun t => t.map f := by
    rw [List.map_map]
    apply List.map_congr_left
    intro n _
    show covB ((order.map f).take n) _ = _
    rw [← List.map_take, R.r_covB]; rfl
  have e2 : toldB ((s.stages.getD 5 []).map f) (order.map f) = toldB (s.stages.getD 5 []) order := by
    unfold toldB
    apply List.map_congr_left
    intro k hk
    exact R.r_toldAt _ _ (by rw [ho]; exact List.mem_range.mp hk)
  unfold Mine.lawOk
  rw [g, e1, e2]
  show ((s.stages.map fun t => t.map f) == _ && toldB (s.stages.getD 5 []) order == s.drawn && takenB (s.stages.map fun t => t.map f) && lapsB ((s.stages.getD 5 []).map f)) = _
  rw [R.beq2, R.taken, R.laps h5]
end
end Mine
namespace Mine
abbrev o5 : List Nat := [0, 1, 2, 3, 4]
def okAt (s : Laid) : Bool := lawOk o5 s && (s.stages.getD 5 []).length == 5
theorem hist_len : (histB o5 5).length = 120 := by kernel_rfl
theorem ways_all : ((List.range 5).all fun k => (histB o5 k).all fun s => decide (0 < (waysB (freeB s.pile).length k).length) && decide (0 < (freeB s.pile).length)) = true := by kernel_rfl
def chunk (i : Nat) : List Laid := ((histB o5 5).drop (8 * i)).take 8
theorem in_chunk {α : Type} (l : List α) (x : α) (h : x ∈ l) : ∃ i, 8 * i < l.length ∧ x ∈ (l.drop (8 * i)).take 8 := by
  obtain ⟨n, hn, rfl⟩ := List.mem_iff_getElem.mp h
  refine ⟨n / 8, Nat.lt_of_le_of_lt (Nat.mul_div_le n 8) hn, ?_⟩
  rw [List.mem_iff_getElem?]
  refine ⟨n % 8, ?_⟩
  rw [List.getElem?_take, if_pos (Nat.mod_lt n (by decide)), List.getElem?_drop, List.getElem?_eq_some_iff]
  have e : 8 * (n / 8) + n % 8 = n := Nat.div_add_mod n 8
  exact ⟨by rw [e]; exact hn, by simp only [e]⟩
theorem ch0 : (chunk 0).all okAt = true := by kernel_rfl
theorem ch1 : (chunk 1).all okAt = true := by kernel_rfl
theorem ch2 : (chunk 2).all okAt = true := by kernel_rfl
theorem ch3 : (chunk 3).all okAt = true := by kernel_rfl
theorem ch4 : (chunk 4).all okAt = true := by kernel_rfl
theorem ch5 : (chunk 5).all okAt = true := by kernel_rfl
theorem ch6 : (chunk 6).all okAt = true := by kernel_rfl
theorem ch7 : (chunk 7).all okAt = true := by kernel_rfl
theorem ch8 : (chunk 8).all okAt = true := by kernel_rfl
theorem ch9 : (chunk 9).all okAt = true := by kernel_rfl
theorem ch10 : (chunk 10).all okAt = true := by kernel_rfl
theorem ch11 : (chunk 11).all okAt = true := by kernel_rfl
theorem ch12 : (chunk 12).all okAt = true := by kernel_rfl
theorem ch13 : (chunk 13).all okAt = true := by kernel_rfl
theorem ch14 : (chunk 14).all okAt = true := by kernel_rfl
theorem chunks : ∀ i, i < 15 → (chunk i).all okAt = true := lt_step (lt_step (lt_step (lt_step (lt_step (lt_step (lt_step (lt_step (lt_step (lt_step (lt_step (lt_step (lt_step (lt_step (lt_step lt_none ch0) ch1) ch2) ch3) ch4) ch5) ch6) ch7) ch8) ch9) ch10) ch11) ch12) ch13) ch14
theorem hist_ok : ∀ s ∈ histB o5 5, okAt s = true := fun s hs => by
  obtain ⟨i, hi, hx⟩ := in_chunk _ s hs
  rw [hist_len] at hi
  exact List.all_eq_true.mp (chunks i (Nat.lt_of_mul_lt_mul_left (a := 8) (hi : 8 * i < 8 * 15))) s hx
theorem laid_hist (xs : List Nat) : ∀ k, k ≤ 5 → laidTo o5 xs k ∈ histB o5 k
  | 0, _ => List.mem_singleton.mpr rfl
  | k + 1, h => by
    have ih := laid_hist xs k (Nat.le_of_lt h)
    have hw := List.all_eq_true.mp (List.all_eq_true.mp ways_all k (List.mem_range.mpr h)) _ ih
    rw [Bool.and_eq_true, decide_eq_true_iff, decide_eq_true_iff] at hw
    rw [histB, List.mem_flatMap]
    refine ⟨_, ih, ?_⟩
    rw [List.mem_flatMap]
    rw [laidTo]
    unfold layX
    have h1 := Nat.mod_lt (xs.getD k 0) hw.1
    refine ⟨_, ?_, List.mem_map.mpr ⟨_, List.mem_range.mpr (Nat.mod_lt _ hw.2), rfl⟩⟩
    rw [List.getD_eq_getElem?_getD, List.getElem?_eq_getElem h1]
    exact List.getElem_mem h1
abbrev L5 : List Nat := [97, 65, 32, 10, 42]
def renOf (p : List Nat) (n : Nat) : Nat := if n = 46 then 46 else if n < 5 then L5.getD (p.getD n 0) 0 else n + 1000
theorem over97 {x : Nat} (b : Nat) (h : x ≤ 97) : x ≠ b + 1000 := Nat.ne_of_lt (Nat.lt_of_le_of_lt h (Nat.lt_of_lt_of_le (by decide : 97 < 1000) (Nat.le_add_left 1000 b)))
theorem renOf_ok {p : List Nat} (h1 : p.length = 5) (h2 : ∀ j ∈ p, j < 5) (h3 : p.Nodup) : Ren (renOf p) := by
  have hp : ∀ n, n < 5 → p.getD n 0 < 5 := fun n hn => by
    rw [List.getD_eq_getElem?_getD, List.getElem?_eq_getElem (Nat.lt_of_lt_of_le hn (Nat.le_of_eq h1.symm))]
    exact h2 _ (List.getElem_mem _)
  have hL : ∀ x, x < 5 → L5.getD x 0 ≤ 97 ∧ L5.getD x 0 ≠ 46 := by decide
  have hI : ∀ x, x < 5 → ∀ y, y < 5 → L5.getD x 0 = L5.getD y 0 → x = y := by decide
  have hN : ∀ a b, a < 5 → b < 5 → p.getD a 0 = p.getD b 0 → a = b := fun a b ha hb e => by
    have la : a < p.length := Nat.lt_of_lt_of_le ha (Nat.le_of_eq h1.symm)
    have lb : b < p.length := Nat.lt_of_lt_of_le hb (Nat.le_of_eq h1.symm)
    rw [List.getD_eq_getElem?_getD, List.getD_eq_getElem?_getD, List.getElem?_eq_getElem la, List.getElem?_eq_getElem lb] at e
    have e : p[a] = p[b] := e
    have hw := List.pairwise_iff_getElem.mp h3
    rcases Nat.lt_trichotomy a b with h | h | h
    · exact absurd e (hw a b la lb h)
    · exact h
    · exact absurd e.symm (hw b a lb la h)
  refine ⟨fun a b h => ?_, rfl⟩
  unfold renOf at h
  by_cases a46 : a = 46
  · rw [if_pos a46] at h
    by_cases b46 : b = 46
    · rw [a46, b46]
    · rw [if_neg b46] at h
      by_cases b5 : b < 5
      · rw [if_pos b5] at h; exact absurd h.symm (hL _ (hp b b5)).2
      · rw [if_neg b5] at h; exact absurd h (over97 b (by decide))
  · rw [if_neg a46] at h
    by_cases a5 : a < 5
    · rw [if_pos a5] at h
      have := hL _ (hp a a5)
      by_cases b46 : b = 46
      · rw [if_pos b46] at h; exact absurd h this.2
      · rw [if_neg b46] at h
        by_cases b5 : b < 5
        · rw [if_pos b5] at h; exact hN a b a5 b5 (hI _ (hp a a5) _ (hp b b5) h)
        · rw [if_neg b5] at h; exact absurd h (over97 b this.1)
    · rw [if_neg a5] at h
      by_cases b46 : b = 46
      · rw [if_pos b46] at h; exact absurd h.symm (over97 a (by decide))
      · rw [if_neg b46] at h
        by_cases b5 : b < 5
        · rw [if_pos b5] at h; exact absurd h.symm (over97 a (hL _ (hp b b5)).1)
        · rw [if_neg b5] at h; exact Nat.add_right_cancel h
/-- the five letters in any order -/
def orderOf (p : List Nat) : List Nat := p.map fun j => L5.getD j 0
theorem orderOf_ren {p : List Nat} (h1 : p.length = 5) : orderOf p = o5.map (renOf p) := by
  match p, h1 with
  | [a, b, c, d, e], _ => rfl
theorem law_plain {p xs : List Nat} (h1 : p.length = 5) (h2 : ∀ j ∈ p, j < 5) (h3 : p.Nodup) : lawOk (orderOf p) (laidTo (orderOf p) xs 5) = true ∧ ((laidTo (orderOf p) xs 5).stages.getD 5 []).length = 5 := by
  have R := renOf_ok h1 h2 h3
  have hs := hist_ok _ (laid_hist xs 5 (Nat.le_refl _))
  unfold okAt at hs
  rw [Bool.and_eq_true, beq_iff_eq] at hs
  rw [orderOf_ren h1, R.laid o5 xs 5 (Nat.le_refl _)]
  refine ⟨by rw [R.lawOk rfl _ hs.2]; exact hs.1, ?_⟩
  show ((((laidTo o5 xs 5).stages.map fun t => t.map (renOf p)).getD 5 [])).length = 5
  rw [getD_ren (fun t : List Nat => t.map (renOf p)) (laidTo o5 xs 5).stages 5 [] [] rfl, List.length_map, hs.2]
end Mine
namespace Mine
noncomputable section
variable {w : World} {c : Cx} {A : Around} {μ : Mu}
theorem IntLists.snoc {g : Mu} {bs : List Nat} {ll : List (List Int)} (h : IntLists g bs ll) (l : List Int) : IntLists (g ++ [MO.lst (l.map PV.int)]) (bs ++ [g.length]) (ll ++ [l]) := by
  refine ⟨by rw [List.length_append, List.length_append, h.1]; rfl, fun j a x h1 h2 => ?_⟩
  by_cases hj : j < bs.length
  · rw [List.getElem?_append_left hj] at h1
    rw [List.getElem?_append_left (by rw [← h.1]; exact hj)] at h2
    exact getElem?_ext (h.2 j a x h1 h2) _
  · have hj2 : j = bs.length := by
      have := (List.getElem?_eq_some_iff.mp h1).1
      rw [List.length_append, List.length_singleton] at this
      omega
    subst hj2
    rw [List.getElem?_append_right (Nat.le_refl _), Nat.sub_self] at h1
    rw [h.1, List.getElem?_append_right (Nat.le_refl _), Nat.sub_self] at h2
    cases h1; cases h2
    exact at_end g _ []
abbrev ldLoop (i : Nat) (order : List Nat) (h P : Nat) : Rho := [("numbers", .loc i), ("order", .str (S order)), ("head", .int (h : Nat)), ("pile", .loc P), ("drawn", .loc (P + 1)), ("stages", .loc (P + 2))]
def locs (n : Nat) (bs : List Nat) : List PV := bs.map fun b => .loc (n + 3 + b)
theorem locs_snoc (n : Nat) (bs : List Nat) (x : Nat) : locs n (bs ++ [x]) = locs n bs ++ [PV.loc (n + 3 + x)] := by unfold locs; rw [List.map_append]; rfl
theorem laid_7 (G : G2 w c) (ao : AOk 4 A) {i h k nF way place nT : Nat} {order fr bs : List Nat} {p : Pile} {dr : List (List Int)} {stg : List (List Nat)} {g : Mu} {L : Addr} {K : PF → Rho → Mu → Prop} (hpb : p.length ≤ 20) (hfb : (flatB p).length ≤ 1000) (hh : h ≤ 10)
    (hF : g[nF]? = some (.lst (fr.map fun (x : Nat) => .int (x : Nat)))) (f1 : fr.length ≤ 20) (hD : IntLists g bs dr) (bl : bs.length ≤ 20) (sl : stg.length ≤ 20)
    (hK : ∀ ρ' g' bs', (∀ y ∈ ldLoop i order h μ.length, y ∈ ρ') → IntLists g' bs' (dr ++ [[(place : Int), ((way % 2 : Nat) : Int), (fr.length : Int) - 1 - (place : Int), ((way / 2 : Nat) : Int)]]) → K .next ρ' (st3 μ (.pil (h : Nat) (prs p)) (.lst (locs μ.length bs')) (.lst (strL (stg ++ [flatB p]))) g')) :
    WSs c A ((laidBody w).drop 8) (callEnvC (fd2 w 136) L 136) (ldTail i order h μ.length k (μ.length + 3 + nF) way place nT) (st3 μ (.pil (h : Nat) (prs p)) (.lst (locs μ.length bs)) (.lst (strL stg)) g) K := by
  have O := G.ok
  have hF2 := st3_g μ (.pil (h : Nat) (prs p)) (.lst (locs μ.length bs)) (.lst (strL stg)) g nF
  rw [hF] at hF2
  refine WSs.cons O ?_
  with_reducible refine WS.expr O ?_ (by with_unfolding_all rfl) (by with_unfolding_all rfl)
  with_reducible refine WE.meth O F.plainAttrs_list F.slot_list_append F.type_list_append ?_ (by with_unfolding_all rfl) ⟨_, by with_unfolding_all rfl⟩
  with_reducible refine WE.name (by walk_at "m") ?_
  refine kindLst (st3_1 ..) ?_
  with_reducible refine WEs.cons O ?_ (by with_unfolding_all rfl)
  with_reducible refine WE.list O ?_
  with_reducible refine WEs.cons O ?_ (by with_unfolding_all rfl)
  with_reducible refine WE.name (by walk_at "m") ?_
  with_reducible refine WEs.cons O ?_ (by with_unfolding_all rfl)
  with_reducible refine WE.bin O ?_
  with_reducible refine WE.name (by walk_at "m") ?_
  with_reducible refine WE.int O ?_
  with_reducible refine WV.mod_nat O (by with_unfolding_all rfl) (by with_unfolding_all rfl) (by decide) ?_
  with_reducible refine WEs.cons O ?_ (by with_unfolding_all rfl)
  with_reducible refine WE.bin O ?_
  with_reducible refine WE.bin O ?_
  with_reducible refine WE.call_bi O (G2.n_len G) (G2.b_len G) ?_ (by with_unfolding_all rfl) (by with_unfolding_all rfl) (by with_unfolding_all rfl) (by with_unfolding_all rfl)
  with_reducible refine WEs.cons O ?_ (by with_unfolding_all rfl)
  with_reducible refine WE.name (by walk_at "m") ?_
  with_reducible refine WEs.nil ?_
  refine WC.len_lst O hF2 (by rw [List.length_map]; omega) ?_
  rw [List.length_map]
  with_reducible refine WE.int O ?_
  with_reducible refine WV.sub_int O ?_
  with_reducible refine WE.name (by walk_at "m") ?_
  with_reducible refine WV.sub_int O ?_
  with_reducible refine WEs.cons O ?_ (by with_unfolding_all rfl)
  with_reducible refine WE.bin O ?_
  with_reducible refine WE.name (by walk_at "m") ?_
  with_reducible refine WE.int O ?_
  with_reducible refine WV.div_nat O (by with_unfolding_all rfl) (by with_unfolding_all rfl) (by decide) ?_
  with_reducible refine WEs.nil ?_
  refine ⟨show 4 ≤ 1000 by decide, ?_⟩
  with_reducible refine WEs.nil ?_
  rw [st3_ext, st3_len]
  refine WC.append O (st3_1 ..) (by unfold locs; rw [List.length_map]; omega) ?_
  have hD2 := hD.snoc [(place : Int), ((way % 2 : Nat) : Int), (fr.length : Int) - 1 - (place : Int), ((way / 2 : Nat) : Int)]
  rw [st3_s1, show locs μ.length bs ++ [PV.loc (μ.length + 3 + g.length)] = locs μ.length (bs ++ [g.length]) from (locs_snoc ..).symm]
  rw [show ([PV.int ((place : Nat) : Int), PV.int ((way % 2 : Nat) : Int), PV.int ((fr.length : Int) - 1 - (place : Int)), PV.int ((way / 2 : Nat) : Int)] : List PV) = [(place : Int), ((way % 2 : Nat) : Int), (fr.length : Int) - 1 - (place : Int), ((way / 2 : Nat) : Int)].map PV.int from rfl]
  generalize g ++ [MO.lst ([(place : Int), ((way % 2 : Nat) : Int), (fr.length : Int) - 1 - (place : Int), ((way / 2 : Nat) : Int)].map PV.int)] = g2 at *
  generalize bs ++ [g.length] = bs2 at *
  refine WSs.cons O ?_
  with_reducible refine WS.assign_name O ?_ (.inl (by with_unfolding_all rfl)) (by with_unfolding_all rfl) (by with_unfolding_all rfl)
  with_reducible refine WE.call_ty O (G2.n_str G) (G2.b_str G) ?_ (by with_unfolding_all rfl) (by with_unfolding_all rfl) (by with_unfolding_all rfl) (by with_unfolding_all rfl)
  with_reducible refine WEs.cons O ?_ (by with_unfolding_all rfl)
  with_reducible refine WE.name (by walk_at "m") ?_
  with_reducible refine WEs.nil ?_
  refine pstrP G (ao.mono (by decide)) (st3_0 ..) (by omega) hfb ?_
  with_reducible refine updE (by walk_at "u") ?_
  with_reducible refine WSs.cons O ?_
  with_reducible refine WS.expr O ?_ (by with_unfolding_all rfl) (by with_unfolding_all rfl)
  with_reducible refine WE.meth O F.plainAttrs_list F.slot_list_append F.type_list_append ?_ (by with_unfolding_all rfl) ⟨_, by with_unfolding_all rfl⟩
  with_reducible refine WE.name (by walk_at "m") ?_
  refine kindLst (st3_2 ..) ?_
  with_reducible refine WEs.cons O ?_ (by with_unfolding_all rfl)
  with_reducible refine WE.ife O ?_
  with_reducible refine WB.cmp1 O ?_ (by with_unfolding_all rfl)
  with_reducible refine WE.call_bi O (G2.n_len G) (G2.b_len G) ?_ (by with_unfolding_all rfl) (by with_unfolding_all rfl) (by with_unfolding_all rfl) (by with_unfolding_all rfl)
  with_reducible refine WEs.cons O ?_ (by with_unfolding_all rfl)
  with_reducible refine WE.name (by walk_at "m") ?_
  with_reducible refine WEs.nil ?_
  refine plenP G (ao.mono (by decide)) (st3_0 ..) (by omega) hfb (by omega) ?_
  with_reducible refine WE.bin O ?_
  with_reducible refine WE.name (by walk_at "m") ?_
  with_reducible refine WE.call_bi O (G2.n_len G) (G2.b_len G) ?_ (by with_unfolding_all rfl) (by with_unfolding_all rfl) (by with_unfolding_all rfl) (by with_unfolding_all rfl)
  with_reducible refine WEs.cons O ?_ (by with_unfolding_all rfl)
  with_reducible refine WE.name (by walk_at "m") ?_
  with_reducible refine WEs.nil ?_
  refine WC.len_str O (by omega) ?_
  with_reducible refine WV.add_nat O (by with_unfolding_all rfl) (by with_unfolding_all rfl) ?_
  with_reducible refine WV.eq_int ?_
  with_reducible refine Exists.intro _ (And.intro rfl ?_)
  rw [if_pos (beq_iff_eq.mpr (Int.natCast_add h (flatB p).length).symm)]
  with_reducible refine WE.name (by walk_at "m") ?_
  with_reducible refine WEs.nil ?_
  refine WC.append O (st3_2 ..) (by rw [List.length_map]; omega) ?_
  rw [st3_s2, show strL stg ++ [PV.str (S (flatB p))] = strL (stg ++ [flatB p]) from (map_snoc (fun x => PV.str (S x)) stg (flatB p)).symm]
  refine WSs.nil ?_
  exact hK _ _ _ (by walk_at "s") hD2
end
end Mine
namespace Mine
def sizeB (k : Nat) (s : Laid) : Bool := decide (s.pile.length ≤ 10) && (s.pile.all fun x => decide (x.2.length ≤ 100)) && decide ((flatB s.pile).length ≤ 100) && decide (s.stages.length = k + 1) && decide (s.drawn.length = k) && (s.stages.all fun t => decide (t.length ≤ 100))
theorem sizes_all : ((List.range 6).all fun k => (histB o5 k).all (sizeB k)) = true := by kernel_rfl
structure StOk (k : Nat) (s : Laid) : Prop where
  pl : s.pile.length ≤ 10
  el : ∀ x ∈ s.pile, x.2.length ≤ 100
  fl : (flatB s.pile).length ≤ 100
  sl : s.stages.length = k + 1
  dl : s.drawn.length = k
  tl : ∀ t ∈ s.stages, t.length ≤ 100
theorem stOk_of {k : Nat} {s : Laid} (h : sizeB k s = true) : StOk k s := by
  unfold sizeB at h
  rw [Bool.and_eq_true, Bool.and_eq_true, Bool.and_eq_true, Bool.and_eq_true, Bool.and_eq_true] at h
  obtain ⟨⟨⟨⟨⟨h1, h2⟩, h3⟩, h4⟩, h5⟩, h6⟩ := h
  exact ⟨of_decide_eq_true h1, fun x hx => of_decide_eq_true (List.all_eq_true.mp h2 x hx), of_decide_eq_true h3, of_decide_eq_true h4, of_decide_eq_true h5, fun x hx => of_decide_eq_true (List.all_eq_true.mp h6 x hx)⟩
theorem stOk_ren {f : Nat → Nat} (R : Ren f) {k : Nat} {s : Laid} (h : StOk k s) : StOk k (mapL f s) where
  pl := by show (s.pile.map _).length ≤ 10; rw [List.length_map]; exact h.pl
  el := fun x hx => by
    obtain ⟨y, hy, rfl⟩ := List.mem_map.mp (show x ∈ s.pile.map _ from hx)
    show (y.2.map f).length ≤ 100
    rw [List.length_map]
    exact h.el y hy
  fl := by
    have : flatB (mapL f s).pile = (flatB s.pile).map f := R.flat s.pile
    rw [this, List.length_map]; exact h.fl
  sl := by show (s.stages.map _).length = _; rw [List.length_map]; exact h.sl
  dl := h.dl
  tl := fun x hx => by
    obtain ⟨y, hy, rfl⟩ := List.mem_map.mp (show x ∈ s.stages.map _ from hx)
    rw [List.length_map]
    exact h.tl y hy
theorem laid_ok {p xs : List Nat} (h1 : p.length = 5) (h2 : ∀ j ∈ p, j < 5) (h3 : p.Nodup) {k : Nat} (hk : k ≤ 5) : StOk k (laidTo (orderOf p) xs k) := by
  have R := renOf_ok h1 h2 h3
  rw [orderOf_ren h1, R.laid o5 xs k hk]
  exact stOk_ren R (stOk_of (List.all_eq_true.mp (List.all_eq_true.mp sizes_all k (List.mem_range.mpr (by omega))) _ (laid_hist xs k hk)))
theorem laid_pos {p xs : List Nat} (h1 : p.length = 5) (h2 : ∀ j ∈ p, j < 5) (h3 : p.Nodup) {k : Nat} (hk : k < 5) : 0 < (waysB (freeB (laidTo (orderOf p) xs k).pile).length k).length ∧ 0 < (freeB (laidTo (orderOf p) xs k).pile).length := by
  have R := renOf_ok h1 h2 h3
  rw [orderOf_ren h1, R.laid o5 xs k (Nat.le_of_lt hk)]
  have : freeB (mapL (renOf p) (laidTo o5 xs k)).pile = freeB (laidTo o5 xs k).pile := R.free _
  rw [this]
  have hw := List.all_eq_true.mp (List.all_eq_true.mp ways_all k (List.mem_range.mpr hk)) _ (laid_hist xs k (Nat.le_of_lt hk))
  rw [Bool.and_eq_true, decide_eq_true_iff, decide_eq_true_iff] at hw
  exact hw
theorem free_lt {p : Pile} {j : Nat} (h : j ∈ freeB p) : j < p.length := List.mem_range.mp (List.mem_filter.mp h).1
end Mine
namespace Mine
noncomputable section
variable {w : World} {c : Cx} {A : Around} {μ : Mu}
theorem keep122 {w : World} : keepIn (H2 w) (.ref 122) = true := by kernel_rfl
theorem lay_pile {a k way place : Nat} {s : Laid} {t0 : List Nat × List Nat} {tl : Pile} (h : s.pile.drop ((freeB s.pile).getD place 0) = t0 :: tl) :
    (layB a k way place s).pile = (offB way (s.pile.take ((freeB s.pile).getD place 0))).2 ++ putP way a (offB way (s.pile.take ((freeB s.pile).getD place 0))).1.1 (offB way (s.pile.take ((freeB s.pile).getD place 0))).1.2 t0.2 ++ tl := by
  unfold layB offB putP
  dsimp only
  rw [h]
  rfl
theorem lay_stages {a k way place : Nat} {s : Laid} : (layB a k way place s).stages = s.stages ++ [flatB (layB a k way place s).pile] := rfl
theorem lay_drawn {a k way place : Nat} {s : Laid} : (layB a k way place s).drawn = s.drawn ++ [[(place : Int), ((way % 2 : Nat) : Int), ((freeB s.pile).length : Int) - 1 - (place : Int), ((way / 2 : Nat) : Int)]] := rfl
theorem off_word {way : Nat} {p : Pile} (h : ∀ x ∈ p, x.2.length ≤ 100) : (offB way p).1.2.length ≤ 100 := by
  unfold offB
  split
  · exact Nat.zero_le _
  · unfold popB
    split
    · rename_i x hx
      exact h _ (List.mem_of_getLast? hx)
    · exact Nat.zero_le _
theorem off_len {way : Nat} {p : Pile} : (offB way p).2.length ≤ p.length := by
  unfold offB
  split
  · exact Nat.le_refl _
  · unfold popB
    split
    · show p.dropLast.length ≤ _
      rw [List.length_dropLast]; exact Nat.sub_le ..
    · exact Nat.zero_le _
theorem put_len {way a : Nat} {m w t : List Nat} : (putP way a m w t).length ≤ 2 := by
  unfold putP
  split <;> simp
theorem laid_step (G : G2 w c) (ao : AOk 4 A) {i h k : Nat} {order xs bs : List Nat} {s : Laid} {g : Mu} {L : Addr} {K : PF → Rho → Mu → Prop} (hh : h ≤ 10) (hk : k < 5) (ho : order.length = 5) (hx : xs.length = 5)
    (hN : μ[i]? = some (.lst (xs.map fun (x : Nat) => .int (x : Nat)))) (hD : IntLists g bs s.drawn) (hs : StOk k s) (hpos : 0 < (waysB (freeB s.pile).length k).length ∧ 0 < (freeB s.pile).length) (hs2 : StOk (k + 1) (layX (order.getD k 0) k (xs.getD k 0) s))
    (hK : ∀ ρ' g' bs', (∀ y ∈ ldLoop i order h μ.length, y ∈ ρ') → IntLists g' bs' (layX (order.getD k 0) k (xs.getD k 0) s).drawn → K .next ρ' (st3 μ (.pil (h : Nat) (prs (layX (order.getD k 0) k (xs.getD k 0) s).pile)) (.lst (locs μ.length bs')) (.lst (strL (layX (order.getD k 0) k (xs.getD k 0) s).stages)) g')) :
    WSs c A (laidBody w) (callEnvC (fd2 w 136) L 136) (ldBase i order h μ.length k) (st3 μ (.pil (h : Nat) (prs s.pile)) (.lst (locs μ.length bs)) (.lst (strL s.stages)) g) K := by
  have pl := hs.pl
  refine laid_1 G (ao.mono (by decide)) (st3_0 ..) (Nat.le_trans pl (by decide)) hk fun g1 nF nW hge hF hW => ?_
  rw [st3_len] at hge
  obtain ⟨nF, rfl⟩ := Nat.exists_eq_add_of_le (Nat.le_trans (Nat.le_add_right _ _) hge)
  rw [st3_ext] at hF hW ⊢
  have fl : (freeB s.pile).length ≤ 10 := by
    have := List.length_filter_le (fun j => (s.pile.getD j ([], [])).1 == dots) (List.range s.pile.length)
    rw [List.length_range] at this
    exact Nat.le_trans this pl
  have wl : (waysB (freeB s.pile).length k).length ≤ 4 := List.length_filter_le _ (List.range 4)
  refine laid_2 G (ao.mono (by decide)) (st3_old _ _ _ _ hN) hF hW (hx ▸ hk) (Nat.le_of_eq hx) hpos.2 (Nat.le_trans fl (by decide)) hpos.1 (Nat.le_trans wl (by decide)) ?_
  rw [st3_g] at hF
  have hpl := Nat.mod_lt (xs.getD k 0 / (waysB (freeB s.pile).length k).length) hpos.2
  unfold layX at hK hs2
  generalize (waysB (freeB s.pile).length k).getD (xs.getD k 0 % (waysB (freeB s.pile).length k).length) 0 = way at *
  generalize xs.getD k 0 / (waysB (freeB s.pile).length k).length % (freeB s.pile).length = place at *
  have hj : (freeB s.pile).getD place 0 < s.pile.length := free_lt (by
    rw [List.getD_eq_getElem?_getD, List.getElem?_eq_getElem hpl]; exact List.getElem_mem hpl)
  obtain ⟨t0, tl, ht⟩ : ∃ t0 tl, s.pile.drop ((freeB s.pile).getD place 0) = t0 :: tl := by
    cases hd : s.pile.drop ((freeB s.pile).getD place 0) with
    | nil => exact absurd hj (Nat.not_lt.mpr (List.drop_eq_nil_iff.mp hd))
    | cons a b => exact ⟨a, b, rfl⟩
  have hp := lay_pile (a := order.getD k 0) (k := k) (way := way) (place := place) ht
  have hd := lay_drawn (a := order.getD k 0) (k := k) (way := way) (place := place) (s := s)
  have hst := lay_stages (a := order.getD k 0) (k := k) (way := way) (place := place) (s := s)
  generalize layB (order.getD k 0) k way place s = s2 at *
  have tlen : tl.length + 1 ≤ 10 := by
    have := congrArg List.length ht
    rw [List.length_drop, List.length_cons] at this; exact Nat.le_trans (Nat.le_of_eq this.symm) (Nat.le_trans (Nat.sub_le ..) pl)
  have t0l : t0.2.length ≤ 100 := hs.el t0 (List.mem_of_mem_drop (by rw [ht]; exact List.mem_cons_self))
  refine laid_3 G (ao.mono (by decide)) hF (Nat.le_trans fl (by decide)) hpl rfl hj (Nat.le_trans pl (by decide)) fun g2 nT hF2 hg2 hT => ?_
  rw [ht] at hT
  have wdl := off_word (way := way) (p := s.pile.take ((freeB s.pile).getD place 0)) fun x hx => hs.el x (List.mem_of_mem_take hx)
  have ofl := off_len (way := way) (p := s.pile.take ((freeB s.pile).getD place 0))
  have takl : (s.pile.take ((freeB s.pile).getD place 0)).length ≤ 10 := Nat.le_trans (List.length_take_le' ..) pl
  refine laid_4 G (ao.mono (by decide)) (Nat.le_trans takl (by decide)) ?_
  generalize offB way (s.pile.take ((freeB s.pile).getD place 0)) = r at *
  refine laid_5 G (ao.mono (by decide)) (Nat.le_trans ofl (Nat.le_trans takl (by decide))) (ho ▸ hk) (Nat.le_of_eq ho) hT (Nat.le_trans (Nat.le_succ _) (Nat.le_trans tlen (by decide))) (Nat.le_trans wdl (by decide)) (Nat.le_trans t0l (by decide)) ?_
  have pul := put_len (way := way) (a := order.getD k 0) (m := r.1.1) (w := r.1.2) (t := t0.2)
  refine laid_6 G (ao.mono (by decide)) (by rw [List.length_append]; exact Nat.le_trans (Nat.add_le_add (Nat.le_trans ofl takl) pul) (by decide)) hT (Nat.le_trans (Nat.le_succ _) (Nat.le_trans tlen (by decide))) fun g3 hg3 => ?_
  obtain ⟨x3, rfl⟩ := hg3
  obtain ⟨x2, rfl⟩ := hg2
  rw [← hp]
  have hs2p := hs2.pl
  have hs2f := hs2.fl
  have sl := hs.sl
  have dl := hs.dl
  refine laid_7 (stg := s.stages) G ao (Nat.le_trans hs2p (by decide)) (Nat.le_trans hs2f (by decide)) hh (getElem?_ext hF2 _) (Nat.le_trans fl (by decide)) (((hD.more g1).more x2).more x3) (by rw [hD.1, dl]; exact Nat.le_trans (Nat.le_of_lt hk) (by decide)) (by rw [sl]; exact Nat.le_trans hk (by decide)) fun ρ' g' bs' h1 h2 => ?_
  rw [← hd] at h2
  rw [← hst]
  exact hK ρ' g' bs' h1 h2
theorem locs_map (n : Nat) (bs : List Nat) : locs n bs = (bs.map (n + 3 + ·)).map .loc := by unfold locs; rw [List.map_map]; rfl
theorem ints_out {μ : Mu} {a b d : MO} {g : Mu} {bs : List Nat} {ll : List (List Int)} (h : IntLists g bs ll) : IntLists (st3 μ a b d g) (bs.map (μ.length + 3 + ·)) ll := by
  refine ⟨by rw [List.length_map]; exact h.1, fun j x l h1 h2 => ?_⟩
  rw [List.getElem?_map] at h1
  cases hb : bs[j]? with
  | none => rw [hb] at h1; cases h1
  | some y =>
    rw [hb] at h1
    cases h1
    rw [st3_g]
    exact h.2 j y l hb h2
theorem castsum : ∀ xs : List Nat, (xs.map fun (x : Nat) => (x : Int)).sum = (xs.sum : Nat)
  | [] => rfl
  | a :: r => by rw [List.map_cons, List.sum_cons, castsum r, List.sum_cons]; rfl
theorem sum_leN (B : Nat) : ∀ xs : List Nat, (∀ x ∈ xs, x ≤ B) → xs.sum ≤ xs.length * B
  | [], _ => Nat.zero_le _
  | a :: r, h => by
    rw [List.sum_cons, List.length_cons, Nat.succ_mul]
    have := sum_leN B r fun x hx => h x (List.mem_cons_of_mem _ hx)
    rw [Nat.add_comm]
    exact Nat.add_le_add this (h a List.mem_cons_self)
theorem WC.sumN {i : Nat} {xs : List Nat} {K : PV → Mu → Prop} (O : c.Ok) (a : A.handled = none) (hi : μ[i]? = some (.lst (xs.map fun (x : Nat) => .int (x : Nat)))) (h5 : xs.length = 5) (hb : ∀ x ∈ xs, x ≤ 1000000) (k : K (.int (xs.sum : Nat)) μ) : WC c A (.builtin "sum") [.loc i] μ K := by
  refine WC.suml (is := xs.map fun (x : Nat) => (x : Int)) O a (by rw [hi, List.map_map]; rfl) (fun n _ => ?_) (fun x hx => ?_) (by rw [castsum]; exact k)
  · rw [← List.map_take, castsum]
    have h1 := sum_leN 1000000 (xs.take n) fun x hx => hb x (List.mem_of_mem_take hx)
    have h2 : (xs.take n).length ≤ 5 := by rw [List.length_take, h5]; exact Nat.min_le_right ..
    exact ⟨Int.le_trans (by decide) (Int.natCast_nonneg _), Int.ofNat_le.mpr (Nat.le_trans h1 (Nat.le_trans (Nat.mul_le_mul_right _ h2) (by decide)) : (xs.take n).sum ≤ 1000000000000)⟩
  · obtain ⟨y, hy, rfl⟩ := List.mem_map.mp hx
    exact ⟨Int.le_trans (by decide) (Int.natCast_nonneg _), Int.ofNat_le.mpr (Nat.le_trans (hb y hy) (by decide) : y ≤ 1000000000000)⟩
theorem laid_ok' (G : G2 w c) (ao : AOk 5 A) {i : Nat} {p xs : List Nat} (p1 : p.length = 5) (p2 : ∀ j ∈ p, j < 5) (p3 : p.Nodup) (hx : xs.length = 5) (hxb : ∀ x ∈ xs, x ≤ 1000000) (hN : μ[i]? = some (.lst (xs.map fun (x : Nat) => .int (x : Nat)))) {K' : PV → Mu → Prop}
    (hK : ∀ m iD iS as, (∃ g, m = μ ++ g) → m[iD]? = some (.lst (as.map .loc)) → IntLists m as (laidTo (orderOf p) xs 5).drawn → m[iS]? = some (.lst (strL (laidTo (orderOf p) xs 5).stages)) → K' (.tup [.loc iD, .loc iS]) m) :
    WC c A (.ref 136) [.loc i, .str (S (orderOf p))] μ K' := by
  have O := G.ok
  have ho : (orderOf p).length = 5 := by unfold orderOf; rw [List.length_map, p1]
  refine WC.defC (n := 4) O (def136 G) ao rfl (fun L => mem2 (by first | exact .inl rfl | exact .inr ⟨rfl, rfl⟩) (by first | exact .inl rfl | exact .inr ⟨rfl, rfl⟩)) (fun L => rfl) (by decide) (fun L => mem2 (by first | exact .inl rfl | exact .inr ⟨rfl, rfl⟩) (by first | exact .inl rfl | exact .inr ⟨rfl, rfl⟩)) fun L A ao => ?_
  show WSs c A _ _ [("numbers", .loc i), ("order", .str (S (orderOf p)))] _ _
  refine WSs.cons O ?_
  with_reducible refine WS.assign_name O ?_ (.inl (by with_unfolding_all rfl)) (by with_unfolding_all rfl) (by with_unfolding_all rfl)
  with_reducible refine WE.bin O ?_
  with_reducible refine WE.call_bi O (G2.n_sum G) (G2.b_sum G) ?_ (by with_unfolding_all rfl) (by with_unfolding_all rfl) (by with_unfolding_all rfl) (by with_unfolding_all rfl)
  with_reducible refine WEs.cons O ?_ (by with_unfolding_all rfl)
  with_reducible refine WE.name (by walk_at "m") ?_
  with_reducible refine WEs.nil ?_
  refine WC.sumN O ao.h hN hx hxb ?_
  with_reducible refine WE.int O ?_
  with_reducible refine WV.mod_nat O (by with_unfolding_all rfl) (by with_unfolding_all rfl) (by decide) ?_
  with_reducible refine updE (by walk_at "u") ?_
  with_reducible refine WSs.cons O ?_
  have hh : xs.sum % 3 ≤ 10 := Nat.le_trans (Nat.le_of_lt (Nat.mod_lt _ (by decide))) (by decide)
  generalize xs.sum % 3 = h at *
  refine WS.assign_swap (names := ["pile", "drawn", "stages"]) O ao.h ?_ (by with_unfolding_all rfl) (by with_unfolding_all rfl)
  with_reducible refine WE.tuple O ?_
  with_reducible refine WEs.cons O ?_ (by with_unfolding_all rfl)
  with_reducible refine WE.call_cls O (pilK G) (G2.g122 G) (keep122 (w := w)) ?_ (by with_unfolding_all rfl) (by with_unfolding_all rfl) (by with_unfolding_all rfl) (by with_unfolding_all rfl)
  with_reducible refine WEs.cons O ?_ (by with_unfolding_all rfl)
  with_reducible refine WE.name (by walk_at "m") ?_
  with_reducible refine WEs.nil ?_
  refine acc1_ok G (ao.mono (by decide)) ?_
  with_reducible refine WEs.cons O ?_ (by with_unfolding_all rfl)
  with_reducible refine WE.list O ?_
  with_reducible refine WEs.nil ?_
  refine ⟨show 0 ≤ 1000 by decide, ?_⟩
  with_reducible refine WEs.cons O ?_ (by with_unfolding_all rfl)
  with_reducible refine WE.list O ?_
  with_reducible refine WEs.cons O ?_ (by with_unfolding_all rfl)
  with_reducible refine WE.strS (l := [46, 46, 46]) O (by with_unfolding_all rfl) ?_
  with_reducible refine WEs.nil ?_
  refine ⟨show 1 ≤ 1000 by decide, ?_⟩
  with_reducible refine WEs.nil ?_
  refine ⟨show 3 ≤ 1000 by decide, _, rfl, rfl, ?_⟩
  rw [show μ ++ [MO.pil (h : Nat) []] ++ [MO.lst []] ++ [MO.lst [PV.str (S [46, 46, 46])]] = st3 μ (.pil (h : Nat) (prs [])) (.lst (locs μ.length [])) (.lst (strL [dots])) [] by simp [st3, prs, locs, dots]]
  rw [show (μ ++ [MO.pil (h : Nat) []]).length = μ.length + 1 by simp, show (μ ++ [MO.pil (h : Nat) []] ++ [MO.lst []]).length = μ.length + 2 by simp]
  refine WAs.bind O (by walk_at "u") (.inl rfl) rfl (WAs.bind O (by walk_at "u") (.inl rfl) rfl (WAs.bind O (by walk_at "u") (.inl rfl) rfl (WAs.nil ?_)))
  refine WSs.cons O ?_
  refine WS.expr O ?_ (by with_unfolding_all rfl) (by with_unfolding_all rfl)
  refine WE.pmeth (fa := 66) (fd := fd2 w 66) O (pilK G) (by rw [G.C]; kernel_rfl) (by kernel_rfl) (by decide) (def66 G).fn ?_ (by with_unfolding_all rfl) ⟨_, (by with_unfolding_all rfl)⟩
  refine WE.name (by walk_at "m") ⟨⟨_, _, _, rfl, st3_0 ..⟩, ?_⟩
  with_reducible refine WEs.cons O ?_ (by with_unfolding_all rfl)
  with_reducible refine WE.strS (l := [46, 46, 46]) O (by with_unfolding_all rfl) ?_
  with_reducible refine WEs.cons O ?_ (by with_unfolding_all rfl)
  with_reducible refine WE.strS (l := []) O (by with_unfolding_all rfl) ?_
  with_reducible refine WEs.nil ?_
  refine push_ok G (ao.mono (by decide)) (st3_0 ..) (by decide) ?_
  rw [st3_s0, show prs [] ++ [(S [46, 46, 46], S [])] = prs [(dots, [])] from rfl]
  refine WSs.cons O ?_
  refine WS.for_ O ?_ (fun _ => (by with_unfolding_all rfl))
  with_reducible refine WE.call_ty O (G2.n_range G) (G2.b_range G) ?_ (by with_unfolding_all rfl) (by with_unfolding_all rfl) (by with_unfolding_all rfl) (by with_unfolding_all rfl)
  with_reducible refine WEs.cons O ?_ (by with_unfolding_all rfl)
  with_reducible refine WE.int O ?_
  with_reducible refine WEs.nil ?_
  refine WC.range1 O ?_
  refine loopRng (by decide) ?_
  refine WL.inv (fun j ρ m => (∃ g bs, m = st3 μ (.pil (h : Nat) (prs (laidTo (orderOf p) xs j).pile)) (.lst (locs μ.length bs)) (.lst (strL (laidTo (orderOf p) xs j).stages)) g ∧ IntLists g bs (laidTo (orderOf p) xs j).drawn) ∧ ∀ y ∈ ldLoop i (orderOf p) h μ.length, y ∈ ρ) _ O ao.h ?_ (fun j ρ m _ => ⟨rfl, fun i e => by cases e⟩) (fun k q ρ m hq hV => ?_) fun ρ m hV => ?_
  · exact ⟨⟨[], [], rfl, rfl, fun j a l h _ => by cases h⟩, (by walk_at "s")⟩
  · obtain ⟨⟨g, bs, rfl, hIL⟩, hs⟩ := hV
    obtain ⟨hk, rfl⟩ := rng_at (n := 5) hq
    refine WA.less (ρ' := ldLoop i (orderOf p) h μ.length) hs (by show (["numbers", "order", "head", "pile", "drawn", "stages"] : List Str).Nodup; decide) ?_
    refine WA.name O (by walk_at "u") (.inr ⟨(by with_unfolding_all rfl), (by with_unfolding_all rfl)⟩) rfl ?_
    have hs1 := laid_ok (xs := xs) p1 p2 p3 (Nat.le_of_lt hk)
    have hs2 := laid_ok (xs := xs) p1 p2 p3 (k := k + 1) hk
    have hp := laid_pos (xs := xs) p1 p2 p3 hk
    exact laid_step G ao hh hk ho hx hN hIL hs1 hp hs2 fun ρ' g' bs' h1 h2 => ⟨⟨g', bs', rfl, h2⟩, h1⟩
  · obtain ⟨⟨g, bs, rfl, hIL⟩, hs⟩ := hV
    refine WSs.less (ρ' := ldLoop i (orderOf p) h μ.length) hs (by show (["numbers", "order", "head", "pile", "drawn", "stages"] : List Str).Nodup; decide) ?_
    refine WSs.cons O ?_
    with_reducible refine WS.ret O ?_
    with_reducible refine WE.tuple O ?_
    with_reducible refine WEs.cons O ?_ (by with_unfolding_all rfl)
    with_reducible refine WE.name (by walk_at "m") ?_
    with_reducible refine WEs.cons O ?_ (by with_unfolding_all rfl)
    with_reducible refine WE.name (by walk_at "m") ?_
    with_reducible refine WEs.nil ?_
    refine ⟨show 2 ≤ 1000 by decide, ?_⟩
    exact hK _ _ _ _ ⟨_, rfl⟩ (by rw [st3_1, locs_map]) (ints_out hIL) (st3_2 ..)
end
end Mine
namespace Mine
def same (x : UInt64) : Bool := Float64.cmp x x == some .eq
def hsvQ (k : Nat) (f s v : UInt64) : UInt64 × UInt64 × UInt64 :=
  let p := Float64.mul v (Float64.sub 4607182418800017408 s)
  let q := Float64.mul v (Float64.sub 4607182418800017408 (Float64.mul s f))
  let t := Float64.mul v (Float64.sub 4607182418800017408 (Float64.mul s (Float64.sub 4607182418800017408 f)))
  match k with
  | 0 => (v, t, p)
  | 1 => (q, v, p)
  | 2 => (p, v, t)
  | 3 => (p, q, v)
  | 4 => (t, p, v)
  | _ => (v, p, q)
def hueF (n : Nat) : UInt64 := fdiv (n : Int) 48
def satF (i : Nat) : UInt64 := fdiv ((1 + 2 ^ 30 / 3 * i : Nat) : Int) 1073741824
def valF (j : Nat) : UInt64 := fdiv ((1 + 2 ^ 20 / 3 * j : Nat) : Int) 1048576
def gryF (j : Nat) : UInt64 := fdiv ((2 ^ 18 * j : Nat) : Int) 1048576
def eighth (k : Nat) : UInt64 := fdiv (k : Int) 8
def stepB (m : Nat) : Bool := truncP (Float64.mul (hueF m) 4618441417868443648) == some ((m / 8 : Nat) : Int) && Float64.sub (Float64.mul (hueF m) 4618441417868443648) (Float64.ofInt ((m / 8 : Nat) : Int)) == eighth (m % 8)
def turnB (n : Nat) (i : Nat) : Bool := (List.range 4).all fun j => match hsvQ (n / 8) (eighth (n % 8)) (satF i) (valF j) with | (r, g, b) => rgbP r g b == some (hueF n, satF i, valF j)
theorem step_all : (List.range 144).all stepB = true := by decide +kernel
theorem same_all : ((List.range 48).all fun n => same (hueF n)) && ((List.range 5).all fun i => same (satF i) && same (valF i) && same (gryF i)) = true := by decide +kernel
theorem sat_all : ((List.range 4).all fun i => !(Float64.cmp (satF i) 0 == some .eq) && (Float64.cmpInt (satF i) 0 == some .gt)) = true := by decide +kernel
theorem turn_0_0 : (List.range 8).all (fun n => turnB (0 + n) 0) = true := by decide +kernel
theorem turn_0_1 : (List.range 8).all (fun n => turnB (8 + n) 0) = true := by decide +kernel
theorem turn_0_2 : (List.range 8).all (fun n => turnB (16 + n) 0) = true := by decide +kernel
theorem turn_0_3 : (List.range 8).all (fun n => turnB (24 + n) 0) = true := by decide +kernel
theorem turn_0_4 : (List.range 8).all (fun n => turnB (32 + n) 0) = true := by decide +kernel
theorem turn_0_5 : (List.range 8).all (fun n => turnB (40 + n) 0) = true := by decide +kernel
theorem turn_1_0 : (List.range 8).all (fun n => turnB (0 + n) 1) = true := by decide +kernel
theorem turn_1_1 : (List.range 8).all (fun n => turnB (8 + n) 1) = true := by decide +kernel
theorem turn_1_2 : (List.range 8).all (fun n => turnB (16 + n) 1) = true := by decide +kernel
theorem turn_1_3 : (List.range 8).all (fun n => turnB (24 + n) 1) = true := by decide +kernel
theorem turn_1_4 : (List.range 8).all (fun n => turnB (32 + n) 1) = true := by decide +kernel
theorem turn_1_5 : (List.range 8).all (fun n => turnB (40 + n) 1) = true := by decide +kernel
theorem turn_2_0 : (List.range 8).all (fun n => turnB (0 + n) 2) = true := by decide +kernel
theorem turn_2_1 : (List.range 8).all (fun n => turnB (8 + n) 2) = true := by decide +kernel
theorem turn_2_2 : (List.range 8).all (fun n => turnB (16 + n) 2) = true := by decide +kernel
theorem turn_2_3 : (List.range 8).all (fun n => turnB (24 + n) 2) = true := by decide +kernel
theorem turn_2_4 : (List.range 8).all (fun n => turnB (32 + n) 2) = true := by decide +kernel
theorem turn_2_5 : (List.range 8).all (fun n => turnB (40 + n) 2) = true := by decide +kernel
theorem turn_3_0 : (List.range 8).all (fun n => turnB (0 + n) 3) = true := by decide +kernel
theorem turn_3_1 : (List.range 8).all (fun n => turnB (8 + n) 3) = true := by decide +kernel
theorem turn_3_2 : (List.range 8).all (fun n => turnB (16 + n) 3) = true := by decide +kernel
theorem turn_3_3 : (List.range 8).all (fun n => turnB (24 + n) 3) = true := by decide +kernel
theorem turn_3_4 : (List.range 8).all (fun n => turnB (32 + n) 3) = true := by decide +kernel
theorem turn_3_5 : (List.range 8).all (fun n => turnB (40 + n) 3) = true := by decide +kernel
end Mine
namespace Mine
theorem all_range {n : Nat} {f : Nat → Bool} (h : (List.range n).all f = true) {k : Nat} (hk : k < n) : f k = true := List.all_eq_true.mp h k (List.mem_range.mpr hk)
theorem stepB_at {m : Nat} (h : m < 144) : truncP (Float64.mul (hueF m) 4618441417868443648) = some ((m / 8 : Nat) : Int) ∧ Float64.sub (Float64.mul (hueF m) 4618441417868443648) (Float64.ofInt ((m / 8 : Nat) : Int)) = eighth (m % 8) := by
  have := all_range step_all h
  unfold stepB at this
  rw [Bool.and_eq_true, beq_iff_eq, beq_iff_eq] at this
  exact this
theorem all4 {p : Nat → Prop} (h0 : p 0) (h1 : p 1) (h2 : p 2) (h3 : p 3) : ∀ i, i < 4 → p i := lt_step (lt_step (lt_step (lt_step lt_none h0) h1) h2) h3
theorem all6 {p : Nat → Prop} (h0 : p 0) (h1 : p 1) (h2 : p 2) (h3 : p 3) (h4 : p 4) (h5 : p 5) : ∀ i, i < 6 → p i := lt_step (lt_step (all4 h0 h1 h2 h3) h4) h5
def turnR (i k : Nat) : Prop := ((List.range 8).all fun n => turnB (8 * k + n) i) = true
theorem turn_all : ∀ i, i < 4 → ∀ k, k < 6 → turnR i k :=
  all4 (all6 turn_0_0 turn_0_1 turn_0_2 turn_0_3 turn_0_4 turn_0_5) (all6 turn_1_0 turn_1_1 turn_1_2 turn_1_3 turn_1_4 turn_1_5) (all6 turn_2_0 turn_2_1 turn_2_2 turn_2_3 turn_2_4 turn_2_5) (all6 turn_3_0 turn_3_1 turn_3_2 turn_3_3 turn_3_4 turn_3_5)
theorem lt6_of {n : Nat} (h : n < 48) : n / 8 < 6 := Nat.div_lt_of_lt_mul h
theorem turnB_at {n i j : Nat} (h : n < 48) (hi : i < 4) (hj : j < 4) : ∀ r g b, hsvQ (n / 8) (eighth (n % 8)) (satF i) (valF j) = (r, g, b) → rgbP r g b = some (hueF n, satF i, valF j) := by
  have key : turnB n i = true := by
    have := all_range (turn_all i hi _ (lt6_of h)) (Nat.mod_lt n (by decide : 0 < 8))
    rwa [Nat.div_add_mod] at this
  have := all_range key hj
  intro r g b hq
  rw [hq] at this
  exact eq_of_beq this
theorem same_at {i : Nat} : (∀ n, n < 48 → same (hueF n) = true) ∧ (i < 5 → same (satF i) = true ∧ same (valF i) = true ∧ same (gryF i) = true) := by
  have h := same_all
  rw [Bool.and_eq_true] at h
  refine ⟨fun n hn => all_range h.1 hn, fun hi => ?_⟩
  have := all_range (of_decide_eq_true h.2) hi
  simp only [Bool.and_eq_true] at this
  exact ⟨this.1.1, this.1.2, this.2⟩
end Mine
namespace Mine
theorem step_more : ((List.range 96).all fun n => stepB (144 + n)) = true := by decide +kernel
theorem stepB_at5 {m : Nat} (h : m < 240) : truncP (Float64.mul (hueF m) 4618441417868443648) = some ((m / 8 : Nat) : Int) ∧ Float64.sub (Float64.mul (hueF m) 4618441417868443648) (Float64.ofInt ((m / 8 : Nat) : Int)) = eighth (m % 8) := by
  rcases Nat.lt_or_ge m 144 with h1 | h1
  · exact stepB_at h1
  · have := all_range step_more (Nat.sub_lt_right_of_lt_add h1 h)
    rw [show 144 + (m - 144) = m from Nat.add_sub_cancel' h1] at this
    unfold stepB at this
    rw [Bool.and_eq_true, beq_iff_eq, beq_iff_eq] at this
    exact this
theorem turns8 (n t : Nat) : (n + 48 * t) % 8 = n % 8 := by
  rw [show 48 * t = 8 * (6 * t) from (Nat.mul_assoc 8 6 t)]
  exact Nat.add_mul_mod_self_left n 8 (6 * t)
theorem turns6 {n : Nat} (t : Nat) (hn : n < 48) : (((n + 48 * t) / 8 : Nat) : Int).fmod 6 = ((n / 8 : Nat) : Int) := by
  rw [show 48 * t = 8 * (6 * t) from (Nat.mul_assoc 8 6 t), Nat.add_mul_div_left _ _ (by decide)]
  rw [Int.fmod_eq_emod_of_nonneg _ (by decide)]
  show ((n / 8 + 6 * t : Nat) : Int) % ((6 : Nat) : Int) = _
  rw [← Int.natCast_emod, Nat.add_mul_mod_self_left, Nat.mod_eq_of_lt (lt6_of hn)]
theorem turnsBig {m : Nat} (h : m < 240) : (((m / 8 : Nat) : Int)).natAbs < 2 ^ 1023 :=
  Nat.lt_trans (Nat.lt_of_le_of_lt (Nat.div_le_self m 8) h) (Nat.lt_of_lt_of_le (by decide : 240 < 2 ^ 10) (Nat.pow_le_pow_right (by decide) (by decide)))
theorem pickQ (f s v : UInt64) : ∀ k, k < 6 → (let p := Float64.mul v (Float64.sub 4607182418800017408 s)
      let q := Float64.mul v (Float64.sub 4607182418800017408 (Float64.mul s f))
      let t := Float64.mul v (Float64.sub 4607182418800017408 (Float64.mul s (Float64.sub 4607182418800017408 f)))
      if ((k : Nat) : Int) = 0 then some (v, t, p) else if ((k : Nat) : Int) = 1 then some (q, v, p) else if ((k : Nat) : Int) = 2 then some (p, v, t) else if ((k : Nat) : Int) = 3 then some (p, q, v) else if ((k : Nat) : Int) = 4 then some (t, p, v) else some (v, p, q)) = some (hsvQ k f s v) :=
  all6 rfl rfl rfl rfl rfl rfl
/-- the colours of a light, painted with whole turns and told -/
theorem hue_plain5 {n t i j : Nat} (hn : n < 48) (ht : t < 5) (hi : i < 4) (hj : j < 4) : ∃ r g b, hsvP (hueF (n + 48 * t)) (satF i) (valF j) = some (r, g, b) ∧ rgbP r g b = some (hueF n, satF i, valF j) := by
  have hs := all_range sat_all hi
  rw [Bool.and_eq_true] at hs
  have hm : n + 48 * t < 240 := Nat.lt_of_lt_of_le (Nat.add_lt_add_right hn _) (Nat.add_le_of_le_sub' (by decide) (Nat.mul_le_mul_left 48 (Nat.le_of_lt_succ ht)))
  have st := stepB_at5 hm
  rw [turns8] at st
  obtain ⟨⟨r, g, b⟩, hq⟩ : ∃ x, hsvQ (n / 8) (eighth (n % 8)) (satF i) (valF j) = x := ⟨_, rfl⟩
  refine ⟨r, g, b, ?_, turnB_at hn hi hj r g b hq⟩
  unfold hsvP
  rw [if_neg (by simpa using hs.1), st.1]
  dsimp only
  rw [if_pos (turnsBig hm), st.2, turns6 t hn, ← hq]
  exact pickQ _ _ _ _ (lt6_of hn)
end Mine
namespace Mine
noncomputable section
variable {w : World} {c : Cx} {A : Around} {μ : Mu}
def plN (a k : Nat) : Nat := (a / 8 + (2 * a + 1) * k) % 48
def fsAt (a k : Nat) : UInt64 × Str := (hueF (plN a k), S [L5.getD k 0])
theorem boot_sorted : bootBuiltins "sorted" = some (.builtin "sorted") := by rfl
theorem G2.n_sorted {w : World} {c : Cx} (G : G2 w c) : c.mg "sorted" = none := by rw [G.mg]; rfl
theorem G2.b_sorted {w : World} {c : Cx} (G : G2 w c) : c.mb "sorted" = some (.builtin "sorted") := by rw [G.mb _ (by decide)]; exact boot_sorted
theorem names_eq (a : Nat) (p : List Nat) (h : ∀ j ∈ p, j < 5) : (p.map fun j => (((List.range 5).map (fsAt a)).map fsPV).getD j .none) = p.map fun j => PV.tup [.flt (hueF (plN a j)), .str (S [L5.getD j 0])] := by
  refine List.map_congr_left fun j hj => ?_
  have := h j hj
  match j, this with
  | 0, _ => rfl
  | 1, _ => rfl
  | 2, _ => rfl
  | 3, _ => rfl
  | 4, _ => rfl
theorem names_filter (x : Nat → UInt64) (y : Nat → Nat) : ∀ p : List Nat, (p.map fun j => PV.tup [.flt (x j), .str (S [y j])]).filterMap (fun q => match q with | PV.tup [a, b] => some b | _ => none) = (p.map fun j => [y j]).map fun z => PV.str (S z)
  | [] => rfl
  | j :: p => by
    have ih := names_filter x y p
    rw [List.map_cons, List.filterMap_cons, ih]; rfl
theorem flat_single (y : Nat → Nat) : ∀ p : List Nat, (p.map fun j => [y j]).flatten = p.map y
  | [] => rfl
  | j :: p => by rw [List.map_cons, List.flatten_cons, flat_single y p]; rfl
theorem five_hb (y : Nat → Nat) {p : List Nat} (h : p.length = 5) : ((p.map fun j => [y j]).map (·.length)).sum + (p.map fun j => [y j]).length * ([] : List Nat).length ≤ 1000000 := by
  match p, h with
  | [a, b, c, d, e], _ => show 5 ≤ 1000000; decide
abbrev orBase (a n : Nat) : Rho := [("amount", .int (a : Nat)), ("told", .loc n)]
theorem order_ok (G : G2 w c) (ao : AOk 2 A) {a : Nat} (ha : a ≤ 10000000) {K' : PV → Mu → Prop} (hK : ∀ p g, p.length = 5 → (∀ j ∈ p, j < 5) → p.Nodup → K' (.str (S (orderOf p))) (μ ++ g)) : WC c A (.ref 131) [.int a] μ K' := by
  have O := G.ok
  have big : ∀ n : Nat, n < 2 ^ 40 → n < 2 ^ 1023 := fun n h => Nat.lt_trans h (Nat.pow_lt_pow_right (by decide) (by decide))
  refine WC.defC (n := 1) O (def131 G) ao rfl (fun L => mem1 (by first | exact .inl rfl | exact .inr ⟨rfl, rfl⟩)) (fun L => rfl) (by decide) (fun L => mem1 (by first | exact .inl rfl | exact .inr ⟨rfl, rfl⟩)) fun L A ao => ?_
  show WSs c A _ _ [("amount", .int (a : Nat))] _ _
  refine WSs.cons O ?_
  with_reducible refine WS.assign_name O ?_ (.inl (by with_unfolding_all rfl)) (by with_unfolding_all rfl) (by with_unfolding_all rfl)
  with_reducible refine WE.list O ?_
  with_reducible refine WEs.nil ?_
  refine ⟨Nat.zero_le _, ?_⟩
  with_reducible refine updE (by walk_at "u") ?_
  with_reducible refine WSs.cons O ?_
  refine WS.for_ O ?_ (fun _ => (by with_unfolding_all rfl))
  with_reducible refine WE.call_ty O (G2.n_range G) (G2.b_range G) ?_ (by with_unfolding_all rfl) (by with_unfolding_all rfl) (by with_unfolding_all rfl) (by with_unfolding_all rfl)
  with_reducible refine WEs.cons O ?_ (by with_unfolding_all rfl)
  with_reducible refine WE.int O ?_
  with_reducible refine WEs.nil ?_
  refine WC.range1 O ?_
  refine loopRng (by decide) ?_
  refine WL.inv (fun j ρ m => (∃ g, m = μ ++ MO.lst (((List.range j).map (fsAt a)).map fsPV) :: g) ∧ ∀ y ∈ orBase a μ.length, y ∈ ρ) _ O ao.h ?_ (fun j ρ m _ => ⟨rfl, fun i e => by cases e⟩) (fun k q ρ m hq hV => ?_) fun ρ m hV => ?_
  · exact ⟨⟨[], rfl⟩, (by walk_at "s")⟩
  · obtain ⟨⟨g, rfl⟩, hs⟩ := hV
    obtain ⟨hk, rfl⟩ := rng_at (n := 5) hq
    refine WA.less (ρ' := orBase a μ.length) hs (by show (["amount", "told"] : List Str).Nodup; decide) ?_
    refine WA.name O (by walk_at "u") (.inl rfl) rfl ?_
    refine WSs.cons O ?_
    with_reducible refine WS.assign_name O ?_ (.inl (by with_unfolding_all rfl)) (by with_unfolding_all rfl) (by with_unfolding_all rfl)
    with_reducible refine WE.bin O ?_
    with_reducible refine WE.bin O ?_
    with_reducible refine WE.bin O ?_
    with_reducible refine WE.name (by walk_at "m") ?_
    with_reducible refine WE.int O ?_
    with_reducible refine WV.div_nat O (by with_unfolding_all rfl) (by with_unfolding_all rfl) (by decide) ?_
    with_reducible refine WE.bin O ?_
    with_reducible refine WE.bin O ?_
    with_reducible refine WE.bin O ?_
    with_reducible refine WE.int O ?_
    with_reducible refine WE.name (by walk_at "m") ?_
    with_reducible refine WV.mul_nat O (by with_unfolding_all rfl) (by with_unfolding_all rfl) (by decide) ?_
    with_reducible refine WE.int O ?_
    with_reducible refine WV.add_nat O (by with_unfolding_all rfl) (by with_unfolding_all rfl) ?_
    with_reducible refine WE.name (by walk_at "m") ?_
    refine WV.mul_nat O (by with_unfolding_all rfl) (by with_unfolding_all rfl) (show 2 * a + 1 < 2 ^ 64 by omega) ?_
    with_reducible refine WV.add_nat O (by with_unfolding_all rfl) (by with_unfolding_all rfl) ?_
    with_reducible refine WE.int O ?_
    with_reducible refine WV.mod_nat O (by with_unfolding_all rfl) (by with_unfolding_all rfl) (by decide) ?_
    with_reducible refine updE (by walk_at "u") ?_
    with_reducible refine WSs.cons O ?_
    refine WS.assign_swap (names := ["share", "value"]) O ao.h ?_ (by with_unfolding_all rfl) (by with_unfolding_all rfl)
    with_reducible refine WE.tuple O ?_
    with_reducible refine WEs.cons O ?_ (by with_unfolding_all rfl)
    with_reducible refine WE.bin O ?_
    with_reducible refine WE.int O ?_
    with_reducible refine WE.bin O ?_
    with_reducible refine WE.bin O ?_
    with_reducible refine WE.bin O ?_
    with_reducible refine WE.int O ?_
    with_reducible refine WE.int O ?_
    with_reducible refine WV.pow_nat O (by with_unfolding_all rfl) (by with_unfolding_all rfl) (by decide) ?_
    with_reducible refine WE.int O ?_
    with_reducible refine WV.div_nat O (by with_unfolding_all rfl) (by with_unfolding_all rfl) (by decide) ?_
    with_reducible refine WE.bin O ?_
    with_reducible refine WE.bin O ?_
    with_reducible refine WE.name (by walk_at "m") ?_
    with_reducible refine WE.name (by walk_at "m") ?_
    with_reducible refine WV.add_nat O (by with_unfolding_all rfl) (by with_unfolding_all rfl) ?_
    with_reducible refine WE.int O ?_
    with_reducible refine WV.mod_nat O (by with_unfolding_all rfl) (by with_unfolding_all rfl) (by decide) ?_
    with_reducible refine WV.mul_nat O (by with_unfolding_all rfl) (by with_unfolding_all rfl) (by decide) ?_
    with_reducible refine WV.add_nat O (by with_unfolding_all rfl) (by with_unfolding_all rfl) ?_
    with_reducible refine WEs.cons O ?_ (by with_unfolding_all rfl)
    with_reducible refine WE.bin O ?_
    with_reducible refine WE.int O ?_
    with_reducible refine WE.bin O ?_
    with_reducible refine WE.bin O ?_
    with_reducible refine WE.bin O ?_
    with_reducible refine WE.int O ?_
    with_reducible refine WE.int O ?_
    with_reducible refine WV.pow_nat O (by with_unfolding_all rfl) (by with_unfolding_all rfl) (by decide) ?_
    with_reducible refine WE.int O ?_
    with_reducible refine WV.div_nat O (by with_unfolding_all rfl) (by with_unfolding_all rfl) (by decide) ?_
    with_reducible refine WE.bin O ?_
    with_reducible refine WE.bin O ?_
    with_reducible refine WE.bin O ?_
    with_reducible refine WE.name (by walk_at "m") ?_
    with_reducible refine WE.int O ?_
    with_reducible refine WV.div_nat O (by with_unfolding_all rfl) (by with_unfolding_all rfl) (by decide) ?_
    with_reducible refine WE.bin O ?_
    with_reducible refine WE.int O ?_
    with_reducible refine WE.name (by walk_at "m") ?_
    with_reducible refine WV.mul_nat O (by with_unfolding_all rfl) (by with_unfolding_all rfl) (by decide) ?_
    with_reducible refine WV.add_nat O (by with_unfolding_all rfl) (by with_unfolding_all rfl) ?_
    with_reducible refine WE.int O ?_
    with_reducible refine WV.mod_nat O (by with_unfolding_all rfl) (by with_unfolding_all rfl) (by decide) ?_
    with_reducible refine WV.mul_nat O (by with_unfolding_all rfl) (by with_unfolding_all rfl) (by decide) ?_
    with_reducible refine WV.add_nat O (by with_unfolding_all rfl) (by with_unfolding_all rfl) ?_
    with_reducible refine WEs.nil ?_
    refine ⟨show 2 ≤ 1000 by decide, _, rfl, rfl, ?_⟩
    refine WAs.bind O (by walk_at "u") (.inl rfl) rfl (WAs.bind O (by walk_at "u") (.inl rfl) rfl (WAs.nil ?_))
    rw [show (a / 8 + (2 * a + 1) * k) % 48 = plN a k from rfl]
    have hn : plN a k < 48 := Nat.mod_lt _ (by decide)
    have hi : (a + k) % 4 < 4 := Nat.mod_lt _ (by decide)
    have hj : (a / 4 + 3 * k) % 4 < 4 := Nat.mod_lt _ (by decide)
    have hfs : fsAt a k = (hueF (plN a k), S [L5.getD k 0]) := rfl
    generalize plN a k = n at *
    generalize (a + k) % 4 = i at *
    generalize (a / 4 + 3 * k) % 4 = j at *
    obtain ⟨r, gg, b, p1, p2⟩ := hue_plain5 hn hk hi hj
    have s3 := (same_at (i := 0)).1 n hn
    have s1 := ((same_at (i := i)).2 (by omega)).1
    have s2 := ((same_at (i := j)).2 (by omega)).2.1
    refine WSs.cons O ?_
    with_reducible refine WS.assign_tup O ?_ (by with_unfolding_all rfl) (by with_unfolding_all rfl)
    with_reducible refine WE.call_def O (G2.g42 G) (def42 G).fn ?_ (by with_unfolding_all rfl) (by with_unfolding_all rfl) (by with_unfolding_all rfl) (by with_unfolding_all rfl)
    with_reducible refine WEs.cons O ?_ (by with_unfolding_all rfl)
    with_reducible refine WE.bin O ?_
    with_reducible refine WE.bin O ?_
    with_reducible refine WE.name (by walk_at "m") ?_
    with_reducible refine WE.bin O ?_
    with_reducible refine WE.int O ?_
    with_reducible refine WE.name (by walk_at "m") ?_
    with_reducible refine WV.mul_nat O (by with_unfolding_all rfl) (by with_unfolding_all rfl) (by decide) ?_
    with_reducible refine WV.add_nat O (by with_unfolding_all rfl) (by with_unfolding_all rfl) ?_
    with_reducible refine WE.int O ?_
    refine WV.tdiv_nat O ao.h (by with_unfolding_all rfl) (by with_unfolding_all rfl) ⟨big _ (show n + 48 * k < 2 ^ 40 by omega), by decide⟩ ?_
    with_reducible refine WEs.cons O ?_ (by with_unfolding_all rfl)
    with_reducible refine WE.bin O ?_
    with_reducible refine WE.name (by walk_at "m") ?_
    with_reducible refine WE.bin O ?_
    with_reducible refine WE.int O ?_
    with_reducible refine WE.int O ?_
    with_reducible refine WV.pow_nat O (by with_unfolding_all rfl) (by with_unfolding_all rfl) (by decide) ?_
    refine WV.tdiv_nat O ao.h (by with_unfolding_all rfl) (by with_unfolding_all rfl) ⟨big _ (show 1 + 2 ^ 30 / 3 * i < 2 ^ 40 by omega), by decide⟩ ?_
    with_reducible refine WEs.cons O ?_ (by with_unfolding_all rfl)
    with_reducible refine WE.bin O ?_
    with_reducible refine WE.name (by walk_at "m") ?_
    with_reducible refine WE.bin O ?_
    with_reducible refine WE.int O ?_
    with_reducible refine WE.int O ?_
    with_reducible refine WV.pow_nat O (by with_unfolding_all rfl) (by with_unfolding_all rfl) (by decide) ?_
    refine WV.tdiv_nat O ao.h (by with_unfolding_all rfl) (by with_unfolding_all rfl) ⟨big _ (show 1 + 2 ^ 20 / 3 * j < 2 ^ 40 by omega), by decide⟩ ?_
    with_reducible refine WEs.nil ?_
    refine hsv_ok G ao p1 ?_
    refine WA.tuple O ao.h (by with_unfolding_all rfl) (by with_unfolding_all rfl) ?_
    refine WAs.cons O (WA.name O (by walk_at "u") (.inl rfl) rfl ?_)
    refine WAs.cons O (WA.name O (by walk_at "u") (.inl rfl) rfl ?_)
    refine WAs.cons O (WA.name O (by walk_at "u") (.inl rfl) rfl (WAs.nil ?_))
    refine WSs.cons O ?_
    with_reducible refine WS.assign_name O ?_ (.inl (by with_unfolding_all rfl)) (by with_unfolding_all rfl) (by with_unfolding_all rfl)
    with_reducible refine WE.call_def O (G2.g35 G) (def35 G).fn ?_ (by with_unfolding_all rfl) (by with_unfolding_all rfl) (by with_unfolding_all rfl) (by with_unfolding_all rfl)
    with_reducible refine WEs.cons O ?_ (by with_unfolding_all rfl)
    with_reducible refine WE.name (by walk_at "m") ?_
    with_reducible refine WEs.cons O ?_ (by with_unfolding_all rfl)
    with_reducible refine WE.name (by walk_at "m") ?_
    with_reducible refine WEs.cons O ?_ (by with_unfolding_all rfl)
    with_reducible refine WE.name (by walk_at "m") ?_
    with_reducible refine WEs.nil ?_
    refine rgb_ok G ao p2 ?_
    refine updE (by walk_at "u") ?_
    refine WSs.cons O ?_
    with_reducible refine WS.ite O ?_
    with_reducible refine WB.cmp1 O ?_ (by with_unfolding_all rfl)
    with_reducible refine WE.name (by walk_at "m") ?_
    with_reducible refine WE.tuple O ?_
    with_reducible refine WEs.cons O ?_ (by with_unfolding_all rfl)
    with_reducible refine WE.bin O ?_
    with_reducible refine WE.name (by walk_at "m") ?_
    with_reducible refine WE.int O ?_
    refine WV.tdiv_nat O ao.h (by with_unfolding_all rfl) (by with_unfolding_all rfl) ⟨big _ (show n < 2 ^ 40 by omega), by decide⟩ ?_
    with_reducible refine WEs.cons O ?_ (by with_unfolding_all rfl)
    with_reducible refine WE.bin O ?_
    with_reducible refine WE.name (by walk_at "m") ?_
    with_reducible refine WE.bin O ?_
    with_reducible refine WE.int O ?_
    with_reducible refine WE.int O ?_
    with_reducible refine WV.pow_nat O (by with_unfolding_all rfl) (by with_unfolding_all rfl) (by decide) ?_
    refine WV.tdiv_nat O ao.h (by with_unfolding_all rfl) (by with_unfolding_all rfl) ⟨big _ (show 1 + 2 ^ 30 / 3 * i < 2 ^ 40 by omega), by decide⟩ ?_
    with_reducible refine WEs.cons O ?_ (by with_unfolding_all rfl)
    with_reducible refine WE.bin O ?_
    with_reducible refine WE.name (by walk_at "m") ?_
    with_reducible refine WE.bin O ?_
    with_reducible refine WE.int O ?_
    with_reducible refine WE.int O ?_
    with_reducible refine WV.pow_nat O (by with_unfolding_all rfl) (by with_unfolding_all rfl) (by decide) ?_
    refine WV.tdiv_nat O ao.h (by with_unfolding_all rfl) (by with_unfolding_all rfl) ⟨big _ (show 1 + 2 ^ 20 / 3 * j < 2 ^ 40 by omega), by decide⟩ ?_
    with_reducible refine WEs.nil ?_
    refine ⟨show 3 ≤ 1000 by decide, ?_⟩
    replace s3 : (Float64.cmp (hueF n) (fdiv (n : Int) ((48 : Nat) : Int)) == some .eq) = true := s3
    replace s1 : (Float64.cmp (satF i) (fdiv ((1 + 2 ^ 30 / 3 * i : Nat) : Int) ((2 ^ 30 : Nat) : Int)) == some .eq) = true := s1
    replace s2 : (Float64.cmp (valF j) (fdiv ((1 + 2 ^ 20 / 3 * j : Nat) : Int) ((2 ^ 20 : Nat) : Int)) == some .eq) = true := s2
    refine WV.ne_tup O ao (.cons (.flt O s3) (.cons (.flt O s1) (.cons (.flt O s2) .nil))) ?_
    with_reducible refine Exists.intro _ (And.intro rfl ?_)
    refine iteF rfl (WSs.nil ?_)
    refine WSs.cons O ?_
    with_reducible refine WS.expr O ?_ (by with_unfolding_all rfl) (by with_unfolding_all rfl)
    with_reducible refine WE.meth O F.plainAttrs_list F.slot_list_append F.type_list_append ?_ (by with_unfolding_all rfl) ⟨_, by with_unfolding_all rfl⟩
    with_reducible refine WE.name (by walk_at "m") ?_
    refine kindLst (at_end ..) ?_
    with_reducible refine WEs.cons O ?_ (by with_unfolding_all rfl)
    with_reducible refine WE.tuple O ?_
    with_reducible refine WEs.cons O ?_ (by with_unfolding_all rfl)
    with_reducible refine WE.sub O ?_ (fun _ _ => by with_unfolding_all rfl)
    with_reducible refine WE.name (by walk_at "m") ?_
    with_reducible refine WE.int O ?_
    with_reducible refine subTup ?_
    refine WV.item_tup (k := 0) (q := .flt (hueF n)) (show seqIndex? ((0 : Nat) : Int) _ = some 0 from rfl) rfl (by decide) ?_
    with_reducible refine WEs.cons O ?_ (by with_unfolding_all rfl)
    with_reducible refine WE.sub O ?_ (fun _ _ => by with_unfolding_all rfl)
    with_reducible refine WE.strS (l := [97, 65, 32, 10, 42]) O (by with_unfolding_all rfl) ?_
    with_reducible refine WE.name (by walk_at "m") ?_
    with_reducible refine subStr ?_
    refine WV.item_str O (n := ((k : Nat) : Int)) (k := k) (q := L5.getD k 0) (seq_nat (show k < 5 from hk)) (by
      have : k < L5.length := hk
      rw [List.getD_eq_getElem?_getD, List.getElem?_eq_getElem this]; rfl) (by omega) ?_
    with_reducible refine WEs.nil ?_
    refine ⟨show 2 ≤ 1000 by decide, ?_⟩
    with_reducible refine WEs.nil ?_
    refine WC.append O (at_end ..) (by rw [List.length_map, List.length_map, List.length_range]; omega) ?_
    rw [set_end]
    refine WSs.nil ⟨⟨g, ?_⟩, (by walk_at "s")⟩
    rw [List.range_succ, List.map_append, List.map_append, List.map_singleton, List.map_singleton, hfs]
  · obtain ⟨⟨g, rfl⟩, hs⟩ := hV
    refine WSs.less (ρ' := orBase a μ.length) hs (by show (["amount", "told"] : List Str).Nodup; decide) ?_
    rw [List.length_map, List.length_range, show ((5 : Int) - 0).toNat = 5 from rfl]
    refine WSs.cons O ?_
    with_reducible refine WS.ret O ?_
    with_reducible refine WE.meth O F.plainAttrs_str F.slot_str_join F.type_str_join ?_ (by with_unfolding_all rfl) ⟨_, by with_unfolding_all rfl⟩
    with_reducible refine WE.strS (l := []) O (by with_unfolding_all rfl) ?_
    with_reducible refine kindStr ?_
    with_reducible refine WEs.cons O ?_ (by with_unfolding_all rfl)
    refine WE.comp O (CompOk.plain (by with_unfolding_all rfl) rfl rfl (noCell rfl) (fun C => rfl)) ?_ (fun _ => (by with_unfolding_all rfl))
    refine WE.call_bi O (G2.n_sorted G) (G2.b_sorted G) ?_ (by with_unfolding_all rfl) (by with_unfolding_all rfl) (by with_unfolding_all rfl) (by with_unfolding_all rfl)
    with_reducible refine WEs.cons O ?_ (by with_unfolding_all rfl)
    with_reducible refine WE.name (by walk_at "m") ?_
    with_reducible refine WEs.nil ?_
    refine WC.sorted5 O (by rw [List.length_map, List.length_range]) (at_end ..) fun p p1 p2 p3 => ?_
    rw [names_eq a p p2]
    generalize hm1 : μ ++ MO.lst (List.map fsPV (List.map (fsAt a) (List.range 5))) :: g = m1
    have hi := at_end m1 (MO.lst (p.map fun j => PV.tup [.flt (hueF (plN a j)), .str (S [L5.getD j 0])])) []
    refine loopLst hi ?_
    intro C
    refine WCL.mapG (fun q => match q with | PV.tup [a, b] => some b | _ => none) _ O (fun l g => nx_lst O ao.h hi _) (by rw [List.length_map]; omega) (fun q hq l g => ?_) fun g2 => ?_
    · obtain ⟨j, _, rfl⟩ := List.mem_map.mp hq
      refine WAL.tuple O ao.h rfl rfl ?_
      refine WALs.cons O (WAL.name O (by walk_at "u") rfl rfl (WALs.cons O (WAL.name O (by walk_at "u") rfl rfl (WALs.nil ⟨(by walk_at "s"), WIfs.nil ⟨g, rfl, rfl, fun _ => ?_⟩⟩))))
      with_reducible refine WE.name (by walk_at "m") ?_
      with_reducible refine Exists.intro _ (And.intro rfl ?_)
      exact rfl
    rw [names_filter]
    with_reducible refine WEs.nil ?_
    refine WC.join (l := p.map fun j => [L5.getD j 0]) O (at_end ..) (five_hb _ p1) ?_
    rw [joinNil, flat_single]
    skip
    subst hm1
    rw [show ∀ x y : Mu, μ ++ MO.lst (List.map fsPV (List.map (fsAt a) (List.range 5))) :: g ++ x ++ y = μ ++ (MO.lst (List.map fsPV (List.map (fsAt a) (List.range 5))) :: g ++ x ++ y) from fun x y => by simp]
    exact hK p _ p1 p2 p3
end
end Mine
namespace Mine
section
variable {M : Model} {A : Around} {E : Value → Shared → Prop} {s : Shared}
/-- a frame with one parameter: a token at least is spent -/
theorem newEnv_pos {scope : Scope} {globals : Addr} {n : Str} {v : Value} {qual : Str} {func : Option Addr} {code : Value} {builtins : Addr} {Q : Env → Shared → Prop} (hk : scope.kind = .function) (hn : scope.names.lookup n = some .local)
    (hQ : ∀ env, env = newEnv scope s.heap.objs.size globals (cellsFrom (s.heap.objs.size + 1) scope.names []) qual func code none builtins →
      ∀ s', s.toks < s'.toks → InCallC s env.locals (bindL env.kindOf [(n, v)] fun _ => none) env.cells (bindC env.kindOf [(n, v)] fun _ => none) s' → Q env s') :
    wpAny M A (newFunctionEnv scope globals [] [(n, v)] qual func code none builtins) Q E s := by
  simp only [newFunctionEnv, Option.isSome_none, Bool.false_eq_true, if_false]
  refine wpAny_bind (wpAny_alloc (wpAny_bind (wpAny_layCells _ (fun name kind cells => by cases hc : kind == NameKind.cell <;> simp [hc]) _ _ _ _ ?_)))
  have ok := cellsFrom_ok scope.names (s.heap.push { cls := .type "frame", data := .dict #[] }) (s.heap.objs.size + 1) [] ⟨fun _ _ hm => (nomatch hm), List.Pairwise.nil⟩ (by rw [Heap.size_push]; exact Nat.le_refl _)
  rw [Heap.size_push] at ok
  rw [show ({ s with heap := s.heap.push { cls := .type "frame", data := .dict #[] } } : Shared).heap.objs.size = s.heap.objs.size + 1 from Heap.size_push ..]
  have base := (Heap.Ns.new s.heap (.type "frame")).keeps (pushCells_keeps _ _ : ∀ b o, _ → (pushCells (s.heap.push { cls := .type "frame", data := .dict #[] }) scope.names).get? b = some o)
  have kp : ∀ b o, s.heap.get? b = some o → (pushCells (s.heap.push { cls := .type "frame", data := .dict #[] }) scope.names).get? b = some o := fun b o e => pushCells_keeps _ _ b o (Heap.get?_push_of_some _ e)
  refine wpAny_bind ?_
  rw [List.forIn_cons]
  refine wpAny_bind (wpAny_bind (wpAny_storeName_local hn base (fun h' hn' hs' => wpAny_pure ?_) (by dsimp only; rw [hk]; rfl)))
  dsimp only
  rw [List.forIn_nil]
  refine wpAny_pure (wpAny_pure (hQ _ rfl _ (Nat.lt_succ_self _) ?_))
  have hne : ∀ m c, (m, c) ∈ cellsFrom (s.heap.objs.size + 1) scope.names [] → s.heap.objs.size < c := fun m c hm => (ok.empty m c hm).2
  refine ⟨⟨⟨_, _, rfl⟩, ?_, fun b o e => hs'.extBut b o (Nat.ne_of_lt (Heap.lt_size e)) (kp b o e), Nat.le_refl _⟩, fun m c hc => ?_, ok.apart, fun m c hm => hne m c hm⟩
  · have e : bindL (newEnv scope s.heap.objs.size globals (cellsFrom (s.heap.objs.size + 1) scope.names []) qual func code none builtins).kindOf [(n, v)] (fun _ => none) = fun y => if y = n then some v else none := by
      unfold bindL bindL
      exact if_pos hn
    rw [e]
    exact hn'
  · have e : bindC (newEnv scope s.heap.objs.size globals (cellsFrom (s.heap.objs.size + 1) scope.names []) qual func code none builtins).kindOf [(n, v)] (fun _ => none) = fun _ => none := by
      unfold bindC bindC
      exact if_pos hn
    rw [e]
    have := (ok.empty m c (mem_of_lookup hc)).1
    exact this.sameBut hs' (Nat.ne_of_gt (hne m c (mem_of_lookup hc)))
end
section
variable {c : Cx} {A : Around} {μ : Mu}
theorem codeAny_call_one {R : Result → Shared → Prop} {prog : Program} {w : World} {s : Shared} {a : Addr} {o : Obj} {fd : FuncData} {body : List Stmt} {x₀ : Str} {v₀ : Value}
    (hroom : A.depth < recursionLimit) (ho : s.heap.get? a = some o) (hdata : o.data = .func fd) (hlim : s.heap.NoLimit) (hcd : s.heap.CodeRec fd.code fd.qualname)
    (hbody : fd.body = .stmts body) (hbind : BindsTo s fd ⟨[v₀], []⟩ [(x₀, v₀)]) (hclo : fd.closure = [])
    (hkind : fd.scope.names.lookup x₀ = some .local)
    (h : ∀ s₁, s.toks < s₁.toks → InCallC s (callEnvC fd s.heap.objs.size a).locals (bindL (callEnvC fd s.heap.objs.size a).kindOf [(x₀, v₀)] fun _ => none) (callEnvC fd s.heap.objs.size a).cells
        (bindC (callEnvC fd s.heap.objs.size a).kindOf [(x₀, v₀)] fun _ => none) s₁ →
      wpAny (model prog w) (A.deeper (callEnvC fd s.heap.objs.size a)) (execs body (callEnvC fd s.heap.objs.size a)) (fun f s' => R (.ok (.ret (match f with | .ret v => v | _ => .none))) s')
        (fun e s' => wpAny (model prog w) (A.deeper (callEnvC fd s.heap.objs.size a)) (leaving (callEnvC fd s.heap.objs.size a) e) (fun _ s'' => R (.error e) s'') (fun e' s'' => R (.error e') s'') s') s₁)
    (hco : fd.scope.isCoroutine = false) (hgen : fd.scope.isGenerator = false) (hk : fd.scope.kind = .function) :
    codeAny (model prog w) A (.call (.ref a) ⟨[v₀], []⟩) R s := by
  refine codeAny_call_function hroom ho hdata hco hgen hbody hcd ?_
  rw [hclo]
  refine hbind _ _ _ _ (newEnv_pos hk hkind fun env he s' htk x => ?_)
  subst he
  exact ⟨hlim.keeps x.toInCall.keep, codeAny_func (h s' htk x)⟩
/-- a def of one parameter called, in a state that may have spent no token yet -/
theorem code_one {a : Addr} {fd : FuncData} {body : List Stmt} {x₀ : Str} {p : PV} {n : Nat} {K : PV → Mu → Prop} (O : c.Ok) (D : DefOk c a fd body [x₀]) (ao : AOk (n + 1) A) (hloc : fd.scope.names.lookup x₀ = some .local)
    (hini : ∀ L, (callEnvC fd L a).kindOf ("_initial_size" : Str) = none) (hni : ("_initial_size" : Str) ∉ [x₀]) (hk : ∀ L, (callEnvC fd L a).kindOf x₀ = some .local)
    (h : ∀ L A', AOk n A' → WSs c A' body (callEnvC fd L a) [(x₀, p)] μ (retK K))
    {s : Shared} {ι : Iota} {v : Value} {R : Result → Shared → Prop} (I : Inv c { s with toks := s.toks + 1 } ι μ) (r : RepV s.heap ι p v) (hR : ∀ v s' ι' p μ', Step c { s with toks := s.toks + 1 } ι s' ι' → Inv c s' ι' μ' → RepV s'.heap ι' p v → K p μ' → R (.ok (.ret v)) s') : codeAny (model c.prog c.w) A (.call (.ref a) ⟨[v], []⟩) R s := by
  obtain ⟨o, ho, hd⟩ := D.fn.here I
  have cr := D.codeRec I
  have nl := I.noLimit O
  have bd := D.bind s [v] (fun b o e q => I.old b o e q) rfl
  refine codeAny_call_one (body := body) (x₀ := x₀) (by have := ao.d; show A.depth < 1000; omega) ho hd nl cr D.body bd D.clo hloc (fun s₁ hts X => ?_) D.co D.gen D.kind
  generalize hL : s.heap.objs.size = L at *
  have fL : s.heap.get? L = none := by rw [← hL]; exact fresh_size _
  have hLe : (callEnvC fd L a).locals = L := rfl
  rw [hLe] at X
  have fr := I.fresh O (show ({ s with toks := s.toks + 1 } : Shared).heap.get? L = none from fL)
  obtain ⟨h', tk, es, k⟩ := X.done
  have g := I.grow O (s' := s₁) (by rw [es]; exact k) (by rw [es]; exact I.bare) (by rw [es]) (by omega)
  have fc : ∀ x cc, (callEnvC fd L a).cells.lookup x = some cc → s.heap.get? cc = none := fun x cc hx => by
    have hab := X.above x cc (lookup_mem _ x cc hx)
    cases q : s.heap.get? cc with
    | none => rfl
    | some o => exact absurd (Heap.lt_size q) (by rw [hL]; exact Nat.not_lt.mpr (Nat.le_of_lt hab))
  have V : EnvOk c (callEnvC fd L a) [(x₀, p)] s₁ ι := by
    refine ⟨D.kind, D.glo, D.bi, hini L, ⟨_, X.toInCall.ns, ?_, fun x q hx => ?_⟩, by simp, fr, fun x cc hx => ?_, fun x y cc hx hy => ?_⟩
    · rw [bindL_off _ _ _ _ (by simpa using hni)]
    · cases List.mem_singleton.mp hx
      exact ⟨D.dbg _ List.mem_cons_self, .inl ⟨hk L, v, bindL_on _ _ _ x₀ v (by simp) List.mem_cons_self (hk L), I.rep O g.2 r⟩⟩
    · have fcc := I.fresh O (show ({ s with toks := s.toks + 1 } : Shared).heap.get? cc = none from fc x cc hx)
      exact ⟨⟨_, X.cell x cc hx⟩, fcc.1, fcc.2.1, fun q => by have hab := X.above x cc (lookup_mem _ x cc hx); rw [hLe] at q; exact absurd (q ▸ hab) (Nat.lt_irrefl _), fcc.2.2⟩
    · exact pw_inj _ x y cc X.apart (lookup_mem _ x cc hx) (lookup_mem _ y cc hy)
  refine (h L _ (ao.deeper _)).run _ ι _ _ g.1 V fun f s' ι' pf ρ' μ' S I' V' rf k' => ?_
  have ke : ∀ b o, s.heap.get? b = some o → s₁.heap.get? b = some o := by rw [es]; exact k
  have Sx : Step c { s with toks := s.toks + 1 } ι s' ι' := by
    refine ⟨fun b o e hb hX => S.keep b o (ke b o e) hb hX (fun q => by rw [hLe] at q; rw [q] at e; rw [show ({ s with toks := s.toks + 1 } : Shared).heap.get? L = none from fL] at e; cases e) (fun x q => by rw [show ({ s with toks := s.toks + 1 } : Shared).heap.get? b = none from fc x b q] at e; cases e), fun b o e => S.there b o (ke b o e), ?_⟩
    obtain ⟨l, hl, hl'⟩ := S.ext
    refine ⟨l, hl, fun b hb => ?_⟩
    cases q : ({ s with toks := s.toks + 1 } : Shared).heap.get? b with
    | none => rfl
    | some o => have := ke b o q; rw [hl' b hb] at this; cases this
  cases pf with
  | next => simp only [RepF] at rf; subst rf; exact hR .none s' ι' .none μ' Sx I' (by simp only [RepV]) k'
  | brk => exact absurd k' (by simp [retK])
  | cont => exact absurd k' (by simp [retK])
  | ret p =>
    simp only [RepF] at rf
    obtain ⟨v, rfl, rv⟩ := rf
    exact hR v s' ι' p μ' Sx I' rv k'
end
end Mine
namespace Mine
noncomputable section
theorem def163 {w : World} {c : Cx} (G : G2 w c) : DefOk c 163 (fd2 w 163) (bodyOf (fd2 w 163)) ["script"] where
  fn := ⟨⟨_, (G.here (a := 163) rfl).1, rfl⟩, (G.here (a := 163) rfl).2⟩
  code := ⟨162, _, _, _, rfl, (G.here (a := 162) rfl).1, (G.here (a := 162) rfl).2, rfl, rfl⟩
  body := rfl
  bind := fun s vs k h => by
    obtain ⟨a, rfl⟩ := len1 h
    exact BindsTo.of_eq (by kernel_rfl)
  nd := by decide
  dbg := fun x hx => by rw [List.mem_singleton.mp hx]; decide
  clo := rfl
  glo := rfl
  bi := rfl
  co := rfl
  gen := rfl
  kind := rfl

variable {w : World} {c : Cx} {A : Around} {μ : Mu}
def spare : List Int := [2, 5, 5, 9, 19]
def givenI (sc : List Int) : List Int := sc.take 5 ++ spare.drop (sc.take 5).length
def givenN (sc : List Int) : List Nat := (givenI sc).map fun x => (x % 1000000).toNat
theorem given_len (sc : List Int) : (givenI sc).length = 5 := by
  unfold givenI
  rw [List.length_append, List.length_drop]
  exact Nat.add_sub_cancel' (List.length_take_le 5 sc)
theorem given_le (sc : List Int) : ∀ x ∈ givenN sc, x ≤ 1000000 := by
  intro x hx
  obtain ⟨y, _, rfl⟩ := List.mem_map.mp hx
  exact Int.toNat_le.mpr (Int.le_of_lt (Int.emod_lt_of_pos _ (by decide)))
theorem eq_strs (m : Mu) : ∀ l : List (List Nat), EqsOk c m 8 (strL l) (strL l)
  | [] => .nil
  | _ :: l => .cons (.str _) (eq_strs m l)
theorem eq_intl (m : Mu) : ∀ l : List Int, EqsOk c m 7 (l.map .int) (l.map .int)
  | [] => .nil
  | _ :: l => .cons (.int _) (eq_intl m l)
theorem eq_ints {m : Mu} {as bs : List Nat} {ll : List (List Int)} (ha : IntLists m as ll) (hb : IntLists m bs ll) : EqsOk c m 8 (as.map .loc) (bs.map .loc) := ⟨by rw [List.length_map, List.length_map, ha.1, hb.1], fun j p q h1 h2 => by
  rw [List.getElem?_map] at h1 h2
  obtain ⟨x, h3, h1⟩ := Option.map_eq_some_iff.mp h1
  obtain ⟨y, h4, h2⟩ := Option.map_eq_some_iff.mp h2
  subst h1
  subst h2
  have hl := List.getElem?_eq_getElem (ha.1 ▸ (List.getElem?_eq_some_iff.mp h3).1)
  exact EqOk.lists (eq_intl m _) (ha.2 j x _ h3 hl) (hb.2 j y _ h4 hl)⟩
theorem law_body (G : G2 w c) {sc : List Int} {l : Addr} {vs : List Value} (hB : ∃ ob n, c.hB.get? l = some ob ∧ ob.cls = .type "list" ∧ ob.data = .seq vs.toArray n) (hX : l ∉ c.X) (hI : IntsAre vs sc) (hs : sc.length ≤ 63) (L : Addr) (A : Around) (ao : AOk 20 A) :
    WSs c A (bodyOf (fd2 w 163)) (callEnvC (fd2 w 163) L 163) [("script", .ext l)] [] (retK fun p _ => p = .bool true) := by
  have O := G.ok
  have hsl : ∀ μ : Mu, ∀ {p1 p2 p3 p4 : Pos} {K : PV → Mu → Prop}, K (.loc μ.length) (μ ++ [.lst ((sc.take 5).map .int)]) → WE c A (.Subscript (.Name "script" p1) (.Slice .none (some (.Constant (.int 5) 0 p2)) .none p3) p4) (callEnvC (fd2 w 163) L 163) [("script", .ext l)] μ K := fun μ {p1 p2 p3 p4 K} hk => by
    refine WE.slice_ext O ?_
    with_reducible refine WE.name (by walk_at "m") ?_
    with_reducible refine WPart.none ?_
    with_reducible refine WPart.some ?_
    with_reducible refine WE.int O ?_
    with_reducible refine Exists.intro _ (And.intro rfl ?_)
    refine ⟨l, vs, sc.map .int, rfl, hB, hX, fun h ι => RepL.intsOf hI, by rw [List.length_map]; exact Nat.le_trans hs (by decide), ?_⟩
    rw [show cutL (sc.map PV.int) none (some (5 : Int)) = (sc.take 5).map PV.int by
      unfold cutL; simp only [Option.elim, List.drop_zero, Nat.sub_zero]
      rw [List.length_map]
      have : clipAt sc.length 5 = min 5 sc.length := clipAt_min sc.length 5
      rw [this, ← List.map_take]
      congr 1
      by_cases h : sc.length ≤ 5
      · rw [Nat.min_eq_right h, List.take_length, List.take_of_length_le h]
      · rw [Nat.min_eq_left (Nat.le_of_lt (Nat.not_le.mp h))]]
    exact hk
  refine WSs.cons O ?_
  refine WS.assign_comp O (CompOk.plain (by with_unfolding_all rfl) rfl rfl (noCell rfl) (fun C => rfl)) ?_ (fun _ => (by with_unfolding_all rfl)) rfl rfl (by with_unfolding_all rfl)
  refine WE.bin O ?_
  refine hsl _ ?_
  with_reducible refine WE.slice O ?_
  with_reducible refine WE.list O ?_
  with_reducible refine WEs.cons O ?_ (by with_unfolding_all rfl)
  with_reducible refine WE.int O ?_
  with_reducible refine WEs.cons O ?_ (by with_unfolding_all rfl)
  with_reducible refine WE.int O ?_
  with_reducible refine WEs.cons O ?_ (by with_unfolding_all rfl)
  with_reducible refine WE.int O ?_
  with_reducible refine WEs.cons O ?_ (by with_unfolding_all rfl)
  with_reducible refine WE.int O ?_
  with_reducible refine WEs.cons O ?_ (by with_unfolding_all rfl)
  with_reducible refine WE.int O ?_
  with_reducible refine WEs.nil ?_
  refine ⟨by simp, ?_⟩
  refine WPart.some ?_
  refine WE.call_bi O (G2.n_len G) (G2.b_len G) ?_ (by with_unfolding_all rfl) (by with_unfolding_all rfl) (by with_unfolding_all rfl) (by with_unfolding_all rfl)
  refine WEs.cons O (hsl _ (WEs.nil ?_)) (by with_unfolding_all rfl)
  have htk : (sc.take 5).length ≤ 5 := List.length_take_le ..
  refine WC.len_lst (ps := (sc.take 5).map .int) O (by simp) (by rw [List.length_map]; exact Nat.le_trans htk (by decide)) ?_
  rw [List.length_map]
  with_reducible refine Exists.intro _ (And.intro rfl ?_)
  with_reducible refine WPart.none ?_
  refine ⟨_, _, .lst 1 (spare.map .int) (by simp [spare]) (by simp [spare]), ?_⟩
  rw [cutL_from _ _ (by rw [List.length_map]; show _ ≤ 5; exact htk)]
  refine WV.add_lst (ps := (sc.take 5).map .int) (qs := (spare.map PV.int).drop (sc.take 5).length) O (by simp) (by simp) ⟨by rw [List.length_map]; exact Nat.le_trans htk (by decide), by rw [List.length_drop]; exact Nat.le_trans (Nat.sub_le ..) (show 5 ≤ 1000000 by decide)⟩ ?_
  rw [← List.map_drop, ← List.map_append]
  refine loopLst (ps := (givenI sc).map .int) (at_end ..) ?_
  intro C
  refine WCL.fmap (fun q => match q with | .int x => some (.int (((x % 1000000).toNat : Nat) : Int)) | _ => none) ((givenI sc).map .int) O ao.h (by simp [itemsOf, givenI]) (fun i h => by cases h; exact ⟨(givenI sc).map .int, at_end ..⟩) (by rw [List.length_map, given_len]; decide) (fun q hq g => ?_) ?_
  · obtain ⟨x, _, rfl⟩ := List.mem_map.mp hq
    refine WAL.name O (by walk_at "u") rfl rfl ⟨(fun y hy => by cases hy), WIfs.nil ⟨rfl, rfl, fun _ => ?_⟩⟩
    with_reducible refine WE.bin O ?_
    with_reducible refine WE.name (by walk_at "m") ?_
    with_reducible refine WE.bin O ?_
    with_reducible refine WE.int O ?_
    with_reducible refine WE.int O ?_
    with_reducible refine WV.pow_nat O (by with_unfolding_all rfl) (by with_unfolding_all rfl) (by decide) ?_
    refine WV.mod_int O (by show ((10 ^ 6 : Nat) : Int) ≠ 0; decide) ?_
    refine ⟨rfl, ?_⟩
    have e : x.fmod ((10 ^ 6 : Nat) : Int) = (((x % 1000000).toNat : Nat) : Int) := by
      rw [Int.fmod_eq_emod_of_nonneg _ (by decide)]
      have : ((10 ^ 6 : Nat) : Int) = 1000000 := by decide
      rw [this]
      exact (Int.toNat_of_nonneg (Int.emod_nonneg _ (by decide))).symm
    show some (PV.int (((x % 1000000).toNat : Nat) : Int)) = some (PV.int (x.fmod ((10 ^ 6 : Nat) : Int)))
    rw [e]
  have eg : ((givenI sc).map PV.int).filterMap (fun q => match q with | .int x => some (.int (((x % 1000000).toNat : Nat) : Int)) | _ => none) = (givenN sc).map fun x => PV.int ((x : Nat) : Int) := by
    unfold givenN
    rw [List.filterMap_map, List.map_map, ← List.filterMap_eq_map]
    rfl
  rw [eg]
  have hgl : (givenN sc).length = 5 := by unfold givenN; rw [List.length_map, given_len]
  have hgb := given_le sc
  generalize ([] ++ [MO.lst ((sc.take 5).map PV.int)] ++ [MO.lst [PV.int 2, PV.int 5, PV.int 5, PV.int 9, PV.int 19]] ++ [MO.lst ((sc.take 5).map PV.int)] ++ [MO.lst ((spare.drop (sc.take 5).length).map PV.int)] ++ [MO.lst ((sc.take 5 ++ spare.drop (sc.take 5).length).map PV.int)] : Mu) = pre
  generalize givenN sc = gv at *
  refine updE (by walk_at "u") ?_
  have hgi : (pre ++ [MO.lst (gv.map fun (x : Nat) => PV.int ((x : Nat) : Int))])[pre.length]? = some (.lst (gv.map fun (x : Nat) => PV.int (x : Nat))) := at_end ..
  generalize pre ++ [MO.lst (gv.map fun (x : Nat) => PV.int ((x : Nat) : Int))] = m0 at *
  generalize pre.length = iG at *
  refine WSs.cons O ?_
  with_reducible refine WS.assign_name O ?_ (.inr ⟨by with_unfolding_all rfl, by with_unfolding_all rfl⟩) (by with_unfolding_all rfl) (by with_unfolding_all rfl)
  with_reducible refine WE.call_def O (G2.g131 G) (def131 G).fn ?_ (by with_unfolding_all rfl) (by with_unfolding_all rfl) (by with_unfolding_all rfl) (by with_unfolding_all rfl)
  with_reducible refine WEs.cons O ?_ (by with_unfolding_all rfl)
  with_reducible refine WE.call_bi O (G2.n_sum G) (G2.b_sum G) ?_ (by with_unfolding_all rfl) (by with_unfolding_all rfl) (by with_unfolding_all rfl) (by with_unfolding_all rfl)
  with_reducible refine WEs.cons O ?_ (by with_unfolding_all rfl)
  with_reducible refine WE.name (by walk_at "m") ?_
  with_reducible refine WEs.nil ?_
  refine WC.sumN O ao.h hgi hgl hgb ?_
  with_reducible refine WEs.nil ?_
  have hs5 : gv.sum ≤ 10000000 := by
    have := sum_leN 1000000 gv hgb
    rw [hgl] at this
    exact Nat.le_trans this (by decide)
  refine order_ok G (ao.mono (by decide)) hs5 fun p g0 p1 p2 p3 => ?_
  with_reducible refine updE (by walk_at "u") ?_
  with_reducible refine WSs.cons O ?_
  have hlaw := law_plain (xs := gv) p1 p2 p3
  have ho : (orderOf p).length = 5 := by unfold orderOf; rw [List.length_map, p1]
  with_reducible refine WS.ite O ?_
  with_reducible refine WB.cmp1 O ?_ (by with_unfolding_all rfl)
  with_reducible refine WE.name (by walk_at "m") ?_
  with_reducible refine WE.strS (l := []) O (by with_unfolding_all rfl) ?_
  with_reducible refine WV.eq_str ?_
  with_reducible refine Exists.intro _ (And.intro rfl ?_)
  rw [S_beq]
  refine iteF (beq_eq_false_iff_ne.mpr fun q => by rw [q] at ho; cases ho) (WSs.nil ?_)
  refine WSs.cons O ?_
  with_reducible refine WS.assign_tup O ?_ (by with_unfolding_all rfl) (by with_unfolding_all rfl)
  with_reducible refine WE.call_def O (G2.g136 G) (def136 G).fn ?_ (by with_unfolding_all rfl) (by with_unfolding_all rfl) (by with_unfolding_all rfl) (by with_unfolding_all rfl)
  with_reducible refine WEs.cons O ?_ (by with_unfolding_all rfl)
  with_reducible refine WE.name (by walk_at "m") ?_
  with_reducible refine WEs.cons O ?_ (by with_unfolding_all rfl)
  with_reducible refine WE.name (by walk_at "m") ?_
  with_reducible refine WEs.nil ?_
  refine laid_ok' (xs := gv) G (ao.mono (by decide)) p1 p2 p3 hgl hgb (getElem?_ext hgi g0) fun m1 iD iS as hm1 hD hIL hS => ?_
  have hst := (laid_ok (xs := gv) p1 p2 p3 (Nat.le_refl 5)).sl
  have htl := (laid_ok (xs := gv) p1 p2 p3 (Nat.le_refl 5)).tl
  generalize laidTo (orderOf p) gv 5 = s at *
  generalize orderOf p = ord at *
  refine WA.tuple O ao.h (by with_unfolding_all rfl) (by with_unfolding_all rfl) ?_
  refine WAs.cons O (WA.name O (by walk_at "u") (.inl rfl) rfl ?_)
  refine WAs.cons O (WA.name O (by walk_at "u") (.inl rfl) rfl (WAs.nil ?_))
  refine WSs.cons O ?_
  with_reducible refine WS.assign_name O ?_ (.inr ⟨by with_unfolding_all rfl, by with_unfolding_all rfl⟩) (by with_unfolding_all rfl) (by with_unfolding_all rfl)
  with_reducible refine WE.sub O ?_ (fun _ _ => by with_unfolding_all rfl)
  with_reducible refine WE.name (by walk_at "m") ?_
  with_reducible refine WE.int O ?_
  refine subLst hS ?_
  refine WV.item_lst hS (k := 5) (q := .str (S (s.stages.getD 5 []))) (show seqIndex? ((5 : Nat) : Int) _ = some 5 from seq_nat (by rw [List.length_map, hst]; decide)) (by
    rw [strL_at, List.getD_eq_getElem?_getD, List.getElem?_eq_getElem (show 5 < s.stages.length by rw [hst]; decide)]; rfl) (by rw [List.length_map, hst]; decide) ?_
  with_reducible refine updE (by walk_at "u") ?_
  with_reducible refine WSs.cons O ?_
  obtain ⟨hl, h5⟩ := hlaw
  unfold lawOk at hl
  rw [Bool.and_eq_true, Bool.and_eq_true, Bool.and_eq_true, beq_iff_eq, beq_iff_eq] at hl
  obtain ⟨⟨⟨l1, l2⟩, l3⟩, l4⟩ := hl
  generalize s.stages.getD 5 [] = whole at *
  with_reducible refine WS.ite O ?_
  with_reducible refine WB.cmp1 O ?_ (by with_unfolding_all rfl)
  with_reducible refine WE.name (by walk_at "m") ?_
  refine WE.comp O (CompOk.many (ρc := [("whole", .str (S whole)), ("ring", .str (S ord))]) (by with_unfolding_all rfl) rfl rfl (noCell rfl) (fun C => rfl) (mem2 rfl rfl) (by walk_at "s") (mem2 ⟨rfl, fun C => rfl, rfl⟩ ⟨rfl, fun C => rfl, rfl⟩) (by show (["whole", "ring"] : List Str).Nodup; decide)) ?_ (fun _ => (by with_unfolding_all rfl))
  with_reducible refine WE.call_ty O (G2.n_range G) (G2.b_range G) ?_ (by with_unfolding_all rfl) (by with_unfolding_all rfl) (by with_unfolding_all rfl) (by with_unfolding_all rfl)
  with_reducible refine WEs.cons O ?_ (by with_unfolding_all rfl)
  with_reducible refine WE.int O ?_
  with_reducible refine WEs.nil ?_
  refine WC.range1 O ?_
  refine loopRng (by decide) ?_
  intro C
  refine WCL.mapG (fun q => match q with | PV.int n => some (PV.str (S (covB (ord.take n.toNat) whole))) | _ => none) ((List.range ((6 : Nat) - 0 : Int).toNat).map fun (k : Nat) => PV.int (0 + (k : Int))) O (fun l g => nx_rng O ao.h _ _ _) (by decide) (fun q hq l g => ?_) fun g => ?_
  · obtain ⟨n, hn, rfl⟩ := rng_mem hq
    refine WAL.name O (by walk_at "u") rfl rfl ⟨(by walk_at "s"), WIfs.nil ⟨g, rfl, rfl, fun _ => ?_⟩⟩
    with_reducible refine WE.call_def O (G2.g143 G) (def143 G).fn ?_ (by with_unfolding_all rfl) (by with_unfolding_all rfl) (by with_unfolding_all rfl) (by with_unfolding_all rfl)
    with_reducible refine WEs.cons O ?_ (by with_unfolding_all rfl)
    with_reducible refine WE.name (by walk_at "m") ?_
    with_reducible refine WEs.cons O ?_ (by with_unfolding_all rfl)
    with_reducible refine WE.slice O ?_
    with_reducible refine WE.name (by walk_at "m") ?_
    with_reducible refine WPart.none ?_
    with_reducible refine WPart.some ?_
    with_reducible refine WE.name (by walk_at "m") ?_
    with_reducible refine Exists.intro _ (And.intro rfl ?_)
    refine ⟨_, _, .str ord (Nat.le_trans (Nat.le_of_eq ho) (by decide)), ?_⟩
    with_reducible refine WEs.nil ?_
    rw [cutL_to ord n (by omega)]
    refine cov_ok G (ao.mono (by decide)) (by omega) (Nat.le_trans (List.length_take_le' ..) (Nat.le_trans (Nat.le_of_eq ho) (by decide))) ⟨g, rfl, ?_⟩
    dsimp only
    rw [Int.toNat_natCast]
  rw [show ((List.range ((6 : Nat) - 0 : Int).toNat).map fun (k : Nat) => PV.int (0 + (k : Int))).filterMap (fun q => match q with | PV.int n => some (PV.str (S (covB (ord.take n.toNat) whole))) | _ => none) = strL ((List.range 6).map fun n => covB (ord.take n) whole) from rfl]
  rw [← l1]
  refine WV.ne_lst O (ao.mono (by decide)) (getElem?_ext hS _) (at_end ..) (eq_strs _ _) ?_
  with_reducible refine Exists.intro _ (And.intro rfl ?_)
  refine iteF rfl (WSs.nil ?_)
  replace hS := getElem?_ext hS (MO.lst (strL s.stages) :: g)
  replace hD := getElem?_ext hD (MO.lst (strL s.stages) :: g)
  replace hIL := hIL.more (MO.lst (strL s.stages) :: g)
  generalize m1 ++ MO.lst (strL s.stages) :: g = m2 at *
  refine WSs.cons O ?_
  with_reducible refine WS.ret O ?_
  with_reducible refine WE.and O ?_
  with_reducible refine WE.cmp1 O ?_ (by with_unfolding_all rfl)
  with_reducible refine WE.call_def O (G2.g148 G) (def148 G).fn ?_ (by with_unfolding_all rfl) (by with_unfolding_all rfl) (by with_unfolding_all rfl) (by with_unfolding_all rfl)
  with_reducible refine WEs.cons O ?_ (by with_unfolding_all rfl)
  with_reducible refine WE.name (by walk_at "m") ?_
  with_reducible refine WEs.cons O ?_ (by with_unfolding_all rfl)
  with_reducible refine WE.name (by walk_at "m") ?_
  with_reducible refine WEs.nil ?_
  refine told_ok G (ao.mono (by decide)) (by omega) ho fun iT m3 ts hm3 hT hTL => ?_
  obtain ⟨g3, rfl⟩ := hm3
  rw [l2] at hTL
  with_reducible refine WE.name (by walk_at "m") ?_
  refine WV.eq_lst O (ao.mono (by decide)) hT (getElem?_ext hD _) (eq_ints hTL (hIL.more _)) ?_
  refine ⟨true, .bool true, iteT rfl ?_⟩
  with_reducible refine WE.and O ?_
  with_reducible refine WE.call_def O (G2.g153 G) (def153 G).fn ?_ (by with_unfolding_all rfl) (by with_unfolding_all rfl) (by with_unfolding_all rfl) (by with_unfolding_all rfl)
  with_reducible refine WEs.cons O ?_ (by with_unfolding_all rfl)
  with_reducible refine WE.name (by walk_at "m") ?_
  with_reducible refine WEs.nil ?_
  refine taken_ok G (ao.mono (by decide)) (getElem?_ext hS g3) hst (fun t ht => Nat.le_trans (htl t ht) (by decide)) l3 fun g4 => ?_
  refine ⟨true, .bool true, iteT rfl ?_⟩
  with_reducible refine WE.bool_one ?_
  with_reducible refine WE.call_def O (G2.g158 G) (def158 G).fn ?_ (by with_unfolding_all rfl) (by with_unfolding_all rfl) (by with_unfolding_all rfl) (by with_unfolding_all rfl)
  with_reducible refine WEs.cons O ?_ (by with_unfolding_all rfl)
  with_reducible refine WE.name (by walk_at "m") ?_
  with_reducible refine WEs.nil ?_
  refine laps_ok G (ao.mono (by decide)) h5 l4 fun g5 => ?_
  rfl
end
end Mine
namespace Mine
/-- a code and its table -/
def tabOk (cc P : Addr) (h : Heap) : Prop := ∃ ps, h.IsCode cc P ps ∧ h.TableAt cc P ps
def tabsT (h : Heap) : Prop := tabOk 88 84 h ∧ tabOk 95 91 h
theorem tabOk.keep {cc P : Addr} {h h' : Heap} (x : tabOk cc P h) (k : ∀ b o, h.get? b = some o → (o.cls = .none ∨ o.cls = .type "code") → (∃ vs, o.data = .fields vs) → h'.get? b = some o) : tabOk cc P h' := by
  obtain ⟨ps, ⟨o, vs, file, tf, flags, tg, inF, text, tt, op, a, r1, r2, r3, r4, r5, r6, b, r7, r⟩, ⟨o', vs', e', hc, hd, r'⟩, t⟩ := x
  have e : o = o' := by rw [a] at e'; exact Option.some.inj e'
  subst e
  have a' := k _ _ a (.inr hc) ⟨_, hd⟩
  have t' := k _ _ t (.inl rfl) ⟨_, rfl⟩
  have e2 : op = { cls := .none, data := .fields ps } := by rw [b] at t; exact Option.some.inj t
  subst e2
  exact ⟨ps, ⟨o, vs, file, tf, flags, tg, inF, text, tt, _, a', r1, r2, r3, r4, r5, r6, t', r7, r⟩, ⟨o, vs', a', hc, hd, r'⟩, t'⟩
theorem tabOk.ext {cc P Q : Addr} {h h' : Heap} (x : tabOk cc P h) (k : Heap.ExtBut Q h h') (h1 : cc ≠ Q) (h2 : P ≠ Q) : tabOk cc P h' := by
  obtain ⟨ps, a, b⟩ := x
  exact ⟨ps, a.extBut k h1 h2, b.extBut k h1 h2⟩
def cxOf (w : World) (s : Shared) (mg mb : Str → Option Value) : Cx := { prog := PySem.Challenge.rw_to0009_01.row.prog, w := w, hB := s.heap, os := s.os, X := [84, 91], C := 122, mg := mg, mb := mb, T := tabsT }
section
variable {p : Program} {loose : List Str} {mean : ExcName → Option Value} {mg mb : Str → Option Value} {w : World} {s : Shared}
theorem in_tail (KX : (heapT w.params).In s.heap) : (H2 w).In s.heap := fun a o e => KX a o (by
  by_cases h1 : a = 84
  · subst h1
    have : (H2 w).lookup 84 = none := by kernel_rfl
    rw [this] at e; cases e
  · by_cases h2 : a = 91
    · subst h2
      have : (H2 w).lookup 91 = none := by kernel_rfl
      rw [this] at e; cases e
    · show List.lookup a ((84, tabNil) :: (91, tabNil) :: H2 w) = some o
      rw [List.lookup_cons, List.lookup_cons]
      have b1 : (a == 84) = false := by simpa using h1
      have b2 : (a == 91) = false := by simpa using h2
      rw [b1, b2]; exact e)
theorem tabs_at (KX : (heapT w.params).In s.heap) : tabsT s.heap := by
  have K := in_tail KX
  refine ⟨⟨#[], ⟨_, _, _, _, _, _, _, _, _, _, K 88 _ rfl, rfl, rfl, rfl, rfl, rfl, rfl, KX 84 _ rfl, rfl, trivial, by decide⟩, ⟨_, _, K 88 _ rfl, rfl, rfl, rfl⟩, KX 84 _ rfl⟩,
    ⟨#[], ⟨_, _, _, _, _, _, _, _, _, _, K 95 _ rfl, rfl, rfl, rfl, rfl, rfl, rfl, KX 91 _ rfl, rfl, trivial, by decide⟩, ⟨_, _, K 95 _ rfl, rfl, rfl, rfl⟩, KX 91 _ rfl⟩⟩
theorem mg_is (KX : (heapT w.params).In s.heap) (T : Top p loose mean mg mb s.heap) : mg = mg2 w := by
  have K := in_tail KX
  obtain ⟨o, es, ep, e, hd, hk, hf⟩ := T.g
  have e2 : s.heap.get? mainGlobals = some _ := K 3 _ rfl
  rw [e2] at e; cases e
  cases hd
  funext x
  exact (hf x).symm
theorem ok_of (KX : (heapT w.params).In s.heap) (T : Top p loose mean mg mb s.heap) : (cxOf w s mg mb).Ok where
  lim := T.nolimit
  g := T.g
  b := T.b
  nb := by
    have K := in_tail KX
    obtain ⟨mc, ⟨o, es, ep, e, hd, hk, hf⟩, _⟩ := T.nodigits
    have e2 : s.heap.get? cStatics = some _ := K cStatics _ rfl
    have e' := e
    rw [e2] at e; cases e
    cases hd
    refine ⟨mc, ⟨_, _, _, e', rfl, hk, hf⟩, ?_⟩
    rw [← hf]
    kernel_rfl
  sX := ⟨by show cStatics ∉ [84, 91]; decide, by show mainGlobals ∉ [84, 91]; decide, by show builtinsNs ∉ [84, 91]; decide⟩
  tX := fun h ht a ha => by
    rcases List.mem_cons.mp ha with rfl | ha
    · obtain ⟨ps, _, _, t⟩ := ht.1; exact ⟨_, t⟩
    · rw [List.mem_singleton.mp ha]
      obtain ⟨ps, _, _, t⟩ := ht.2; exact ⟨_, t⟩
  tk := fun h h' ht k => ⟨ht.1.keep k, ht.2.keep k⟩
theorem g2_of (KX : (heapT w.params).In s.heap) (T : Top p loose mean mg mb s.heap) : G2 w (cxOf w s mg mb) where
  ok := ok_of KX T
  K := in_tail KX
  X := fun a ha => by
    rcases List.mem_cons.mp ha with rfl | ha
    · kernel_rfl
    · rw [List.mem_singleton.mp ha]; kernel_rfl
  mg := mg_is KX T
  mb := T.builtins
  C := rfl
  gl := ⟨List.mem_cons_self, fun h ht => ht.1, fun h h' ps ht k a b => ⟨⟨ps, a, b⟩, ht.2.ext k (by decide) (by decide)⟩⟩
  gs := ⟨List.mem_cons_of_mem _ List.mem_cons_self, fun h ht => ht.2, fun h h' ps ht k a b => ⟨ht.1.ext k (by decide) (by decide), ⟨ps, a, b⟩⟩⟩
  bm := by
    obtain ⟨bm, ob, h1, h2, h3, h4, h5, h6⟩ := T.bmain
    have ht := tabs_at KX
    refine ⟨bm, ob, h1, h2, h3, fun hm => ?_, h4, h5, h6⟩
    rcases List.mem_cons.mp hm with rfl | hm
    · obtain ⟨ps, _, _, t⟩ := ht.1
      rw [t] at h3; cases h3; cases h4
    · rw [List.mem_singleton.mp hm] at h3
      obtain ⟨ps, _, _, t⟩ := ht.2
      rw [t] at h3; cases h3; cases h4
  file := by rfl
  sup := by rfl
end
end Mine
namespace Mine
theorem tab_old {h h' : Heap} {cc P : Addr} {o : Obj} (t0 : h.TableAt cc P #[]) (e : h.get? P = some o) (x : tabOk cc P h') : asItWas h h' P o := by
  obtain ⟨ps, _, _, t⟩ := x
  have e0 := t0.2
  rw [e0] at e; cases e
  exact .inr (.inl ⟨t0.isCodeTable, rfl, #[], ps, rfl, by rw [Array.empty_append]; exact t⟩)
theorem law_code {p : Program} {loose : List Str} {mean : ExcName → Option Value} {mg mb : Str → Option Value} {w : World} {s : Shared} {R : Result → Shared → Prop} (KX : (heapT w.params).In s.heap) (T : Top p loose mean mg mb s.heap) (hg : s.gens = #[]) {l : Addr} {vs : List Value} {ns : List Int} (hL : s.heap.IsList l vs.toArray) (hI : IntsAre vs ns) (hn : ns.length ≤ 63)
    (hR : ∀ s', OldK s.heap s'.heap → s'.os = s.os → AllBare s'.gens → R (.ok (.ret (.bool true))) s') : codeAny (model PySem.Challenge.rw_to0009_01.row.prog w) callerA (.call (.ref 163) ⟨[.ref l], []⟩) R s := by
  have G := g2_of KX T
  have O := G.ok
  have ht := tabs_at KX
  obtain ⟨ob, ho, hcl, n, hda⟩ := hL
  have lX : l ∉ (cxOf w s mg mb).X := fun hm => by
    rcases List.mem_cons.mp hm with rfl | hm
    · obtain ⟨ps, _, _, t⟩ := ht.1
      rw [t] at ho; cases ho; cases hcl
    · rw [List.mem_singleton.mp hm] at ho
      obtain ⟨ps, _, _, t⟩ := ht.2
      rw [t] at ho; cases ho; cases hcl
  have I : Inv (cxOf w s mg mb) { s with toks := s.toks + 1 } [] [] := ⟨fun b o e _ => e, fun a ha => (by cases ha), rfl, List.nodup_nil, fun i a m hi _ => (by simp at hi), ht, AllBare.of_eq hg, rfl, Nat.succ_pos _⟩
  have ao : AOk 21 callerA := ⟨rfl, by decide, by decide⟩
  refine code_one (c := cxOf w s mg mb) (p := .ext l) (μ := []) (ι := []) O (def163 G) ao rfl (fun L => rfl) (by decide) (fun L => rfl) (fun L A ao => law_body G ⟨ob, n, ho, hcl, hda⟩ lX hI hn L A ao) I (by simp only [RepV]) fun v s' ι' q μ' S I' r k => ?_
  subst k
  simp only [RepV] at r
  subst r
  have K0 := in_tail KX
  refine hR s' ⟨fun b o e => ?_, fun b o e => S.there b o e⟩ I'.os I'.bare
  by_cases h1 : b = 84
  · subst h1
    exact tab_old ⟨⟨_, _, K0 88 _ rfl, rfl, rfl, rfl⟩, KX 84 _ rfl⟩ e I'.tab.1
  · by_cases h2 : b = 91
    · subst h2
      exact tab_old ⟨⟨_, _, K0 95 _ rfl, rfl, rfl, rfl⟩, KX 91 _ rfl⟩ e I'.tab.2
    · exact .inl (I'.old b o e (fun hm => by
        rcases List.mem_cons.mp hm with h | hm
        · exact h1 h
        · exact h2 (List.mem_singleton.mp hm)))
end Mine
namespace Mine
def viewAt (p : Program) (l : List Nat) : Program := { p with main := { p.main with body := l.filterMap (p.main.body[·]?) } }
abbrev theRow : OpenRow := PySem.Challenge.rw_to0009_01.row
def theView : Program := viewAt theRow.prog [0, 2, 3, 5, 6, 8, 9, 11, 12, 13, 14, 15, 16, 17]
theorem said : PySem.Challenge.rw_to0009_01.wellSaid = true := by kernel_rfl
theorem left : LeftO theRow.prog theView [PySem.Str.ofString "_Accumulator"] (fun s => xlAt theView [] s && recOk (RowW.records theRow.toRowW) s) (Hook.obs (kHook heapT asT asT_eq)) (Hook.val (kHook heapT asT asT_eq)) 1896 := by
  intro w
  kernel_rfl
end Mine
theorem PySem.Challenge.cw_to0009_01_holds : PySem.Challenge.rw_to0009_01.Holds := by
  w_on
  refine holds_law Mine.said fun said => ?_
  refine holds_open (r := Mine.theRow) (q := Mine.theView) (loose := [PySem.Str.ofString "_Accumulator"]) (Xt := fun s => xlAt Mine.theView [] s && recOk (RowW.records Mine.theRow.toRowW) s) (XP := XL Mine.theView []) (Yf := Hook.obs (kHook Mine.heapT Mine.asT Mine.asT_eq)) (Ya := Hook.val (kHook Mine.heapT Mine.asT Mine.asT_eq)) (YP := Hook.says (kHook Mine.heapT Mine.asT Mine.asT_eq)) (N := 1896) Mine.left (Hook.of (kHook Mine.heapT Mine.asT Mine.asT_eq)) (Hook.keeps (kHook Mine.heapT Mine.asT Mine.asT_eq)) (fun s e => xl_of s (Bool.and_eq_true_iff.mp e).1) XL.keeps (by rfl) (by rfl) (by rfl) (fun s e => recFacts_of (Bool.and_eq_true_iff.mp e).2) (by rfl) said (by decide +kernel) ⟨rfl, rfl, rfl, rfl, rfl, by decide +kernel⟩ ?hw ?hc
  case hw => w_witness2
  k_fill
  intro w s₀ s₁ mg mb G Y fa o pm cd doc dV kV ho hdo hcd hD hmg hg args vals as hpre hlay hrd hwl hlo
  have KX := kIn_of Y
  refine Ground.open G ?_
  intro T B D TE TW
  have e : mg (Str.ofString "law") = some (.ref fa) := hmg
  rw [Mine.mg_is KX T] at e
  have e2 : Mine.mg2 w (Str.ofString "law") = some (.ref 163) := by rfl
  rw [e2] at e
  injection e with e
  injection e with e
  subst e
  clear e2 hcd hD hdo ho D B TE TW G Y
  wrow_args hpre hlay hrd hwl hlo
  all_goals (first | refine callC_kw (enter_call ?_) | refine enter_call ?_ | refine callC_kw (enter_callW ?_) | refine enter_callW ?_)
  refine Mine.law_code KX T hg (by assumption) (by assumption) ?_ ?_
  · omega
  · intro s' h1 h2 h3
    exact ⟨.inl ⟨.bool true, .bool true, [], rfl, fun _ => rfl, .bool true, by wrow_post, fun _ => ⟨.nil, fun _ h => nomatch h⟩⟩, h1, h2, h3⟩
