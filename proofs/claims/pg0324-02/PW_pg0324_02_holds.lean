import PyProof.Rows.All
import Wide.All
import OpenK.AllK
import Wide.FinOn
import PySem.Challenge.RW_pg0324_02
set_option Elab.async false
set_option linter.all false
open PySem PySem.W PySem.Calls PyProof.Rows
namespace Mini
noncomputable section Q

inductive MV where
  | int (i : Int)
  | str (s : Str)
  | ref (l : Nat)
  | val (v : Value)
  | clo (c l lc : Nat)
  deriving DecidableEq

inductive MO where
  | list (xs : List MV)
  | tup (xs : List MV)
  | inst (C : Addr) (d : Nat)
  | ns (es : List (Str × MV))
  | range (lo hi : Int)
  | tab (t : Option (Nat × Nat × Nat))
  | code (q : Str)
  | emp (l : Nat)
  deriving DecidableEq

set_option genSizeOf false in
set_option genInjectivity false in
structure MH where
  n : Nat
  os : List (Nat × MO)

noncomputable def setL (os : List (Nat × MO)) (l : Nat) (o' : MO) : List (Nat × MO) := @List.rec (Nat × MO) (fun uq1 => List (Nat × MO)) [] (fun p r ih => @Bool.rec (fun uq1 => List (Nat × MO)) (p :: ih) ((p.1, o') :: r) (Nat.beq p.1 l)) os
noncomputable def getL (os : List (Nat × MO)) (l : Nat) : Option MO := @List.rec (Nat × MO) (fun uq1 => Option MO) none (fun p uq1 ih => @Bool.rec (fun uq1 => Option MO) ih (some p.2) (Nat.beq p.1 l)) os
theorem setL_cons (k : Nat) (o : MO) (r : List (Nat × MO)) (l : Nat) (o' : MO) : setL ((k, o) :: r) l o' = if k = l then (k, o') :: r else (k, o) :: setL r l o' := by
  show @Bool.rec (fun uq1 => List (Nat × MO)) ((k, o) :: setL r l o') ((k, o') :: r) (Nat.beq k l) = _
  cases h : Nat.beq k l with
  | true => rw [if_pos (Nat.eq_of_beq_eq_true h)]
  | false => rw [if_neg (Nat.ne_of_beq_eq_false h)]
theorem getL_cons (k : Nat) (o : MO) (r : List (Nat × MO)) (l : Nat) : getL ((k, o) :: r) l = if l = k then some o else getL r l := by
  show @Bool.rec (fun uq1 => Option MO) (getL r l) (some o) (Nat.beq k l) = _
  cases h : Nat.beq k l with
  | true => rw [if_pos (Nat.eq_of_beq_eq_true h).symm]
  | false => rw [if_neg (Ne.symm (Nat.ne_of_beq_eq_false h))]
namespace MH
noncomputable def get (H : MH) (l : Nat) : Option MO := getL H.os l
noncomputable def set (H : MH) (l : Nat) (o : MO) : MH := ⟨H.n, setL H.os l o⟩
noncomputable def push (H : MH) (o : MO) : MH := ⟨H.n + 1, (H.n, o) :: H.os⟩
theorem getL_setL (os : List (Nat × MO)) (l k : Nat) (o : MO) : getL (setL os l o) k = if k = l then (getL os k).map (fun uq1 => o) else getL os k := by
  induction os with
  | nil => show none = _; simp [getL]
  | cons p r ih =>
    obtain ⟨j, x⟩ := p
    rw [setL_cons]
    by_cases hj : j = l
    · subst hj
      rw [if_pos rfl, getL_cons, getL_cons]
      by_cases hk : k = j
      · subst hk; simp
      · simp [hk]
    · rw [if_neg hj, getL_cons, getL_cons, ih]
      by_cases hk : k = j
      · subst hk; simp [hj]
      · simp [hk]
theorem get_set (H : MH) (l k : Nat) (o : MO) : (H.set l o).get k = if k = l then (H.get k).map (fun uq1 => o) else H.get k := getL_setL H.os l k o
theorem get_push (H : MH) (k : Nat) (o : MO) : (H.push o).get k = if k = H.n then some o else H.get k := getL_cons ..
end MH

noncomputable def leq (xs : List Nat) : List Nat → Bool := @List.rec Nat (fun uq1 => List Nat → Bool) (fun ys => @List.rec Nat (fun uq1 => Bool) true (fun uq1 uq2 uq3 => false) ys) (fun a uq1 ih ys => @List.rec Nat (fun uq1 => Bool) false (fun b r uq1 => @Bool.rec (fun uq1 => Bool) false (ih r) (Nat.beq a b)) ys) xs
theorem leq_iff : ∀ xs ys : List Nat, leq xs ys = true ↔ xs = ys
  | [], [] => ⟨fun uq1 => rfl, fun uq1 => rfl⟩
  | [], _ :: _ => Iff.intro (fun h => by cases h) (fun h => by cases h)
  | _ :: _, [] => Iff.intro (fun h => by cases h) (fun h => by cases h)
  | a :: r, b :: q => by
    show @Bool.rec (fun uq1 => Bool) false (leq r q) (Nat.beq a b) = true ↔ _
    cases h : Nat.beq a b with
    | true => rw [Nat.eq_of_beq_eq_true h]; simp [leq_iff r q]
    | false => simp [Nat.ne_of_beq_eq_false h]
noncomputable def streq (a b : Str) : Bool := leq a.cps.toList b.cps.toList
theorem streq_eq (a b : Str) : streq a b = (a == b) := by
  rw [Bool.eq_iff_iff, beq_iff_eq]
  unfold streq
  rw [leq_iff]
  exact ⟨fun h => by obtain ⟨⟨x⟩⟩ := a; obtain ⟨⟨y⟩⟩ := b; cases h; rfl, fun h => h ▸ rfl⟩
noncomputable def getS {α : Type} (es : List (Str × α)) (x : Str) : Option α := @List.rec (Str × α) (fun uq1 => Option α) none (fun p uq1 ih => @Bool.rec (fun uq1 => Option α) ih (some p.2) (streq x p.1)) es
theorem getS_eq {α : Type} (es : List (Str × α)) (x : Str) : getS es x = es.lookup x := by
  induction es with
  | nil => rfl
  | cons p r ih =>
    obtain ⟨k, v⟩ := p
    show @Bool.rec (fun uq1 => Option α) (getS r x) (some v) (streq x k) = _
    rw [ih, streq_eq, List.lookup_cons]
    cases x == k <;> rfl

noncomputable def vr (ρ : Nat → Addr) (n : Nat) : MV → Value → Prop
  | .int i, v => ∃ t, v = .int i t
  | .str s, v => ∃ t, v = .str s t
  | .ref l, v => l < n ∧ v = .ref (ρ l)
  | .val x, v => v = x
  | .clo .., _ => False

inductive VRs (ρ : Nat → Addr) (n : Nat) : List MV → List Value → Prop
  | nil : VRs ρ n [] []
  | cons {x v xs vs} : vr ρ n x v → VRs ρ n xs vs → VRs ρ n (x :: xs) (v :: vs)

inductive ESl (ρ : Nat → Addr) (n : Nat) : List (Str × MV) → List DictEntry → Prop
  | nil : ESl ρ n [] []
  | cons {x m e xs es t} : e.key = .str x t → vr ρ n m e.val → ESl ρ n xs es → ESl ρ n ((x, m) :: xs) (e :: es)
noncomputable def ESs (ρ : Nat → Addr) (n : Nat) (es : List (Str × MV)) (ds : Array DictEntry) : Prop :=
  StrKeys ds ∧ ∀ x, (es.lookup x = none → nsFind ds x = none) ∧ ∀ m, es.lookup x = some m → ∃ v, nsFind ds x = some v ∧ vr ρ n m v

noncomputable abbrev tupOf (its : Array Value) (n : Nat) : Obj := { cls := .type "tuple", data := .seq its n }

noncomputable def orep (P : Params) (ρ : Nat → Addr) (n : Nat) : MO → Obj → Prop
  | .list xs, o => ∃ vs ep, o = listOf (List.toArray vs) ep ∧ VRs ρ n xs vs
  | .tup xs, o => ∃ vs ep, o = tupOf (List.toArray vs) ep ∧ VRs ρ n xs vs
  | .inst C d, o => d < n ∧ o = instObj C (ρ d)
  | .ns es, o => ∃ ds k, o = dictOf ds k ∧ ESl ρ n es ds
  | .emp l, o => l < n ∧ o = emptyDict ∧ (ρ l == sysModules) = false
  | .range lo hi, o => ∃ t u v, o = { cls := .type "range", data := .fields #[.int lo t, .int hi u, .int 1 v] }
  | .tab none, o => o = tabObj #[]
  | .tab (some (lc, ln, cl)), o => lc < n ∧ o = tabObj #[rawInt ln, rawInt cl, .ref (ρ lc)]
  | .code q, o => ∃ vs t, o.data = .fields vs ∧ vs[1]? = some (.str q t)

theorem vr_mono {ρ ρ' : Nat → Addr} {n n' : Nat} (hn : n ≤ n') (ha : ∀ l, l < n → ρ' l = ρ l) {m : MV} {v : Value} (h : vr ρ n m v) : vr ρ' n' m v := by
  cases m with
  | ref l => exact ⟨Nat.lt_of_lt_of_le h.1 hn, by rw [ha l h.1]; exact h.2⟩
  | _ => exact h
theorem VRs.mono {ρ ρ' : Nat → Addr} {n n' : Nat} (hn : n ≤ n') (ha : ∀ l, l < n → ρ' l = ρ l) {ms : List MV} {vs : List Value} (h : VRs ρ n ms vs) : VRs ρ' n' ms vs := by
  induction h with
  | nil => exact .nil
  | cons h _ ih => exact .cons (vr_mono hn ha h) ih
theorem ESl.mono {ρ ρ' : Nat → Addr} {n n' : Nat} (hn : n ≤ n') (ha : ∀ l, l < n → ρ' l = ρ l) {ms : List (Str × MV)} {vs : List DictEntry} (h : ESl ρ n ms vs) : ESl ρ' n' ms vs := by
  induction h with
  | nil => exact .nil
  | cons k h _ ih => exact .cons k (vr_mono hn ha h) ih
theorem ESl.keys {ρ : Nat → Addr} {n : Nat} {ms : List (Str × MV)} {vs : List DictEntry} (h : ESl ρ n ms vs) : ∀ e ∈ vs, ∃ n t, e.key = .str n t := by
  induction h with
  | nil => intro e he; cases he
  | cons k h _ ih =>
    intro e he
    cases he with
    | head => exact ⟨_, _, k⟩
    | tail _ he => exact ih e he
theorem ESl.find {ρ : Nat → Addr} {n : Nat} {ms : List (Str × MV)} {vs : List DictEntry} (h : ESl ρ n ms vs) (x : Str) :
    (ms.lookup x = none → vs.find? (·.key.isStr x) = none) ∧ ∀ m, ms.lookup x = some m → ∃ e, vs.find? (·.key.isStr x) = some e ∧ vr ρ n m e.val := by
  induction h with
  | nil => exact ⟨fun uq1 => rfl, fun m e => by cases e⟩
  | @cons y m e xs es t k h _ ih =>
    have hk : e.key.isStr x = (y == x) := by rw [k]; rfl
    by_cases hx : y = x
    · subst hx
      have h1 : e.key.isStr y = true := by rw [hk]; simp
      refine ⟨fun q => by simp at q, fun m' q => ?_⟩
      simp only [List.lookup_cons, beq_self_eq_true, Option.some.injEq] at q
      subst q
      exact ⟨e, by rw [List.find?_cons, h1], h⟩
    · have h1 : e.key.isStr x = false := by rw [hk]; simpa using hx
      have h2 : (x == y) = false := by simpa using fun q : x = y => hx q.symm
      rw [List.find?_cons, h1, List.lookup_cons, h2]
      exact ih
theorem ESl.ess {ρ : Nat → Addr} {n : Nat} {ms : List (Str × MV)} {vs : List DictEntry} (h : ESl ρ n ms vs) : ESs ρ n ms vs.toArray := by
  refine ⟨fun e he => h.keys e (by simpa using he), fun x => ⟨fun q => ?_, fun m q => ?_⟩⟩
  · unfold nsFind findBy; rw [List.find?_toArray, (h.find x).1 q]; rfl
  · obtain ⟨e, a, b⟩ := (h.find x).2 m q
    exact ⟨e.val, by unfold nsFind findBy; rw [List.find?_toArray, a]; rfl, b⟩
noncomputable def putE : List (Str × MV) → Str → MV → List (Str × MV)
  | [], x, m => [(x, m)]
  | (y, k) :: r, x, m => if y = x then (y, m) :: r else (y, k) :: putE r x m
theorem ESl.put {ρ : Nat → Addr} {n : Nat} {ms : List (Str × MV)} {vs : List DictEntry} (h : ESl ρ n ms vs) {x : Str} {m : MV} {v : Value} {hs : Int} {t : Tok} (hv : vr ρ n m v) : ESl ρ n (putE ms x m) (putL x hs (.str x t) v vs) := by
  induction h with
  | nil => exact .cons rfl hv .nil
  | @cons y m' e xs es t' k h r ih =>
    have hk : e.key.isStr x = (y == x) := by rw [k]; rfl
    unfold putE putL
    by_cases hx : y = x
    · rw [if_pos hx, hk, show (y == x) = true by simpa using hx]
      exact .cons k hv r
    · rw [if_neg hx, hk, show (y == x) = false by simpa using hx]
      exact .cons k h ih
theorem ESl.length {ρ : Nat → Addr} {n : Nat} {ms : List (Str × MV)} {vs : List DictEntry} (h : ESl ρ n ms vs) : vs.length = ms.length := by
  induction h with
  | nil => rfl
  | cons _ _ _ ih => simp [ih]
theorem orep_mono {P : Params} {ρ ρ' : Nat → Addr} {n n' : Nat} (hn : n ≤ n') (ha : ∀ l, l < n → ρ' l = ρ l) {m : MO} {o : Obj} (h : orep P ρ n m o) : orep P ρ' n' m o := by
  cases m with
  | list xs => obtain ⟨vs, ep, e, h⟩ := h; exact ⟨vs, ep, e, h.mono hn ha⟩
  | tup xs => obtain ⟨vs, ep, e, h⟩ := h; exact ⟨vs, ep, e, h.mono hn ha⟩
  | inst C d => exact ⟨Nat.lt_of_lt_of_le h.1 hn, by rw [ha d h.1]; exact h.2⟩
  | ns es => obtain ⟨vs, ep, e, h⟩ := h; exact ⟨vs, ep, e, h.mono hn ha⟩
  | range lo hi => exact h
  | tab lc =>
    cases lc with
    | none => exact h
    | some t => obtain ⟨lc, ln, cl⟩ := t; obtain ⟨a, b⟩ := h; exact ⟨Nat.lt_of_lt_of_le a hn, by rw [ha lc a]; exact b⟩
  | code q => exact h
  | emp l => exact ⟨Nat.lt_of_lt_of_le h.1 hn, h.2.1, by rw [ha l h.1]; exact h.2.2⟩

theorem orep_live {P : Params} {ρ : Nat → Addr} {n : Nat} {m : MO} {o : Obj} (h : orep P ρ n m o) : o.isFreed = false := by
  cases m with
  | list xs => obtain ⟨vs, ep, rfl, _⟩ := h; rfl
  | tup xs => obtain ⟨vs, ep, rfl, _⟩ := h; rfl
  | inst C d => obtain ⟨_, rfl⟩ := h; rfl
  | ns es => obtain ⟨vs, ep, rfl, _⟩ := h; rfl
  | range lo hi => obtain ⟨t, u, v, rfl⟩ := h; rfl
  | tab lc =>
    cases lc with
    | none => cases h; rfl
    | some t => obtain ⟨lc, ln, cl⟩ := t; obtain ⟨a, rfl⟩ := h; rfl
  | code q => obtain ⟨vs, t, e, _⟩ := h; exact Obj.isFreed_of_fields e
  | emp l => obtain ⟨_, e, _⟩ := h; cases e; rfl

noncomputable def Owned (ρ : Nat → Addr) (H : MH) (b : Addr) : Prop := ∃ l o, H.get l = some o ∧ ρ l = b

set_option genSizeOf false in
set_option genInjectivity false in
structure Rep (P : Params) (ρ : Nat → Addr) (H : MH) (h : Heap) : Prop where
  at_ : ∀ l o, H.get l = some o → ∃ ob, h.get? (ρ l) = some ob ∧ orep P ρ H.n o ob
  inj : ∀ l l' o o', H.get l = some o → H.get l' = some o' → ρ l = ρ l' → l = l'
  lt : ∀ l o, H.get l = some o → l < H.n

set_option genSizeOf false in
set_option genInjectivity false in
structure Aft (ρ ρ' : Nat → Addr) (H H' : MH) (s s' : Shared) (ex : Addr → Prop) : Prop where
  agree : ∀ l, l < H.n → ρ' l = ρ l
  le : H.n ≤ H'.n
  keep : ∀ b o, s.heap.get? b = some o → ¬ Owned ρ H b → ¬ ex b → s'.heap.get? b = some o
  rest : s' = { s with heap := s'.heap, toks := s'.toks }
  own : ∀ b, Owned ρ' H' b → Owned ρ H b ∨ s.heap.get? b = none
  live : ∀ b o, ex b → s.heap.get? b = some o → ∃ o', s'.heap.get? b = some o'
  stay : ∀ l o, H.get l = some o → ∃ o', H'.get l = some o'

noncomputable def NoEx : Addr → Prop := fun uq1 => False

theorem Aft.refl {ρ : Nat → Addr} {H : MH} {s : Shared} {ex : Addr → Prop} : Aft ρ ρ H H s s ex :=
  ⟨fun uq1 uq2 => rfl, Nat.le_refl _, fun uq1 uq2 e uq3 uq4 => e, rfl, fun uq1 h => .inl h, fun uq1 o uq2 e => ⟨o, e⟩, fun uq1 o e => ⟨o, e⟩⟩

theorem Aft.trans {ρ ρ' ρ'' : Nat → Addr} {H H' H'' : MH} {s s' s'' : Shared} {ex : Addr → Prop} (a : Aft ρ ρ' H H' s s' ex) (b : Aft ρ' ρ'' H' H'' s' s'' ex) : Aft ρ ρ'' H H'' s s'' ex where
  agree := fun l hl => (b.agree l (Nat.lt_of_lt_of_le hl a.le)).trans (a.agree l hl)
  le := Nat.le_trans a.le b.le
  keep := fun c o e n x => b.keep c o (a.keep c o e n x) (fun q => (a.own c q).elim n fun q => by rw [e] at q; cases q) x
  rest := by rw [b.rest, a.rest]
  own := fun c q => (b.own c q).elim (fun q => a.own c q) fun q => by
    classical
    by_cases hc : Owned ρ H c
    · exact .inl hc
    · refine .inr ?_
      cases e : s.heap.get? c with
      | none => rfl
      | some o =>
        by_cases hx : ex c
        · obtain ⟨o', e'⟩ := a.live c o hx e
          rw [q] at e'; cases e'
        · have := a.keep c o e hc hx
          rw [q] at this; cases this
  live := fun c o x e => let ⟨o', e'⟩ := a.live c o x e; b.live c o' x e'
  stay := fun l o e => let ⟨o', e'⟩ := a.stay l o e; b.stay l o' e'

theorem Aft.mono {ρ ρ' : Nat → Addr} {H H' : MH} {s s' : Shared} {ex ex' : Addr → Prop} (a : Aft ρ ρ' H H' s s' ex) (h : ∀ b, ex b → ex' b) (hl : ∀ b o, ex' b → s.heap.get? b = some o → ¬ ex b → ∃ o', s'.heap.get? b = some o') : Aft ρ ρ' H H' s s' ex' :=
  { a with
    keep := fun b o e n x => a.keep b o e n fun q => x (h b q)
    live := fun b o x e => by
      classical
      by_cases hx : ex b
      · exact a.live b o hx e
      · exact hl b o x e hx }
end Q
end Mini

open PySem PySem.W PySem.Calls PyProof.Rows
namespace Mini
noncomputable section Q

set_option genSizeOf false in
set_option genInjectivity false in
structure Lam where
  name : Str
  qual : Str
  params : Arguments
  body : Expr
  scope : Scope
  cell : Str

set_option genSizeOf false in
set_option genInjectivity false in
structure Gl where
  prog : Program
  w : World
  K : Frag
  h₀ : Heap
  p : Program
  loose : List Str
  mean : ExcName → Option Value
  mg : Str → Option Value
  mb : Str → Option Value
  lams : Nat → Lam
  X : K.In h₀
  T : Top p loose mean mg mb h₀
  tab : Option Addr
  lists : Addr → Option (List Int)
  listsOk : ∀ a ns, lists a = some ns → ∃ vs : List Value, h₀.IsList a vs.toArray ∧ IntsAre vs ns

noncomputable abbrev Gl.M (G : Gl) : Model := model G.prog G.w
noncomputable abbrev Gl.P (G : Gl) : Params := G.w.params

set_option genSizeOf false in
set_option genInjectivity false in
structure Bud (A : Around) (k : Nat) : Prop where
  h : A.handled = none
  g : A.guards = some []
  d : A.depth + k < recursionLimit
  u : A.units + 8 * k < cLine
theorem Bud.le {A : Around} {k k' : Nat} (b : Bud A k) (h : k' ≤ k) : Bud A k' := ⟨b.h, b.g, by have := b.d; omega, by have := b.u; omega⟩
theorem Bud.deeper {A : Around} {k : Nat} {env : Env} (b : Bud A (k + 1)) : Bud (A.deeper env) k := ⟨b.h, b.g, by have := b.d; show A.depth + 1 + k < _; omega, by have := b.u; show A.units + 3 + 8 * k < _; omega⟩

set_option genSizeOf false in
set_option genInjectivity false in
structure Sx where
  scope : Scope
  slots : List Str
  own : List Str
  code : Value
  qual : Str
noncomputable abbrev Sx.kindOf (sx : Sx) (x : Str) : Option NameKind := sx.scope.names.lookup x

set_option genSizeOf false in
set_option genInjectivity false in
structure St where
  vs : List (Option MV)
  H : MH

noncomputable def Mine (env : Env) (sx : Sx) (b : Addr) : Prop := b = env.locals ∨ ∃ x ∈ sx.own, env.cells.lookup x = some b

noncomputable def CloAt (G : Gl) (h : Heap) (free : Addr → Prop) (ρ : Nat → Addr) (n c l lc : Nat) (v : Value) : Prop :=
  l < n ∧ lc < n ∧ ∃ f cc pm ct oc, v = .ref f ∧ free f ∧ free cc ∧
    h.get? f = some { cls := .type "function", data := .func (kla_fn (G.lams c).name (G.lams c).qual (G.lams c).params (G.lams c).body (G.lams c).scope [((G.lams c).cell, cc)] pm (.ref (ρ lc)) ct) } ∧
    h.get? cc = some oc ∧ oc.data = .cell (some (.ref (ρ l)))

noncomputable def vra (G : Gl) (h : Heap) (free : Addr → Prop) (ρ : Nat → Addr) (n : Nat) : MV → Value → Prop
  | .clo c l lc, v => CloAt G h free ρ n c l lc v
  | m, v => vr ρ n m v

theorem vra_of_vr {G : Gl} {h : Heap} {free : Addr → Prop} {ρ : Nat → Addr} {n : Nat} {m : MV} {v : Value} (x : vr ρ n m v) : vra G h free ρ n m v := by
  cases m <;> first | exact x | exact x.elim
theorem vr_of_vra {G : Gl} {h : Heap} {free : Addr → Prop} {ρ : Nat → Addr} {n : Nat} {m : MV} {v : Value} (x : vra G h free ρ n m v) (hm : ∀ c l lc, m ≠ .clo c l lc) : vr ρ n m v := by
  cases m <;> first | exact x | exact absurd rfl (hm _ _ _)
theorem vra_mono {G : Gl} {h h' : Heap} {free free' : Addr → Prop} {ρ ρ' : Nat → Addr} {n n' : Nat} (hn : n ≤ n') (ha : ∀ l, l < n → ρ' l = ρ l) (hf : ∀ b o, h.get? b = some o → free b → free' b ∧ h'.get? b = some o) {m : MV} {v : Value}
    (x : vra G h free ρ n m v) : vra G h' free' ρ' n' m v := by
  cases m with
  | clo c l lc =>
    obtain ⟨h1, h2, f, cc, pm, ct, oc, e, ff, fc, h3, h4, h5⟩ := x
    exact ⟨Nat.lt_of_lt_of_le h1 hn, Nat.lt_of_lt_of_le h2 hn, f, cc, pm, ct, oc, e, (hf _ _ h3 ff).1, (hf _ _ h4 fc).1, by rw [ha lc h2]; exact (hf _ _ h3 ff).2, (hf _ _ h4 fc).2, by rw [ha l h1]; exact h5⟩
  | int i => exact x
  | str i => exact x
  | val i => exact x
  | ref l => exact vr_mono (m := .ref l) hn ha x

set_option genSizeOf false in
set_option genInjectivity false in
structure Fst (G : Gl) (env : Env) (sx : Sx) : Prop where
  scope : env.scope = sx.scope
  kind : sx.scope.kind = .function
  glo : env.globals = mainGlobals
  bui : env.builtins = builtinsNs
  ownk : ∀ x ∈ sx.own, sx.kindOf x = some .cell
  owninj : ∀ x y c, x ∈ sx.own → y ∈ sx.own → env.cells.lookup x = some c → env.cells.lookup y = some c → x = y
  nd : sx.slots.Nodup
  code : sx.code = .none ∨ env.code = sx.code
  qual : env.qual = sx.qual
  has : ∀ x, sx.kindOf x = some .cell ∨ sx.kindOf x = some .free → ∃ c, env.cells.lookup x = some c

set_option genSizeOf false in
set_option genInjectivity false in
structure Bas (G : Gl) (ρ : Nat → Addr) (H : MH) (s : Shared) : Prop where
  base : ∀ b o, G.h₀.get? b = some o → s.heap.get? b = some o ∧ ¬ Owned ρ H b
  rep : Rep G.P ρ H s.heap
  tab : ∀ P, G.tab = some P → ρ 0 = P ∧ 0 < H.n

set_option genSizeOf false in
set_option genInjectivity false in
structure InF (G : Gl) (env : Env) (sx : Sx) (ρ : Nat → Addr) (st : St) (s : Shared) : Prop where
  bas : Bas G ρ st.H s
  basem : ∀ b o, G.h₀.get? b = some o → ¬ Mine env sx b
  off : ∀ b, Owned ρ st.H b → ¬ Mine env sx b
  cells : ∀ x c, env.cells.lookup x = some c → (∃ v, s.heap.IsCell c v) ∧ ¬ Owned ρ st.H c ∧ c ≠ env.locals ∧ (x ∉ sx.own → ¬ Mine env sx c)
  ns : ∃ m, s.heap.Ns env.locals m ∧ ∀ (i : Nat) (x : Str) (v : MV), sx.slots[i]? = some x → sx.kindOf x = some .local → st.vs[i]? = some (some v) →
    ∃ w, m x = some w ∧ vra G s.heap (fun b => ¬ Owned ρ st.H b ∧ ¬ Mine env sx b) ρ st.H.n v w
  cel : ∀ (i : Nat) (x : Str) (v : MV), sx.slots[i]? = some x → (sx.kindOf x = some .cell ∨ sx.kindOf x = some .free) → st.vs[i]? = some (some v) →
    ∃ c w, env.cells.lookup x = some c ∧ s.heap.IsCell c (some w) ∧ vr ρ st.H.n v w

theorem not_owned_after {ρ ρ' : Nat → Addr} {H H' : MH} {s s' : Shared} {ex : Addr → Prop} (a : Aft ρ ρ' H H' s s' ex) {b : Addr} {o : Obj} (hb : s.heap.get? b = some o) (n : ¬ Owned ρ H b) : ¬ Owned ρ' H' b :=
  fun q => (a.own b q).elim n fun q => by rw [hb] at q; cases q

theorem Bas.after {G : Gl} {ρ ρ' : Nat → Addr} {H H' : MH} {s s' : Shared} {ex : Addr → Prop} (B : Bas G ρ H s) (a : Aft ρ ρ' H H' s s' ex) (hex : ∀ b o, G.h₀.get? b = some o → ¬ ex b) (r : Rep G.P ρ' H' s'.heap) : Bas G ρ' H' s' where
  base := fun b o e => ⟨a.keep b o (B.base b o e).1 (B.base b o e).2 (hex b o e), not_owned_after a (B.base b o e).1 (B.base b o e).2⟩
  rep := r
  tab := fun P e => ⟨(a.agree 0 (B.tab P e).2).trans (B.tab P e).1, Nat.lt_of_lt_of_le (B.tab P e).2 a.le⟩
theorem Bas.on {G : Gl} {ρ ρ' : Nat → Addr} {H H' : MH} {s s' : Shared} (B : Bas G ρ H s) (a : Aft ρ ρ' H H' s s' NoEx) (r : Rep G.P ρ' H' s'.heap) : Bas G ρ' H' s' := B.after a (fun uq1 uq2 uq3 h => h) r

theorem isCell_at {h h' : Heap} {c : Addr} {v : Option Value} (x : h.IsCell c v) (k : ∀ o, h.get? c = some o → h'.get? c = some o) : h'.IsCell c v := let ⟨o, ho, hd⟩ := x; ⟨o, k o ho, hd⟩

theorem InF.after {G : Gl} {env : Env} {sx : Sx} {ρ ρ' : Nat → Addr} {vs : List (Option MV)} {H H' : MH} {s s' : Shared} (I : InF G env sx ρ ⟨vs, H⟩ s) (a : Aft ρ ρ' H H' s s' NoEx) (r : Rep G.P ρ' H' s'.heap) : InF G env sx ρ' ⟨vs, H'⟩ s' where
  bas := I.bas.on a r
  basem := I.basem
  off := fun b q => (a.own b q).elim (fun q => I.off b q) fun q m => by
    rcases m with rfl | ⟨x, _, hc⟩
    · obtain ⟨m, ⟨_, _, _, ho, _⟩, _⟩ := I.ns; rw [ho] at q; cases q
    · obtain ⟨⟨v, _, ho, _⟩, _⟩ := I.cells x b hc; rw [ho] at q; cases q
  cells := fun x c hc => by
    obtain ⟨⟨v, hv⟩, n, e, o⟩ := I.cells x c hc
    exact ⟨⟨v, isCell_at hv fun o' e' => a.keep c o' e' n id⟩, let ⟨_, ho, _⟩ := hv; not_owned_after a ho n, e, o⟩
  ns := by
    obtain ⟨m, hn, hv⟩ := I.ns
    have nl : ¬ Owned ρ H env.locals := fun q => I.off _ q (.inl rfl)
    refine ⟨m, hn.at' (fun o e => a.keep _ o e nl id), fun i x v h1 h2 h3 => ?_⟩
    obtain ⟨w, e, r⟩ := hv i x v h1 h2 h3
    exact ⟨w, e, vra_mono a.le a.agree (fun b o e f => ⟨⟨not_owned_after a e f.1, f.2⟩, a.keep b o e f.1 id⟩) r⟩
  cel := fun i x v h1 h2 h3 => by
    obtain ⟨c, w, e, hv, r⟩ := I.cel i x v h1 h2 h3
    obtain ⟨_, n, _, _⟩ := I.cells x c e
    exact ⟨c, w, e, isCell_at hv fun o' e' => a.keep c o' e' n id, vr_mono a.le a.agree r⟩

noncomputable def EvX {α β : Type} (M : Model) (P : Params) (A : Around) (rel : (Nat → Addr) → Nat → β → α → Prop) (t : Sem α) (ρ : Nat → Addr) (H : MH) (s : Shared) (r : β) (H' : MH) : Prop :=
  ∀ Q : α → Shared → Prop, (∀ a s' ρ', Aft ρ ρ' H H' s s' NoEx → Rep P ρ' H' s'.heap → rel ρ' H'.n r a → Q a s') → wpAny M A t Q (fun uq1 uq2 => False) s

section
variable {α β γ δ : Type} {M : Model} {P : Params} {A : Around} {rel : (Nat → Addr) → Nat → β → α → Prop} {rel' : (Nat → Addr) → Nat → δ → γ → Prop} {ρ : Nat → Addr} {H H₁ H' : MH} {s : Shared} {r : β} {r' : δ}

theorem EvX.wp {t : Sem α} (h : EvX M P A rel t ρ H s r H') {Q : α → Shared → Prop} {E : Value → Shared → Prop} (k : ∀ a s' ρ', Aft ρ ρ' H H' s s' NoEx → Rep P ρ' H' s'.heap → rel ρ' H'.n r a → Q a s') : wpAny M A t Q E s :=
  wpAny_mono (h Q k) (fun uq1 uq2 x => x) (fun uq1 uq2 x => x.elim)
end

theorem Aft.toks {ρ : Nat → Addr} {H : MH} {s : Shared} {tk : Nat} {ex : Addr → Prop} : Aft ρ ρ H H s { s with toks := tk } ex :=
  ⟨fun uq1 uq2 => rfl, Nat.le_refl _, fun uq1 uq2 e uq3 uq4 => e, rfl, fun uq1 h => .inl h, fun uq1 o uq2 e => ⟨o, e⟩, fun uq1 o e => ⟨o, e⟩⟩

theorem Aft.garbage {ρ : Nat → Addr} {H : MH} {s : Shared} {h' : Heap} {tk : Nat} {ex : Addr → Prop} (k : ∀ b o, s.heap.get? b = some o → h'.get? b = some o) : Aft ρ ρ H H s { s with heap := h', toks := tk } ex :=
  ⟨fun uq1 uq2 => rfl, Nat.le_refl _, fun b o e uq1 uq2 => k b o e, rfl, fun uq1 h => .inl h, fun b o uq1 e => ⟨o, k b o e⟩, fun uq1 o e => ⟨o, e⟩⟩
theorem Rep.garbage {P : Params} {ρ : Nat → Addr} {H : MH} {h h' : Heap} (R : Rep P ρ H h) (k : ∀ b o, h.get? b = some o → h'.get? b = some o) : Rep P ρ H h' :=
  ⟨fun l o e => let ⟨ob, a, b⟩ := R.at_ l o e; ⟨ob, k _ _ a, b⟩, R.inj, R.lt⟩

noncomputable def ext (ρ : Nat → Addr) (n : Nat) (a : Addr) : Nat → Addr := fun l => if l = n then a else ρ l
theorem ext_lt {ρ : Nat → Addr} {n : Nat} {a : Addr} : ∀ l, l < n → ext ρ n a l = ρ l := fun l h => if_neg (Nat.ne_of_lt h)
theorem ext_self {ρ : Nat → Addr} {n : Nat} {a : Addr} : ext ρ n a n = a := if_pos rfl

theorem fresh_none {h : Heap} {a : Addr} (ha : h.objs.size ≤ a) : h.get? a = none := by
  cases e : h.get? a with
  | none => rfl
  | some o => exact absurd (Heap.lt_size e) (Nat.not_lt.mpr ha)
theorem push_new {P : Params} {ρ : Nat → Addr} {H : MH} {s : Shared} {h' : Heap} {tk : Nat} {a : Addr} {ob : Obj} {o : MO} {ex : Addr → Prop} (R : Rep P ρ H s.heap) (ha : s.heap.get? a = none) (hob : h'.get? a = some ob) (hr : orep P (ext ρ H.n a) (H.n + 1) o ob)
    (k : ∀ b x, s.heap.get? b = some x → h'.get? b = some x) :
    Aft ρ (ext ρ H.n a) H (H.push o) s { s with heap := h', toks := tk } ex ∧ Rep P (ext ρ H.n a) (H.push o) h' := by
  have old : ∀ l x, H.get l = some x → l ≠ H.n ∧ ext ρ H.n a l = ρ l := fun l x e => ⟨Nat.ne_of_lt (R.lt l x e), ext_lt l (R.lt l x e)⟩
  have gt : ∀ l x, (H.push o).get l = some x → (l = H.n ∧ x = o) ∨ (H.get l = some x ∧ l ≠ H.n) := fun l x e => by
    rw [MH.get_push] at e
    by_cases hl : l = H.n
    · rw [if_pos hl] at e; cases e; exact .inl ⟨hl, rfl⟩
    · rw [if_neg hl] at e; exact .inr ⟨e, hl⟩
  refine ⟨⟨ext_lt, Nat.le_succ _, fun b x e uq1 uq2 => k b x e, rfl, fun b q => ?_, fun b o uq1 e => ⟨o, k b o e⟩, fun l x e => ⟨x, by rw [MH.get_push, if_neg (Nat.ne_of_lt (R.lt l x e))]; exact e⟩⟩, ⟨fun l x e => ?_, fun l l' x x' e e' q => ?_, fun l x e => ?_⟩⟩
  · obtain ⟨l, x, e, rfl⟩ := q
    rcases gt l x e with ⟨rfl, _⟩ | ⟨e, hl⟩
    · rw [ext_self]; exact .inr ha
    · exact .inl ⟨l, x, e, ((old l x e).2).symm⟩
  · rcases gt l x e with ⟨rfl, rfl⟩ | ⟨e, hl⟩
    · exact ⟨ob, by rw [ext_self]; exact hob, hr⟩
    · obtain ⟨ob', a1, a2⟩ := R.at_ l x e
      exact ⟨ob', by rw [(old l x e).2]; exact k _ _ a1, orep_mono (Nat.le_succ _) ext_lt a2⟩
  · have lt : ∀ l x, H.get l = some x → ext ρ H.n a l ≠ a := fun l x e => by
      obtain ⟨ob', a1, _⟩ := R.at_ l x e
      rw [(old l x e).2]; intro z; rw [z, ha] at a1; cases a1
    rcases gt l x e with ⟨rfl, h1⟩ | ⟨e1, hl⟩ <;> rcases gt l' x' e' with ⟨rfl, h2⟩ | ⟨e2, hl'⟩
    · rfl
    · rw [ext_self] at q; exact absurd q.symm (lt l' x' e2)
    · rw [ext_self] at q; exact absurd q (lt l x e1)
    · rw [(old l x e1).2, (old l' x' e2).2] at q; exact R.inj l l' x x' e1 e2 q
  · rcases gt l x e with ⟨rfl, _⟩ | ⟨e, _⟩
    · exact Nat.lt_succ_self _
    · exact Nat.lt_succ_of_lt (R.lt l x e)

theorem set_own {P : Params} {ρ : Nat → Addr} {H : MH} {s : Shared} {h' : Heap} {tk : Nat} {l : Nat} {ob : Obj} {o o' : MO} {ex : Addr → Prop} (R : Rep P ρ H s.heap) (hl : H.get l = some o) (hob : h'.get? (ρ l) = some ob) (hr : orep P ρ H.n o' ob)
    (k : ∀ b x, b ≠ ρ l → s.heap.get? b = some x → h'.get? b = some x) :
    Aft ρ ρ H (H.set l o') s { s with heap := h', toks := tk } ex ∧ Rep P ρ (H.set l o') h' := by
  have gt : ∀ j x, (H.set l o').get j = some x → (j = l ∧ x = o') ∨ (H.get j = some x ∧ j ≠ l) := fun j x e => by
    rw [MH.get_set] at e
    by_cases hj : j = l
    · rw [if_pos hj, hj, hl] at e; cases e; exact .inl ⟨hj, rfl⟩
    · rw [if_neg hj] at e; exact .inr ⟨e, hj⟩
  have own : ∀ j x, (H.set l o').get j = some x → ∃ y, H.get j = some y := fun j x e => by
    rcases gt j x e with ⟨rfl, _⟩ | ⟨e, _⟩
    · exact ⟨o, hl⟩
    · exact ⟨x, e⟩
  refine ⟨⟨fun uq1 uq2 => rfl, Nat.le_refl _, fun b x e n uq1 => k b x (fun q => n ⟨l, o, hl, q.symm⟩) e, rfl, fun b q => ?_, fun b x uq1 e => by
    by_cases hb : b = ρ l
    · exact ⟨ob, by rw [hb]; exact hob⟩
    · exact ⟨x, k b x hb e⟩, fun j x e => by
    rw [MH.get_set]
    by_cases hj : j = l
    · subst hj; exact ⟨o', by rw [if_pos rfl, hl]; rfl⟩
    · exact ⟨x, by rw [if_neg hj]; exact e⟩⟩, ⟨fun j x e => ?_, fun j j' x x' e e' q => ?_, fun j x e => ?_⟩⟩
  · obtain ⟨j, x, e, rfl⟩ := q
    obtain ⟨y, e⟩ := own j x e
    exact .inl ⟨j, y, e, rfl⟩
  · rcases gt j x e with ⟨rfl, rfl⟩ | ⟨e, hj⟩
    · exact ⟨ob, hob, hr⟩
    · obtain ⟨ob', a1, a2⟩ := R.at_ j x e
      exact ⟨ob', k _ _ (fun q => hj (R.inj j l x o e hl q)) a1, a2⟩
  · obtain ⟨y, e⟩ := own j x e
    obtain ⟨y', e'⟩ := own j' x' e'
    exact R.inj j j' y y' e e' q
  · obtain ⟨y, e⟩ := own j x e
    exact R.lt j y e
end Q
end Mini

open PySem PySem.W PySem.Calls PyProof.Rows
namespace Mini
noncomputable section Q

noncomputable def small (a : Int) : Bool := decide (-(2 ^ 62) ≤ a) && decide (a < 2 ^ 62)
noncomputable def addop : MV → MV → MH → Option (MV × MH)
  | .int a, .int b, H => some (.int (a + b), H)
  | .str a, .str b, H => if a.length + b.length ≤ 100000 then some (.str (a ++ b), H) else none
  | .ref a, .ref b, H => match H.get a, H.get b with
    | some (.list xs), some (.list ys) => if xs.length + ys.length ≤ 100000 then some (.ref H.n, H.push (.list (xs ++ ys))) else none
    | _, _ => none
  | _, _, _ => none
noncomputable def subop : MV → MV → MH → Option (MV × MH)
  | .int a, .int b, H => some (.int (a - b), H)
  | _, _, _ => none
noncomputable def fdivop : MV → MV → MH → Option (MV × MH)
  | .int a, .int b, H => if b ≠ 0 ∧ small b = true then some (.int (Int.fdiv a b), H) else none
  | _, _, _ => none
noncomputable def modop : MV → MV → MH → Option (MV × MH)
  | .int a, .int b, H => if b ≠ 0 then some (.int (Int.fmod a b), H) else none
  | _, _, _ => none
noncomputable def mulop : MV → MV → MH → Option (MV × MH)
  | .int a, .int b, H => if small a = true ∧ small b = true then some (.int (a * b), H) else none
  | .str x, .int n, H => if (x.length * n.toNat ≤ 100000 : Bool) && small n then some (.str (Txt.mul x n), H) else none
  | .ref a, .int n, H => match H.get a with
    | some (.list [x]) => if (n.toNat ≤ 100000 : Bool) && small n then some (.ref H.n, H.push (.list (List.replicate n.toNat x))) else none
    | _ => none
  | _, _, _ => none

section
variable {G : Gl} {A : Around} {ρ : Nat → Addr} {H H' : MH} {s : Shared} {x y r : MV} {a b : Value} {k : Nat}

theorem EvX.now {M : Model} {P : Params} {β α : Type} {rel : (Nat → Addr) → Nat → β → α → Prop} {t : Sem α} {r : β} (R : Rep P ρ H s.heap)
    (h : ∀ Q : α → Shared → Prop, (∀ a tk, rel ρ H.n r a → Q a { s with toks := tk }) → wpAny M A t Q (fun uq1 uq2 => False) s) : EvX M P A rel t ρ H s r H :=
  fun Q q => h Q fun a tk z => q a _ ρ .toks R z

theorem divs_small {a b : Int} (h : small b = true) : Builtin.divisionGoesByPylong a b = false := by
  simp only [small, Bool.and_eq_true, decide_eq_true_eq] at h
  have hb : b.natAbs < 2 ^ 63 := by omega
  have : Nat.log2 b.natAbs < 63 := by
    by_cases h0 : b.natAbs = 0
    · rw [h0]; decide
    · exact (Nat.log2_lt h0).mpr hb
  unfold Builtin.divisionGoesByPylong
  simp only [Bool.and_eq_false_iff, decide_eq_false_iff_not]
  left
  split <;> omega

theorem intMulOk_small {a b : Int} (h : small a = true) : IntMulOk a b := by
  simp only [small, Bool.and_eq_true, decide_eq_true_eq] at h
  exact PySem.IntMulOk.of_left (PySem.intBits_le_64 (by omega) (by omega))

theorem rep_list {P : Params} {h : Heap} {l : Nat} {xs : List MV} (R : Rep P ρ H h) (e : H.get l = some (.list xs)) : ∃ vs n, h.get? (ρ l) = some (listOf (List.toArray vs) n) ∧ VRs ρ H.n xs vs := by
  obtain ⟨ob, h1, vs, n, rfl, h2⟩ := R.at_ l _ e
  exact ⟨vs, n, h1, h2⟩
theorem VRs.length {n : Nat} {xs : List MV} {vs : List Value} (h : VRs ρ n xs vs) : vs.length = xs.length := by
  induction h with
  | nil => rfl
  | cons _ _ ih => simp [ih]
theorem VRs.append {n : Nat} {xs ys : List MV} {vs ws : List Value} (h : VRs ρ n xs vs) (h' : VRs ρ n ys ws) : VRs ρ n (xs ++ ys) (vs ++ ws) := by
  induction h with
  | nil => exact h'
  | cons a _ ih => exact .cons a ih
theorem VRs.take {n : Nat} {xs : List MV} {vs : List Value} (h : VRs ρ n xs vs) : ∀ j, VRs ρ n (xs.take j) (vs.take j) := by
  induction h with
  | nil => intro j; simp; exact .nil
  | cons a _ ih => intro j; cases j with
    | zero => exact .nil
    | succ j => exact .cons a (ih j)
theorem VRs.drop {n : Nat} {xs : List MV} {vs : List Value} (h : VRs ρ n xs vs) : ∀ j, VRs ρ n (xs.drop j) (vs.drop j) := by
  induction h with
  | nil => intro j; simp; exact .nil
  | cons a h ih => intro j; cases j with
    | zero => exact .cons a h
    | succ j => exact ih j
theorem VRs.get {n : Nat} {xs : List MV} {vs : List Value} (h : VRs ρ n xs vs) : ∀ {j : Nat} {x : MV}, xs[j]? = some x → ∃ v, vs[j]? = some v ∧ vr ρ n x v := by
  induction h with
  | nil => intro j x e; simp at e
  | cons a _ ih => intro j x e; cases j with
    | zero => simp at e; subst e; exact ⟨_, by simp, a⟩
    | succ j => simpa using ih (by simpa using e)
theorem VRs.replicate {n : Nat} {x : MV} {v : Value} (h : vr ρ n x v) : ∀ j, VRs ρ n (List.replicate j x) (List.replicate j v)
  | 0 => .nil
  | j + 1 => .cons h (VRs.replicate h j)

theorem EvX.push {M : Model} {P : Params} {t : Sem Value} {o : MO} (R : Rep P ρ H s.heap)
    (h : ∀ Q : Value → Shared → Prop, (∀ ob tk, orep P (ext ρ H.n s.heap.objs.size) (H.n + 1) o ob → Q (.ref s.heap.objs.size) { s with heap := s.heap.push ob, toks := tk }) → wpAny M A t Q (fun uq1 uq2 => False) s) :
    EvX M P A vr t ρ H s (.ref H.n) (H.push o) := fun Q q => h Q fun ob tk z => by
  obtain ⟨a, r⟩ := push_new (tk := tk) (ex := NoEx) (h' := s.heap.push ob) R (fresh_none (Nat.le_refl _)) (Heap.get?_push_size _ (orep_live z)) z (fun b x e => Heap.get?_push_of_some _ e)
  exact q _ _ _ a r ⟨Nat.lt_succ_self _, by rw [ext_self]⟩

theorem addop_ok (R : Rep G.P ρ H s.heap) (hx : vr ρ H.n x a) (hy : vr ρ H.n y b) (e : addop x y H = some (r, H')) : EvX G.M G.P A vr (binaryOp .Add a b) ρ H s r H' := by
  unfold addop at e
  split at e
  · obtain ⟨t, rfl⟩ := hx; obtain ⟨u, rfl⟩ := hy; cases e
    exact .now R fun Q q => add_int (q _ _ ⟨_, rfl⟩)
  · obtain ⟨t, rfl⟩ := hx; obtain ⟨u, rfl⟩ := hy
    split at e
    · rename_i hl; cases e
      exact .now R fun Q q => add_str (fun t' tk => q _ tk ⟨_, rfl⟩) (Nat.le_trans hl (by decide))
    · cases e
  · split at e
    · rename_i h1 h2
      split at e
      · rename_i hl; cases e
        obtain ⟨_, rfl⟩ := hx; obtain ⟨_, rfl⟩ := hy
        obtain ⟨vs, n1, g1, v1⟩ := rep_list R h1
        obtain ⟨ws, n2, g2, v2⟩ := rep_list R h2
        refine .push R fun Q q => ?_
        have e' : vs.toArray ++ ws.toArray = (vs ++ ws).toArray := by simp
        refine concat_meets ⟨_, g1, rfl⟩ ⟨_, g2, rfl⟩ noFill_list_add seq_list_add PySem.F.slot_list_add PySem.F.entry_list_add (PySem.F.args_list_add_2 _ _) (list_addW _ _ vs.toArray ws.toArray n1 n2 none none #[] #[]
          (by simp only [List.size_toArray, v1.length, v2.length]; exact Nat.le_trans hl (by decide))) ⟨g1, g2, ?_⟩
        rw [e']
        exact q _ s.toks ⟨vs ++ ws, 0, rfl, (v1.append v2).mono (Nat.le_succ _) ext_lt⟩
      · cases e
    · cases e
  · cases e

theorem subop_ok (R : Rep G.P ρ H s.heap) (hx : vr ρ H.n x a) (hy : vr ρ H.n y b) (e : subop x y H = some (r, H')) : EvX G.M G.P A vr (binaryOp .Sub a b) ρ H s r H' := by
  unfold subop at e
  split at e
  · obtain ⟨t, rfl⟩ := hx; obtain ⟨u, rfl⟩ := hy; cases e
    exact .now R fun Q q => sub_int (q _ _ ⟨_, rfl⟩)
  · cases e
theorem fdivop_ok (R : Rep G.P ρ H s.heap) (hx : vr ρ H.n x a) (hy : vr ρ H.n y b) (e : fdivop x y H = some (r, H')) : EvX G.M G.P A vr (binaryOp .FloorDiv a b) ρ H s r H' := by
  unfold fdivop at e
  split at e
  · obtain ⟨t, rfl⟩ := hx; obtain ⟨u, rfl⟩ := hy
    split at e
    · rename_i hb; cases e
      exact .now R fun Q q => floordiv_int hb.1 (q _ _ ⟨_, rfl⟩) (.inl (divs_small hb.2))
    · cases e
  · cases e
theorem modop_ok (R : Rep G.P ρ H s.heap) (hx : vr ρ H.n x a) (hy : vr ρ H.n y b) (e : modop x y H = some (r, H')) : EvX G.M G.P A vr (binaryOp .Mod a b) ρ H s r H' := by
  unfold modop at e
  split at e
  · obtain ⟨t, rfl⟩ := hx; obtain ⟨u, rfl⟩ := hy
    split at e
    · rename_i hb; cases e
      exact .now R fun Q q => mod_int' hb (q _ _ ⟨_, rfl⟩)
    · cases e
  · cases e
theorem mulOk_of {x : Str} {n : Int} (h1 : x.length * n.toNat ≤ 100000) (h2 : small n = true) : MulOk x n := by
  simp only [small, Bool.and_eq_true, decide_eq_true_eq] at h2
  refine ⟨Bool.or_eq_false_iff.mpr ⟨decide_eq_false (by omega), decide_eq_false (by omega)⟩, fun h3 uq1 => ?_, fun uq1 uq2 => ?_⟩
  · have h4 : n.toNat ≥ 1 := by omega
    have h5 : x.length ≤ 100000 := Nat.le_trans (Nat.le_mul_of_pos_right _ h4) h1
    intro h6
    have h7 : (1 : Int) ≤ n := by omega
    have h8 : (x.length : Int) * n ≤ 2 ^ 63 - 1 := by
      have e : (n.toNat : Int) = n := by omega
      have : ((x.length * n.toNat : Nat) : Int) ≤ 100000 := Int.ofNat_le.mpr h1
      rw [Int.natCast_mul, e] at this
      exact Int.le_trans this (by decide)
    have h9 := (Int.le_ediv_iff_mul_le (by omega : (0 : Int) < n)).mpr h8
    exact absurd h6 (Int.not_lt.mpr h9)
  · exact decide_eq_false (Nat.not_lt.mpr (Nat.le_trans h1 (by decide)))

theorem listMul_one (v : Value) (k : Nat) : List.foldl (fun (x1 x2 : Array Value) => x1 ++ x2) #[] (List.replicate k #[v]) = (List.replicate k v).toArray := by
  have : ∀ (k : Nat) (acc : Array Value), List.foldl (fun (x1 x2 : Array Value) => x1 ++ x2) acc (List.replicate k #[v]) = acc ++ (List.replicate k v).toArray := by
    intro k
    induction k with
    | zero => intro acc; simp
    | succ k ih =>
      intro acc
      rw [List.replicate_succ, List.foldl_cons, ih, List.replicate_succ]
      apply Array.toList_inj.mp
      simp
  rw [this]; simp

theorem mul_list_one {Q : Value → Shared → Prop} {E : Value → Shared → Prop} {l : Addr} {v : Value} {n1 : Nat} {n : Int} {u : Tok} (g1 : s.heap.get? l = some (listOf (List.toArray [v]) n1)) (hs : small n = true) (hn : n.toNat ≤ 100000)
    (q : Q (.ref s.heap.objs.size) { s with heap := s.heap.push (listOf (List.toArray (List.replicate n.toNat v)) 0) }) : wpAny G.M A (binaryOp .Mult (.ref l) (.int n u)) Q E s := by
  simp only [small, Bool.and_eq_true, decide_eq_true_eq] at hs
  refine wpAny_binaryOp_repeat_ref (T := "list") (U := "int") (by decide) ⟨_, g1, rfl⟩ (fun s' => typeIs_int s' n u) noFill_list_mul PySem.F.fills_int_mul PySem.F.slot_int_rmul repeat_list PySem.F.slot_int_index.lookup
          (call_meets PySem.F.slot_int_rmul (typeIs_int s n u) PySem.F.entry_int_rmul (PySem.F.args_int_rmul_2 _ _) (int___rmul___int_list n u l [v].toArray n1)
            ⟨g1, rfl, ⟨_, g1, rfl⟩, call_meets PySem.F.slot_list_mul ⟨_, g1, rfl⟩ PySem.F.entry_list_mul (PySem.F.args_list_mul_2 _ _)
              (AutoListH.list___mul___list_int_3 l [v].toArray n1 n u ?_ ?_ ?_)
              ⟨g1, ?_⟩⟩)
  · simp only [Builtin.List.listFitsIndex, Bool.not_eq_true']; simp; omega
  · simp; omega
  · simp [Builtin.List.listTooLong, sizeLine]; omega
  · rw [← listMul_one] at q
    exact q

theorem mulop_ok (R : Rep G.P ρ H s.heap) (hx : vr ρ H.n x a) (hy : vr ρ H.n y b) (e : mulop x y H = some (r, H')) : EvX G.M G.P A vr (binaryOp .Mult a b) ρ H s r H' := by
  unfold mulop at e
  split at e
  · obtain ⟨t, rfl⟩ := hx; obtain ⟨u, rfl⟩ := hy
    split at e
    · rename_i hb; cases e
      exact .now R fun Q q => mul_int (q _ _ ⟨_, rfl⟩) (intMulOk_small hb.1)
    · cases e
  · obtain ⟨t, rfl⟩ := hx; obtain ⟨u, rfl⟩ := hy
    split at e
    · rename_i hb; cases e
      simp only [Bool.and_eq_true, decide_eq_true_eq] at hb
      exact .now R fun Q q => SB.mul (mulOk_of hb.1 hb.2) fun t' k => q _ k ⟨_, rfl⟩
    · cases e
  · split at e
    · rename_i h1
      split at e
      · rename_i hb; cases e
        simp only [Bool.and_eq_true, decide_eq_true_eq] at hb
        obtain ⟨_, rfl⟩ := hx; obtain ⟨u, rfl⟩ := hy
        obtain ⟨vs, n1, g1, v1⟩ := rep_list R h1
        cases v1 with
        | cons hv hn =>
        cases hn
        refine .push R fun Q q => ?_
        refine mul_list_one g1 hb.2 hb.1 (q _ s.toks ⟨_, 0, rfl, (VRs.replicate hv _).mono (Nat.le_succ _) ext_lt⟩)
      · cases e
    · cases e
  · cases e

noncomputable def intsOf : List MV → Option (List Int)
  | [] => some []
  | .int i :: r => (intsOf r).map (i :: ·)
  | _ :: _ => none
theorem intsAre_of {n : Nat} {xs : List MV} {vs : List Value} {ns : List Int} (h : VRs ρ n xs vs) (e : intsOf xs = some ns) : IntsAre vs ns := by
  induction h generalizing ns with
  | nil => cases e; exact .nil
  | cons a _ ih =>
    rename_i x v xs vs _
    cases x <;> first | cases e | skip
    rename_i i
    obtain ⟨t, rfl⟩ := a
    simp only [intsOf, Option.map_eq_some_iff] at e
    obtain ⟨ms, e1, rfl⟩ := e
    exact .cons i t (ih e1)

noncomputable def bv (b : Bool) : MV := .val (.bool b)
noncomputable def eqop : MV → MV → MH → Option Bool
  | .int a, .int b, _ => some (a == b)
  | .str a, .str b, _ => some (streq a b)
  | .ref a, .ref b, H => match H.get a, H.get b with
    | some (.list xs), some (.list ys) => (intsOf xs).bind fun ns => (intsOf ys).bind fun ms => some (decide (ns = ms))
    | _, _ => none
  | _, _, _ => none
noncomputable def ltop : MV → MV → Option Bool
  | .int a, .int b => some (decide (a < b))
  | _, _ => none
noncomputable def leop : MV → MV → Option Bool
  | .int a, .int b => some (decide (a ≤ b))
  | _, _ => none
noncomputable def isop (x y : MV) : Option Bool := match x with
  | .val a => match y with
    | .val b => if PySem.plainIs a b then some (a == b) else none
    | _ => none
  | _ => match y with
    | .val .none => some false
    | _ => none
theorem isList_of {h : Heap} {a : Addr} {vs : List Value} {n : Nat} (g : h.get? a = some (listOf (List.toArray vs) n)) : h.IsList a vs.toArray := ⟨_, g, rfl, n, rfl⟩

theorem eqop_ok {c : Bool} (B : Bud A 8) (R : Rep G.P ρ H s.heap) (hx : vr ρ H.n x a) (hy : vr ρ H.n y b) (e : eqop x y H = some c) : EvX G.M G.P A vr (compareOp .Eq a b) ρ H s (bv c) H := by
  unfold eqop at e
  split at e
  · obtain ⟨t, rfl⟩ := hx; obtain ⟨u, rfl⟩ := hy; cases e
    exact .now R fun Q q => eq_int (q _ s.toks rfl)
  · obtain ⟨t, rfl⟩ := hx; obtain ⟨u, rfl⟩ := hy; rw [streq_eq] at e; cases e
    exact .now R fun Q q => eq_str (q _ s.toks rfl)
  · split at e
    · rename_i h1 h2
      obtain ⟨ns, e1, e⟩ := Option.bind_eq_some_iff.mp e
      obtain ⟨ms, e2, e⟩ := Option.bind_eq_some_iff.mp e
      cases e
      obtain ⟨_, rfl⟩ := hx; obtain ⟨_, rfl⟩ := hy
      obtain ⟨vs, n1, g1, v1⟩ := rep_list R h1
      obtain ⟨ws, n2, g2, v2⟩ := rep_list R h2
      exact .now R fun Q q => eq_intsK (isList_of g1) (intsAre_of v1 e1) (isList_of g2) (intsAre_of v2 e2) (by have := B.u; omega) (q _ s.toks rfl)
    · cases e
  · cases e
theorem ltop_ok {c : Bool} (R : Rep G.P ρ H s.heap) (hx : vr ρ H.n x a) (hy : vr ρ H.n y b) (e : ltop x y = some c) : EvX G.M G.P A vr (compareOp .Lt a b) ρ H s (bv c) H := by
  unfold ltop at e
  split at e
  · obtain ⟨t, rfl⟩ := hx; obtain ⟨u, rfl⟩ := hy; cases e
    exact .now R fun Q q => lt_int (q _ s.toks rfl)
  · cases e
theorem leop_ok {c : Bool} (R : Rep G.P ρ H s.heap) (hx : vr ρ H.n x a) (hy : vr ρ H.n y b) (e : leop x y = some c) : EvX G.M G.P A vr (compareOp .LtE a b) ρ H s (bv c) H := by
  unfold leop at e
  split at e
  · obtain ⟨t, rfl⟩ := hx; obtain ⟨u, rfl⟩ := hy; cases e
    exact .now R fun Q q => le_int (q _ s.toks rfl)
  · cases e
theorem gtop_ok {c : Bool} (R : Rep G.P ρ H s.heap) (hx : vr ρ H.n x a) (hy : vr ρ H.n y b) (e : ltop y x = some c) : EvX G.M G.P A vr (compareOp .Gt a b) ρ H s (bv c) H := by
  unfold ltop at e
  split at e
  · obtain ⟨t, rfl⟩ := hx; obtain ⟨u, rfl⟩ := hy; cases e
    exact .now R fun Q q => gt_int (q _ s.toks rfl)
  · cases e
theorem geop_ok {c : Bool} (R : Rep G.P ρ H s.heap) (hx : vr ρ H.n x a) (hy : vr ρ H.n y b) (e : leop y x = some c) : EvX G.M G.P A vr (compareOp .GtE a b) ρ H s (bv c) H := by
  unfold leop at e
  split at e
  · obtain ⟨t, rfl⟩ := hx; obtain ⟨u, rfl⟩ := hy; cases e
    exact .now R fun Q q => ge_int (q _ s.toks rfl)
  · cases e
theorem isop_val {h : Heap} {free : Addr → Prop} {n : Nat} {c : Bool} (hx : vra G h free ρ n x a) (hy : vr ρ n y b) (e : isop x y = some c) : PySem.plainIs a b = true ∧ (a == b) = c := by
  unfold isop at e
  split at e
  · split at e
    · cases hx; cases hy
      split at e
      · rename_i h; cases e; exact ⟨h, rfl⟩
      · cases e
    · cases e
  · rename_i hn
    split at e
    · cases e; cases hy
      cases x with
      | val a => exact absurd rfl (hn a)
      | clo => obtain ⟨_, _, f, cc, pm, ct, oc, rfl, _⟩ := hx; exact ⟨rfl, rfl⟩
      | _ => obtain ⟨_, rfl⟩ := hx; exact ⟨rfl, rfl⟩
    · cases e
noncomputable def truth : MV → MH → Option Bool
  | .val (.bool b), _ => some b
  | .val .none, _ => some false
  | .int i, _ => some (i != 0)
  | .ref l, H => match H.get l with
    | some (.list xs) => if xs.length ≤ 100000 then some (!xs.isEmpty) else none
    | _ => none
  | _, _ => none
theorem truth_ok {c : Bool} (R : Rep G.P ρ H s.heap) (hx : vr ρ H.n x a) (e : truth x H = some c) : EvX G.M G.P A (fun uq1 uq2 (c : Bool) c' => c' = c) (truthy a) ρ H s c H := by
  unfold truth at e
  split at e
  · cases hx; cases e; exact .now R fun Q q => wpAny_truthy_bool (q _ s.toks rfl)
  · cases hx; cases e; exact .now R fun Q q => truthy_none (q _ s.toks rfl)
  · obtain ⟨t, rfl⟩ := hx; cases e; exact .now R fun Q q => PyProof.Rows.truthy_int (q _ s.toks rfl)
  · split at e
    · rename_i h1
      split at e
      · rename_i hl; cases e
        obtain ⟨_, rfl⟩ := hx
        obtain ⟨vs, n1, g1, v1⟩ := rep_list R h1
        refine .now R fun Q q => wpAny_truthy_list (isList_of g1) (by have := v1.length; simp only [List.size_toArray]; omega) (q _ _ ?_)
        cases v1 <;> simp
      · cases e
    · cases e
  · cases e
end
end Q
end Mini

open PySem PySem.W PySem.Calls PyProof.Rows
namespace Mini
noncomputable section Q

noncomputable def DenE (G : Gl) (k : Nat) (sx : Sx) (e : Expr) (d : St → Option (MV × MH)) : Prop :=
  ∀ {env : Env} {A : Around} {ρ : Nat → Addr} {st : St} {s : Shared} {v : MV} {H' : MH}, Fst G env sx → Bud A k → InF G env sx ρ st s → d st = some (v, H') → EvX G.M G.P A vr (eval e env) ρ st.H s v H'
noncomputable def DenB (G : Gl) (k : Nat) (sx : Sx) (e : Expr) (d : St → Option (Bool × MH)) : Prop :=
  ∀ {env : Env} {A : Around} {ρ : Nat → Addr} {st : St} {s : Shared} {v : Bool} {H' : MH}, Fst G env sx → Bud A k → InF G env sx ρ st s → d st = some (v, H') → EvX G.M G.P A (fun uq1 uq2 (c : Bool) c' => c' = c) (isTrue e env (eval e env)) ρ st.H s v H'
noncomputable def DenEs (G : Gl) (k : Nat) (sx : Sx) (es : List Expr) (d : St → Option (List MV × MH)) : Prop :=
  ∀ {env : Env} {A : Around} {ρ : Nat → Addr} {st : St} {s : Shared} {v : List MV} {H' : MH}, Fst G env sx → Bud A k → InF G env sx ρ st s → d st = some (v, H') →
    ∀ pos, EvX G.M G.P A VRs (spliced (backTo pos (starEach es env))) ρ st.H s v H'

section
variable {G : Gl} {k : Nat} {sx : Sx}

theorem den_int {i : Int} {j : Nat} {pos : Pos} : DenE G k sx (.Constant (.int i) j pos) (fun st => some (.int i, st.H)) := fun uq1 uq2 I e => by
  cases e; exact .now I.bas.rep fun Q q => wpAny_Constant_int (q _ _ ⟨_, rfl⟩)
theorem den_str {i : Str} {j : Nat} {pos : Pos} : DenE G k sx (.Constant (.str i) j pos) (fun st => some (.str i, st.H)) := fun uq1 uq2 I e => by
  cases e; exact .now I.bas.rep fun Q q => wpAny_Constant_str (q _ _ ⟨_, rfl⟩)
theorem den_none {j : Nat} {pos : Pos} : DenE G k sx (.Constant .none j pos) (fun st => some (.val .none, st.H)) := fun uq1 uq2 I e => by
  cases e; exact .now I.bas.rep fun Q q => wpAny_Constant_none (q _ _ rfl)
theorem den_bool {b : Bool} {j : Nat} {pos : Pos} : DenE G k sx (.Constant (.bool b) j pos) (fun st => some (bv b, st.H)) := fun uq1 uq2 I e => by
  cases e; exact .now I.bas.rep fun Q q => wpAny_Constant_bool (q _ _ rfl)

noncomputable def nthV (vs : List (Option MV)) (i : Nat) : Option (Option MV) := @List.rec (Option MV) (fun uq1 => Nat → Option (Option MV)) (fun uq1 => none) (fun a uq1 ih i => @Nat.rec (fun uq1 => Option (Option MV)) (some a) (fun j uq1 => ih j) i) vs i
theorem nthV_eq : ∀ (vs : List (Option MV)) (i : Nat), nthV vs i = vs[i]?
  | [], _ => by simp [nthV]
  | a :: r, 0 => rfl
  | a :: r, i + 1 => by rw [List.getElem?_cons_succ]; exact nthV_eq r i
noncomputable def getv (st : St) (i : Nat) : Option (MV × MH) := match nthV st.vs i with
  | some (some (.clo ..)) => none
  | some (some v) => some (v, st.H)
  | _ => none
theorem getv_some {st : St} {i : Nat} {v : MV} {H' : MH} (e : getv st i = some (v, H')) : st.vs[i]? = some (some v) ∧ H' = st.H ∧ ∀ c l lc, v ≠ .clo c l lc := by
  unfold getv at e
  rw [nthV_eq] at e
  split at e
  · cases e
  · rename_i w hw hn
    cases e
    exact ⟨hn, rfl, hw⟩
  · cases e

theorem den_local {x : Str} {pos : Pos} (i : Nat) (hi : sx.slots[i]? = some x) (hk : sx.kindOf x = some .local) (hd : (x == ("__debug__" : Str)) = false) : DenE G k sx (.Name x pos) (fun st => getv st i) := fun F uq1 I e => by
  obtain ⟨h1, rfl, h3⟩ := getv_some e
  obtain ⟨m, hn, hv⟩ := I.ns
  obtain ⟨w, hm, r⟩ := hv i x _ hi hk h1
  refine .now I.bas.rep fun Q q => wpAny_Name (wpAny_loadName_local (by rw [F.scope]; exact F.kind) (by show Env.kindOf _ _ = _; unfold Env.kindOf; rw [F.scope]; exact hk) hn hm (q w _ (vr_of_vra r h3))) hd
theorem den_cell {x : Str} {pos : Pos} (i : Nat) (hi : sx.slots[i]? = some x) (hk : sx.kindOf x = some .cell ∨ sx.kindOf x = some .free) (hd : (x == ("__debug__" : Str)) = false) (hc : (x == ("__classdict__" : Str)) = false) : DenE G k sx (.Name x pos) (fun st => getv st i) := fun F uq1 I e => by
  obtain ⟨h1, rfl, h3⟩ := getv_some e
  obtain ⟨c, w, hl, hv, r⟩ := I.cel i x _ hi hk h1
  refine .now I.bas.rep fun Q q => wpAny_Name ?_ hd
  rcases hk with hk | hk
  · exact wpAny_loadName_cell (by rw [F.scope]; exact F.kind) (by unfold Env.kindOf; rw [F.scope]; exact hk) hl hv (q w _ r)
  · exact wpAny_loadName_free (by rw [F.scope]; exact F.kind) (by unfold Env.kindOf; rw [F.scope]; exact hk) hl hv (q w _ r) hc

theorem Bas.ns {ρ : Nat → Addr} {H : MH} {s : Shared} (B : Bas G ρ H s) {a : Addr} {m : Str → Option Value} (h : G.h₀.Ns a m) : s.heap.Ns a m := h.keeps fun b o e => (B.base b o e).1
theorem Bas.K {ρ : Nat → Addr} {H : MH} {s : Shared} (B : Bas G ρ H s) : G.K.In s.heap := G.X.keeps fun b o e => (B.base b o e).1
theorem Bas.nolimit {ρ : Nat → Addr} {H : MH} {s : Shared} (B : Bas G ρ H s) : s.heap.NoLimit := G.T.nolimit.keeps fun b o e => (B.base b o e).1

theorem den_glob {x : Str} {pos : Pos} {v : Value} (hk : sx.kindOf x = some .globalImplicit) (e' : nsIn G.K mainGlobals x = some (some v)) (hd : (x == ("__debug__" : Str)) = false) : DenE G k sx (.Name x pos) (fun st => some (.val v, st.H)) := fun F uq1 I e => by
  cases e
  exact .now I.bas.rep fun Q q => Name_function_global (by rw [F.scope]; exact F.kind) (by unfold Env.kindOf; rw [F.scope]; exact hk) (loadGlobal_global (by rw [F.glo]; exact I.bas.ns G.T.g) (mg_of G.X G.T.g e') (q v _ rfl)) hd
theorem den_builtin {x : Str} {pos : Pos} {v : Value} (hk : sx.kindOf x = some .globalImplicit) (e' : nsIn G.K mainGlobals x = some none) (hv : bootBuiltins x = some v) (hn : x ≠ "__name__") (hd : (x == ("__debug__" : Str)) = false) : DenE G k sx (.Name x pos) (fun st => some (.val v, st.H)) := fun F uq1 I e => by
  cases e
  exact .now I.bas.rep fun Q q => Name_function_global (by rw [F.scope]; exact F.kind) (by unfold Env.kindOf; rw [F.scope]; exact hk)
    (loadGlobal_builtin (by rw [F.glo]; exact I.bas.ns G.T.g) (mg_none_of G.X G.T.g e') (by rw [F.bui]; exact I.bas.ns G.T.b) ((G.T.builtins x hn).trans hv) (q v _ rfl)) hd

noncomputable abbrev seq2 (d : St → Option (MV × MH)) (d' : St → Option (MV × MH)) (f : MV → MV → MH → Option (MV × MH)) (st : St) : Option (MV × MH) := (d st).bind fun p => (d' ⟨st.vs, p.2⟩).bind fun q => f p.1 q.1 q.2

theorem den_bin {l r : Expr} {op : Operator} {pos : Pos} {dl dr : St → Option (MV × MH)} {f : MV → MV → MH → Option (MV × MH)}
    (ok : ∀ {A : Around} {ρ : Nat → Addr} {H H' : MH} {s : Shared} {x y z : MV} {a b : Value}, Rep G.P ρ H s.heap → vr ρ H.n x a → vr ρ H.n y b → f x y H = some (z, H') → EvX G.M G.P A vr (binaryOp op a b) ρ H s z H')
    (hl : DenE G k sx l dl) (hr : DenE G k sx r dr) : DenE G k sx (.BinOp l op r pos) (seq2 dl dr f) := fun F B I e => by
  obtain ⟨⟨x, H₁⟩, e1, e⟩ := Option.bind_eq_some_iff.mp e
  obtain ⟨⟨y, H₂⟩, e2, e⟩ := Option.bind_eq_some_iff.mp e
  refine fun Q q => wpAny_BinOp (hl F B I e1 _ fun a s₁ ρ₁ a₁ r₁ v₁ => hr F B (I.after a₁ r₁) e2 _ fun b s₂ ρ₂ a₂ r₂ v₂ => ok r₂ (vr_mono a₂.le a₂.agree v₁) v₂ e _ fun c s₃ ρ₃ a₃ r₃ v₃ => q c s₃ ρ₃ ((a₁.trans a₂).trans a₃) r₃ v₃)

noncomputable def OpB (G : Gl) (op : CmpOp) (f : MV → MV → MH → Option Bool) : Prop :=
  ∀ {A : Around} {ρ : Nat → Addr} {H : MH} {s : Shared} {x y : MV} {a b : Value} {c : Bool}, Bud A 8 → Rep G.P ρ H s.heap → vr ρ H.n x a → vr ρ H.n y b → f x y H = some c → EvX G.M G.P A vr (compareOp op a b) ρ H s (bv c) H
theorem opB_eq : OpB G .Eq eqop := fun B R hx hy e => eqop_ok B R hx hy e
theorem opB_lt : OpB G .Lt (fun x y uq1 => ltop x y) := fun uq1 R hx hy e => ltop_ok R hx hy e
theorem opB_le : OpB G .LtE (fun x y uq1 => leop x y) := fun uq1 R hx hy e => leop_ok R hx hy e
theorem opB_gt : OpB G .Gt (fun x y uq1 => ltop y x) := fun uq1 R hx hy e => gtop_ok R hx hy e
theorem opB_ge : OpB G .GtE (fun x y uq1 => leop y x) := fun uq1 R hx hy e => geop_ok R hx hy e
theorem opB_is : OpB G .Is (fun x y uq1 => isop x y) := fun uq1 R hx hy e => by
  obtain ⟨h1, h2⟩ := isop_val (G := G) (h := {}) (free := fun uq1 => True) (vra_of_vr hx) hy e
  exact .now R fun Q q => wpAny_is_plain h1 (by rw [h2]; exact q _ _ rfl)
theorem opB_isNot : OpB G .IsNot (fun x y uq1 => (isop x y).map (!·)) := fun uq1 R hx hy e => by
  obtain ⟨c, e1, rfl⟩ := Option.map_eq_some_iff.mp e
  obtain ⟨h1, h2⟩ := isop_val (G := G) (h := {}) (free := fun uq1 => True) (vra_of_vr hx) hy e1
  exact .now R fun Q q => wpAny_isNot_plain h1 (by rw [h2]; exact q _ _ rfl)
theorem eval_Compare1 (l r : Expr) (op : CmpOp) (pos : Pos) (env : Env) (h : behindInMarks op r = false) : eval (.Compare l [op] [r] pos) env = (do let a ← eval l env; let b ← holding [a] (eval r env); standAt pos; operate [a, b] (compareOp op a b)) := by
  show (do let a ← eval l env; compareChain pos a [op] (markedEach [op] [r] (evalEach [r] env))) = _
  simp only [evalEach, markedEach, markedBehindIn, h, compareChain]

theorem wpAny_Compare1 {M : Model} {A : Around} {E : Value → Shared → Prop} {s : Shared} {env : Env} {l r : Expr} {op : CmpOp} {pos : Pos} {Q : Value → Shared → Prop}
    (h : wpAny M A (eval l env) (fun a s₁ => wpAny M A (eval r env) (fun b s₂ => wpAny M A (compareOp op a b) Q E s₂) E s₁) E s) (hm : behindInMarks op r = false) : wpAny M A (eval (.Compare l [op] [r] pos) env) Q E s := by
  rw [eval_Compare1 _ _ _ _ _ hm]
  exact wpAny_bind (wpAny_mono h (fun a s₁ h₁ => wpAny_bind (wpAny_holding (wpAny_mono h₁ (fun b s₂ h₂ => wpAny_bind (wpAny_standAt (wpAny_operateT h₂))) fun uq1 uq2 x => x))) fun uq1 uq2 x => x)

noncomputable abbrev cmp2 (dl dr : St → Option (MV × MH)) (f : MV → MV → MH → Option Bool) (st : St) : Option (Bool × MH) := (dl st).bind fun p => (dr ⟨st.vs, p.2⟩).bind fun q => (f p.1 q.1 q.2).map fun c => (c, q.2)

theorem cmp_core {l r : Expr} {op : CmpOp} {dl dr : St → Option (MV × MH)} {f : MV → MV → MH → Option Bool} (ok : OpB G op f) (hl : DenE G k sx l dl) (hr : DenE G k sx r dr) (h8 : 8 ≤ k)
    {env : Env} {A : Around} {ρ : Nat → Addr} {st : St} {s : Shared} {c : Bool} {H' : MH} (F : Fst G env sx) (B : Bud A k) (I : InF G env sx ρ st s) (e : cmp2 dl dr f st = some (c, H')) {Q : Value → Shared → Prop}
    (q : ∀ s' ρ', Aft ρ ρ' st.H H' s s' NoEx → Rep G.P ρ' H' s'.heap → Q (.bool c) s') :
    wpAny G.M A (eval l env) (fun a s₁ => wpAny G.M A (eval r env) (fun b s₂ => wpAny G.M A (compareOp op a b) Q (fun uq1 uq2 => False) s₂) (fun uq1 uq2 => False) s₁) (fun uq1 uq2 => False) s := by
  obtain ⟨⟨x, H₁⟩, e1, e⟩ := Option.bind_eq_some_iff.mp e
  obtain ⟨⟨y, H₂⟩, e2, e⟩ := Option.bind_eq_some_iff.mp e
  obtain ⟨c', e3, e⟩ := Option.map_eq_some_iff.mp e
  cases e
  exact hl F B I e1 _ fun a s₁ ρ₁ a₁ r₁ v₁ => hr F B (I.after a₁ r₁) e2 _ fun b s₂ ρ₂ a₂ r₂ v₂ => ok (B.le h8) r₂ (vr_mono a₂.le a₂.agree v₁) v₂ e3 _ fun w s₃ ρ₃ a₃ r₃ v₃ => by
    cases v₃; exact q s₃ ρ₃ ((a₁.trans a₂).trans a₃) r₃

theorem den_cmp {l r : Expr} {op : CmpOp} {pos : Pos} {dl dr : St → Option (MV × MH)} {f : MV → MV → MH → Option Bool} (ok : OpB G op f) (hl : DenE G k sx l dl) (hr : DenE G k sx r dr) (h8 : 8 ≤ k) (hm : behindInMarks op r = false) :
    DenE G k sx (.Compare l [op] [r] pos) (fun st => (cmp2 dl dr f st).map fun p => (bv p.1, p.2)) := fun F B I e => by
  obtain ⟨⟨c, H₁⟩, e1, e⟩ := Option.map_eq_some_iff.mp e
  cases e
  exact fun Q q => wpAny_Compare1 (cmp_core ok hl hr h8 F B I e1 fun s' ρ' a r => q _ s' ρ' a r rfl) hm
theorem denB_cmp {l r : Expr} {op : CmpOp} {pos : Pos} {dl dr : St → Option (MV × MH)} {f : MV → MV → MH → Option Bool} (ok : OpB G op f) (hl : DenE G k sx l dl) (hr : DenE G k sx r dr) (h8 : 8 ≤ k) (hm : behindInMarks op r = false) :
    DenB G k sx (.Compare l [op] [r] pos) (cmp2 dl dr f) := fun F B I e =>
  fun Q q => wpAny_isTrue_Compare1 (cmp_core (Q := fun c s₃ => wpAny G.M _ (truthy c) Q (fun uq1 uq2 => False) s₃) ok hl hr h8 F B I e fun s' ρ' a r => wpAny_truthy_bool (q _ s' ρ' a r rfl)) hm

theorem denB_val {e : Expr} {d : St → Option (MV × MH)} (h : DenE G k sx e d) (hs : ∀ env, isTrue e env (eval e env) = (do let v ← eval e env; standAt e.pos; holding [v] (truthy v))) :
    DenB G k sx e (fun st => (d st).bind fun p => (truth p.1 p.2).map fun c => (c, p.2)) := fun F B I e => by
  obtain ⟨⟨x, H₁⟩, e1, e⟩ := Option.bind_eq_some_iff.mp e
  obtain ⟨c', e3, e⟩ := Option.map_eq_some_iff.mp e
  cases e
  exact fun Q q => wpAny_isTrue_value (h F B I e1 _ fun a s₁ ρ₁ a₁ r₁ v₁ => truth_ok r₁ v₁ e3 _ fun b s₂ ρ₂ a₂ r₂ v₂ => q b s₂ ρ₂ (a₁.trans a₂) r₂ v₂) (hs _)

noncomputable def isNone (i : Nat) (st : St) : Option (Bool × MH) := match st.vs[i]? with
  | some (some v) => (isop v (.val .none)).map fun c => (c, st.H)
  | _ => none
theorem denB_isNone {x : Str} {pos p1 p2 : Pos} {j : Nat} (i : Nat) (hi : sx.slots[i]? = some x) (hk : sx.kindOf x = some .local) (hd : (x == ("__debug__" : Str)) = false) :
    DenB G k sx (.Compare (.Name x p1) [.Is] [.Constant .none j p2] pos) (isNone i) := fun F B I e => by
  unfold isNone at e
  split at e
  · rename_i w h1
    obtain ⟨c, e3, e⟩ := Option.map_eq_some_iff.mp e
    cases e
    obtain ⟨m, hn, hv⟩ := I.ns
    obtain ⟨a, hm, r⟩ := hv i x _ hi hk h1
    obtain ⟨q1, q2⟩ := isop_val (y := .val .none) (b := .none) r rfl e3
    refine .now I.bas.rep fun Q q => wpAny_isTrue_Compare1 (wpAny_Name (wpAny_loadName_local (by rw [F.scope]; exact F.kind) (by unfold Env.kindOf; rw [F.scope]; exact hk) hn hm
      (wpAny_Constant_none (wpAny_is_plain q1 (wpAny_truthy_bool (by rw [q2]; exact q _ _ rfl))))) hd) rfl
  · cases e

theorem den_ifexp {t a b : Expr} {pos : Pos} {dt : St → Option (Bool × MH)} {da db : St → Option (MV × MH)} (ht : DenB G k sx t dt) (ha : DenE G k sx a da) (hb : DenE G k sx b db) :
    DenE G k sx (.IfExp t a b pos) (fun st => (dt st).bind fun p => if p.1 then da ⟨st.vs, p.2⟩ else db ⟨st.vs, p.2⟩) := fun F B I e => by
  obtain ⟨⟨c, H₁⟩, e1, e⟩ := Option.bind_eq_some_iff.mp e
  refine fun Q q => wpAny_IfExp (ht F B I e1 _ fun c' s₁ ρ₁ a₁ r₁ v₁ => ?_)
  subst v₁
  cases c'
  · exact hb F B (I.after a₁ r₁) e _ fun c s₃ ρ₃ a₃ r₃ v₃ => q c s₃ ρ₃ (a₁.trans a₃) r₃ v₃
  · exact ha F B (I.after a₁ r₁) e _ fun c s₃ ρ₃ a₃ r₃ v₃ => q c s₃ ρ₃ (a₁.trans a₃) r₃ v₃

theorem denB_and2 {a b : Expr} {pos : Pos} {da db : St → Option (Bool × MH)} (ha : DenB G k sx a da) (hb : DenB G k sx b db) :
    DenB G k sx (.BoolOp .And [a, b] pos) (fun st => (da st).bind fun p => if p.1 then db ⟨st.vs, p.2⟩ else some (false, p.2)) := fun F B I e => by
  obtain ⟨⟨c, H₁⟩, e1, e⟩ := Option.bind_eq_some_iff.mp e
  refine fun Q q => wpAny_isTrue_BoolOp (wpAny_allTrue_And_cons (ha F B I e1 _ fun c' s₁ ρ₁ a₁ r₁ v₁ => ?_))
  subst v₁
  cases c'
  · cases e; exact q _ s₁ ρ₁ a₁ r₁ rfl
  · refine wpAny_allTrue_And_cons (hb F B (I.after a₁ r₁) e _ fun c'' s₂ ρ₂ a₂ r₂ v₂ => ?_)
    have z := q c'' s₂ ρ₂ (a₁.trans a₂) r₂ v₂
    cases c''
    · exact z
    · exact wpAny_allTrue_And_nil z

theorem den_and2 {a b : Expr} {pos : Pos} {da db : St → Option (MV × MH)} (ha : DenE G k sx a da) (hb : DenE G k sx b db) :
    DenE G k sx (.BoolOp .And [a, b] pos) (fun st => (da st).bind fun p => (truth p.1 p.2).bind fun c => if c then db ⟨st.vs, p.2⟩ else some p) := fun F B I e => by
  obtain ⟨⟨x, H₁⟩, e1, e⟩ := Option.bind_eq_some_iff.mp e
  obtain ⟨c, e2, e⟩ := Option.bind_eq_some_iff.mp e
  refine fun Q q => ?_
  show wpAny G.M _ (boolOp pos .And [eval a _, eval b _]) Q _ _
  unfold boolOp
  refine wpAny_bind (ha F B I e1 _ fun v s₁ ρ₁ a₁ r₁ v₁ => wpAny_bind (wpAny_standAt (wpAny_bind (wpAny_holding (truth_ok r₁ v₁ e2 _ fun t s₂ ρ₂ a₂ r₂ v₂ => ?_)))))
  subst v₂
  cases t
  · cases e; exact wpAny_pure (q v s₂ ρ₂ (a₁.trans a₂) r₂ (vr_mono a₂.le a₂.agree v₁))
  · unfold boolOp
    exact hb F B ((I.after a₁ r₁).after a₂ r₂) e _ fun c s₃ ρ₃ a₃ r₃ v₃ => q c s₃ ρ₃ ((a₁.trans a₂).trans a₃) r₃ v₃

theorem dens_nil : DenEs G k sx [] (fun st => some ([], st.H)) := fun uq1 uq2 I e pos => by
  cases e; exact .now I.bas.rep fun Q q => spliced_nil (q _ _ .nil)
theorem dens_cons {e : Expr} {es : List Expr} {d : St → Option (MV × MH)} {ds : St → Option (List MV × MH)} (h : DenE G k sx e d) (hs : DenEs G k sx es ds)
    (hst : ∀ env, starEach (e :: es) env = (false, eval e env) :: starEach es env) : DenEs G k sx (e :: es) (fun st => (d st).bind fun p => (ds ⟨st.vs, p.2⟩).bind fun q => some (p.1 :: q.1, q.2)) := fun {env} {A} {ρ} {st} {s} {v} {H'} F B I e pos => by
  obtain ⟨⟨x, H₁⟩, e1, e⟩ := Option.bind_eq_some_iff.mp e
  obtain ⟨⟨xs, H₂⟩, e2, e⟩ := Option.bind_eq_some_iff.mp e
  cases e
  rw [hst]
  exact fun Q q => spliced_cons (h F B I e1 _ fun a s₁ ρ₁ a₁ r₁ v₁ => hs F B (I.after a₁ r₁) e2 pos _ fun vs s₂ ρ₂ a₂ r₂ v₂ => q _ s₂ ρ₂ (a₁.trans a₂) r₂ (.cons (vr_mono a₂.le a₂.agree v₁) v₂))

theorem den_list {es : List Expr} {pos : Pos} {ds : St → Option (List MV × MH)} (hs : DenEs G k sx es ds) :
    DenE G k sx (.List es pos) (fun st => (ds st).bind fun p => if p.1.length ≤ 100000 then some (.ref p.2.n, p.2.push (.list p.1)) else none) := fun F B I e => by
  obtain ⟨⟨xs, H₁⟩, e1, e⟩ := Option.bind_eq_some_iff.mp e
  dsimp only at e
  split at e
  · rename_i hl
    cases e
    refine fun Q q => wpAny_List_spliced (hs F B I e1 pos _ fun vs s₁ ρ₁ a₁ r₁ v₁ => ⟨by rw [v₁.length]; exact Nat.le_trans hl (by decide), ?_⟩)
    obtain ⟨a, r⟩ := push_new (tk := s₁.toks) (ex := NoEx) (o := .list xs) r₁ (fresh_none (Nat.le_refl _)) (Heap.get?_push_size _ rfl) ⟨vs, 0, rfl, v₁.mono (Nat.le_succ _) ext_lt⟩ (fun b x e => Heap.get?_push_of_some _ e)
    exact q _ _ _ (a₁.trans a) r ⟨Nat.lt_succ_self _, by rw [ext_self]⟩
  · cases e
theorem den_tuple {es : List Expr} {j : Nat} {pos : Pos} {ds : St → Option (List MV × MH)} (hs : DenEs G k sx es ds) :
    DenE G k sx (.Tuple es j pos) (fun st => (ds st).bind fun p => if p.1.length ≤ 100000 then some (.ref p.2.n, p.2.push (.tup p.1)) else none) := fun F B I e => by
  obtain ⟨⟨xs, H₁⟩, e1, e⟩ := Option.bind_eq_some_iff.mp e
  dsimp only at e
  split at e
  · rename_i hl
    cases e
    refine fun Q q => wpAny_Tuple_spliced (hs F B I e1 pos _ fun vs s₁ ρ₁ a₁ r₁ v₁ => ⟨by rw [v₁.length]; exact Nat.le_trans hl (by decide), ?_⟩)
    obtain ⟨a, r⟩ := push_new (tk := s₁.toks) (ex := NoEx) (o := .tup xs) r₁ (fresh_none (Nat.le_refl _)) (Heap.get?_push_size _ rfl) ⟨vs, 0, rfl, v₁.mono (Nat.le_succ _) ext_lt⟩ (fun b x e => Heap.get?_push_of_some _ e)
    exact q _ _ _ (a₁.trans a) r ⟨Nat.lt_succ_self _, by rw [ext_self]⟩
  · cases e

end
end Q
end Mini

open PySem PySem.W PySem.Calls PyProof.Rows
namespace Mini
noncomputable section Q

inductive KWs (ρ : Nat → Addr) (n : Nat) : List (Str × MV) → List (Str × Value) → Prop
  | nil : KWs ρ n [] []
  | cons {x m v ks vs} : vr ρ n m v → KWs ρ n ks vs → KWs ρ n ((x, m) :: ks) ((x, v) :: vs)

noncomputable def FnDen (G : Gl) (k : Nat) (f : Value) (g : List MV → List (Str × MV) → MH → Option (MV × MH)) : Prop :=
  ∀ {A : Around} {ρ : Nat → Addr} {H H' : MH} {s : Shared} {xs : List MV} {vs : List Value} {ks : List (Str × MV)} {kvs : List (Str × Value)} {r : MV}, Bud A k → Bas G ρ H s → VRs ρ H.n xs vs → KWs ρ H.n ks kvs →
    g xs ks H = some (r, H') → EvX G.M G.P A vr (call f vs kvs) ρ H s r H'
theorem FnDen.le {G : Gl} {k k' : Nat} {f : Value} {g : List MV → List (Str × MV) → MH → Option (MV × MH)} (h : FnDen G k f g) (hk : k ≤ k') : FnDen G k' f g := fun B => h (B.le hk)
theorem FnDen.sub {G : Gl} {k : Nat} {f : Value} {g g' : List MV → List (Str × MV) → MH → Option (MV × MH)} (h : FnDen G k f g) (hs : ∀ xs ks H r, g' xs ks H = some r → g xs ks H = some r) : FnDen G k f g' :=
  fun B b v kv e => h B b v kv (hs _ _ _ _ e)

section
variable {G : Gl} {A : Around} {ρ : Nat → Addr} {H H' : MH} {s : Shared} {x y r : MV} {a b : Value} {k : Nat}

theorem EvX.grown {M : Model} {P : Params} {β α : Type} {rel : (Nat → Addr) → Nat → β → α → Prop} {t : Sem α} {r : β} (R : Rep P ρ H s.heap)
    (h : ∀ Q : α → Shared → Prop, (∀ a h' tk, (∀ b o, s.heap.get? b = some o → h'.get? b = some o) → rel ρ H.n r a → Q a { s with heap := h', toks := tk }) → wpAny M A t Q (fun uq1 uq2 => False) s) : EvX M P A rel t ρ H s r H :=
  fun Q q => h Q fun a h' tk k z => q a _ ρ (.garbage k) (R.garbage k) z
theorem EvX.grownPush {M : Model} {P : Params} {t : Sem Value} {o : MO} (R : Rep P ρ H s.heap)
    (h : ∀ Q : Value → Shared → Prop, (∀ a ob h' tk, (∀ b o, s.heap.get? b = some o → h'.get? b = some o) → s.heap.get? a = none → h'.get? a = some ob → orep P (ext ρ H.n a) (H.n + 1) o ob → Q (.ref a) { s with heap := h', toks := tk }) → wpAny M A t Q (fun uq1 uq2 => False) s) :
    EvX M P A vr t ρ H s (.ref H.n) (H.push o) :=
  fun Q q => h Q fun a ob h' tk k ha hob hr => by
    obtain ⟨x, y⟩ := push_new (tk := tk) (ex := NoEx) R ha hob hr k
    exact q _ _ _ x y ⟨Nat.lt_succ_self _, by rw [ext_self]⟩

noncomputable def rangeF : List MV → List (Str × MV) → MH → Option (MV × MH)
  | [.int n], [], H => if small n then some (.ref H.n, H.push (.range 0 n)) else none
  | [.int a, .int b], [], H => if small a && small b then some (.ref H.n, H.push (.range a b)) else none
  | _, _, _ => none
theorem den_range : FnDen G k (.type "range") rangeF := fun B b v kv e => by
  unfold rangeF at e
  split at e
  · split at e
    · cases e
      cases kv; cases v with | cons hv hn => ?_
      cases hn
      obtain ⟨t, rfl⟩ := hv
      exact .push b.rep fun Q q => call_range_1 (q _ _ ⟨_, _, _, rfl⟩)
    · cases e
  · split at e
    · cases e
      cases kv; cases v with | cons hv hn => ?_
      cases hn with | cons hv2 hn => ?_
      cases hn
      obtain ⟨t, rfl⟩ := hv
      obtain ⟨t2, rfl⟩ := hv2
      exact .push b.rep fun Q q => call_range_2 (q _ _ ⟨_, _, _, rfl⟩)
    · cases e
  · cases e

noncomputable def chrF : List MV → List (Str × MV) → MH → Option (MV × MH)
  | [.int n], [], H => if 0 ≤ n ∧ n ≤ 1114111 then some (.str ⟨#[n.toNat]⟩, H) else none
  | _, _, _ => none
theorem den_chr : FnDen G k (.builtin "chr") chrF := fun B b v kv e => by
  unfold chrF at e
  split at e
  · split at e
    · rename_i hl
      cases e
      cases kv; cases v with | cons hv hn => ?_
      cases hn
      obtain ⟨t, rfl⟩ := hv
      exact .now b.rep fun Q q => chr_of_range hl.1 hl.2 (q _ _ ⟨_, rfl⟩)
    · cases e
  · cases e
noncomputable def strIF : List MV → List (Str × MV) → MH → Option (MV × MH)
  | [.int n], [], H => if small n then some (.str (toString n : String), H) else none
  | _, _, _ => none
theorem den_strI : FnDen G k (.type "str") strIF := fun B b v kv e => by
  unfold strIF at e
  split at e
  · split at e
    · rename_i hl
      cases e
      cases kv; cases v with | cons hv hn => ?_
      cases hn
      obtain ⟨t, rfl⟩ := hv
      refine .now b.rep fun Q q => PySem.P.str_of_int ?_ (q _ _ ⟨_, rfl⟩)
      rename_i n
      simp only [small, Bool.and_eq_true, decide_eq_true_eq] at hl
      by_cases h0 : n.natAbs = 0
      · rw [h0]; decide
      · exact Nat.lt_trans ((Nat.log2_lt (n := n.natAbs) (k := 63) h0).mpr (by omega)) (by decide)
    · cases e
  · cases e
noncomputable def maxF : List MV → List (Str × MV) → MH → Option (MV × MH)
  | [.int a, .int b], [], H => some (.int (if b > a then b else a), H)
  | _, _, _ => none
theorem den_max : FnDen G k (.builtin "max") maxF := fun B b v kv e => by
  unfold maxF at e
  split at e
  · cases e
    cases kv; cases v with | cons hv hn => ?_
    cases hn with | cons hv2 hn => ?_
    cases hn
    obtain ⟨t, rfl⟩ := hv
    obtain ⟨t2, rfl⟩ := hv2
    refine .grown b.rep fun Q q => max_two_ints B.h fun h' tk k => q _ _ _ k ?_
    split
    · exact ⟨_, rfl⟩
    · exact ⟨_, rfl⟩
  · cases e
noncomputable def sumF : List MV → List (Str × MV) → MH → Option (MV × MH)
  | [.ref l], [], H => match H.get l with
    | some (.list xs) => (intsOf xs).map fun ns => (.int ns.sum, H)
    | _ => none
  | _, _, _ => none
theorem den_sum : FnDen G k (.builtin "sum") sumF := fun B b v kv e => by
  unfold sumF at e
  split at e
  · split at e
    · rename_i h1
      obtain ⟨ns, e1, e⟩ := Option.map_eq_some_iff.mp e
      cases e
      cases kv; cases v with | cons hv hn => ?_
      cases hn
      obtain ⟨_, rfl⟩ := hv
      obtain ⟨vs, n1, g1, v1⟩ := rep_list b.rep h1
      have hi := intsAre_of v1 e1
      obtain ⟨xs, ex⟩ := hi.allInts.items
      have hns : ns = xs.toList.map (·.1) := by rw [← hi.numsOf, ← nums_intItems, ← ex]
      have hl := isList_of g1
      rw [ex] at hl
      refine .grown b.rep fun Q q => sum_intListG B.h hl fun h' tk t' k => q _ _ _ k ⟨t', ?_⟩
      rw [preSum_eq, List.take_of_length_le (by simp), hns]
    · cases e
  · cases e

noncomputable def upto (a : Int) : Nat → List MV
  | 0 => []
  | n + 1 => .int a :: upto (a + 1) n
theorem upto_length : ∀ (n : Nat) (a : Int), (upto a n).length = n
  | 0, _ => rfl
  | n + 1, a => by simp [upto, upto_length n]
theorem upto_get : ∀ (n : Nat) (a : Int) (i : Nat), i < n → (upto a n)[i]? = some (.int (a + i))
  | n + 1, a, 0, _ => by simp [upto]
  | n + 1, a, i + 1, h => by
    have := upto_get n (a + 1) i (by omega)
    simp only [upto, List.getElem?_cons_succ, this, Option.some.injEq, MV.int.injEq]
    omega
theorem VRs.of_get {n : Nat} : ∀ {xs : List MV} {vs : List Value}, xs.length = vs.length → (∀ (i : Nat) x v, xs[i]? = some x → vs[i]? = some v → vr ρ n x v) → VRs ρ n xs vs
  | [], [], _, _ => .nil
  | x :: xs, v :: vs, hl, h => .cons (h 0 x v rfl rfl) (VRs.of_get (by simpa using hl) fun i a b e e' => h (i + 1) a b (by simpa using e) (by simpa using e'))
noncomputable def listRF : List MV → List (Str × MV) → MH → Option (MV × MH)
  | [.ref l], [], H => match H.get l with
    | some (.range a b) => if small a && small b && ((b - a).toNat ≤ 100000 : Bool) then some (.ref H.n, H.push (.list (upto a (b - a).toNat))) else none
    | _ => none
  | _, _, _ => none
theorem den_listR : FnDen G k (.type "list") listRF := fun B b v kv e => by
  unfold listRF at e
  split at e
  · split at e
    · rename_i h1
      split at e
      · rename_i hs
        cases e
        cases kv; cases v with | cons hv hn => ?_
        cases hn
        obtain ⟨_, rfl⟩ := hv
        rename_i lo hi _
        simp only [small, Bool.and_eq_true, decide_eq_true_eq] at hs
        obtain ⟨ob, g1, t, u, v, rfl⟩ := b.rep.at_ _ _ h1
        have hsz : Builtin.Range.rangeSize lo hi 1 = ((hi - lo).toNat : Int) := by rw [rangeSize_one]; split <;> omega
        refine .grownPush b.rep fun Q q => call_list_range (n := (hi - lo).toNat) B.h g1 (small_one (by omega) (by omega) (by omega) (by omega)) hsz (by omega) fun h' tk acc' c' k hg hi' => ?_
        refine q _ _ _ _ k (fresh_none (Nat.le_refl _)) hg ⟨acc'.toList, c', by simp, ?_⟩
        refine VRs.of_get (by rw [upto_length, Array.length_toList]; exact hi'.1.symm) fun i x v e1 e2 => ?_
        have hlt : i < (hi - lo).toNat := by
          have := (List.getElem?_eq_some_iff.mp e1).1
          rwa [upto_length] at this
        rw [upto_get _ _ _ hlt] at e1
        cases e1
        obtain ⟨t, e3⟩ := hi'.2 i v (by simpa using e2)
        exact ⟨t, by rw [e3]; simp⟩
      · cases e
    · cases e
  · cases e
noncomputable def tupleF : List MV → List (Str × MV) → MH → Option (MV × MH)
  | [.ref l], [], H => match H.get l with
    | some (.list xs) => if xs.length ≤ 10000 then some (.ref H.n, H.push (.tup xs)) else none
    | _ => none
  | _, _, _ => none
theorem den_tupleL : FnDen G k (.type "tuple") tupleF := fun {uq1} {uq2} {uq3} {uq4} {s} {uq5} {uq6} {uq7} {uq8} {uq9} B b v kv e => by
  unfold tupleF at e
  split at e
  · split at e
    · rename_i h1
      split at e
      · rename_i hs
        cases e
        cases kv; cases v with | cons hv hn => ?_
        cases hn
        obtain ⟨_, rfl⟩ := hv
        obtain ⟨vs, n1, g1, v1⟩ := rep_list b.rep h1
        refine .grownPush b.rep fun Q q => call_tuple_list (isList_of g1) (fun h' k => q _ _ _ s.toks (fun b o e => Heap.get?_push_of_some _ (k b o e)) (by
            cases e : s.heap.get? h'.objs.size with
            | none => rfl
            | some o => exact absurd (Heap.lt_size (k _ _ e)) (Nat.lt_irrefl _)) (Heap.get?_push_size _ rfl) ⟨vs, 0, rfl, v1.mono (Nat.le_succ _) ext_lt⟩)
          (by rw [List.size_toArray, v1.length]; exact Nat.le_trans hs (by decide))
      · cases e
    · cases e
  · cases e
end
end Q
end Mini

open PySem PySem.W PySem.Calls PyProof.Rows
set_option maxRecDepth 100000
namespace Mini
noncomputable section Q

section
variable {G : Gl} {k : Nat} {sx : Sx} {A : Around} {ρ : Nat → Addr} {H H' : MH} {s : Shared}

noncomputable def Keeps (G : Gl) (f : Value) : Prop := ∀ h, G.K.In h → ∃ kp, (kp = Keeper.frame ∨ kp = Keeper.machine ∨ kp = Keeper.boundFrame) ∧ Looks G.M h (keeperOf f) kp
theorem keeps_builtin {id : String} : Keeps G (.builtin id) := fun uq1 uq2 => ⟨.machine, .inr (.inl rfl), Looks.of_pure rfl⟩
theorem keeps_type {id : String} : Keeps G (.type id) := fun uq1 uq2 => ⟨.machine, .inr (.inl rfl), Looks.of_pure rfl⟩
theorem keeps_K' {f : Value} (h : keepIn G.K f = true) : Keeps G f := keeps_K h

theorem evalArgs_any {M : Model} {A : Around} {E : Value → Shared → Prop} {f : Value} {l : List (Bool × Sem Value)} {keywords : List (Option Str × Sem Value)} {Q : Args → Shared → Prop} (hl : l.any (·.1) = false) (hk : keywords.any (·.1.isNone) = false)
    (h : wpAny M A (spliced l) (fun vs s₁ => wpAny M A (evalAll (keywords.map (·.2))) (fun ks s₂ => Q ⟨vs, (keywords.filterMap (·.1)).zip ks⟩ s₂) E s₁) E s) : wpAny M A (evalArgs f true l keywords) Q E s := by
  have hk' : keywords.all (·.1.isSome) = true := by
    rw [List.all_eq_true]
    intro x hx
    rw [List.any_eq_false] at hk
    have := hk x hx
    cases h : x.1 with
    | none => rw [h] at this; exact absurd rfl this
    | some _ => rfl
  cases l with
  | nil =>
    refine evalArgs_kw_nil hk' ?_
    exact fun Γ p hΓ => h Γ p hΓ Γ p hΓ
  | cons p r =>
    obtain ⟨b, x⟩ := p
    have hb : b = false := by
      simp only [List.any_cons, Bool.or_eq_false_iff] at hl
      exact hl.1
    subst hb
    exact evalArgs_kw hk' h

noncomputable abbrev kwNames (kws : List Keyword) (env : Env) (pos : Pos) : List Str := (backToKw pos (keywordEach kws env)).filterMap (·.1)
noncomputable def DenKs (G : Gl) (k : Nat) (sx : Sx) (kws : List Keyword) (d : St → Option (List (Str × MV) × MH)) : Prop :=
  ∀ {env : Env} {A : Around} {ρ : Nat → Addr} {st : St} {s : Shared} {v : List (Str × MV)} {H' : MH}, Fst G env sx → Bud A k → InF G env sx ρ st s → d st = some (v, H') →
    ∀ pos, EvX G.M G.P A (fun ρ n ks vs => KWs ρ n ks ((kwNames kws env pos).zip vs)) (evalAll ((backToKw pos (keywordEach kws env)).map (·.2))) ρ st.H s v H'

theorem KWs.mono {ρ ρ' : Nat → Addr} {n n' : Nat} (hn : n ≤ n') (ha : ∀ l, l < n → ρ' l = ρ l) {ks : List (Str × MV)} {vs : List (Str × Value)} (h : KWs ρ n ks vs) : KWs ρ' n' ks vs := by
  induction h with
  | nil => exact .nil
  | cons h _ ih => exact .cons (vr_mono hn ha h) ih
theorem dks_nil : DenKs G k sx [] (fun st => some ([], st.H)) := fun uq1 uq2 I e pos => by
  cases e; exact .now I.bas.rep fun Q q => wpAny_evalAll_nil (q _ _ .nil)
theorem dks_cons {x : Str} {e : Expr} {p : Pos} {kws : List Keyword} {d : St → Option (MV × MH)} {ds : St → Option (List (Str × MV) × MH)} (h : DenE G k sx e d) (hs : DenKs G k sx kws ds) :
    DenKs G k sx (⟨some x, e, p⟩ :: kws) (fun st => (d st).bind fun p => (ds ⟨st.vs, p.2⟩).bind fun q => some ((x, p.1) :: q.1, q.2)) := fun F B I e pos => by
  obtain ⟨⟨v, H₁⟩, e1, e⟩ := Option.bind_eq_some_iff.mp e
  obtain ⟨⟨xs, H₂⟩, e2, e⟩ := Option.bind_eq_some_iff.mp e
  cases e
  refine fun Q q => ?_
  refine wpAny_evalAll_cons (wpAny_bind (h F B I e1 _ fun a s₁ ρ₁ a₁ r₁ v₁ => wpAny_bind (wpAny_standAt (wpAny_pure (hs F B (I.after a₁ r₁) e2 pos _ fun vs s₂ ρ₂ a₂ r₂ v₂ => q _ s₂ ρ₂ (a₁.trans a₂) r₂ (.cons (vr_mono a₂.le a₂.agree v₁) v₂))))))

theorem callWith_den {env : Env} {st : St} {args : List Expr} {kws : List Keyword} {ds : St → Option (List MV × MH)} {dk : St → Option (List (Str × MV) × MH)} {fv : Value} {first : List Value} {firstM : List MV} {g : List MV → List (Str × MV) → MH → Option (MV × MH)} {r : MV} {pos : Pos}
    (hk : Keeps G fv) (ha : DenEs G k sx args ds) (hw : DenKs G k sx kws dk) (hpl : ∀ env pos, (backTo pos (starEach args env)).any (·.1) = false) (hpk : ∀ env pos, (backToKw pos (keywordEach kws env)).any (·.1.isNone) = false) (hf : FnDen G k fv g)
    (F : Fst G env sx) (B : Bud A k) (I : InF G env sx ρ st s) (hfirst : VRs ρ st.H.n firstM first)
    (e : ((ds st).bind fun p => (dk ⟨st.vs, p.2⟩).bind fun q => g (firstM ++ p.1) q.1 q.2) = some (r, H')) :
    EvX G.M G.P A vr (callWith pos fv first (backTo pos (starEach args env)) (backToKw pos (keywordEach kws env))) ρ st.H s r H' := by
  obtain ⟨⟨xs, H₁⟩, e1, e⟩ := Option.bind_eq_some_iff.mp e
  obtain ⟨⟨ks, H₂⟩, e2, e⟩ := Option.bind_eq_some_iff.mp e
  refine fun Q q => callWith_of (P := G.K.In) (by rw [hpl, hpk]; rfl) hk (evalArgs_any (hpl _ _) (hpk _ _) ?_)
  refine ha F B I e1 pos _ fun vs s₁ ρ₁ a₁ r₁ v₁ => hw F B (I.after a₁ r₁) e2 pos _ fun kvs s₂ ρ₂ a₂ r₂ v₂ => ?_
  have I2 := (I.after a₁ r₁).after a₂ r₂
  refine ⟨I2.bas.K, hf B I2.bas ?_ v₂ e _ fun c s₃ ρ₃ a₃ r₃ v₃ => q c s₃ ρ₃ ((a₁.trans a₂).trans a₃) r₃ v₃⟩
  exact ((hfirst.mono a₁.le a₁.agree).append v₁).mono a₂.le a₂.agree

theorem den_call {id : Str} {p pos : Pos} {args : List Expr} {kws : List Keyword} {fv : Value} {ds : St → Option (List MV × MH)} {dk : St → Option (List (Str × MV) × MH)} {g : List MV → List (Str × MV) → MH → Option (MV × MH)}
    (hn : DenE G k sx (.Name id p) (fun st => some (.val fv, st.H))) (hk : Keeps G fv) (ha : DenEs G k sx args ds) (hw : DenKs G k sx kws dk) (hpl : ∀ env pos, (backTo pos (starEach args env)).any (·.1) = false) (hpk : ∀ env pos, (backToKw pos (keywordEach kws env)).any (·.1.isNone) = false) (hf : FnDen G k fv g) :
    DenE G k sx (.Call (.Name id p) args kws pos) (fun st => (ds st).bind fun p => (dk ⟨st.vs, p.2⟩).bind fun q => g p.1 q.1 q.2) := fun F B I e => by
  refine fun Q q => ?_
  rw [arm_eval_Call_Name']
  refine wpAny_bind (hn F B I rfl _ fun a s₁ ρ₁ a₁ r₁ v₁ => ?_)
  cases v₁
  exact callWith_den (firstM := []) hk ha hw hpl hpk hf F B (I.after a₁ r₁) .nil e _ fun c s₃ ρ₃ a₃ r₃ v₃ => q c s₃ ρ₃ (a₁.trans a₃) r₃ v₃

noncomputable def GetM (G : Gl) (name : Str) (fv : Value) (rcv : MV → MH → Bool) : Prop :=
  ∀ {A : Around} {ρ : Nat → Addr} {H : MH} {s : Shared} {x : MV} {ov : Value} {pl : Sem Bool} {Q : Value × List Value → Shared → Prop} {E : Value → Shared → Prop}, Bas G ρ H s → rcv x H = true → vr ρ H.n x ov → Q (fv, [ov]) s → wpAny G.M A (getMethod ov name pl) Q E s

theorem den_meth {o : Expr} {name : Str} {apos pos : Pos} {args : List Expr} {kws : List Keyword} {fv : Value} {d : St → Option (MV × MH)} {ds : St → Option (List MV × MH)} {dk : St → Option (List (Str × MV) × MH)} {g : List MV → List (Str × MV) → MH → Option (MV × MH)} {rcv : MV → MH → Bool}
    (he : ∀ env, eval (.Call (.Attribute o name apos) args kws pos) env = (do
      let ov ← eval o env
      standAt apos.atName
      let (f, first) ← holding [ov] (getMethod ov name (do return (← importBound o env).getD true))
      callWith pos f first (backTo pos (starEach args env)) (backToKw pos (keywordEach kws env))))
    (ho : DenE G k sx o d) (hm : GetM G name fv rcv) (hk : Keeps G fv) (ha : DenEs G k sx args ds) (hw : DenKs G k sx kws dk) (hpl : ∀ env pos, (backTo pos (starEach args env)).any (·.1) = false) (hpk : ∀ env pos, (backToKw pos (keywordEach kws env)).any (·.1.isNone) = false) (hf : FnDen G k fv g) :
    DenE G k sx (.Call (.Attribute o name apos) args kws pos) (fun st => (d st).bind fun r => if rcv r.1 r.2 = true then (ds ⟨st.vs, r.2⟩).bind fun p => (dk ⟨st.vs, p.2⟩).bind fun q => g (r.1 :: p.1) q.1 q.2 else none) := fun F B I e => by
  obtain ⟨⟨x, H₁⟩, e1, e⟩ := Option.bind_eq_some_iff.mp e
  dsimp only at e
  split at e
  · rename_i hr
    refine fun Q q => ?_
    rw [he]
    refine wpAny_bind (ho F B I e1 _ fun ov s₁ ρ₁ a₁ r₁ v₁ => wpAny_bind (wpAny_standAt (wpAny_bind (wpAny_holding (hm (I.after a₁ r₁).bas hr v₁ ?_)))))
    exact callWith_den (firstM := [x]) hk ha hw hpl hpk hf F B (I.after a₁ r₁) (.cons v₁ .nil) e _ fun c s₃ ρ₃ a₃ r₃ v₃ => q c s₃ ρ₃ (a₁.trans a₃) r₃ v₃
  · cases e

noncomputable def isListM (x : MV) (H : MH) : Bool := match x with
  | .ref l => (match H.get l with | some (.list _) => true | _ => false)
  | _ => false
theorem getM_list {name : Str} {id : String} (slot : Slot "list" name id) (hty : typeOf (.builtin id) = pure (.type "method_descriptor")) : GetM G name (.builtin id) isListM := fun B hr v q => by
  unfold isListM at hr
  split at hr
  · split at hr
    · rename_i xs h1
      obtain ⟨_, rfl⟩ := v
      obtain ⟨vs, n1, g1, v1⟩ := rep_list B.rep h1
      exact getMethod_builtin ⟨_, g1, rfl⟩ PySem.F.plainAttrs_list slot hty (fun a e => by cases e; exact ⟨_, g1, rfl⟩) q
    · cases hr
  · cases hr
noncomputable def isStrM (x : MV) (_ : MH) : Bool := match x with
  | .str _ => true
  | _ => false
theorem getM_str {name : Str} {id : String} (slot : Slot "str" name id) (hty : typeOf (.builtin id) = pure (.type "method_descriptor")) : GetM G name (.builtin id) isStrM := fun B hr v q => by
  unfold isStrM at hr
  split at hr
  · obtain ⟨t, rfl⟩ := v
    exact getMethod_builtin (typeIs_str _ _ _) PySem.F.plainAttrs_str slot hty (fun a e => by cases e) q
  · cases hr

noncomputable def instOf (C : Addr) (x : MV) (H : MH) : Option (List (Str × MV)) := match x with
  | .ref l => (match H.get l with
    | some (.inst C' d) => if C' = C then (match H.get d with | some (.ns es) => some es | _ => none) else none
    | _ => none)
  | _ => none
theorem lookIn_ess {n : Nat} {es : List (Str × MV)} {dl : List DictEntry} {o : Obj} {kk : Nat} (hd' : o = dictOf dl kk) (h' : ESl ρ n es dl) (x : Str) : (es.lookup x = none → lookIn x o = some none) ∧ ∀ m, es.lookup x = some m → ∃ v, lookIn x o = some (some v) ∧ vr ρ n m v := by
  obtain ⟨ds, hds⟩ : ∃ ds, ds = dl.toArray := ⟨_, rfl⟩
  have hd : o.data = .dict ds kk := by rw [hd', hds]
  have h : ESs ρ n es ds := hds ▸ h'.ess
  clear hds hd' h'
  have hkey : ds.toList.any (·.refKey) = false := by
    rw [List.any_eq_false]
    intro e he
    obtain ⟨y, t, q⟩ := h.1 e (by simpa using he)
    simp [DictEntry.refKey, q]
  have key : lookIn x o = some (nsFind ds x) := by
    unfold lookIn nsFind findBy
    rw [hd]
    dsimp only
    rw [← Array.find?_toList]
    cases ds.toList.find? (fun e => e.key.isStr x) with
    | some e => rfl
    | none => simp [hkey]
  constructor
  · intro e; rw [key, (h.2 x).1 e]
  · intro m e
    obtain ⟨v, a, b⟩ := (h.2 x).2 m e
    exact ⟨v, by rw [key, a], b⟩
theorem instOf_at {C : Addr} {x : MV} {es : List (Str × MV)} {v : Value} (B : Bas G ρ H s) (e : instOf C x H = some es) (hv : vr ρ H.n x v) :
    ∃ l d od kk ds, x = .ref l ∧ H.get l = some (.inst C d) ∧ H.get d = some (.ns es) ∧ v = .ref (ρ l) ∧ s.heap.get? (ρ d) = some od ∧ od = dictOf ds kk ∧ ESl ρ H.n es ds ∧ InstAt s.heap (ρ l) (instObj C (ρ d)) C (some od) := by
  unfold instOf at e
  split at e
  · split at e
    · rename_i h1
      split at e
      · rename_i hC
        split at e
        · rename_i h2
          cases e; subst hC
          obtain ⟨_, rfl⟩ := hv
          obtain ⟨o1, g1, _, rfl⟩ := B.rep.at_ _ _ h1
          obtain ⟨od, g2, ds, kk, hd, he⟩ := B.rep.at_ _ _ h2
          exact ⟨_, _, od, kk, ds, rfl, h1, h2, rfl, g2, hd, he, ⟨g1, rfl, rfl, g2⟩⟩
        · cases e
      · cases e
    · cases e
  · cases e
noncomputable def hasNo (C : Addr) (name : Str) (x : MV) (H : MH) : Bool := match instOf C x H with
  | some es => (getS es name).isNone
  | none => false
theorem getM_inst {C f : Addr} {name : Str} (hg : plainGet G.K C name = true) (hf : findIn G.K (.ref C) name = some (some (.ref f))) (ht : isFn G.K (.ref f) = true) : GetM G name (.ref f) (hasNo C name) := fun B hr v q => by
  unfold hasNo at hr
  split at hr
  · rename_i es h1
    rw [getS_eq] at hr
    obtain ⟨l, d, od, kk, ds, rfl, h2, h3, rfl, g2, hd, he, I⟩ := instOf_at B h1 v
    refine method_fn B.K I (plainGet_of hg).1 (plainGet_of hg).2 hf (beq_iff_eq.mp ht) ?_ q
    show (lookIn name od).map _ = _
    rw [(lookIn_ess hd he name).1 (by simpa using hr)]
    rfl
  · cases hr

theorem eval_Attr {value : Expr} {attr : Str} {pos : Pos} {env : Env} {M : Model} {A : Around} {E : Value → Shared → Prop} {Q : Value → Shared → Prop} (hb : attributeBase value attr env (eval value env) = eval value env) (hl : ∀ o r, letTemporaryGo value o r = pure ())
    (h : wpAny M A (eval value env) (fun o s₁ => wpAny M A (getAttr o attr true) Q E s₁) E s) : wpAny M A (eval (.Attribute value attr pos) env) Q E s := by
  show wpAny M A (do
    let o ← attributeBase value attr env (eval value env)
    standAt pos.atName
    let r ← holding [o] (getAttr o attr true)
    letTemporaryGo value o r
    pure r) Q E s
  rw [hb]
  refine wpAny_bind (wpAny_mono h (fun o s₁ h₁ => wpAny_bind (wpAny_standAt (wpAny_bind (wpAny_holding (wpAny_mono h₁ (fun r s₂ h₂ => ?_) fun uq1 uq2 x => x))))) fun uq1 uq2 x => x)
  rw [hl]
  exact wpAny_bind (wpAny_pure (wpAny_pure h₂))

theorem handed_of {n : Nat} {m : MV} {v : Value} (h : vr ρ n m v) (hn : ∀ id, m ≠ .val (.builtin id)) : handedIn v = true := by
  cases m with
  | int i => obtain ⟨t, rfl⟩ := h; rfl
  | str i => obtain ⟨t, rfl⟩ := h; rfl
  | ref i => obtain ⟨_, rfl⟩ := h; rfl
  | val i =>
    have h : v = i := h
    subst h
    cases v <;> first | rfl | exact absurd rfl (hn _)
  | clo => exact h.elim
noncomputable def attrOf (C : Addr) (name : Str) (x : MV) (H : MH) : Option (MV × MH) := (instOf C x H).bind fun es => match getS es name with
  | some (.val (.builtin _)) => none
  | some (.val (.type _)) => none
  | some v => some (v, H)
  | none => none
theorem den_attr {value : Expr} {attr : Str} {pos : Pos} {C : Addr} {d : St → Option (MV × MH)} {a : Option Value} (hv : DenE G k sx value d) (hb : ∀ env, attributeBase value attr env (eval value env) = eval value env) (hl : ∀ o r, letTemporaryGo value o r = pure ())
    (hg : plainGet G.K C attr = true) (hh : hasDictIn G.K C = true) (ha : findIn G.K (.ref C) attr = some a) (hn : noGet G.K a = true) :
    DenE G k sx (.Attribute value attr pos) (fun st => (d st).bind fun p => attrOf C attr p.1 p.2) := fun {uq1} {A} {uq2} {uq3} {uq4} {uq5} {uq6} F B I e => by
  obtain ⟨⟨x, H₁⟩, e1, e⟩ := Option.bind_eq_some_iff.mp e
  obtain ⟨es, e2, e⟩ := Option.bind_eq_some_iff.mp e
  rw [getS_eq] at e
  refine fun Q q => eval_Attr (hb _) hl (hv F B I e1 _ fun o s₁ ρ₁ a₁ r₁ v₁ => ?_)
  have I1 := (I.after a₁ r₁).bas
  obtain ⟨l, d, od, kk, ds, rfl, h2, h3, rfl, g2, hd, he, J⟩ := instOf_at I1 e2 v₁
  have fin : ∀ v m, es.lookup attr = some m → lookIn attr od = some (some v) → vr ρ₁ H₁.n m v → handedIn v = true → Q v { s₁ with toks := s₁.toks + 1 } → wpAny G.M A (getAttr (.ref (ρ₁ l)) attr true) Q (fun uq1 uq2 => False) s₁ :=
    fun v m uq1 hlk uq2 hh' qq => get_value I1.K J (plainGet_of hg).1 (findObj_own hh ha hn hlk) hh' qq
  split at e
  · cases e
  · cases e
  · rename_i m n1 n2 hm
    cases e
    obtain ⟨v, hlk, hvr⟩ := (lookIn_ess hd he attr).2 _ hm
    exact fin v _ hm hlk hvr (handed_of hvr fun id z => n1 id z) (q v _ ρ₁ (a₁.trans .toks) r₁ hvr)
  · cases e

theorem den_clsattr {value : Expr} {attr : Str} {pos : Pos} {C : Addr} {d : St → Option (MV × MH)} {mc : Value} {x : Str} (hv : DenE G k sx value d) (hb : ∀ env, attributeBase value attr env (eval value env) = eval value env) (hl : ∀ o r, letTemporaryGo value o r = pure ())
    (hr : readsIn G.K C mc = true) {t : Tok} (e' : findCls G.K (.ref C) mc attr = some (.val (.str x t))) :
    DenE G k sx (.Attribute value attr pos) (fun st => (d st).bind fun p => if p.1 = .val (.ref C) then some (.str x, p.2) else none) := fun F B I e => by
  obtain ⟨⟨y, H₁⟩, e1, e⟩ := Option.bind_eq_some_iff.mp e
  dsimp only at e
  split at e
  · rename_i hy
    cases e; subst hy
    refine fun Q q => eval_Attr (hb _) hl (hv F B I e1 _ fun o s₁ ρ₁ a₁ r₁ v₁ => ?_)
    cases v₁
    exact cls_value (I.after a₁ r₁).bas.K hr e' rfl (q _ _ ρ₁ (a₁.trans .toks) r₁ ⟨_, rfl⟩)
  · cases e

end
end Q
end Mini

open PySem PySem.W PySem.Calls PyProof.Rows
set_option maxRecDepth 100000
namespace Mini
noncomputable section Q

section
variable {G : Gl} {k : Nat} {sx : Sx} {A : Around} {ρ : Nat → Addr} {H H' : MH} {s : Shared}

noncomputable def listAt (G : Gl) (x : MV) (H : MH) : Option (List MV) := match x with
  | .ref l => (match H.get l with
    | some (.list xs) => some xs
    | _ => none)
  | .val (.ref a) => (G.lists a).map (·.map .int)
  | _ => none
theorem vrs_ints {n : Nat} {vs : List Value} {ns : List Int} (h : IntsAre vs ns) : VRs ρ n (ns.map .int) vs := by
  induction h with
  | nil => exact .nil
  | cons i t _ ih => exact .cons ⟨t, rfl⟩ ih
theorem listAt_ok {x : MV} {v : Value} {xs : List MV} (B : Bas G ρ H s) (hv : vr ρ H.n x v) (e : listAt G x H = some xs) : ∃ a vs, v = .ref a ∧ s.heap.IsList a (List.toArray vs) ∧ VRs ρ H.n xs vs := by
  unfold listAt at e
  split at e
  · split at e
    · rename_i h1
      cases e
      obtain ⟨_, rfl⟩ := hv
      obtain ⟨vs, n1, g1, v1⟩ := rep_list B.rep h1
      exact ⟨_, vs, rfl, isList_of g1, v1⟩
    · cases e
  · obtain ⟨ns, e1, e⟩ := Option.map_eq_some_iff.mp e
    cases e; cases hv
    obtain ⟨vs, ⟨o, ho, r⟩, hi⟩ := G.listsOk _ _ e1
    exact ⟨_, vs, rfl, ⟨o, (B.base _ _ ho).1, r⟩, vrs_ints hi⟩
  · cases e

noncomputable def tupAt (x : MV) (H : MH) : Option (List MV) := match x with
  | .ref l => (match H.get l with
    | some (.tup xs) => some xs
    | _ => none)
  | _ => none
theorem rep_tup {P : Params} {h : Heap} {l : Nat} {xs : List MV} (R : Rep P ρ H h) (e : H.get l = some (.tup xs)) : ∃ vs n, h.get? (ρ l) = some (tupOf (List.toArray vs) n) ∧ VRs ρ H.n xs vs := by
  obtain ⟨ob, h1, vs, n, rfl, h2⟩ := R.at_ l _ e
  exact ⟨vs, n, h1, h2⟩
theorem tupAt_ok {x : MV} {v : Value} {xs : List MV} (B : Bas G ρ H s) (hv : vr ρ H.n x v) (e : tupAt x H = some xs) : ∃ a vs, v = .ref a ∧ IsTup s.heap a (List.toArray vs) ∧ VRs ρ H.n xs vs := by
  unfold tupAt at e
  split at e
  · split at e
    · rename_i h1
      cases e
      obtain ⟨_, rfl⟩ := hv
      obtain ⟨vs, n1, g1, v1⟩ := rep_tup B.rep h1
      exact ⟨_, vs, rfl, ⟨_, g1, rfl, _, rfl⟩, v1⟩
    · cases e
  · cases e
noncomputable def lenS (G : Gl) : List MV → List (Str × MV) → MH → Option (MV × MH)
  | [x], [], H => match listAt G x H with
    | some xs => if xs.length ≤ 100000 then some (.int xs.length, H) else none
    | none => match tupAt x H with
      | some xs => if xs.length ≤ 100000 then some (.int xs.length, H) else none
      | none => none
  | _, _, _ => none
theorem den_lenS : FnDen G k (.builtin "len") (lenS G) := fun {uq1} {uq2} {uq3} {uq4} {s} {uq5} {uq6} {uq7} {uq8} {uq9} B b v kv e => by
  unfold lenS at e
  split at e
  case h_2 => cases e
  cases kv; cases v with | cons hv hn => ?_
  cases hn
  split at e
  · rename_i xs e1
    split at e
    · rename_i hl; cases e
      obtain ⟨a, vs, rfl, il, v1⟩ := listAt_ok b hv e1
      exact .now b.rep fun Q q => call_len_list il (by rw [List.size_toArray, v1.length]; omega) (q _ _ ⟨s.toks + 1, by rw [List.size_toArray, v1.length]⟩)
    · cases e
  · split at e
    · rename_i xs e1
      split at e
      · rename_i hl; cases e
        obtain ⟨a, vs, rfl, it, v1⟩ := tupAt_ok b hv e1
        exact .now b.rep fun Q q => len_tuple it (by rw [List.size_toArray, v1.length]; omega) (q _ _ ⟨_, by rw [List.size_toArray, v1.length]⟩)
      · cases e
    · cases e
noncomputable def itemop (G : Gl) (x i : MV) (H : MH) : Option (MV × MH) := match i with
  | .int i => if 0 ≤ i ∧ i < 2 ^ 62 then ((listAt G x H).orElse fun uq1 => tupAt x H).bind fun xs => (xs[i.toNat]?).map fun v => (v, H) else none
  | _ => none
theorem den_index {value slice : Expr} {pos : Pos} {dv di : St → Option (MV × MH)} (hv : DenE G k sx value dv) (hi : DenE G k sx slice di) (hs : ∀ o i, subscripted slice false o i = operate [o, i] (getItem o i)) :
    DenE G k sx (.Subscript value slice pos) (seq2 dv di (itemop G)) := fun {uq1} {uq2} {uq3} {uq4} {uq5} {uq6} {Hr} F B I e => by
  obtain ⟨⟨x, H₁⟩, e1, e⟩ := Option.bind_eq_some_iff.mp e
  obtain ⟨⟨y, H₂⟩, e2, e⟩ := Option.bind_eq_some_iff.mp e
  refine fun Q q => Subscript_ (hv F B I e1 _ fun o s₁ ρ₁ a₁ r₁ v₁ => hi F B (I.after a₁ r₁) e2 _ fun i s₂ ρ₂ a₂ r₂ v₂ => ?_)
  have B2 := ((I.after a₁ r₁).after a₂ r₂).bas
  have v₁' := vr_mono a₂.le a₂.agree v₁
  dsimp only at e
  unfold itemop at e
  split at e
  · rename_i j
    split at e
    · rename_i hb
      obtain ⟨xs, e3, e⟩ := Option.bind_eq_some_iff.mp e
      obtain ⟨w, e4, e⟩ := Option.map_eq_some_iff.mp e
      cases e
      obtain ⟨t, rfl⟩ := v₂
      cases hl : listAt G x Hr with
      | some ys =>
        rw [hl] at e3; cases e3
        obtain ⟨a, vs, rfl, il, v3⟩ := listAt_ok B2 v₁' hl
        obtain ⟨u, e5, v5⟩ := v3.get e4
        exact tail_any il.typeIs slot_list_getitem.lookup (wpAny_getItem_list il hb.1 (by omega) (by simpa using e5) (q u _ ρ₂ (a₁.trans a₂) r₂ v5)) (hs _ _)
      | none =>
        rw [hl] at e3
        obtain ⟨a, vs, rfl, il, v3⟩ := tupAt_ok B2 v₁' e3
        obtain ⟨u, e5, v5⟩ := v3.get e4
        have hlt := (List.getElem?_eq_some_iff.mp e5).1
        refine tail_any il.typeIs slot_tuple_getitem.lookup (getItem_tuple (j := j.toNat) il (by omega) (by omega) ?_ (by simpa using e5) (q u _ ρ₂ (a₁.trans a₂) r₂ v5)) (hs _ _)
        unfold seqIndex?
        have hj : ¬ j < 0 := by omega
        simp only [List.size_toArray, hj, if_false]
        rw [if_pos (by simp only [Bool.and_eq_true, decide_eq_true_eq]; omega)]
    · cases e
  · cases e

noncomputable def DenP (G : Gl) (k : Nat) (sx : Sx) (e : Option Expr) (d : St → Option (MV × MH)) : Prop :=
  ∀ {env : Env} {A : Around} {ρ : Nat → Addr} {st : St} {s : Shared} {v : MV} {H' : MH}, Fst G env sx → Bud A k → InF G env sx ρ st s → d st = some (v, H') → EvX G.M G.P A vr (evalPart e env) ρ st.H s v H'
theorem denp_none : DenP G k sx none (fun st => some (.val .none, st.H)) := fun {uq1} {uq2} {uq3} {uq4} {s} {uq5} {uq6} uq7 uq8 I e => by
  cases e; exact .now I.bas.rep fun Q q => wpAny_evalPart_none (q _ s.toks rfl)
theorem denp_some {e : Expr} {d : St → Option (MV × MH)} (h : DenE G k sx e d) : DenP G k sx (some e) d := fun F B I e => h F B I e
noncomputable def partOf : MV → Option (Option Int)
  | .val .none => some none
  | .int i => if small i then some (some i) else none
  | _ => none
theorem partOf_ok {n : Nat} {x : MV} {v : Value} {p : Option Int} (hv : vr ρ n x v) (e : partOf x = some p) : IsPart v p := by
  unfold partOf at e
  split at e
  · cases e; cases hv; exact .none
  · split at e
    · rename_i hs
      cases e
      obtain ⟨t, rfl⟩ := hv
      simp only [small, Bool.and_eq_true, decide_eq_true_eq] at hs
      exact IsPart.int _ _
    · cases e
  · cases e
noncomputable def sliceop (G : Gl) (x lo hi : MV) (H : MH) : Option (MV × MH) := (listAt G x H).bind fun xs => (partOf lo).bind fun l => (partOf hi).bind fun h =>
  if xs.length ≤ 100000 then some (.ref H.n, H.push (.list ((xs.drop (kms_lo l xs.length)).take (kms_hi h xs.length - kms_lo l xs.length)))) else none
theorem den_slice {value : Expr} {lower upper : Option Expr} {p pos : Pos} {dv dl du : St → Option (MV × MH)} (hv : DenE G k sx value dv) (hl : DenP G k sx lower dl) (hu : DenP G k sx upper du) :
    DenE G k sx (.Subscript value (.Slice lower upper none p) pos) (fun st => (dv st).bind fun x => (dl ⟨st.vs, x.2⟩).bind fun l => (du ⟨st.vs, l.2⟩).bind fun u => sliceop G x.1 l.1 u.1 u.2) := fun F B I e => by
  obtain ⟨⟨x, H₁⟩, e1, e⟩ := Option.bind_eq_some_iff.mp e
  obtain ⟨⟨l, H₂⟩, e2, e⟩ := Option.bind_eq_some_iff.mp e
  obtain ⟨⟨u, H₃⟩, e3, e⟩ := Option.bind_eq_some_iff.mp e
  obtain ⟨xs, e4, e⟩ := Option.bind_eq_some_iff.mp e
  obtain ⟨pl, e5, e⟩ := Option.bind_eq_some_iff.mp e
  obtain ⟨pu, e6, e⟩ := Option.bind_eq_some_iff.mp e
  split at e
  · rename_i hsz
    cases e
    refine fun Q q => Subscript_ (hv F B I e1 _ fun o s₁ ρ₁ a₁ r₁ v₁ => wpAny_Slice (hl F B (I.after a₁ r₁) e2 _ fun vl s₂ ρ₂ a₂ r₂ v₂ => hu F B ((I.after a₁ r₁).after a₂ r₂) e3 _ fun vu s₃ ρ₃ a₃ r₃ v₃ => wpAny_evalPart_none ?_))
    have B3 := (((I.after a₁ r₁).after a₂ r₂).after a₃ r₃).bas
    have v₁' := vr_mono a₃.le a₃.agree (vr_mono a₂.le a₂.agree v₁)
    have v₂' := vr_mono a₃.le a₃.agree v₂
    obtain ⟨a, vs, rfl, il, v4⟩ := listAt_ok B3 v₁' e4
    refine tail_any (il.push _).typeIs slot_list_getitem.lookup (wpAny_getItem_list_slice (il.push _) (Heap.IsSliceOf.new ..) (partOf_ok v₂' e5) (partOf_ok v₃ e6) .none (by simp) ?_ (by rw [List.size_toArray, v4.length]; exact Nat.le_trans hsz (by decide))) (by rfl)
    rw [kms_pick_eq]
    obtain ⟨z1, z2⟩ := push_new (s := s₃) (tk := s₃.toks) (ex := NoEx) (o := .list ((xs.drop (kms_lo pl xs.length)).take (kms_hi pu xs.length - kms_lo pl xs.length)))
      (h' := (s₃.heap.push { cls := .type "slice", data := .fields #[vl, vu, .none] }).push { cls := .type "list", data := .seq (kms_pick vs pl pu).toArray }) r₃ (fresh_none (by rw [Heap.size_push]; omega)) (Heap.get?_push_size _ rfl)
      ⟨kms_pick vs pl pu, 0, rfl, by unfold kms_pick; rw [v4.length]; exact ((v4.drop _).take _).mono (Nat.le_succ _) ext_lt⟩
      (fun b o e => Heap.get?_push_of_some _ (Heap.get?_push_of_some _ e))
    exact q _ _ _ (((a₁.trans a₂).trans a₃).trans z1) z2 ⟨Nat.lt_succ_self _, by rw [ext_self]⟩
  · cases e

theorem EvX.set {M : Model} {P : Params} {α β : Type} {rel : (Nat → Addr) → Nat → β → α → Prop} {t : Sem α} {l : Nat} {o o' : MO} {r : β} (R : Rep P ρ H s.heap) (hl : H.get l = some o)
    (h : ∀ Q : α → Shared → Prop, (∀ a ob h' tk, h'.get? (ρ l) = some ob → orep P ρ H.n o' ob → (∀ b x, b ≠ ρ l → s.heap.get? b = some x → h'.get? b = some x) → rel ρ H.n r a → Q a { s with heap := h', toks := tk }) → wpAny M A t Q (fun uq1 uq2 => False) s) :
    EvX M P A rel t ρ H s r (H.set l o') := fun Q q => h Q fun a ob h' tk h1 h2 h3 z => by
    obtain ⟨x, y⟩ := set_own (tk := tk) (ex := NoEx) R hl h1 h2 h3
    exact q _ _ _ x y z

noncomputable def appendF : List MV → List (Str × MV) → MH → Option (MV × MH)
  | [.ref l, x], [], H => match H.get l with
    | some (.list xs) => if xs.length ≤ 100000 then some (.val .none, H.set l (.list (xs ++ [x]))) else none
    | _ => none
  | _, _, _ => none
theorem updSeq {h : Heap} {a : Addr} {vs : List Value} {n : Nat} (g : h.get? a = some (listOf (List.toArray vs) n)) (f : Array Value → Array Value) : ∃ n', (h.update a (Obj.mapSeq f)).get? a = some (listOf (f (List.toArray vs)) n') :=
  ⟨_, get?_update_seq (c := "list") g f⟩
theorem den_append : FnDen G k (.builtin "list.append") appendF := fun {uq1} {uq2} {uq3} {uq4} {s} {uq5} {uq6} {uq7} {uq8} {uq9} B b v kv e => by
  unfold appendF at e
  split at e
  · split at e
    · rename_i h1
      split at e
      · rename_i hl; cases e
        cases kv; cases v with | cons hv hn => ?_
        cases hn with | cons hx hn => ?_
        cases hn
        obtain ⟨_, rfl⟩ := hv
        obtain ⟨vs, n1, g1, v1⟩ := rep_list b.rep h1
        refine .set b.rep h1 fun Q q => ?_
        refine wpAny_call_entry slot_list_append ⟨_, g1, rfl⟩ entry_list_append ?_ (args_list_append _ _)
        show wpAny _ _ (updateSeq _ (·.push _) >>= fun uq1 => ret .none) _ _ s
        obtain ⟨n', g2⟩ := updSeq g1 (·.push _)
        refine wpAny_bind (wpAny_updateSeq g1 rfl (wpAny_pure ⟨.none, rfl, q _ _ _ s.toks g2 ⟨vs ++ [_], n', by simp, v1.append (.cons hx .nil)⟩ (fun b x hb e => (Heap.get?_update_other _ _ (Ne.symm hb)).trans e) rfl⟩) ?_ ?_)
        · rw [List.size_toArray, v1.length]; exact Nat.le_trans hl (by decide)
        · rw [Array.size_push, List.size_toArray, v1.length]; exact Nat.succ_le_succ (Nat.le_trans hl (by decide))
      · cases e
    · cases e
  · cases e

noncomputable def insertF : List MV → List (Str × MV) → MH → Option (MV × MH)
  | [.ref l, .int i, x], [], H => match H.get l with
    | some (.list xs) => if xs.length ≤ 100000 ∧ 0 ≤ i ∧ i < 2 ^ 62 then some (.val .none, H.set l (.list (xs.take i.toNat ++ x :: xs.drop i.toNat))) else none
    | _ => none
  | _, _, _ => none
theorem den_insert : FnDen G k (.builtin "list.insert") insertF := fun {uq1} {uq2} {uq3} {uq4} {s} {uq5} {uq6} {uq7} {uq8} {uq9} B b v kv e => by
  unfold insertF at e
  split at e
  · split at e
    · rename_i h1
      split at e
      · rename_i hl; cases e
        cases kv; cases v with | cons hv hn => ?_
        cases hn with | cons hi hn => ?_
        cases hn with | cons hx hn => ?_
        cases hn
        obtain ⟨_, rfl⟩ := hv
        obtain ⟨t, rfl⟩ := hi
        obtain ⟨vs, n1, g1, v1⟩ := rep_list b.rep h1
        rename_i i _ _ xs w _
        refine .set b.rep h1 fun Q q => ?_
        obtain ⟨n', g2⟩ := updSeq g1 (fun ys => (ys.extract 0 (if i < 0 then (i + (ys.size : Int)).toNat else min i.toNat ys.size)).push w ++ ys.extract (if i < 0 then (i + (ys.size : Int)).toNat else min i.toNat ys.size))
        refine call_meets PySem.F.slot_list_insert ⟨_, g1, rfl⟩ PySem.F.entry_list_insert (PySem.F.args_list_insert_3 _ _ _) (PySem.AutoSeq1.list_insert_list_int_val_1 _ _ n1 i t w (by simp [Builtin.List.listFitsIndex]; omega) (by rw [List.size_toArray, v1.length]; exact Nat.le_trans hl.1 (by decide)))
          ⟨g1, q _ _ _ _ g2 ⟨kl_ins vs i w, n', ?_, ?_⟩ (fun b x hb e => (Heap.get?_update_other _ _ (Ne.symm hb)).trans e) rfl⟩
        · unfold kl_ins
          have hi : ¬ i < 0 := by omega
          simp only [hi, if_false]
          exact congrArg (fun z => listOf z n') (kl_ins_eq vs (min i.toNat vs.length) w)
        · unfold kl_ins
          have hi : ¬ i < 0 := by omega
          simp only [hi, if_false]
          have e1 : vs.take (min i.toNat vs.length) = vs.take i.toNat := kmk_take_min vs i.toNat
          have e2 : vs.drop (min i.toNat vs.length) = vs.drop i.toNat := kmk_drop_min vs i.toNat
          rw [e1, e2]
          exact (v1.take _).append (.cons hx (v1.drop _))
      · cases e
    · cases e
  · cases e

noncomputable def strsOf : List MV → Option (List Str)
  | [] => some []
  | .str x :: r => (strsOf r).map (x :: ·)
  | _ :: _ => none
theorem strsOf_ok {n : Nat} {xs : List MV} {vs : List Value} {ls : List Str} (h : VRs ρ n xs vs) (e : strsOf xs = some ls) : ∃ l : List (Str × Tok), vs = strValues l ∧ l.map (·.1) = ls := by
  induction h generalizing ls with
  | nil => cases e; exact ⟨[], rfl, rfl⟩
  | cons a _ ih =>
    rename_i x v xs vs _
    cases x <;> first | cases e | skip
    rename_i i
    obtain ⟨t, rfl⟩ := a
    simp only [strsOf, Option.map_eq_some_iff] at e
    obtain ⟨ms, e1, rfl⟩ := e
    obtain ⟨l, e2, e3⟩ := ih e1
    exact ⟨(i, t) :: l, by rw [e2]; rfl, by rw [← e3]; rfl⟩
noncomputable def joinF : List MV → List (Str × MV) → MH → Option (MV × MH)
  | [.str sep, .ref l], [], H => match H.get l with
    | some (.list xs) => (strsOf xs).bind fun ls => if Builtin.Str.tooLong (ls.toArray.foldl (· + ·.length + sep.length) 0) = false ∧ (Txt.join sep ls).length ≤ 100000 then some (.str (Txt.join sep ls), H) else none
    | _ => none
  | _, _, _ => none
theorem den_join : FnDen G k (.builtin "str.join") joinF := fun {uq1} {uq2} {uq3} {uq4} {s} {uq5} {uq6} {uq7} {uq8} {uq9} B b v kv e => by
  unfold joinF at e
  split at e
  · split at e
    · rename_i h1
      obtain ⟨ls, e1, e⟩ := Option.bind_eq_some_iff.mp e
      split at e
      · rename_i hl; cases e
        cases kv; cases v with | cons hv hn => ?_
        cases hn with | cons hi hn => ?_
        cases hn
        obtain ⟨t, rfl⟩ := hv
        obtain ⟨_, rfl⟩ := hi
        obtain ⟨vs, n1, g1, v1⟩ := rep_list b.rep h1
        obtain ⟨l, e2, e3⟩ := strsOf_ok v1 e1
        subst e3
        exact .now b.rep fun Q q => call_meets PySem.F.slot_str_join (typeIs_str _ _ _) PySem.F.entry_str_join (PySem.F.args_str_join_2 _ _) (meets_str_join_list _ t _ l hl.1) ⟨by rw [← e2]; exact isList_of g1, post_join l ⟨Nat.le_trans hl.2 (by decide), fun t' k => q _ _ ⟨t', rfl⟩⟩⟩
      · cases e
    · cases e
  · cases e
noncomputable def allB (f : Nat → Bool) (l : List Nat) : Bool := @List.rec Nat (fun uq1 => Bool) true (fun a uq1 ih => @Bool.rec (fun uq1 => Bool) false ih (f a)) l
noncomputable def mapB (f : Nat → Nat) (l : List Nat) : List Nat := @List.rec Nat (fun uq1 => List Nat) [] (fun a uq1 ih => f a :: ih) l
theorem allB_iff (f : Nat → Bool) : ∀ l : List Nat, allB f l = true → ∀ c ∈ l, f c = true
  | [], _, c, h => by cases h
  | a :: r, e, c, h => by
    have e : @Bool.rec (fun uq1 => Bool) false (allB f r) (f a) = true := e
    cases hf : f a with
    | false => rw [hf] at e; cases e
    | true =>
      rw [hf] at e
      rcases List.mem_cons.mp h with rfl | h
      · exact hf
      · exact allB_iff f r e c h
theorem mapB_eq (f : Nat → Nat) : ∀ l : List Nat, mapB f l = l.map f
  | [] => rfl
  | a :: r => by rw [List.map_cons, ← mapB_eq f r]; rfl
noncomputable def lowerF : List MV → List (Str × MV) → MH → Option (MV × MH)
  | [.str x], [], H => if x.length ≤ 100000 ∧ allB (fun c => Nat.ble c 127) x.cps.toList = true then some (.str ⟨(mapB lo1 x.cps.toList).toArray⟩, H) else none
  | _, _, _ => none
theorem den_lower : FnDen G k (.builtin "str.lower") lowerF := fun {uq1} {uq2} {uq3} {uq4} {s} {uq5} {uq6} {uq7} {uq8} {uq9} B b v kv e => by
  unfold lowerF at e
  split at e
  · split at e
    · rename_i i hl; cases e
      cases kv; cases v with | cons hv hn => ?_
      cases hn
      obtain ⟨t, rfl⟩ := hv
      have hr : (⟨(mapB lo1 i.cps.toList).toArray⟩ : Str) = ⟨i.cps.map lo1⟩ := by rw [mapB_eq]; congr 1; apply Array.ext'; simp
      exact .now b.rep fun Q q => SCL.lower (Nat.le_trans hl.1 (by decide)) fun uq1 => q _ _ ⟨_, by rw [hr, lower_ascii (fun c hc => by have := allB_iff _ _ hl.2 c (by simpa using hc); simp only [Nat.ble_eq] at this; omega)]⟩
    · cases e
  · cases e

end
end Q
end Mini

open PySem PySem.W PySem.Calls PyProof.Rows
set_option maxRecDepth 100000
namespace Mini
noncomputable section Q

inductive Fl where
  | next
  | brk
  | cont
  | ret (v : MV)
noncomputable def flr (ρ : Nat → Addr) (n : Nat) : Fl → Flow → Prop
  | .next, f => f = .next
  | .brk, f => f = .brk
  | .cont, f => f = .cont
  | .ret v, f => ∃ w, f = .ret w ∧ vr ρ n v w

noncomputable def EvS {α β : Type} (G : Gl) (env : Env) (sx : Sx) (A : Around) (rel : (Nat → Addr) → Nat → β → α → Prop) (t : Sem α) (ρ : Nat → Addr) (st : St) (s : Shared) (r : β) (st' : St) : Prop :=
  ∀ Q : α → Shared → Prop, (∀ a s' ρ', Aft ρ ρ' st.H st'.H s s' (Mine env sx) → InF G env sx ρ' st' s' → rel ρ' st'.H.n r a → Q a s') → wpAny G.M A t Q (fun uq1 uq2 => False) s

noncomputable abbrev Un : (Nat → Addr) → Nat → Unit → Unit → Prop := fun uq1 uq2 uq3 uq4 => True

section
variable {G : Gl} {k : Nat} {env : Env} {sx : Sx} {A : Around} {ρ ρ' : Nat → Addr} {st st' : St} {H H' : MH} {s s' : Shared}

theorem Aft.lift {ex : Addr → Prop} (a : Aft ρ ρ' H H' s s' NoEx) (h : ∀ b, ex b → ¬ Owned ρ H b) : Aft ρ ρ' H H' s s' ex :=
  { a with keep := fun b o e n uq1 => a.keep b o e n id, live := fun b o x e => ⟨o, a.keep b o e (h b x) id⟩ }
theorem InF.lift (I : InF G env sx ρ st s) (a : Aft ρ ρ' st.H H' s s' NoEx) : Aft ρ ρ' st.H H' s s' (Mine env sx) := a.lift fun b m o => I.off b o m

theorem Rep.on {P : Params} {h h' : Heap} (R : Rep P ρ H h) (k : ∀ b o, Owned ρ H b → h.get? b = some o → h'.get? b = some o) : Rep P ρ H h' :=
  ⟨fun l o e => let ⟨ob, a, b⟩ := R.at_ l o e; ⟨ob, k _ _ ⟨l, o, e, rfl⟩ a, b⟩, R.inj, R.lt⟩

theorem mine_locals : Mine env sx env.locals := .inl rfl

theorem InF.turn {h' : Heap} {tk : Nat} {a : Addr} {vs' : List (Option MV)} (I : InF G env sx ρ st s) (ha : Mine env sx a) (hs : Heap.SameBut a s.heap h') (hl : ∃ o, h'.get? a = some o)
    (hcell : ∀ x c v, env.cells.lookup x = some c → s.heap.IsCell c v → ∃ v', h'.IsCell c v')
    (ns : ∃ m, h'.Ns env.locals m ∧ ∀ (i : Nat) (x : Str) (v : MV), sx.slots[i]? = some x → sx.kindOf x = some .local → vs'[i]? = some (some v) →
      ∃ w, m x = some w ∧ vra G h' (fun b => ¬ Owned ρ st.H b ∧ ¬ Mine env sx b) ρ st.H.n v w)
    (cel : ∀ (i : Nat) (x : Str) (v : MV), sx.slots[i]? = some x → (sx.kindOf x = some .cell ∨ sx.kindOf x = some .free) → vs'[i]? = some (some v) →
      ∃ c w, env.cells.lookup x = some c ∧ h'.IsCell c (some w) ∧ vr ρ st.H.n v w) :
    Aft ρ ρ st.H st.H s { s with heap := h', toks := tk } (Mine env sx) ∧ InF G env sx ρ ⟨vs', st.H⟩ { s with heap := h', toks := tk } := by
  have keep : ∀ b o, ¬ Mine env sx b → s.heap.get? b = some o → h'.get? b = some o := fun b o n e => (hs.2 b fun q => n (q ▸ ha)).trans e
  have aft : Aft ρ ρ st.H st.H s { s with heap := h', toks := tk } (Mine env sx) :=
    ⟨fun uq1 uq2 => rfl, Nat.le_refl _, fun b o e uq1 n => keep b o n e, rfl, fun uq1 q => .inl q, fun b o uq1 e => by
      by_cases hb : b = a
      · subst hb; exact hl
      · exact ⟨o, (hs.2 b hb).trans e⟩, fun uq1 o e => ⟨o, e⟩⟩
  refine ⟨aft, ⟨I.bas.after aft I.basem (I.bas.rep.on fun b o q e => keep b o (I.off b q) e), I.basem, I.off, fun x c hc => ?_, ns, cel⟩⟩
  obtain ⟨⟨v, hv⟩, r⟩ := I.cells x c hc
  exact ⟨hcell x c v hc hv, r⟩

theorem store_local {x : Str} {v : MV} {w : Value} (F : Fst G env sx) (I : InF G env sx ρ st s) (i : Nat) (hi : sx.slots[i]? = some x) (hk : sx.kindOf x = some .local) (hv : vr ρ st.H.n v w) :
    EvS G env sx A Un (storeName env x w) ρ st s () ⟨st.vs.set i (some v), st.H⟩ := fun Q q => by
  obtain ⟨m, hn, hm⟩ := I.ns
  have hkind : Env.kindOf env x = some .local := by unfold Env.kindOf; rw [F.scope]; exact hk
  refine wpAny_storeName_local hkind hn (fun h' hn' hs' => ?_) (by rw [F.scope, F.kind]; rfl)
  have keepc : ∀ c o, c ≠ env.locals → s.heap.get? c = some o → h'.get? c = some o := fun c o n e => (hs'.2 c n).trans e
  obtain ⟨a1, a2⟩ := I.turn (tk := s.toks + 1) (vs' := st.vs.set i (some v)) mine_locals hs' (let ⟨o, _, _, ho, _⟩ := hn'; ⟨o, ho⟩)
    (fun y c u hc hv => ⟨u, isCell_at hv fun o e => keepc c o (I.cells y c hc).2.2.1 e⟩)
    ⟨_, hn', fun j y u hj hky hu => by
      by_cases hij : j = i
      · subst hij
        rw [hi] at hj; cases hj
        rw [List.getElem?_set_self'] at hu
        cases hq : st.vs[j]? with
        | none => rw [hq] at hu; cases hu
        | some _ => rw [hq] at hu; cases hu; exact ⟨w, if_pos rfl, vra_of_vr hv⟩
      · rw [List.getElem?_set_ne (Ne.symm hij)] at hu
        obtain ⟨z, hz, hr⟩ := hm j y u hj hky hu
        have hne : y ≠ x := fun e => hij (by
          subst e
          exact (List.getElem?_inj (List.getElem?_eq_some_iff.mp hj).1 F.nd).1 (hj.trans hi.symm))
        exact ⟨z, by rw [if_neg hne]; exact hz, vra_mono (Nat.le_refl _) (fun uq1 uq2 => rfl) (fun b o e f => ⟨f, keepc b o (fun q => f.2 (.inl q)) e⟩) hr⟩⟩
    (fun j y u hj hky hu => by
      have hij : j ≠ i := fun e => by
        subst e
        rw [hi] at hj; cases hj
        rw [hk] at hky; rcases hky with h | h <;> cases h
      rw [List.getElem?_set_ne (Ne.symm hij)] at hu
      obtain ⟨c, z, hc, hz, hr⟩ := I.cel j y u hj hky hu
      exact ⟨c, z, hc, isCell_at hz fun o e => keepc c o (I.cells y c hc).2.2.1 e, hr⟩)
  exact q () _ ρ a1 a2 trivial

theorem store_cell {x : Str} {v : MV} {w : Value} (F : Fst G env sx) (I : InF G env sx ρ st s) (i : Nat) (hi : sx.slots[i]? = some x) (hx : x ∈ sx.own) (hv : vr ρ st.H.n v w) :
    EvS G env sx A Un (storeName env x w) ρ st s () ⟨st.vs.set i (some v), st.H⟩ := fun Q q => by
  obtain ⟨c, hc⟩ := F.has x (.inl (F.ownk x hx))
  have hk := F.ownk x hx
  obtain ⟨⟨v₀, hv₀⟩, ho, hcl, _⟩ := I.cells x c hc
  have hkind : Env.kindOf env x = some .cell := by unfold Env.kindOf; rw [F.scope]; exact hk
  refine wpAny_storeName_cell (by rw [F.scope]; exact F.kind) hkind hc hv₀ fun h' hcell hs' => ?_
  have keepc : ∀ b o, b ≠ c → s.heap.get? b = some o → h'.get? b = some o := fun b o n e => (hs'.2 b n).trans e
  have hmine : Mine env sx c := .inr ⟨x, hx, hc⟩
  obtain ⟨m, hn, hm⟩ := I.ns
  obtain ⟨a1, a2⟩ := I.turn (tk := s.toks) (vs' := st.vs.set i (some v)) hmine hs' (let ⟨o, ho, _⟩ := hcell; ⟨o, ho⟩)
    (fun y d u hd hu => by
      by_cases hdc : d = c
      · subst hdc; exact ⟨_, hcell⟩
      · exact ⟨u, isCell_at hu fun o e => keepc d o hdc e⟩)
    ⟨m, hn.at' fun o e => keepc _ o (Ne.symm hcl) e, fun j y u hj hky hu => by
      have hij : j ≠ i := fun e => by
        subst e
        rw [hi] at hj; cases hj
        rw [hk] at hky; cases hky
      rw [List.getElem?_set_ne (Ne.symm hij)] at hu
      obtain ⟨z, hz, hr⟩ := hm j y u hj hky hu
      exact ⟨z, hz, vra_mono (Nat.le_refl _) (fun uq1 uq2 => rfl) (fun b o e f => ⟨f, keepc b o (fun q => f.2 (q ▸ hmine)) e⟩) hr⟩⟩
    (fun j y u hj hky hu => by
      by_cases hij : j = i
      · subst hij
        rw [hi] at hj; cases hj
        rw [List.getElem?_set_self'] at hu
        cases hq : st.vs[j]? with
        | none => rw [hq] at hu; cases hu
        | some _ => rw [hq] at hu; cases hu; exact ⟨c, w, hc, hcell, hv⟩
      · rw [List.getElem?_set_ne (Ne.symm hij)] at hu
        obtain ⟨d, z, hd, hz, hr⟩ := I.cel j y u hj hky hu
        have hne : y ≠ x := fun e => hij (by
          subst e
          exact (List.getElem?_inj (List.getElem?_eq_some_iff.mp hj).1 F.nd).1 (hj.trans hi.symm))
        have hdc : d ≠ c := fun e => by
          subst e
          by_cases hy : y ∈ sx.own
          · exact hne (F.owninj y x d hy hx hd hc)
          · exact (I.cells y d hd).2.2.2 hy hmine
        exact ⟨d, z, hd, isCell_at hz fun o e => keepc d o hdc e, hr⟩)
  exact q () _ ρ a1 a2 trivial

noncomputable def AsgT (G : Gl) (k : Nat) (sx : Sx) (t : Expr) (f : MV → St → Option St) : Prop :=
  ∀ {env : Env} {A : Around} {ρ : Nat → Addr} {st st' : St} {s : Shared} {v : MV} {w : Value}, Fst G env sx → Bud A k → InF G env sx ρ st s → vr ρ st.H.n v w → f v st = some st' → EvS G env sx A Un (assign t env w) ρ st s () st'
noncomputable def setN (vs : List (Option MV)) (i : Nat) (v : Option MV) : List (Option MV) := @List.rec (Option MV) (fun uq1 => Nat → List (Option MV)) (fun uq1 => []) (fun a r ih i => @Nat.rec (fun uq1 => List (Option MV)) (v :: r) (fun j uq1 => a :: ih j) i) vs i
theorem setN_eq : ∀ (vs : List (Option MV)) (i : Nat) (v : Option MV), setN vs i v = vs.set i v
  | [], _, _ => by simp [setN]
  | a :: r, 0, _ => rfl
  | a :: r, i + 1, v => by rw [List.set_cons_succ, ← setN_eq r i v]; rfl
noncomputable def setv (i : Nat) (v : MV) (st : St) : Option St := some ⟨setN st.vs i (some v), st.H⟩
theorem setv_eq (i : Nat) (v : MV) (st : St) : setv i v st = some ⟨st.vs.set i (some v), st.H⟩ := by unfold setv; rw [setN_eq]
theorem asg_local {x : Str} {p : Pos} (i : Nat) (hi : sx.slots[i]? = some x) (hk : sx.kindOf x = some .local) : AsgT G k sx (.Name x p) (setv i) := fun F uq1 I hv e => by
  rw [setv_eq] at e; cases e
  exact fun Q q => wpAny_assign_Name (store_local F I i hi hk hv Q q)
theorem asg_cell {x : Str} {p : Pos} (i : Nat) (hi : sx.slots[i]? = some x) (hx : x ∈ sx.own) : AsgT G k sx (.Name x p) (setv i) := fun F uq1 I hv e => by
  rw [setv_eq] at e; cases e
  exact fun Q q => wpAny_assign_Name (store_cell F I i hi hx hv Q q)

noncomputable def AsgTs (G : Gl) (k : Nat) (sx : Sx) (ts : List Expr) (f : List MV → St → Option St) : Prop :=
  ∀ {env : Env} {A : Around} {ρ : Nat → Addr} {st st' : St} {s : Shared} {vs : List MV} {ws : List Value}, Fst G env sx → Bud A k → InF G env sx ρ st s → VRs ρ st.H.n vs ws → f vs st = some st' →
    EvS G env sx A Un (assignInOrder ((assignEach ts env).map (·.2)) ws) ρ st s () st'
noncomputable def asgNil (vs : List MV) (st : St) : Option St := match vs with
  | [] => some st
  | _ => none
noncomputable def asgCons (f : MV → St → Option St) (fs : List MV → St → Option St) (vs : List MV) (st : St) : Option St := match vs with
  | v :: r => (f v st).bind fun st₁ => fs r st₁
  | [] => none
theorem asgs_nil : AsgTs G k sx [] asgNil := fun uq1 uq2 I hv e => by
  unfold asgNil at e
  split at e
  · cases e; cases hv
    exact fun Q q => wpAny_pure (q () _ _ .refl I trivial)
  · cases e
theorem asgs_cons {t : Expr} {ts : List Expr} {f : MV → St → Option St} {fs : List MV → St → Option St} (h : AsgT G k sx t f) (hs : AsgTs G k sx ts fs) (he : ∀ env, assignEach (t :: ts) env = (false, assign t env) :: assignEach ts env) :
    AsgTs G k sx (t :: ts) (asgCons f fs) := fun F B I hv e => by
  unfold asgCons at e
  split at e
  · obtain ⟨st₁, e1, e⟩ := Option.bind_eq_some_iff.mp e
    cases hv with | cons hv hr => ?_
    rw [he]
    exact fun Q q => wpAny_assignInOrder_more (h F B I hv e1 _ fun a s₁ ρ₁ a₁ i₁ uq1 => hs F B i₁ (hr.mono a₁.le a₁.agree) e _ fun b s₂ ρ₂ a₂ i₂ uq1 => q b s₂ ρ₂ (a₁.trans a₂) i₂ trivial)
  · cases e

theorem isTuple_of {h : Heap} {a : Addr} {vs : List Value} {n : Nat} (g : h.get? a = some (tupOf (List.toArray vs) n)) : h.IsTuple a vs.toArray := ⟨_, g, rfl, n, rfl⟩

noncomputable def asgTup (n : Nat) (fs : List MV → St → Option St) (v : MV) (st : St) : Option St := (tupAt v st.H).bind fun xs => if xs.length = n then fs xs st else none
theorem asg_tuple {ts : List Expr} {j : Nat} {p : Pos} {n : Nat} {fs : List MV → St → Option St} (hs : AsgTs G k sx ts fs) (hn : ∀ env, (assignEach ts env).length = n) (hst : ∀ env, (assignEach ts env).findIdx? (·.1) = none) : AsgT G k sx (.Tuple ts j p) (asgTup n fs) := fun {uq1} {uq2} {ρ} {st} {uq3} {s} {uq4} {uq5} F B I hv e => by
  obtain ⟨xs, e1, e⟩ := Option.bind_eq_some_iff.mp e
  split at e
  · rename_i hl
    obtain ⟨a, ws, rfl, it, v1⟩ := tupAt_ok I.bas hv e1
    obtain ⟨o, ho, hc, nn, hd⟩ := it
    refine fun Q q => (wpAny_assign_Tuple B.h ⟨o, ho, hc, nn, hd⟩ (by rw [hn, List.size_toArray, v1.length, hl]) (hst _) fun h' hx => ?_)
    have kp : ∀ b x, s.heap.get? b = some x → h'.get? b = some x := fun b x e => hx b x (Nat.ne_of_lt (Heap.lt_size e)) e
    have a1 := Aft.garbage (ρ := ρ) (H := st.H) (tk := s.toks) (ex := NoEx) kp
    have i1 := I.after a1 (I.bas.rep.garbage kp)
    exact hs F B i1 v1 e _ fun b s₂ ρ₂ a₂ i₂ z => q b s₂ ρ₂ ((I.lift a1).trans a₂) i₂ z
  · cases e
end
end Q
end Mini

open PySem PySem.W PySem.Calls PyProof.Rows
set_option maxRecDepth 100000
namespace Mini
noncomputable section Q

section
variable {G : Gl} {k : Nat} {env : Env} {sx : Sx} {A : Around} {ρ ρ' : Nat → Addr} {st st' : St} {H H' : MH} {s s' : Shared}

set_option genSizeOf false in
set_option genInjectivity false in
structure Stp (ρ ρ' : Nat → Addr) (H H' : MH) (s s' : Shared) (ex : Addr → Prop) : Prop where
  agree : ∀ l, l < H.n → ρ' l = ρ l
  le : H.n ≤ H'.n
  keep : ∀ b o, s.heap.get? b = some o → ¬ Owned ρ H b → ¬ ex b → s'.heap.get? b = some o
  rest : s' = { s with heap := s'.heap, toks := s'.toks }
  own : ∀ b, Owned ρ' H' b → Owned ρ H b ∨ s.heap.get? b = none
  stay : ∀ l o, H.get l = some o → ∃ o', H'.get l = some o'
theorem Stp.not_owned {ex : Addr → Prop} (a : Stp ρ ρ' H H' s s' ex) {b : Addr} {o : Obj} (hb : s.heap.get? b = some o) (n : ¬ Owned ρ H b) : ¬ Owned ρ' H' b :=
  fun q => (a.own b q).elim n fun q => by rw [hb] at q; cases q
noncomputable def IsF (s : Shared) (ex : Addr → Prop) : Prop := ∀ b, ex b → ∃ o vs, s.heap.get? b = some o ∧ o.data = .fields vs

theorem InF.afterNX {vs : List (Option MV)} {ex : Addr → Prop} (I : InF G env sx ρ ⟨vs, H⟩ s) (a : Stp ρ ρ' H H' s s' ex) (r : Rep G.P ρ' H' s'.heap) (hl : ∀ b, ex b → b ≠ env.locals) (hf : ∀ b o, ex b → s.heap.get? b = some o → (∀ f, o.data ≠ .func f) ∧ ∀ v, o.data ≠ .cell v) (hb : ∀ b o, G.h₀.get? b = some o → ¬ ex b) : InF G env sx ρ' ⟨vs, H'⟩ s' := by
  have ncell : ∀ c v, s.heap.IsCell c v → ¬ ex c := fun c v hv x => by
    obtain ⟨o, ho, hd⟩ := hv; exact (hf c o x ho).2 _ hd
  exact {
    bas := ⟨fun b o e => ⟨a.keep b o (I.bas.base b o e).1 (I.bas.base b o e).2 (hb b o e), a.not_owned (I.bas.base b o e).1 (I.bas.base b o e).2⟩, r, fun P e => ⟨(a.agree 0 (I.bas.tab P e).2).trans (I.bas.tab P e).1, Nat.lt_of_lt_of_le (I.bas.tab P e).2 a.le⟩⟩
    basem := I.basem
    off := fun b q => (a.own b q).elim (fun q => I.off b q) fun q m => by
      rcases m with rfl | ⟨x, _, hc⟩
      · obtain ⟨m, ⟨_, _, _, ho, _⟩, _⟩ := I.ns; rw [ho] at q; cases q
      · obtain ⟨⟨v, _, ho, _⟩, _⟩ := I.cells x b hc; rw [ho] at q; cases q
    cells := fun x c hc => by
      obtain ⟨⟨v, hv⟩, n, e, o⟩ := I.cells x c hc
      exact ⟨⟨v, isCell_at hv fun o' e' => a.keep c o' e' n (ncell c v hv)⟩, let ⟨_, ho, _⟩ := hv; a.not_owned ho n, e, o⟩
    ns := by
      obtain ⟨m, hn, hv⟩ := I.ns
      have nl : ¬ Owned ρ H env.locals := fun q => I.off _ q (.inl rfl)
      have nxl : ¬ ex env.locals := fun x => hl _ x rfl
      refine ⟨m, hn.at' (fun o e => a.keep _ o e nl nxl), fun i x v h1 h2 h3 => ?_⟩
      obtain ⟨w, e, r⟩ := hv i x v h1 h2 h3
      refine ⟨w, e, ?_⟩
      cases v with
      | clo c l lc =>
        obtain ⟨g1, g2, f, cc, pm, ct, oc, e, ff, fc, g3, g4, g5⟩ := r
        refine ⟨Nat.lt_of_lt_of_le g1 a.le, Nat.lt_of_lt_of_le g2 a.le, f, cc, pm, ct, oc, e, ⟨a.not_owned g3 ff.1, ff.2⟩, ⟨a.not_owned g4 fc.1, fc.2⟩, ?_, a.keep _ _ g4 fc.1 (fun x => (hf _ _ x g4).2 _ g5), by rw [a.agree l g1]; exact g5⟩
        rw [a.agree lc g2]; exact a.keep _ _ g3 ff.1 (fun x => (hf _ _ x g3).1 _ rfl)
      | int i => exact r
      | str i => exact r
      | val i => exact r
      | ref l => exact vr_mono (m := .ref l) a.le a.agree r
    cel := fun i x v h1 h2 h3 => by
      obtain ⟨c, w, e, hv, r⟩ := I.cel i x v h1 h2 h3
      obtain ⟨_, n, _, _⟩ := I.cells x c e
      exact ⟨c, w, e, isCell_at hv fun o' e' => a.keep c o' e' n (ncell c _ hv), vr_mono a.le a.agree r⟩ }

theorem InF.afterEx {vs : List (Option MV)} {ex : Addr → Prop} (I : InF G env sx ρ ⟨vs, H⟩ s) (a : Stp ρ ρ' H H' s s' ex) (r : Rep G.P ρ' H' s'.heap) (hf : IsF s ex) (hb : ∀ b o, G.h₀.get? b = some o → ¬ ex b) : InF G env sx ρ' ⟨vs, H'⟩ s' :=
  I.afterNX a r (fun b x q => by
    obtain ⟨o', w, e', d⟩ := hf b x
    obtain ⟨m, ⟨o, es, ep, ho, hd, _⟩, _⟩ := I.ns
    subst q; rw [ho] at e'; cases e'; rw [hd] at d; cases d) (fun b o x e => by
    obtain ⟨o', w, e', d⟩ := hf b x
    rw [e] at e'; cases e'
    exact ⟨fun f q => (by rw [d] at q; cases q), fun f q => (by rw [d] at q; cases q)⟩) hb

theorem Aft.skip {ρ₀ : Nat → Addr} {H₀ : MH} {s₀ : Shared} {ex₀ ex : Addr → Prop} (a : Aft ρ₀ ρ H₀ H s₀ s ex₀) (b : Stp ρ ρ' H H' s s' ex) (hx : ∀ c, ex c → s₀.heap.get? c = none ∨ Owned ρ₀ H₀ c) (hl₀ : ∀ c, ex₀ c → ¬ Owned ρ₀ H₀ c) (hl : ∀ c, ex₀ c → ¬ Owned ρ H c) : Aft ρ₀ ρ' H₀ H' s₀ s' ex₀ where
  agree := fun l h => (b.agree l (Nat.lt_of_lt_of_le h a.le)).trans (a.agree l h)
  le := Nat.le_trans a.le b.le
  keep := fun c o e n x => b.keep c o (a.keep c o e n x) (fun q => (a.own c q).elim n fun q => by rw [e] at q; cases q) fun q => (hx c q).elim (fun q => by rw [q] at e; cases e) n
  rest := by rw [b.rest, a.rest]
  own := fun c q => (b.own c q).elim (fun q => a.own c q) fun q => by
    classical
    by_cases hc : Owned ρ₀ H₀ c
    · exact .inl hc
    · refine .inr ?_
      cases e : s₀.heap.get? c with
      | none => rfl
      | some o =>
        by_cases hx : ex₀ c
        · obtain ⟨o', e'⟩ := a.live c o hx e
          rw [q] at e'; cases e'
        · have := a.keep c o e hc hx
          rw [q] at this; cases this
  live := fun c o x e => by
    obtain ⟨o', e'⟩ := a.live c o x e
    exact ⟨o', b.keep c o' e' (hl c x) fun q => (hx c q).elim (fun q => by rw [q] at e; cases e) (hl₀ c x)⟩
  stay := fun l o e => let ⟨o', e'⟩ := a.stay l o e; b.stay l o' e'

inductive Src where
  | list (l i : Nat)
  | tup (l i : Nat)
  | range (lo : Int) (n : Nat)
  | str (x : Str) (i : Nat)
  | enum (l i : Nat)
  | fin

noncomputable def Src.next : Src → MH → Option (Option (MV × Src × MH))
  | .list l i, H => match H.get l with
    | some (.list xs) => match xs[i]? with
      | some x => some (some (x, .list l (i + 1), H))
      | none => some none
    | _ => none
  | .tup l i, H => match H.get l with
    | some (.tup xs) => match xs[i]? with
      | some x => some (some (x, .tup l (i + 1), H))
      | none => some none
    | _ => none
  | .range _ 0, _ => some none
  | .range lo (n + 1), H => some (some (.int lo, .range (lo + 1) n, H))
  | .str x i, H => match x.cps[i]? with
    | some c => some (some (.str ⟨#[c]⟩, .str x (i + 1), H))
    | none => some none
  | .enum l i, H => match H.get l with
    | some (.list xs) => match xs[i]? with
      | some x => some (some (.ref H.n, .enum l (i + 1), H.push (.tup [.int i, x])))
      | none => some none
    | _ => none
  | _, _ => none

noncomputable def ItAt (ρ : Nat → Addr) (H : MH) (h : Heap) (it : Value) (src : Src) (ex : Addr → Prop) : Prop :=
  (∀ b, ex b → ¬ Owned ρ H b) ∧
  match src with
  | .list l i => l < H.n ∧ ∃ I, it = .ref I ∧ h.IsListIter I (ρ l) i ∧ ex = (· = I)
  | .tup l i => l < H.n ∧ ∃ I, it = .ref I ∧ h.IsTupleIter I (ρ l) i ∧ ex = (· = I)
  | .range lo n => ∃ I, it = .ref I ∧ IsRangeIter h I lo n 1 ∧ ex = (· = I)
  | .str x i => x.cps.all (· < 128) = true ∧ ∃ I t, it = .ref I ∧ h.IsStrIter I "str_ascii_iterator" x t i ∧ ex = (· = I)
  | .enum l i => l < H.n ∧ ∃ I e old, it = .ref e ∧ h.IsListIter I (ρ l) i ∧ IsEnum h e I i old ∧ e ≠ I ∧ ex = (fun b => b = I ∨ b = e)
  | .fin => False

theorem ItAt.isF {it : Value} {src : Src} {ex : Addr → Prop} (h : ItAt ρ H s.heap it src ex) : IsF s ex := by
  obtain ⟨_, h⟩ := h
  cases src with
  | list l i => obtain ⟨_, I, _, ⟨o, h1, _, h2⟩, rfl⟩ := h; rintro b rfl; exact ⟨o, _, h1, h2⟩
  | tup l i => obtain ⟨_, I, _, ⟨o, h1, _, h2⟩, rfl⟩ := h; rintro b rfl; exact ⟨o, _, h1, h2⟩
  | range lo n => obtain ⟨I, _, h1, rfl⟩ := h; rintro b rfl; exact ⟨_, _, h1, rfl⟩
  | str x i => obtain ⟨_, I, t, _, ⟨o, h1, _, h2⟩, rfl⟩ := h; rintro b rfl; exact ⟨o, _, h1, h2⟩
  | enum l i => obtain ⟨_, I, e, old, _, ⟨o, h1, _, h2⟩, h3, _, rfl⟩ := h; rintro b (rfl | rfl); { exact ⟨o, _, h1, h2⟩ }; { exact ⟨_, _, h3, rfl⟩ }
  | fin => exact False.elim h
theorem ItAt.after {ex ex' : Addr → Prop} {it : Value} {src : Src} (h : ItAt ρ H s.heap it src ex) (a : Aft ρ ρ' H H' s s' ex') (hx : ∀ b, ex b → ¬ ex' b) : ItAt ρ' H' s'.heap it src ex := by
  have hf := h.isF
  obtain ⟨ho, h⟩ := h
  have kp : ∀ b o, ex b → s.heap.get? b = some o → s'.heap.get? b = some o := fun b o x e => a.keep b o e (ho b x) (hx b x)
  refine ⟨fun b x => let ⟨o, _, e, _⟩ := hf b x; not_owned_after a e (ho b x), ?_⟩
  cases src with
  | list l i => obtain ⟨h0, I, h1, h2, rfl⟩ := h; exact ⟨Nat.lt_of_lt_of_le h0 a.le, I, h1, (by rw [a.agree l h0]; exact h2.at (fun o e => kp I o rfl e)), rfl⟩
  | tup l i => obtain ⟨h0, I, h1, ⟨o, h2, h3⟩, rfl⟩ := h; exact ⟨Nat.lt_of_lt_of_le h0 a.le, I, h1, (by rw [a.agree l h0]; exact ⟨o, kp I o rfl h2, h3⟩), rfl⟩
  | range lo n => obtain ⟨I, h1, h2, rfl⟩ := h; exact ⟨I, h1, kp I _ rfl h2, rfl⟩
  | str x i => obtain ⟨h0, I, t, h1, ⟨o, h2, h3⟩, rfl⟩ := h; exact ⟨h0, I, t, h1, ⟨o, kp I o rfl h2, h3⟩, rfl⟩
  | enum l i => obtain ⟨h0, I, e, old, h1, h2, h3, h4, rfl⟩ := h; exact ⟨Nat.lt_of_lt_of_le h0 a.le, I, e, old, h1, (by rw [a.agree l h0]; exact h2.at (fun o e => kp I o (.inl rfl) e)), kp e _ (.inr rfl) h3, h4, rfl⟩
  | fin => exact h.elim

theorem letGo_plain {T : String} {o : Obj} {I : Addr} {target : Expr} {v : Value} {M : Model} {Q : Unit → Shared → Prop} {E : Value → Shared → Prop} (ho : s.heap.get? I = some o) (hc : o.cls = .type T)
    (hT : (["enumerate", "zip", "dict_itemiterator", "dict_reverseitemiterator", "odict_iterator", "itertools.zip_longest", "itertools.pairwise"].contains T) = false) (hQ : Q () s) :
    wpAny M A (letOwnedTupleGo target (.ref I) v) Q E s := by
  unfold letOwnedTupleGo
  have main : ∀ a, wpAny M A (do
      let o ← load I
      match o.cls, o.data with
      | .type n, .fields vs =>
        if ["enumerate", "zip", "dict_itemiterator", "dict_reverseitemiterator", "odict_iterator", "itertools.zip_longest", "itertools.pairwise"].contains n && vs[0]? == some (rawInt a) then
          rule "for.unpacks-the-owned-tuple"
          updateField I 0 .none
      | _, _ => pure ()) Q E s := fun a => by
    refine wpAny_bind (wpAny_load ho ?_)
    rw [hc]
    split
    · rename_i n vs e _
      cases e
      rw [hT, Bool.false_and]
      exact wpAny_pure hQ
    · exact wpAny_pure hQ
  split
  · cases v <;> first | exact main _ | exact wpAny_pure hQ
  · cases v <;> first | exact main _ | exact wpAny_pure hQ
  · exact wpAny_pure hQ

noncomputable def Src.okT : Src → Expr → Bool
  | .enum .., .Tuple .. => true
  | .enum .., _ => false
  | _, _ => true

theorem other_keep {P : Params} {h' : Heap} {tk : Nat} {ex : Addr → Prop} (R : Rep P ρ H s.heap) (ho : ∀ b, ex b → ¬ Owned ρ H b) (k : ∀ b o, ¬ ex b → s.heap.get? b = some o → h'.get? b = some o) :
    Stp ρ ρ H H s { s with heap := h', toks := tk } ex ∧ Rep P ρ H h' :=
  ⟨⟨fun uq1 uq2 => rfl, Nat.le_refl _, fun b o e uq1 x => k b o x e, rfl, fun uq1 q => .inl q, fun uq1 o e => ⟨o, e⟩⟩, R.on fun b o q e => k b o (fun x => ho b x q) e⟩

theorem push_stp {P : Params} {h' : Heap} {tk : Nat} {a : Addr} {ob : Obj} {o : MO} {ex : Addr → Prop} (R : Rep P ρ H s.heap) (ha : s.heap.get? a = none) (hob : h'.get? a = some ob) (hr : orep P (ext ρ H.n a) (H.n + 1) o ob)
    (ho : ∀ b, ex b → ¬ Owned ρ H b) (k : ∀ b x, ¬ ex b → s.heap.get? b = some x → h'.get? b = some x) :
    Stp ρ (ext ρ H.n a) H (H.push o) s { s with heap := h', toks := tk } ex ∧ Rep P (ext ρ H.n a) (H.push o) h' := by
  have old : ∀ l x, H.get l = some x → l ≠ H.n ∧ ext ρ H.n a l = ρ l := fun l x e => ⟨Nat.ne_of_lt (R.lt l x e), ext_lt l (R.lt l x e)⟩
  have gt : ∀ l x, (H.push o).get l = some x → (l = H.n ∧ x = o) ∨ (H.get l = some x ∧ l ≠ H.n) := fun l x e => by
    rw [MH.get_push] at e
    by_cases hl : l = H.n
    · rw [if_pos hl] at e; cases e; exact .inl ⟨hl, rfl⟩
    · rw [if_neg hl] at e; exact .inr ⟨e, hl⟩
  refine ⟨⟨ext_lt, Nat.le_succ _, fun b x e uq1 n => k b x n e, rfl, fun b q => ?_, fun l x e => ⟨x, by rw [MH.get_push, if_neg (Nat.ne_of_lt (R.lt l x e))]; exact e⟩⟩, ⟨fun l x e => ?_, fun l l' x x' e e' q => ?_, fun l x e => ?_⟩⟩
  · obtain ⟨l, x, e, rfl⟩ := q
    rcases gt l x e with ⟨rfl, _⟩ | ⟨e, hl⟩
    · rw [ext_self]; exact .inr ha
    · exact .inl ⟨l, x, e, ((old l x e).2).symm⟩
  · rcases gt l x e with ⟨rfl, rfl⟩ | ⟨e, hl⟩
    · exact ⟨ob, by rw [ext_self]; exact hob, hr⟩
    · obtain ⟨ob', a1, a2⟩ := R.at_ l x e
      exact ⟨ob', by rw [(old l x e).2]; exact k _ _ (fun q => ho _ q ⟨l, x, e, rfl⟩) a1, orep_mono (Nat.le_succ _) ext_lt a2⟩
  · have lt : ∀ l x, H.get l = some x → ext ρ H.n a l ≠ a := fun l x e => by
      obtain ⟨ob', a1, _⟩ := R.at_ l x e
      rw [(old l x e).2]; intro z; rw [z, ha] at a1; cases a1
    rcases gt l x e with ⟨rfl, h1⟩ | ⟨e1, hl⟩ <;> rcases gt l' x' e' with ⟨rfl, h2⟩ | ⟨e2, hl'⟩
    · rfl
    · rw [ext_self] at q; exact absurd q.symm (lt l' x' e2)
    · rw [ext_self] at q; exact absurd q (lt l x e1)
    · rw [(old l x e1).2, (old l' x' e2).2] at q; exact R.inj l l' x x' e1 e2 q
  · rcases gt l x e with ⟨rfl, _⟩ | ⟨e, _⟩
    · exact Nat.lt_succ_self _
    · exact Nat.lt_succ_of_lt (R.lt l x e)


theorem VRs.some {n : Nat} {xs : List MV} {vs : List Value} (h : VRs ρ n xs vs) : ∀ {i : Nat} {x : MV}, xs[i]? = some x → ∃ v, vs[i]? = some v ∧ vr ρ n x v := by
  induction h with
  | nil => intro i x e; cases e
  | cons h _ ih =>
    intro i x e
    cases i with
    | zero => cases e; exact ⟨_, rfl, h⟩
    | succ i => exact ih (by simpa using e)
theorem VRs.none {n : Nat} {xs : List MV} {vs : List Value} (h : VRs ρ n xs vs) {i : Nat} (e : xs[i]? = none) : vs[i]? = none := by
  rw [List.getElem?_eq_none_iff] at e ⊢; rw [h.length]; exact e

theorem next_ok {it : Value} {src : Src} {ex : Addr → Prop} {r : Option (MV × Src × MH)} {target : Expr} {Qn : Shared → Prop} {Qs : Value → Shared → Prop} {E : Value → Shared → Prop}
    (hh : A.handled = none) (R : Rep G.P ρ H s.heap) (I : ItAt ρ H s.heap it src ex) (e : src.next H = some r) (ht : src.okT target = true)
    (hn : r = none → ∀ s', Stp ρ ρ H H s s' ex → Rep G.P ρ H s'.heap → Qn s')
    (hs : ∀ v src' H', r = some (v, src', H') → ∀ w s' ρ', Stp ρ ρ' H H' s s' ex → Rep G.P ρ' H' s'.heap → vr ρ' H'.n v w → ItAt ρ' H' s'.heap it src' ex → Qs w s') :
    wpAny G.M A (pyNext it) (fun r s₁ => match r with | none => Qn s₁ | some v => wpAny G.M A (letOwnedTupleGo target it v) (fun uq1 s₂ => Qs v s₂) E s₁) E s := by
  obtain ⟨ho, I⟩ := I
  cases src with
  | list l i =>
    obtain ⟨h0, I, rfl, h1, rfl⟩ := I
    unfold Src.next at e
    dsimp only at e
    split at e
    · rename_i xs hx
      obtain ⟨vs, ep, g1, g2⟩ := rep_list R hx
      split at e <;> cases e
      · rename_i x hxi
        obtain ⟨v, hv, hr⟩ := g2.some hxi
        refine wpAny_pyNext_list_item h1 (isList_of g1) (by rw [List.getElem?_toArray]; exact hv) fun h' hi hsb => ?_
        have hi' := hi
        obtain ⟨o, hi1, hi2, _⟩ := hi
        obtain ⟨a1, a2⟩ := other_keep (tk := s.toks) (h' := h') R ho (fun b o x y => (hsb.2 b x).trans y)
        exact letGo_plain hi1 hi2 (by decide) (hs _ _ _ rfl v _ ρ a1 a2 hr ⟨fun b x => by cases x; exact ho I rfl, h0, I, rfl, hi', rfl⟩)
      · rename_i hxi
        refine wpAny_pyNext_list_end hh h1 (isList_of g1) (by rw [List.getElem?_toArray]; exact g2.none hxi) fun h' hsb => ?_
        obtain ⟨a1, a2⟩ := other_keep (tk := s.toks) (h' := h') R ho (fun b o x y => hsb b o x y)
        exact hn rfl _ a1 a2
    · cases e
  | tup l i =>
    obtain ⟨h0, I, rfl, h1, rfl⟩ := I
    unfold Src.next at e
    dsimp only at e
    split at e
    · rename_i xs hx
      obtain ⟨vs, ep, g1, g2⟩ := rep_tup R hx
      split at e <;> cases e
      · rename_i x hxi
        obtain ⟨v, hv, hr⟩ := g2.some hxi
        refine wpAny_pyNext_tuple_item h1 (isTuple_of g1) (by rw [List.getElem?_toArray]; exact hv) fun h' hi hsb => ?_
        have hi' := hi
        obtain ⟨o, hi1, hi2, _⟩ := hi
        obtain ⟨a1, a2⟩ := other_keep (tk := s.toks) (h' := h') R ho (fun b o x y => (hsb.2 b x).trans y)
        exact letGo_plain hi1 hi2 (by decide) (hs _ _ _ rfl v _ ρ a1 a2 hr ⟨fun b x => by cases x; exact ho I rfl, h0, I, rfl, hi', rfl⟩)
      · rename_i hxi
        refine wpAny_pyNext_tuple_end hh h1 (isTuple_of g1) (by rw [List.getElem?_toArray]; exact g2.none hxi) fun h' hsb => ?_
        obtain ⟨a1, a2⟩ := other_keep (tk := s.toks) (h' := h') R ho (fun b o x y => hsb b o x y)
        exact hn rfl _ a1 a2
    · cases e
  | range lo n =>
    obtain ⟨I, rfl, h1, rfl⟩ := I
    cases n with
    | zero =>
      cases e
      refine wpAny_pyNext_range_end hh h1 (by decide) fun h' hsb => ?_
      obtain ⟨a1, a2⟩ := other_keep (tk := s.toks) (h' := h') R ho (fun b o x y => hsb b o x y)
      exact hn rfl _ a1 a2
    | succ n =>
      cases e
      refine wpAny_pyNext_range_item h1 (by omega) fun h' hi hsb => ?_
      obtain ⟨a1, a2⟩ := other_keep (tk := s.toks + 1) (h' := h') R ho (fun b o x y => (hsb.2 b x).trans y)
      have hi' : IsRangeIter h' I (lo + 1) ((n : Nat) : Int) 1 := by rw [show ((n : Nat) : Int) = ((n + 1 : Nat) : Int) - 1 by omega]; exact hi
      exact letGo_plain hi rfl (by decide) (hs _ _ _ rfl _ _ ρ a1 a2 ⟨_, rfl⟩ ⟨fun b x => by cases x; exact ho I rfl, I, rfl, hi', rfl⟩)
  | str x i =>
    obtain ⟨h0, I, t, rfl, h1, rfl⟩ := I
    unfold Src.next at e
    dsimp only at e
    split at e <;> cases e
    · rename_i c hc
      refine wpAny_pyNext_ascii_item h1 hc fun h' hi hsb => ?_
      have hi' := hi
      obtain ⟨o, hi1, hi2, _⟩ := hi
      obtain ⟨a1, a2⟩ := other_keep (tk := s.toks + 1) (h' := h') R ho (fun b o x y => (hsb.2 b x).trans y)
      exact letGo_plain hi1 hi2 (by decide) (hs _ _ _ rfl _ _ ρ a1 a2 ⟨_, rfl⟩ ⟨fun b x => by cases x; exact ho I rfl, h0, I, t, rfl, hi', rfl⟩)
    · rename_i hc
      refine wpAny_pyNext_ascii_end hh h1 hc fun h' hsb => ?_
      obtain ⟨a1, a2⟩ := other_keep (tk := s.toks) (h' := h') R ho (fun b o x y => hsb b o x y)
      exact hn rfl _ a1 a2
  | enum l i =>
    obtain ⟨h0, I, e', old, rfl, h1, h2, h3, rfl⟩ := I
    unfold Src.next at e
    dsimp only at e
    split at e
    · rename_i xs hx
      obtain ⟨vs, ep, g1, g2⟩ := rep_list R hx
      split at e <;> cases e
      · rename_i x hxi
        obtain ⟨v, hv, hr⟩ := g2.some hxi
        refine wpAny_pyNext_enum_item h2 h1 (isList_of g1) (by rw [List.getElem?_toArray]; exact hv) h3 fun h' hi hit htup uq1 hk => ?_
        have tT : ∃ elts x1 pos, target = .Tuple elts x1 pos := by
          unfold Src.okT at ht; split at ht <;> first | exact ⟨_, _, _, rfl⟩ | (exact absurd ht (by decide)) | (rename_i q _; exact absurd rfl (q _ _))
        obtain ⟨elts, x1, pos, rfl⟩ := tT
        refine wpAny_letOwnedTupleGo_enum hi fun h₂ he₂ hs₂ => ?_
        have hel : e' < s.heap.objs.size := Heap.lt_size h2
        obtain ⟨a1, a2⟩ := push_stp (tk := s.toks + 1) (h' := h₂) (a := s.heap.objs.size) (o := .tup [.int i, x]) (ex := fun b => b = I ∨ b = e') R (fresh_none (Nat.le_refl _))
          ((hs₂.2 _ (Nat.ne_of_gt hel)).trans htup) ⟨[.int i s.toks, v], 0, rfl, .cons ⟨_, rfl⟩ (.cons (vr_mono (Nat.le_succ _) ext_lt hr) .nil)⟩ ho
          (fun b o n y => (hs₂.2 b (fun q => n (.inr q))).trans (hk b o (fun q => n (.inr q)) (fun q => n (.inl q)) y))
        obtain ⟨o, hi1, hi2⟩ := hit
        refine hs _ _ _ rfl _ _ _ a1 a2 ⟨Nat.lt_succ_self _, by rw [ext_self]⟩ ⟨fun b q => ?_, Nat.lt_succ_of_lt h0, I, e', v, rfl, ⟨o, (hs₂.2 I (Ne.symm h3)).trans hi1, by rw [ext_lt l h0]; exact hi2⟩, he₂, h3, rfl⟩
        obtain ⟨o', _, g, _⟩ := ItAt.isF (src := .enum l i) (it := .ref e') ⟨ho, h0, I, e', old, rfl, h1, h2, h3, rfl⟩ b q
        exact a1.not_owned g (ho b q)
      · rename_i hxi
        refine wpAny_pyNext_enum_end hh h2 h1 (isList_of g1) (by rw [List.getElem?_toArray]; exact g2.none hxi) fun h' hsb => ?_
        obtain ⟨a1, a2⟩ := other_keep (tk := s.toks) (h' := h') R ho (fun b o x y => hsb b o (fun q => x (.inl q)) y)
        exact hn rfl _ a1 a2
    · cases e
  | fin => cases e
end
end Q
end Mini

open PySem PySem.W PySem.Calls PyProof.Rows
set_option maxRecDepth 100000
namespace Mini
noncomputable section Q

noncomputable def DenS (G : Gl) (k : Nat) (sx : Sx) (t : Stmt) (d : St → Option (Fl × St)) : Prop :=
  ∀ {env : Env} {A : Around} {ρ : Nat → Addr} {st : St} {s : Shared} {f : Fl} {st' : St}, Fst G env sx → Bud A k → InF G env sx ρ st s → d st = some (f, st') → EvS G env sx A flr (exec t env) ρ st s f st'
noncomputable def DenSs (G : Gl) (k : Nat) (sx : Sx) (t : List Stmt) (d : St → Option (Fl × St)) : Prop :=
  ∀ {env : Env} {A : Around} {ρ : Nat → Addr} {st : St} {s : Shared} {f : Fl} {st' : St}, Fst G env sx → Bud A k → InF G env sx ρ st s → d st = some (f, st') → EvS G env sx A flr (execs t env) ρ st s f st'

section
variable {G : Gl} {k : Nat} {env : Env} {sx : Sx} {A : Around} {ρ ρ' : Nat → Addr} {st st' : St} {H H' : MH} {s s' : Shared}

theorem EvS.wp {α β : Type} {rel : (Nat → Addr) → Nat → β → α → Prop} {t : Sem α} {r : β} (h : EvS G env sx A rel t ρ st s r st') {Q : α → Shared → Prop} {E : Value → Shared → Prop}
    (k : ∀ a s' ρ', Aft ρ ρ' st.H st'.H s s' (Mine env sx) → InF G env sx ρ' st' s' → rel ρ' st'.H.n r a → Q a s') : wpAny G.M A t Q E s :=
  wpAny_mono (h Q k) (fun uq1 uq2 x => x) (fun uq1 uq2 x => x.elim)

theorem EvS.from {α β : Type} {rel : (Nat → Addr) → Nat → β → α → Prop} {t : Sem α} {r : β} {st₁ st₂ : St} {s₁ : Shared} {ρ₁ : Nat → Addr} (a : Aft ρ ρ₁ st.H st₁.H s s₁ (Mine env sx))
    (h : EvS G env sx A rel t ρ₁ st₁ s₁ r st₂) {Q : α → Shared → Prop} {E : Value → Shared → Prop} (k : ∀ b s' ρ', Aft ρ ρ' st.H st₂.H s s' (Mine env sx) → InF G env sx ρ' st₂ s' → rel ρ' st₂.H.n r b → Q b s') : wpAny G.M A t Q E s₁ :=
  h.wp fun b s' ρ' a' i v => k b s' ρ' (a.trans a') i v

noncomputable def nilS (st : St) : Option (Fl × St) := some (.next, st)
noncomputable def seqS (d ds : St → Option (Fl × St)) (st : St) : Option (Fl × St) := (d st).bind fun p => match p.1 with
  | .next => ds p.2
  | _ => some p
theorem dss_nil : DenSs G k sx [] nilS := fun uq1 uq2 I e => by
  cases e
  exact fun Q q => wpAny_execs_nil (q _ _ _ .refl I rfl)
theorem dss_cons {t : Stmt} {ts : List Stmt} {d ds : St → Option (Fl × St)} (h : DenS G k sx t d) (hs : DenSs G k sx ts ds) : DenSs G k sx (t :: ts) (seqS d ds) := fun F B I e => by
  obtain ⟨⟨f, st₁⟩, e1, e⟩ := Option.bind_eq_some_iff.mp e
  refine fun Q q => wpAny_execs_cons (h F B I e1 _ fun a s₁ ρ₁ a₁ i₁ v₁ => ?_)
  cases f with
  | next => cases v₁; exact (hs F B i₁ e).from a₁ q
  | brk => cases v₁; cases e; exact q _ _ _ a₁ i₁ rfl
  | cont => cases v₁; cases e; exact q _ _ _ a₁ i₁ rfl
  | ret v => obtain ⟨w, rfl, hw⟩ := v₁; cases e; exact q _ _ _ a₁ i₁ ⟨w, rfl, hw⟩

noncomputable def asgS (d : St → Option (MV × MH)) (f : MV → St → Option St) (st : St) : Option (Fl × St) := (d st).bind fun p => (f p.1 ⟨st.vs, p.2⟩).map fun st => (.next, st)
theorem ds_assign {t value : Expr} {pos : Pos} {d : St → Option (MV × MH)} {f : MV → St → Option St} (hv : DenE G k sx value d) (ht : AsgT G k sx t f)
    (hs : ∀ env : Env, env.scope = sx.scope → swapsWithSole [t] value pos.line env = pure false) (hw : ∀ env, swappedStores [t] value env = pure none) (he : ∀ env, (assignEach [t] env).map (·.2) = [assign t env]) :
    DenS G k sx (.Assign [t] value pos) (asgS d f) := fun F B I e => by
  obtain ⟨⟨v, H₁⟩, e1, e⟩ := Option.bind_eq_some_iff.mp e
  obtain ⟨st₁, e2, e⟩ := Option.map_eq_some_iff.mp e
  cases e
  refine fun Q q => wpAny_Assign_stores (hv F B I e1 _ fun a s₁ ρ₁ a₁ r₁ v₁ => ?_) (hs _ F.scope) (hw _)
  rw [he]
  exact (ht F B (I.after a₁ r₁) v₁ e2).wp fun b s₂ ρ₂ a₂ i₂ uq1 => q _ _ _ ((I.lift a₁).trans a₂) i₂ rfl
noncomputable def asg3S (d : St → Option (MV × MH)) (f g h : MV → St → Option St) (st : St) : Option (Fl × St) := (d st).bind fun p => (f p.1 ⟨st.vs, p.2⟩).bind fun st => (g p.1 st).bind fun st => (h p.1 st).map fun st => (.next, st)
theorem ds_assign3 {t₁ t₂ t₃ value : Expr} {pos : Pos} {d : St → Option (MV × MH)} {f₁ f₂ f₃ : MV → St → Option St} (hv : DenE G k sx value d) (h1 : AsgT G k sx t₁ f₁) (h2 : AsgT G k sx t₂ f₂) (h3 : AsgT G k sx t₃ f₃)
    (he : ∀ env, (assignEach [t₁, t₂, t₃] env).map (·.2) = [assign t₁ env, assign t₂ env, assign t₃ env]) (hw : ∀ env, swappedStores [t₁, t₂, t₃] value env = pure none) :
    DenS G k sx (.Assign [t₁, t₂, t₃] value pos) (asg3S d f₁ f₂ f₃) := fun F B I e => by
  obtain ⟨⟨v, H₁⟩, e1, e⟩ := Option.bind_eq_some_iff.mp e
  obtain ⟨st₁, e2, e⟩ := Option.bind_eq_some_iff.mp e
  obtain ⟨st₂, e3, e⟩ := Option.bind_eq_some_iff.mp e
  obtain ⟨st₃, e4, e⟩ := Option.map_eq_some_iff.mp e
  cases e
  refine fun Q q => wpAny_Assign_three (hv F B I e1 _ fun a s₁ ρ₁ a₁ r₁ v₁ => ?_) (he _) (hw _)
  exact (h1 F B (I.after a₁ r₁) v₁ e2).wp fun b s₂ ρ₂ a₂ i₂ uq1 => (h2 F B i₂ (vr_mono a₂.le a₂.agree v₁) e3).wp fun b s₃ ρ₃ a₃ i₃ uq1 =>
    (h3 F B i₃ (vr_mono a₃.le a₃.agree (vr_mono a₂.le a₂.agree v₁)) e4).wp fun b s₄ ρ₄ a₄ i₄ uq1 => q _ _ _ ((((I.lift a₁).trans a₂).trans a₃).trans a₄) i₄ rfl

noncomputable def ifS (c : St → Option (Bool × MH)) (d d' : St → Option (Fl × St)) (st : St) : Option (Fl × St) := (c st).bind fun p => if p.1 then d ⟨st.vs, p.2⟩ else d' ⟨st.vs, p.2⟩
theorem ds_if {c : Expr} {b b' : List Stmt} {pos : Pos} {dc : St → Option (Bool × MH)} {d d' : St → Option (Fl × St)} (hc : DenB G k sx c dc) (h : DenSs G k sx b d) (h' : DenSs G k sx b' d') : DenS G k sx (.If c b b' pos) (ifS dc d d') := fun F B I e => by
  obtain ⟨⟨v, H₁⟩, e1, e⟩ := Option.bind_eq_some_iff.mp e
  refine fun Q q => wpAny_If (hc F B I e1 _ fun a s₁ ρ₁ a₁ r₁ v₁ => ?_)
  cases v₁
  cases v with
  | true => exact (h F B (I.after a₁ r₁) e).from (I.lift a₁) q
  | false => exact (h' F B (I.after a₁ r₁) e).from (I.lift a₁) q

noncomputable def retS (d : St → Option (MV × MH)) (st : St) : Option (Fl × St) := (d st).map fun p => (.ret p.1, ⟨st.vs, p.2⟩)
theorem ds_ret {e : Expr} {pos : Pos} {d : St → Option (MV × MH)} (h : DenE G k sx e d) : DenS G k sx (.Return (some e) pos) (retS d) := fun F B I e => by
  obtain ⟨⟨v, H₁⟩, e1, e⟩ := Option.map_eq_some_iff.mp e
  cases e
  exact fun Q q => wpAny_Return_some (h F B I e1 _ fun a s₁ ρ₁ a₁ r₁ v₁ => q _ _ _ (I.lift a₁) (I.after a₁ r₁) ⟨_, rfl, v₁⟩)
theorem ds_break {pos : Pos} : DenS G k sx (.Break pos) (fun st => some (.brk, st)) := fun uq1 uq2 I e => by
  cases e
  exact fun Q q => fun uq1 uq2 uq3 => q _ _ _ .refl I rfl

noncomputable def exprS (d : St → Option (MV × MH)) (st : St) : Option (Fl × St) := (d st).map fun p => (.next, ⟨st.vs, p.2⟩)
theorem ds_expr {e : Expr} {pos : Pos} {d : St → Option (MV × MH)} (h : DenE G k sx e d) (hs : ∀ env, swapsWith e none pos.line env = pure false) : DenS G k sx (.Expr e pos) (exprS d) := fun F B I e => by
  obtain ⟨⟨v, H₁⟩, e1, e⟩ := Option.map_eq_some_iff.mp e
  cases e
  exact fun Q q => wpAny_Expr_any (h F B I e1 _ fun a s₁ ρ₁ a₁ r₁ v₁ => q _ _ _ (I.lift a₁) (I.after a₁ r₁) rfl) (by unfold interactive; rw [F.scope, F.kind]; rfl) (hs _)

noncomputable def whileD (c : St → Option (Bool × MH)) (b : St → Option (Fl × St)) : Nat → St → Option (Fl × St)
  | 0, _ => none
  | n + 1, st => (c st).bind fun p => if p.1 then (b ⟨st.vs, p.2⟩).bind fun q => (match q.1 with
      | .next => whileD c b n q.2
      | .cont => whileD c b n q.2
      | .brk => some (.next, q.2)
      | .ret v => some (.ret v, q.2)) else some (.next, ⟨st.vs, p.2⟩)
theorem ds_while {c : Expr} {b : List Stmt} {pos : Pos} {dc : St → Option (Bool × MH)} {d : St → Option (Fl × St)} (N : Nat) (hc : DenB G k sx c dc) (h : DenSs G k sx b d) : DenS G k sx (.While c b [] pos) (whileD dc d N) := fun {env} {A} {ρ} {st} {s} {f} {st'} F B I e => by
  refine fun Q q => wpAny_While (codeAny_whileLoop (fun n s' => ∃ ρ' st₁, Aft ρ ρ' st.H st₁.H s s' (Mine env sx) ∧ InF G env sx ρ' st₁ s' ∧ whileD dc d n st₁ = some (f, st')) (fun n s' hI => ?_) N ⟨ρ, st, .refl, I, e⟩)
  obtain ⟨ρ₁, st₁, a₁, i₁, e⟩ := hI
  cases n with
  | zero => cases e
  | succ n =>
    obtain ⟨⟨v, H₁⟩, e1, e⟩ := Option.bind_eq_some_iff.mp e
    refine (hc F B i₁ e1).wp fun a s₂ ρ₂ a₂ r₂ v₂ => ?_
    cases v₂
    cases v with
    | false =>
      cases e
      exact wpAny_execs_nil (q _ _ _ (a₁.trans (i₁.lift a₂)) (i₁.after a₂ r₂) rfl)
    | true =>
      obtain ⟨⟨f₁, st₂⟩, e2, e⟩ := Option.bind_eq_some_iff.mp e
      refine (h F B (i₁.after a₂ r₂) e2).from (a₁.trans (i₁.lift a₂)) fun g s₃ ρ₃ a₃ i₃ v₃ => ?_
      cases f₁ with
      | next => cases v₃; exact ⟨n, Nat.lt_succ_self _, ρ₃, st₂, a₃, i₃, e⟩
      | cont => cases v₃; exact ⟨n, Nat.lt_succ_self _, ρ₃, st₂, a₃, i₃, e⟩
      | brk => cases v₃; cases e; exact q _ _ _ a₃ i₃ rfl
      | ret v => obtain ⟨w, rfl, hw⟩ := v₃; cases e; exact q _ _ _ a₃ i₃ ⟨w, rfl, hw⟩

noncomputable def DenI (G : Gl) (k : Nat) (sx : Sx) (e : Expr) (d : St → Option (Src × MH)) : Prop :=
  ∀ {env : Env} {A : Around} {ρ : Nat → Addr} {st : St} {s : Shared} {src : Src} {H' : MH}, Fst G env sx → Bud A k → InF G env sx ρ st s → d st = some (src, H') →
    ∀ Q : Value → Shared → Prop, (∀ it s' ρ' ex, Aft ρ ρ' st.H H' s s' NoEx → Rep G.P ρ' H' s'.heap → ItAt ρ' H' s'.heap it src ex → (∀ b, ex b → s.heap.get? b = none ∨ Owned ρ st.H b) → Q it s') →
      wpAny G.M A (eval e env) (fun x s₁ => wpAny G.M A (pyIter x) Q (fun uq1 uq2 => False) s₁) (fun uq1 uq2 => False) s

noncomputable def iterOf (v : MV) (H : MH) : Option Src := match v with
  | .ref l => (match H.get l with
    | some (.list _) => some (.list l 0)
    | some (.tup _) => some (.tup l 0)
    | some (.range lo hi) => if -1000000 ≤ lo ∧ lo ≤ 1000000 ∧ -1000000 ≤ hi ∧ hi ≤ 1000000 then some (.range lo (hi - lo).toNat) else none
    | _ => none)
  | .str x => if x.cps.all (· < 128) = true then some (.str x 0) else none
  | _ => none

theorem Aft.fresh {ex : Addr → Prop} (a : Aft ρ ρ' H H' s s' ex) {b : Addr} (h : s'.heap.get? b = none) : s.heap.get? b = none ∨ Owned ρ H b := by
  classical
  by_cases hO : Owned ρ H b
  · exact .inr hO
  · refine .inl ?_
    cases e : s.heap.get? b with
    | none => rfl
    | some o =>
      by_cases hx : ex b
      · obtain ⟨o', e'⟩ := a.live b o hx e; rw [h] at e'; cases e'
      · have := a.keep b o e hO hx; rw [h] at this; cases this
theorem den_iter {e : Expr} {d : St → Option (MV × MH)} (h : DenE G k sx e d) : DenI G k sx e (fun st => (d st).bind fun p => (iterOf p.1 p.2).map fun src => (src, p.2)) := fun {uq1} {uq2} {ρ} {st} {s} {src} {uq3} F B I e Q q => by
  obtain ⟨⟨v, H₁⟩, e1, e⟩ := Option.bind_eq_some_iff.mp e
  obtain ⟨src', e2, e⟩ := Option.map_eq_some_iff.mp e
  cases e
  refine h F B I e1 _ fun a s₁ ρ₁ a₁ r₁ v₁ => ?_
  have nO : ¬ Owned ρ₁ H₁ s₁.heap.objs.size := fun ⟨l, o, g, e⟩ => by
    obtain ⟨ob, g, _⟩ := r₁.at_ l o g; rw [e, fresh_none (Nat.le_refl _)] at g; cases g
  have key : ∀ ob, ItAt ρ₁ H₁ (s₁.heap.push ob) (.ref s₁.heap.objs.size) src (· = s₁.heap.objs.size) → Q (.ref s₁.heap.objs.size) { s₁ with heap := s₁.heap.push ob } := fun ob x => by
    have g1 := Aft.garbage (ρ := ρ₁) (H := H₁) (s := s₁) (tk := s₁.toks) (ex := NoEx) (h' := s₁.heap.push ob) (fun b o e => Heap.get?_push_of_some _ e)
    refine q _ _ ρ₁ _ (a₁.trans g1) (r₁.garbage fun b o e => Heap.get?_push_of_some _ e) x fun b hb => ?_
    cases hb
    exact a₁.fresh (fresh_none (Nat.le_refl _))
  have nO' : ∀ b, b = s₁.heap.objs.size → ¬ Owned ρ₁ H₁ b := fun b e => e ▸ nO
  dsimp only at e2
  unfold iterOf at e2
  split at e2
  · obtain ⟨hl, rfl⟩ := v₁
    split at e2
    · rename_i hx
      cases e2
      obtain ⟨vs, ep, g1, g2⟩ := rep_list r₁ hx
      exact wpAny_pyIter_list (isList_of g1) (key _ ⟨nO', hl, _, rfl, ⟨_, Heap.get?_push_size _ rfl, rfl, rfl⟩, rfl⟩)
    · rename_i hx
      cases e2
      obtain ⟨vs, ep, g1, g2⟩ := rep_tup r₁ hx
      exact wpAny_pyIter_tuple (isTuple_of g1) (key _ ⟨nO', hl, _, rfl, ⟨_, Heap.get?_push_size _ rfl, rfl, rfl⟩, rfl⟩)
    · rename_i lo hi hx
      split at e2
      · rename_i hb
        cases e2
        obtain ⟨ob, g1, t, u, v, rfl⟩ := r₁.at_ _ _ hx
        refine wpAny_pyIter_range g1 (small_one (by omega) (by omega) (by omega) (by omega)) (key _ ⟨nO', _, rfl, ?_, rfl⟩)
        rw [show Builtin.Range.rangeSize lo hi 1 = ((hi - lo).toNat : Int) by rw [rangeSize_one]; split <;> omega]
        exact Heap.get?_push_size _ rfl
      · cases e2
    · cases e2
  · obtain ⟨t, rfl⟩ := v₁
    split at e2
    · rename_i ha
      cases e2
      exact wpAny_pyIter_ascii ha (key _ ⟨nO', ha, _, _, rfl, ⟨_, Heap.get?_push_size _ rfl, rfl, rfl⟩, rfl⟩)
    · cases e2
  · cases e2

noncomputable def forD (b : MV → St → Option (Fl × St)) : Nat → Src → St → Option (Fl × St)
  | 0, _, _ => none
  | n + 1, src, st => (src.next st.H).bind fun r => match r with
    | none => some (.next, st)
    | some (v, src', H') => (b v ⟨st.vs, H'⟩).bind fun q => (match q.1 with
      | .next => forD b n src' q.2
      | .cont => forD b n src' q.2
      | .brk => some (.next, q.2)
      | .ret v => some (.ret v, q.2))
noncomputable def Src.fuel : Src → MH → Nat
  | .list l i, H => (match H.get l with | some (.list xs) => xs.length + 1 - i | _ => 0)
  | .tup l i, H => (match H.get l with | some (.tup xs) => xs.length + 1 - i | _ => 0)
  | .range _ n, _ => n + 1
  | .str x i, _ => x.cps.size + 1 - i
  | .enum l i, H => (match H.get l with | some (.list xs) => xs.length + 1 - i | _ => 0)
  | .fin, _ => 0
noncomputable def forS (t : Expr) (di : St → Option (Src × MH)) (f : MV → St → Option St) (b : St → Option (Fl × St)) (st : St) : Option (Fl × St) := (di st).bind fun p =>
  if p.1.okT t then forD (fun v st => (f v st).bind b) (p.1.fuel p.2) p.1 ⟨st.vs, p.2⟩ else none

noncomputable def Src.isEnum : Src → Bool
  | .enum .. => true
  | _ => false
theorem isEnum_next {src src' : Src} {v : MV} (e : src.next H = some (some (v, src', H'))) : src'.isEnum = src.isEnum := by
  unfold Src.next at e
  split at e <;> (try (split at e)) <;> (try (split at e)) <;> cases e <;> rfl
theorem okT_iff {src : Src} {t : Expr} : src.okT t = true ↔ (src.isEnum = true → ∃ elts j p, t = .Tuple elts j p) := by
  cases src with
  | enum l i =>
    refine ⟨fun h uq1 => ?_, fun h => ?_⟩
    · unfold Src.okT at h
      split at h
      · exact ⟨_, _, _, rfl⟩
      · cases h
      · rename_i q _; exact absurd rfl (q _ _)
    · obtain ⟨elts, j, p, rfl⟩ := h rfl; rfl
  | _ => exact Iff.intro (fun uq1 q => absurd q (by simp [Src.isEnum])) (fun uq1 => rfl)
theorem okT_next {src src' : Src} {t : Expr} {v : MV} (e : src.next H = some (some (v, src', H'))) (h : src.okT t = true) : src'.okT t = true := by
  rw [okT_iff] at h ⊢; rw [isEnum_next e]; exact h

theorem ds_for {t it : Expr} {b : List Stmt} {pos : Pos} {di : St → Option (Src × MH)} {f : MV → St → Option St} {d : St → Option (Fl × St)} (hi : DenI G k sx it di) (ht : AsgT G k sx t f) (h : DenSs G k sx b d)
    (hs : ∀ env x, foldedSetIterable it env x = pure x) : DenS G k sx (.For t it b [] pos) (forS t di f d) := fun {env} {A} {ρ} {st} {s} {fl} {st'} F B I e => by
  obtain ⟨⟨src, H₁⟩, e1, e⟩ := Option.bind_eq_some_iff.mp e
  dsimp only at e
  split at e
  case isFalse => cases e
  rename_i hok
  refine fun Q q => wpAny_For (wpAny_mono (hi F B I e1 _ fun itv s₁ ρ₁ ex a₁ r₁ v₁ n₁ => ?_) (fun uq1 uq2 x => wpAny_mono x (fun uq1 uq2 x => x) (fun uq1 uq2 x => x.elim)) (fun uq1 uq2 x => x.elim)) (hs _)
  refine codeAny_forLoop_any (fun n s' => ∃ ρ' st₁ src, Aft ρ ρ' st.H st₁.H s s' (Mine env sx) ∧ InF G env sx ρ' st₁ s' ∧ ItAt ρ' st₁.H s'.heap itv src ex ∧ src.okT t = true ∧ forD (fun v st => (f v st).bind d) n src st₁ = some (fl, st'))
    (fun n s' hI => ?_) (src.fuel H₁) ⟨ρ₁, ⟨st.vs, H₁⟩, src, I.lift a₁, I.after a₁ r₁, v₁, hok, e⟩
  obtain ⟨ρ₂, st₂, src₂, a₂, i₂, v₂, ok₂, e₂⟩ := hI
  cases n with
  | zero => cases e₂
  | succ n =>
    obtain ⟨r, e3, e4⟩ := Option.bind_eq_some_iff.mp e₂
    have hb : ∀ b o, G.h₀.get? b = some o → ¬ ex b := fun b o e x => by
      have := I.bas.base b o e; exact (n₁ b x).elim (fun q => by rw [q] at this; cases this.1) this.2
    refine next_ok (E := notedBy G.M A env _) B.h i₂.bas.rep v₂ e3 ok₂ (fun hr s' a r' => ?_) (fun v src' H' hr w s' ρ' a r' hv ia => ?_)
    · subst hr
      cases e4
      exact wpAny_execs_nil (q _ _ ρ₂ (a₂.skip a n₁ (fun b m o => I.off b o m) fun b m o => i₂.off b o m) (i₂.afterEx a r' v₂.isF hb) rfl)
    · subst hr
      obtain ⟨⟨f₁, st₃⟩, e5, e6⟩ := Option.bind_eq_some_iff.mp e4
      obtain ⟨st₄, e7, e8⟩ := Option.bind_eq_some_iff.mp e5
      have A1 := a₂.skip a n₁ (fun b m o => I.off b o m) fun b m o => i₂.off b o m
      have I1 : InF G env sx ρ' ⟨st₂.vs, H'⟩ s' := i₂.afterEx a r' v₂.isF hb
      refine (ht F B I1 hv e7).wp fun uq1 s₅ ρ₅ a₅ i₅ uq2 => ?_
      have nm : ∀ {ρ : Nat → Addr} {st : St} {s : Shared}, InF G env sx ρ st s → IsF s ex → ∀ b, ex b → ¬ Mine env sx b := fun i v b x m => by
        obtain ⟨o, vs, g, d⟩ := v b x
        rcases m with rfl | ⟨y, _, hc⟩
        · obtain ⟨_, ⟨o', es, ep, ho, hd, _⟩, _⟩ := i.ns; rw [ho] at g; cases g; rw [hd] at d; cases d
        · obtain ⟨⟨_, o', ho, hd⟩, _⟩ := i.cells y b hc; rw [ho] at g; cases g; rw [hd] at d; cases d
      have v5 := ItAt.after ia a₅ (nm I1 ia.isF)
      refine (h F B i₅ e8).wp fun g s₃ ρ₃ a₃ i₃ v₃ => ?_
      have v6 := v5.after a₃ (nm i₅ v5.isF)
      have A3 := (A1.trans a₅).trans a₃
      cases f₁ with
      | next => cases v₃; exact ⟨n, Nat.lt_succ_self _, ρ₃, st₃, src', A3, i₃, v6, okT_next e3 ok₂, e6⟩
      | cont => cases v₃; exact ⟨n, Nat.lt_succ_self _, ρ₃, st₃, src', A3, i₃, v6, okT_next e3 ok₂, e6⟩
      | brk => cases v₃; cases e6; exact q _ _ _ A3 i₃ rfl
      | ret v => obtain ⟨w, rfl, hw⟩ := v₃; cases e6; exact q _ _ _ A3 i₃ ⟨w, rfl, hw⟩
end
end Q
end Mini

open PySem PySem.W PySem.Calls PyProof.Rows
set_option maxRecDepth 100000
namespace Mini
noncomputable section Q
section
variable {G : Gl} {k : Nat} {env : Env} {sx : Sx} {A : Around} {ρ ρ' : Nat → Addr} {st st' : St} {H H' : MH} {s s' : Shared} {x v : MV} {a b : Value}

noncomputable def attrSet (C : Addr) (attr : Str) (x v : MV) (H : MH) : Option MH := match x with
  | .ref l => (match H.get l with
    | some (.inst C' d) => if C' = C then (match H.get d with | some (.ns es) => if es.length ≤ 100 then some (H.set d (.ns (putE es attr v))) else none | _ => none) else none
    | _ => none)
  | _ => none
theorem putL_len (name : Str) (h : Int) (key v : Value) (l : List DictEntry) : (putL name h key v l).length ≤ l.length + 1 := by
  induction l with
  | nil => simp [putL]
  | cons e r ih => unfold putL; split <;> simp <;> omega
theorem osa_own {prog : Program} {w : World} {K : Frag} {x C dx : Addr} {R : Result → Shared → Prop} {ox : Obj} {ds : List DictEntry} {n : Nat} {name : Str} {tk : Tok} {v : Value} (X : K.In s.heap)
    (I : InstAt s.heap x ox C (some (dictOf ds n))) (hd : ox.dict = some dx) (hp : plainOver K C = true) (ht : takerIn K C name = some none) (hh : (clsIn K C).any (·.hasDict) = true)
    (hk : ∀ e ∈ ds, ∃ n t, e.key = .str n t) (hz : ds.length ≤ 1000)
    (h : R (.ok (.ret .none)) { s with heap := s.heap.update dx (Obj.putName name (PyData.keyHash w.params name) (.str name s.toks) v), toks := s.toks + 1 }) :
    codeAny (model prog w) A (.call (.builtin "object.__setattr__") ⟨[.ref x, .str name tk, v], []⟩) R s := by
  refine osa_open X I hp ht fun b => ?_
  obtain ⟨cd, hc, hd'⟩ := any_some hh
  obtain ⟨hx, hcl, hn, D⟩ := I
  obtain ⟨oc, odi, oda, osl⟩ := ox
  dsimp only at hcl hd
  subst hcl hd
  dsimp only at D
  refine wpAny_bind (wpAny_pure (wpAny_bind (wpAny_bind (wpAny_loadPart hx (wpAny_bind ((looks_clsIn X hc).here ?_))))))
  rw [hd']
  refine wpAny_pure (a := some dx) (wpAny_bind (wpAny_pure (wpAny_bind ?_)))
  unfold nsSet
  refine wpAny_bind (wpAny_bind (wpAny_askSetting (wpAny_pure (wpAny_bind (wpAny_mkText (wpAny_bind (wpAny_loadPart D ?_)))))))
  dsimp only
  have c : (!(ds.toArray.any (·.key.isStr name)) && ds.toArray.any (·.refKey)) = false := by
    have : ds.toArray.any (·.refKey) = false := by
      rw [← Array.any_toList, List.any_eq_false]
      intro e he'
      obtain ⟨y, t, q⟩ := hk e (by simpa using he')
      simp [DictEntry.refKey, q]
    rw [this, Bool.and_false]
  rw [aRefKeyMayBeTheName_at, c]
  refine wpAny_updatePart D ?_
  have u := Heap.get?_update_self (f := Obj.putName name (PyData.keyHash w.params name) (.str name s.toks) v) D (by rw [putName_dict]; rfl)
  rw [putName_dict] at u
  refine wpAny_bind (wpAny_lookBehind u (pastItsLine_dict (by rw [List.size_toArray, sizeLine_eq]; have := putL_len name (PyData.keyHash w.params name) (.str name s.toks) v ds; omega)) ?_)
  exact wpAny_pure h
set_option genSizeOf false in
set_option genInjectivity false in
structure SetsIn (K : Frag) (C : Addr) (attr : Str) : Prop where
  hs : findIn K (.ref C) "__setattr__" = some (some (.builtin "object.__setattr__"))
  hp : plainOver K C = true
  ht : takerIn K C attr = some none
  hh : (clsIn K C).any (·.hasDict) = true

theorem setattr_ok {C : Addr} {attr : Str} (Y : SetsIn G.K C attr) (B : Bas G ρ H s) (e : attrSet C attr x v H = some H') (hx : vr ρ H.n x a) (hv : vr ρ H.n v b) : EvX G.M G.P A Un (setAttr a attr b) ρ H s () H' := by
  obtain ⟨hs, hp, ht, hh⟩ := Y
  unfold attrSet at e
  split at e
  case h_2 => cases e
  rename_i lx
  split at e
  case h_2 => cases e
  rename_i h1
  split at e
  case isFalse => cases e
  rename_i hC
  split at e
  case h_2 => cases e
  rename_i es h2
  split at e
  case isFalse => cases e
  rename_i hz
  cases e; subst hC
  obtain ⟨es', e2, _⟩ : ∃ es', instOf _ (.ref lx) H = some es' ∧ es' = es := ⟨es, by unfold instOf; simp only [h1, h2]; exact if_pos rfl, rfl⟩
  obtain ⟨l, d, od, kk, ds, q1, q2, q3, rfl, g2, rfl, he, I⟩ := instOf_at B e2 hx
  cases q1
  rw [h1] at q2; cases q2
  rw [h2] at q3; cases q3
  refine .set B.rep h2 fun Q q => ?_
  refine set_plain B.K I hs (osa_own (s := { s with toks := s.toks + 1 }) B.K I rfl hp ht hh he.keys (by rw [he.length]; omega) ?_)
  have u := Heap.get?_update_self (f := Obj.putName attr (PyData.keyHash G.w.params attr) (.str attr (s.toks + 1)) b) g2 (by rw [putName_dict]; rfl)
  rw [putName_dict] at u
  exact q () _ _ _ u ⟨_, _, rfl, he.put hv⟩ (fun b' x n e => ((Heap.SameBut.update ..).2 b' n).trans e) trivial

theorem asg_attr {o : Expr} {attr : Str} {pos : Pos} {C : Addr} {d : St → Option (MV × MH)} (Y : SetsIn G.K C attr) (h : DenE G k sx o d) :
    AsgT G k sx (.Attribute o attr pos) (fun v st => (d st).bind fun p => (attrSet C attr p.1 v p.2).map fun H => ⟨st.vs, H⟩) := fun F B I hv e => by
  obtain ⟨⟨x, H₁⟩, e1, e⟩ := Option.bind_eq_some_iff.mp e
  obtain ⟨H₂, e2, e⟩ := Option.map_eq_some_iff.mp e
  cases e
  intro Q q
  rw [arm_assign_Attribute]
  refine wpAny_bind (wpAny_holding (h F B I e1 _ fun a s₁ ρ₁ a₁ r₁ v₁ => wpAny_bind (wpAny_standAt (wpAny_bind (wpAny_holding (setattr_ok Y (I.after a₁ r₁).bas e2 v₁ (vr_mono a₁.le a₁.agree hv) _ fun b s₂ ρ₂ a₂ r₂ uq1 =>
    wpAny_release (q _ _ _ (I.lift (a₁.trans a₂)) (I.after (a₁.trans a₂) r₂) trivial)))))))

noncomputable def itemSet (x i v : MV) (H : MH) : Option MH := match x, i with
  | .ref l, .int j => (match H.get l with
    | some (.list xs) => if 0 ≤ j ∧ j < xs.length ∧ j < 1000000 then some (H.set l (.list (xs.set j.toNat v))) else none
    | _ => none)
  | _, _ => none
theorem VRs.set {n : Nat} {xs : List MV} {vs : List Value} (h : VRs ρ n xs vs) {i : Nat} (hv : vr ρ n x a) : VRs ρ n (xs.set i x) (vs.set i a) := by
  induction h generalizing i with
  | nil => exact .nil
  | cons h r ih =>
    cases i with
    | zero => exact .cons hv r
    | succ i => exact .cons h ih
theorem asg_item {o i : Expr} {pos : Pos} {d di : St → Option (MV × MH)} (h : DenE G k sx o d) (hi : DenE G k sx i di) :
    AsgT G k sx (.Subscript o i pos) (fun v st => (d st).bind fun p => (di ⟨st.vs, p.2⟩).bind fun q => (itemSet p.1 q.1 v q.2).map fun H => ⟨st.vs, H⟩) := fun {env} {A} {ρ} {st} {st'} {s} {v} {w} F B I hv e => by
  obtain ⟨⟨x, H₁⟩, e1, e⟩ := Option.bind_eq_some_iff.mp e
  obtain ⟨⟨j, H₂⟩, e2, e⟩ := Option.bind_eq_some_iff.mp e
  obtain ⟨H₃, e3, e⟩ := Option.map_eq_some_iff.mp e
  cases e
  intro Q q
  rw [arm_assign_Subscript]
  refine wpAny_bind (wpAny_holding (h F B I e1 _ fun a s₁ ρ₁ a₁ r₁ v₁ => wpAny_bind (wpAny_holding (hi F B (I.after a₁ r₁) e2 _ fun b s₂ ρ₂ a₂ r₂ v₂ => wpAny_bind (wpAny_standAt (wpAny_bind (wpAny_holding ?_)))))))
  have I2 := (I.after a₁ r₁).after a₂ r₂
  have hv2 := vr_mono a₂.le a₂.agree (vr_mono a₁.le a₁.agree hv)
  have v1 := vr_mono a₂.le a₂.agree v₁
  dsimp only at e3 v1 v₂
  unfold itemSet at e3
  split at e3
  case h_2 => cases e3
  rename_i l j _
  obtain ⟨_, rfl⟩ := v1
  obtain ⟨t, rfl⟩ := v₂
  split at e3
  case h_2 => cases e3
  rename_i xs h1
  split at e3
  case isFalse => cases e3
  rename_i hb
  cases e3
  obtain ⟨vs, n1, g1, v3⟩ := rep_list r₂ h1
  refine ki_setAt g1 hb.1 (by omega) (by rw [List.size_toArray, v3.length]; exact hb.2.1) ?_
  obtain ⟨n', g2⟩ := updSeq g1 (·.setIfInBounds j.toNat w)
  obtain ⟨x1, x2⟩ := set_own (tk := s₂.toks) (ex := NoEx) (o' := .list (xs.set j.toNat v)) r₂ h1 g2 ⟨vs.set j.toNat w, n', by rw [List.setIfInBounds_toArray], v3.set hv2⟩ (fun b x n e => ((Heap.SameBut.update ..).2 b n).trans e)
  exact wpAny_release (q _ _ _ (I.lift ((a₁.trans a₂).trans x1)) (I.after ((a₁.trans a₂).trans x1) x2) trivial)

end
end Q
end Mini

open PySem PySem.W PySem.Calls PyProof.Rows
set_option maxRecDepth 100000
namespace Mini
noncomputable section Q

noncomputable def DenIfs (G : Gl) (k : Nat) (sx : Sx) (ifs : List Expr) (d : St → Option (Bool × MH)) : Prop :=
  ∀ {env : Env} {A : Around} {ρ : Nat → Addr} {st : St} {s : Shared} {v : Bool} {H' : MH}, Fst G env sx → Bud A k → InF G env sx ρ st s → d st = some (v, H') →
    EvX G.M G.P A (fun uq1 uq2 (c : Bool) c' => c' = c) (forIn ifs true fun c r => if r = true then do let ok ← PySem.isTrue c env (eval c env); pure (ForInStep.yield ok) else pure (ForInStep.yield r)) ρ st.H s v H'

noncomputable def appTo (la : Nat) (v : MV) (H : MH) : Option MH := match H.get la with
  | some (.list xs) => if xs.length ≤ 100000 then some (H.set la (.list (xs ++ [v]))) else none
  | _ => none

noncomputable def compFor (f : MV → St → Option St) (ti : St → Option (Bool × MH)) (body : St → Option St) : Nat → Src → St → Option St
  | 0, _, _ => none
  | n + 1, src, st => (src.next st.H).bind fun r => match r with
    | none => some st
    | some (v, src', H') => (f v ⟨st.vs, H'⟩).bind fun st => (ti st).bind fun p => (if p.1 = true then body ⟨st.vs, p.2⟩ else some ⟨st.vs, p.2⟩).bind fun st => compFor f ti body n src' st

noncomputable def emitD (de : St → Option (MV × MH)) (la : Nat) (st : St) : Option St := (de st).bind fun p => (appTo la p.1 p.2).map fun H => ⟨st.vs, H⟩
noncomputable def nestD (t : Expr) (di : St → Option (Src × MH)) (f : MV → St → Option St) (ti : St → Option (Bool × MH)) (body : Nat → St → Option St) (la : Nat) (st : St) : Option St := (di st).bind fun p =>
  if p.1.okT t = true then compFor f ti (body la) (p.1.fuel p.2) p.1 ⟨st.vs, p.2⟩ else none

noncomputable def emitS (elt : Expr) (acc : Value) (env : Env) : Sem Unit := do
  let x ← eval elt env
  let _ ← call (.builtin "list.append") [acc, x]
  pure ()
noncomputable def nestS (e : Expr) (d : Nat) (g' : Comprehension) (acc : Value) (env : Env) : Sem Unit := do
  let x ← eval g'.iter env
  standAt g'.iter.pos
  let x ← foldedSetIterable g'.iter env x
  let i ← holding [x] (pyIter x)
  let _ ← runOwn (.compStart e d i acc env) env
  pure ()
noncomputable def bodyS (elt : Expr) (e : Expr) (gens : List Comprehension) (d : Nat) (acc : Value) (env : Env) : Sem Unit := match gens[d]? with
  | some g' => nestS e d g' acc env
  | none => emitS elt acc env

theorem compTurn_eq (elt : Expr) (gens : List Comprehension) (scope : Scope) (pos : Pos) (d : Nat) (it acc : Value) (env : Env) (target iter : Expr) (ifs : List Expr) (hg : gens[d]? = some ⟨target, iter, ifs, 0⟩)
    (hn : ∀ g', gens[d + 1]? = some g' → g'.is_async = 0) :
    compTurn (.ListComp elt gens scope pos) d it acc env = (standAt iter.pos >>= fun uq1 => pyNext it >>= fun r => match r with
      | none => pure (Fin.done Flow.next)
      | some v => letOwnedTupleGo target it v >>= fun uq1 => assign target env v >>= fun uq1 =>
        (forIn ifs true fun c r => if r = true then do let ok ← PySem.isTrue c env (eval c env); pure (ForInStep.yield ok) else pure (ForInStep.yield r)) >>= fun ok =>
          if ok = true then bodyS elt (.ListComp elt gens scope pos) gens (d + 1) acc env >>= fun uq1 => again (.compLoop (.ListComp elt gens scope pos) d it acc env)
          else again (.compLoop (.ListComp elt gens scope pos) d it acc env)) := by
  unfold compTurn bodyS nestS emitS
  simp only [hg]
  cases h : gens[d + 1]? with
  | none => rfl
  | some g' =>
    have := hn g' h
    obtain ⟨t', i', f', a'⟩ := g'
    cases this
    simp only [bind_assoc, pure_bind]
    rfl

section
variable {G : Gl} {k : Nat} {env : Env} {sx : Sx} {A : Around} {ρ ρ' : Nat → Addr} {st st' : St} {H H' : MH} {s s' : Shared}

noncomputable def BodyJ (G : Gl) (k : Nat) (sx : Sx) (elt e : Expr) (gens : List Comprehension) (d : Nat) (body : Nat → St → Option St) : Prop :=
  ∀ {env : Env} {A : Around} {ρ : Nat → Addr} {st st' : St} {s : Shared} {la : Nat} {acc : Value}, Fst G env sx → Bud A k → InF G env sx ρ st s → vr ρ st.H.n (.ref la) acc → body la st = some st' →
    EvS G env sx A Un (bodyS elt e gens d acc env) ρ st s () st'

theorem body_emit {elt e : Expr} {gens : List Comprehension} {d : Nat} {de : St → Option (MV × MH)} (hd : gens[d]? = none) (h : DenE G k sx elt de) : BodyJ G k sx elt e gens d (emitD de) := fun F B I ha e => by
  obtain ⟨⟨x, H₁⟩, e1, e⟩ := Option.bind_eq_some_iff.mp e
  obtain ⟨H₂, e2, e⟩ := Option.map_eq_some_iff.mp e
  cases e
  unfold bodyS emitS
  rw [hd]
  refine fun Q q => wpAny_bind (h F B I e1 _ fun a s₁ ρ₁ a₁ r₁ v₁ => wpAny_bind ?_)
  have I1 := I.after a₁ r₁
  refine den_append (G := G) (k := k) (xs := [.ref _, x]) (ks := []) (H' := H₂) (r := .val .none) B I1.bas (.cons (vr_mono a₁.le a₁.agree ha) (.cons v₁ .nil)) .nil ?_ _ fun c s₂ ρ₂ a₂ r₂ uq1 => wpAny_pure (q _ _ _ (I.lift (a₁.trans a₂)) (I.after (a₁.trans a₂) r₂) trivial)
  unfold appTo at e2
  unfold appendF
  dsimp only at e2 ⊢
  split at e2
  · rename_i h1
    try simp only [h1]
    split at e2
    · rename_i h2; cases e2; rw [if_pos h2]
    · cases e2
  · cases e2

theorem iter_self {it : Value} {src : Src} {ex : Addr → Prop} {Q : Value → Shared → Prop} {E : Value → Shared → Prop} (h : ItAt ρ H s.heap it src ex) (q : Q it s) : wpAny G.M A (pyIter it) Q E s := by
  obtain ⟨_, h⟩ := h
  cases src with
  | list l i => obtain ⟨_, I, rfl, h1, _⟩ := h; exact wpAny_pyIter_listiter h1 q
  | tup l i => obtain ⟨_, I, rfl, h1, _⟩ := h; exact wpAny_pyIter_tupleiter h1 q
  | range lo n => obtain ⟨I, rfl, h1, _⟩ := h; exact wpAny_pyIter_rangeiter h1 q
  | str x i => obtain ⟨_, I, t, rfl, h1, _⟩ := h; exact wpAny_pyIter_striter_ascii h1 q
  | enum l i => obtain ⟨_, I, e, old, rfl, _, h1, _⟩ := h; exact wpAny_pyIter_enum h1 q
  | fin => exact False.elim h

theorem codeAny_compStart_at {elt : Expr} {gens : List Comprehension} {scope : Scope} {pos : Pos} {d : Nat} {it acc : Value} {env : Env} {g : Comprehension} {R : Result → Shared → Prop} (hg : gens[d]? = some g) (ha : g.is_async = 0)
    (h0 : codeAny G.M A (.compLoop (.ListComp elt gens scope pos) d it acc env) R s)
    (h : wpAny G.M A (pyIter it) (fun it' s' => codeAny G.M A (.compLoop (.ListComp elt gens scope pos) d it' acc env) R s') (fun uq1 uq2 => False) s) :
    codeAny G.M A (.compStart (.ListComp elt gens scope pos) d it acc env) R s := by
  refine codeAny_of_tree ?_
  show wpAny _ _ ((compStart (.ListComp elt gens scope pos) d it acc env).onRaise (fun x => do noteFrame x env; standAt theWindowsPlace)) _ _ s
  refine wpAny_notedAt ?_
  unfold compStart
  have hc : (clausesOf (.ListComp elt gens scope pos))[d]? = some g := hg
  simp only [hc, ha, Option.elim_some]
  rw [if_neg (by decide)]
  refine wpAny_bind (wpAny_askSetting (wpAny_ite ?_))
  split
  · exact wpAny_pure (And.intro rfl h0)
  · refine wpAny_bind (wpAny_rule ?_)
    exact wpAny_bind (wpAny_standAt (wpAny_bind (wpAny_mono h (fun it' s' h' => wpAny_pure (And.intro rfl h')) fun uq1 uq2 x => x.elim)))

noncomputable def LoopJ (G : Gl) (k : Nat) (sx : Sx) (elt : Expr) (gens : List Comprehension) (scope : Scope) (pos : Pos) (d : Nat) (t : Expr) (f : MV → St → Option St) (ti : St → Option (Bool × MH)) (body : Nat → St → Option St) : Prop :=
  ∀ {env : Env} {A : Around} {ρ₀ ρ : Nat → Addr} {H₀ : MH} {st st' : St} {s₀ s : Shared} {la : Nat} {acc it : Value} {src : Src} {ex : Addr → Prop} {n : Nat} {R : Result → Shared → Prop}, Fst G env sx → Bud A k → InF G env sx ρ st s → vr ρ st.H.n (.ref la) acc →
    ItAt ρ st.H s.heap it src ex → (∀ b o, G.h₀.get? b = some o → ¬ ex b) → src.okT t = true → compFor f ti (body la) n src st = some st' →
    Aft ρ₀ ρ H₀ st.H s₀ s (Mine env sx) → (∀ c, ex c → s₀.heap.get? c = none ∨ Owned ρ₀ H₀ c) → (∀ c, Mine env sx c → ¬ Owned ρ₀ H₀ c) →
    (∀ s' ρ', Aft ρ₀ ρ' H₀ st'.H s₀ s' (Mine env sx) → InF G env sx ρ' st' s' → vr ρ' st'.H.n (.ref la) acc → R (.ok .next) s') → codeAny G.M A (.compLoop (.ListComp elt gens scope pos) d it acc env) R s

theorem next_bind {α : Type} {it : Value} {src : Src} {ex : Addr → Prop} {r : Option (MV × Src × MH)} {target : Expr} {pn : Sem α} {ps : Value → Sem α} {Q : α → Shared → Prop} {E : Value → Shared → Prop}
    (hh : A.handled = none) (R : Rep G.P ρ H s.heap) (I : ItAt ρ H s.heap it src ex) (e : src.next H = some r) (ht : src.okT target = true)
    (hn : r = none → ∀ s', Stp ρ ρ H H s s' ex → Rep G.P ρ H s'.heap → wpAny G.M A pn Q E s')
    (hs : ∀ v src' H', r = some (v, src', H') → ∀ w s' ρ', Stp ρ ρ' H H' s s' ex → Rep G.P ρ' H' s'.heap → vr ρ' H'.n v w → ItAt ρ' H' s'.heap it src' ex → wpAny G.M A (ps w) Q E s') :
    wpAny G.M A (pyNext it >>= fun r => match r with
      | none => pn
      | some v => letOwnedTupleGo target it v >>= fun uq1 => ps v) Q E s := by
  refine wpAny_bind (wpAny_mono (next_ok (Qn := fun s' => wpAny G.M A pn Q E s') (Qs := fun w s' => wpAny G.M A (ps w) Q E s') (E := E) hh R I e ht hn hs) (fun r s₁ h₁ => ?_) fun uq1 uq2 x => x)
  cases r with
  | none => exact h₁
  | some v => exact wpAny_bind h₁

theorem loop_j {elt t iter : Expr} {ifs : List Expr} {gens : List Comprehension} {scope : Scope} {pos : Pos} {d : Nat} {f : MV → St → Option St} {ti : St → Option (Bool × MH)} {body : Nat → St → Option St}
    (hg : gens[d]? = some ⟨t, iter, ifs, 0⟩) (hn : ∀ g', gens[d + 1]? = some g' → g'.is_async = 0) (ht : AsgT G k sx t f) (hi : DenIfs G k sx ifs ti) (hb : BodyJ G k sx elt (.ListComp elt gens scope pos) gens (d + 1) body) :
    LoopJ G k sx elt gens scope pos d t f ti body := fun {env} {A} {ρ₀} {ρ} {H₀} {st} {st'} {s₀} {s} {la} {acc} {it} {src} {ex} {n} {R} F B I ha hit hbase hok e a₀ hx hm hR => by
  refine codeAny_loop' rfl (fun n s' => ∃ ρ' st₁ src, Aft ρ₀ ρ' H₀ st₁.H s₀ s' (Mine env sx) ∧ InF G env sx ρ' st₁ s' ∧ vr ρ' st₁.H.n (.ref la) acc ∧ ItAt ρ' st₁.H s'.heap it src ex ∧ src.okT t = true ∧ compFor f ti (body la) n src st₁ = some st')
    (fun n s' hI => ?_) n ⟨ρ, st, src, a₀, I, ha, hit, hok, e⟩
  obtain ⟨ρ₂, st₂, src₂, a₂, i₂, ha₂, v₂, ok₂, e₂⟩ := hI
  show wpAny _ _ ((compTurn (.ListComp elt gens scope pos) d it acc env).onRaise (fun x => do noteFrame x env; theTreesLotGoes x)) _ _ s'
  refine wpAny_noted ?_
  rw [compTurn_eq _ _ _ _ _ _ _ _ _ _ _ hg hn]
  cases n with
  | zero => cases e₂
  | succ n =>
    obtain ⟨r, e3, e4⟩ := Option.bind_eq_some_iff.mp e₂
    refine wpAny_bind (wpAny_standAt (next_bind (G := G) (target := t) B.h i₂.bas.rep v₂ e3 ok₂ (fun hr s' a r' => ?_) (fun v src' H' hr w s' ρ' a r' hv ia => ?_)))
    · subst hr
      cases e4
      exact wpAny_pure (hR _ ρ₂ (a₂.skip a hx hm fun b m o => i₂.off b o m) (i₂.afterEx a r' v₂.isF hbase) (vr_mono a.le a.agree ha₂))
    · subst hr
      obtain ⟨st₃, e5, e6⟩ := Option.bind_eq_some_iff.mp e4
      obtain ⟨⟨b, H₄⟩, e7, e8⟩ := Option.bind_eq_some_iff.mp e6
      obtain ⟨st₅, e9, e10⟩ := Option.bind_eq_some_iff.mp e8
      have A1 := a₂.skip a hx hm fun b m o => i₂.off b o m
      have I1 : InF G env sx ρ' ⟨st₂.vs, H'⟩ s' := i₂.afterEx a r' v₂.isF hbase
      have nm : ∀ {ρ : Nat → Addr} {st : St} {s : Shared}, InF G env sx ρ st s → IsF s ex → ∀ b, ex b → ¬ Mine env sx b := fun i v b x m => by
        obtain ⟨o, vs, g, d⟩ := v b x
        rcases m with rfl | ⟨y, _, hc⟩
        · obtain ⟨_, ⟨o', es, ep, ho, hd, _⟩, _⟩ := i.ns; rw [ho] at g; cases g; rw [hd] at d; cases d
        · obtain ⟨⟨_, o', ho, hd⟩, _⟩ := i.cells y b hc; rw [ho] at g; cases g; rw [hd] at d; cases d
      refine wpAny_bind ((ht F B I1 hv e5).wp fun uq1 s₅ ρ₅ a₅ i₅ uq2 => ?_)
      have v5 := ItAt.after ia a₅ (nm I1 ia.isF)
      refine wpAny_bind ((hi F B i₅ e7).wp fun ok s₆ ρ₆ a₆ r₆ hok => ?_)
      subst hok
      have i₆ := i₅.after a₆ r₆
      have a6' := i₅.lift a₆
      have v6 := v5.after a6' (nm i₅ v5.isF)
      have A6 := (A1.trans a₅).trans a6'
      have ha₆ : vr ρ₆ H₄.n (.ref la) acc := vr_mono a₆.le a₆.agree (vr_mono a₅.le a₅.agree (vr_mono a.le a.agree ha₂))
      cases ok with
      | true =>
        refine wpAny_bind ((hb F B i₆ ha₆ e9).wp fun uq1 s₇ ρ₇ a₇ i₇ uq2 => wpAny_pure (.inl ⟨rfl, n, Nat.lt_succ_self _, ρ₇, st₅, src', A6.trans a₇, i₇, vr_mono a₇.le a₇.agree ha₆, v6.after a₇ (nm i₆ v6.isF), okT_next e3 ok₂, e10⟩))
      | false =>
        cases e9
        exact wpAny_pure (.inl ⟨rfl, n, Nat.lt_succ_self _, ρ₆, _, src', A6, i₆, ha₆, v6, okT_next e3 ok₂, e10⟩)

theorem body_nest {elt t iter : Expr} {ifs : List Expr} {gens : List Comprehension} {scope : Scope} {pos : Pos} {d : Nat} {di : St → Option (Src × MH)} {f : MV → St → Option St} {ti : St → Option (Bool × MH)} {body : Nat → St → Option St}
    (hg : gens[d]? = some ⟨t, iter, ifs, 0⟩) (hit : DenI G k sx iter di) (hs : ∀ env x, foldedSetIterable iter env x = pure x) (hl : LoopJ G k sx elt gens scope pos d t f ti body) :
    BodyJ G k sx elt (.ListComp elt gens scope pos) gens d (nestD t di f ti body) := fun {env} {A} {ρ} {st} {st'} {s} {la} {acc} F B I ha e => by
  obtain ⟨⟨src, H₁⟩, e1, e⟩ := Option.bind_eq_some_iff.mp e
  dsimp only at e
  split at e
  case isFalse => cases e
  rename_i hok
  unfold bodyS nestS
  rw [hg]
  refine fun Q q => wpAny_bind (wpAny_mono (hit F B I e1 _ fun itv s₁ ρ₁ ex a₁ r₁ v₁ n₁ => ?_) (fun x uq1 z => wpAny_bind (wpAny_standAt (wpAny_bind (wpAny_of_eq (hs _ x) (wpAny_bind (wpAny_holding z)))))) (fun uq1 uq2 x => x))
  have hb : ∀ b o, G.h₀.get? b = some o → ¬ ex b := fun b o e x => by
    have := I.bas.base b o e; exact (n₁ b x).elim (fun q => by rw [q] at this; cases this.1) this.2
  have I1 := I.after a₁ r₁
  have loop : ∀ {R : Result → Shared → Prop}, (∀ s' ρ', Aft ρ ρ' st.H st'.H s s' (Mine env sx) → InF G env sx ρ' st' s' → vr ρ' st'.H.n (.ref la) acc → R (.ok .next) s') → codeAny G.M A (.compLoop (.ListComp elt gens scope pos) d itv acc env) R s₁ :=
    fun hR => hl F B I1 (vr_mono a₁.le a₁.agree ha) v₁ hb hok e (I.lift a₁) n₁ (fun b m o => I.off b o m) hR
  refine wpAny_bind (wpAny_runOwn (codeAny_compStart_at hg rfl (loop fun s' ρ' a i uq1 => wpAny_pure (q _ _ _ a i trivial)) (iter_self v₁ (loop fun s' ρ' a i uq1 => wpAny_pure (q _ _ _ a i trivial)))))

theorem ifs_nil : DenIfs G k sx [] (fun st => some (true, st.H)) := fun uq1 uq2 I e => by
  cases e
  exact fun Q q => wpAny_pure (q _ _ _ .refl I.bas.rep rfl)
theorem ifs_one {c : Expr} {d : St → Option (Bool × MH)} (h : DenB G k sx c d) : DenIfs G k sx [c] d := fun F B I e Q q => by
  rw [List.forIn_cons]
  refine wpAny_bind ?_
  rw [if_pos rfl]
  exact wpAny_bind (h F B I e _ fun a s₁ ρ₁ a₁ r₁ v₁ => wpAny_pure (wpAny_pure (q a s₁ ρ₁ a₁ r₁ v₁)))
end
end Q
end Mini

open PySem PySem.W PySem.Calls PyProof.Rows
set_option maxRecDepth 100000
namespace Mini
noncomputable section Q

noncomputable def relab (scope osc : Scope) : Scope :=
  { scope with names := scope.names.map fun (n, k) => if (k == .free && osc.kind == .function && osc.names.lookup n == some .cell) then (n, .cell) else (n, k) }
theorem relab_eq (scope : Scope) (env : Env) : relabel scope env = relab scope env.scope := rfl
theorem relab_lookup {osc : Scope} : ∀ {names : List (Str × NameKind)} {x : Str},
    (names.map fun (n, k) => if (k == NameKind.free && osc.kind == .function && osc.names.lookup n == some .cell) then (n, NameKind.cell) else (n, k)).lookup x =
      (names.lookup x).map fun k => if (k == NameKind.free && osc.kind == .function && osc.names.lookup x == some .cell) then NameKind.cell else k
  | [], _ => rfl
  | (n, k) :: r, x => by
    have ih := @relab_lookup osc r x
    show List.lookup x ((if (k == NameKind.free && osc.kind == .function && osc.names.lookup n == some .cell) = true then (n, NameKind.cell) else (n, k)) :: _) = _
    cases hx : x == n with
    | true =>
      have : x = n := by simpa using hx
      subst this
      by_cases hc : (k == NameKind.free && osc.kind == .function && osc.names.lookup x == some .cell) = true
      · rw [if_pos hc]; simp only [List.lookup_cons, hx, Option.map_some, if_pos hc]
      · rw [if_neg hc]; simp only [List.lookup_cons, hx, Option.map_some, if_neg hc]
    | false =>
      by_cases hc : (k == NameKind.free && osc.kind == .function && osc.names.lookup n == some .cell) = true
      · rw [if_pos hc]; simp only [List.lookup_cons, hx]; exact ih
      · rw [if_neg hc]; simp only [List.lookup_cons, hx]; exact ih

theorem closure_ok {env : Env} {scope : Scope} (hf : ∀ x ∈ scope.names, x.2 = .free → ∃ c, env.cells.lookup x.1 = some c) :
    ∃ cl, closureFor scope env = pure cl ∧ (∀ x c, cl.lookup x = some c → env.cells.lookup x = some c) ∧ (∀ x ∈ scope.names, x.2 = .free → ∃ c, cl.lookup x.1 = some c) := by
  have key : ∀ (names : List (Str × NameKind)) (cs : List (Str × Addr)), (∀ x ∈ names, x.2 = .free → ∃ c, env.cells.lookup x.1 = some c) → (∀ x c, cs.lookup x = some c → env.cells.lookup x = some c) →
      ∃ cl, (forIn names cs fun x r => (match x with | (name, kind) => if (kind == .free) = true then do { let c ← cellOf env name; pure (ForInStep.yield ((name, c) :: r)) } else pure (ForInStep.yield r) : Sem (ForInStep (List (Str × Addr))))) = pure cl ∧
        (∀ x c, cl.lookup x = some c → env.cells.lookup x = some c) ∧ (∀ x, (cs.lookup x).isSome → (cl.lookup x).isSome) ∧ (∀ x ∈ names, x.2 = .free → ∃ c, cl.lookup x.1 = some c) := by
    intro names
    induction names with
    | nil => intro cs _ h; exact ⟨cs, rfl, h, fun uq1 h => h, fun uq1 h => by cases h⟩
    | cons x r ih =>
      intro cs hf h
      rw [List.forIn_cons]
      obtain ⟨n, kd⟩ := x
      by_cases hk : kd = .free
      · subst hk
        obtain ⟨c, hc⟩ := hf (n, .free) List.mem_cons_self rfl
        obtain ⟨cl, e, h1, h2, h3⟩ := ih ((n, c) :: cs) (fun y hy => hf y (List.mem_cons_of_mem _ hy)) (fun y d hy => by
          cases hyn : y == n with
          | true =>
            have : y = n := by simpa using hyn
            subst this
            simp [List.lookup_cons] at hy; subst hy; exact hc
          | false => simp only [List.lookup_cons, hyn] at hy; exact h y d hy)
        refine ⟨cl, ?_, h1, fun y hy => h2 y ?_, fun y hy hyf => ?_⟩
        · simp only [beq_self_eq_true, if_true]
          unfold cellOf
          rw [hc]
          exact e
        · cases hyn : y == n with
          | true => simp [List.lookup_cons, hyn]
          | false => simp only [List.lookup_cons, hyn]; exact hy
        · cases hy with
          | head => exact Option.isSome_iff_exists.mp (h2 n (by simp [List.lookup_cons]))
          | tail _ hy => exact h3 y hy hyf
      · obtain ⟨cl, e, h1, h2, h3⟩ := ih cs (fun y hy => hf y (List.mem_cons_of_mem _ hy)) h
        refine ⟨cl, ?_, h1, h2, fun y hy hyf => ?_⟩
        · have : (kd == NameKind.free) = false := by simpa using hk
          simp only [this, Bool.false_eq_true, if_false]
          exact e
        · cases hy with
          | head => exact absurd hyf hk
          | tail _ hy => exact h3 y hy hyf
  obtain ⟨cl, e, h1, _, h3⟩ := key scope.names [] hf (fun x c h => by cases h)
  refine ⟨cl, ?_, h1, h3⟩
  unfold closureFor
  exact (congrArg (· >>= pure) e).trans (pure_bind _ _)

set_option genSizeOf false in
set_option genInjectivity false in
structure CompOk (sx : Sx) (scope : Scope) (cap : List (Option Nat)) : Prop where
  kind : scope.kind = .function
  names : ∀ x ∈ scope.names, x.2 = .local → scope.names.lookup x.1 = some .local
  nocell : ∀ x ∈ scope.names, x.2 ≠ .cell
  free : ∀ x ∈ scope.names, x.2 = .free → sx.kindOf x.1 = some .cell ∨ sx.kindOf x.1 = some .free
  nd : (scope.names.map (·.1)).Nodup
  cap : ∀ (j i : Nat), cap[j]? = some (some i) → ∃ x, (scope.names.map (·.1))[j]? = some x ∧ sx.slots[i]? = some x ∧ (sx.kindOf x = some .cell ∨ sx.kindOf x = some .free) ∧ scope.names.lookup x = some .free

noncomputable def capChk (sx : Sx) (scope : Scope) : List Str → List (Option Nat) → Bool
  | _, [] => true
  | [], _ :: _ => false
  | _ :: r, none :: c => capChk sx scope r c
  | x :: r, some i :: c => sx.slots[i]? == some x && (sx.kindOf x == some .cell || sx.kindOf x == some .free) && scope.names.lookup x == some .free && capChk sx scope r c
theorem capChk_ok {sx : Sx} {scope : Scope} : ∀ {xs : List Str} {cap : List (Option Nat)}, capChk sx scope xs cap = true → ∀ (j i : Nat), cap[j]? = some (some i) → ∃ x, xs[j]? = some x ∧ sx.slots[i]? = some x ∧ (sx.kindOf x = some .cell ∨ sx.kindOf x = some .free) ∧ scope.names.lookup x = some .free
  | _, [], _, j, i, e => by simp at e
  | [], _ :: _, h, _, _, _ => by cases h
  | _ :: r, none :: c, h, j, i, e => by
    cases j with
    | zero => cases e
    | succ j => simpa using capChk_ok (xs := r) h j i (by simpa using e)
  | x :: r, some i' :: c, h, j, i, e => by
    simp only [capChk, Bool.and_eq_true, Bool.or_eq_true, beq_iff_eq] at h
    cases j with
    | zero => cases e; exact ⟨x, rfl, h.1.1.1, h.1.1.2, h.1.2⟩
    | succ j => simpa using capChk_ok (xs := r) h.2 j i (by simpa using e)

noncomputable abbrev Sx.comp (sx : Sx) (scope : Scope) : Sx := ⟨relab scope sx.scope, scope.names.map (·.1), [], sx.code, sx.qual⟩
noncomputable def capV (cap : List (Option Nat)) (vs : List (Option MV)) : List (Option MV) := cap.map fun c => match c with
  | some i => (vs[i]?).join
  | none => none
noncomputable def compD (cap : List (Option Nat)) (t : Expr) (di : St → Option (Src × MH)) (f : MV → St → Option St) (ti : St → Option (Bool × MH)) (body : Nat → St → Option St) (st : St) : Option (MV × MH) := (di st).bind fun p =>
  if p.1.okT t = true then (compFor f ti (body p.2.n) (p.1.fuel p.2) p.1 ⟨capV cap st.vs, p.2.push (.list [])⟩).map fun st' => (.ref p.2.n, st'.H) else none

section
variable {G : Gl} {k : Nat} {env : Env} {sx : Sx} {A : Around} {ρ ρ' : Nat → Addr} {st st' : St} {H H' : MH} {s s' : Shared}

theorem Aft.unex {ex : Addr → Prop} (a : Aft ρ ρ' H H' s s' ex) (h : ∀ b o, ex b → s.heap.get? b = some o → False) : Aft ρ ρ' H H' s s' NoEx :=
  { a with
    keep := fun b o e n uq1 => a.keep b o e n fun x => h b o x e
    live := fun b o x => x.elim }
theorem comp_run {elt t iter : Expr} {ifs : List Expr} {gs : List Comprehension} {scope : Scope} {pos p' : Pos} {cap : List (Option Nat)} {di : St → Option (Src × MH)} {f : MV → St → Option St} {ti : St → Option (Bool × MH)} {body : Nat → St → Option St}
    {use : Option (Value → Sem Unit)} {v : MV} {Q : Value → Shared → Prop}
    (ok : CompOk sx scope cap) (hit : DenI G k sx iter di) (hs : ∀ env x, foldedSetIterable iter env x = pure x) (hl : LoopJ G k (sx.comp scope) elt (⟨t, iter, ifs, 0⟩ :: gs) scope pos 0 t f ti body)
    (F : Fst G env sx) (B : Bud A k) (I : InF G env sx ρ st s) (e : compD cap t di f ti body st = some (v, H'))
    (q : ∀ acc C s' ρ' m, Aft ρ ρ' st.H H' s s' NoEx → Rep G.P ρ' H' s'.heap → vr ρ' H'.n v acc → s'.heap.Ns C m → (s.heap.get? C = none ∨ Owned ρ st.H C) → ¬ Owned ρ' H' C → (∀ b o, G.h₀.get? b = some o → b ≠ C) → C ≠ env.locals → (∀ x c, env.cells.lookup x = some c → c ≠ C) → compPost G.M A (fun uq1 uq2 => False) use Q acc C (.ok .next) s') :
    wpAny G.M A (comprehension (.ListComp elt (⟨t, iter, ifs, 0⟩ :: gs) scope pos) scope env p' (newList []) false (eval iter env) use) Q (fun uq1 uq2 => False) s := by
  obtain ⟨⟨src, H₁⟩, e1, e⟩ := Option.bind_eq_some_iff.mp e
  dsimp only at e
  split at e
  case isFalse => cases e
  rename_i hok
  obtain ⟨st₂, e2, e⟩ := Option.map_eq_some_iff.mp e
  cases e
  obtain ⟨cl, hcl, hc1, hc2⟩ := closure_ok (env := env) (scope := scope) fun x hx hf => F.has x.1 (ok.free x hx hf)
  refine wpAny_comprehension_free rfl (hs env) hcl ok.kind ok.names (hit F B I e1 _ fun it s₁ ρ₁ ex a₁ r₁ v₁ n₁ => ?_)
  refine wpAny_newObj_type (wpAny_newFunctionEnv ok.nocell (by intro y hy; simp at hy) (fun h₁ hns₁ hsb₁ => ?_) ok.kind)
  dsimp only at hns₁ hsb₁ ⊢
  generalize hH2 : s₁.heap.push { cls := .type "list", dict := none, data := .seq ([] : List Value).toArray } = H2 at hns₁ hsb₁ ⊢
  obtain ⟨g1, R2⟩ := push_new (s := s₁) (tk := s₁.toks) (ex := NoEx) (o := .list []) (h' := H2) r₁ (fresh_none (Nat.le_refl _)) (hH2 ▸ Heap.get?_push_size _ rfl) ⟨[], 0, rfl, .nil⟩ (fun b o e => hH2 ▸ Heap.get?_push_of_some _ e)
  have A2 := a₁.trans g1
  have fC : H2.get? H2.objs.size = none := fresh_none (Nat.le_refl _)
  have kC : ∀ b o, H2.get? b = some o → h₁.get? b = some o ∧ b ≠ H2.objs.size := fun b o e => by
    have hb := Nat.ne_of_lt (Heap.lt_size e)
    exact ⟨(hsb₁.2 b hb).trans (Heap.get?_push_of_some _ e), hb⟩
  have g3 := Aft.garbage (ρ := ext ρ₁ H₁.n s₁.heap.objs.size) (H := H₁.push (.list [])) (s := { s₁ with heap := H2 }) (tk := s₁.toks + ([] : List (Str × Value)).length) (ex := NoEx) (h' := h₁) (fun b o e => (kC b o e).1)
  have R3 : Rep G.P (ext ρ₁ H₁.n s₁.heap.objs.size) (H₁.push (.list [])) h₁ := R2.garbage fun b o e => (kC b o e).1
  have A3 := A2.trans g3
  have oC : ∀ {b}, Owned (ext ρ₁ H₁.n s₁.heap.objs.size) (H₁.push (.list [])) b → b ≠ H2.objs.size := fun ⟨l, o, g, e⟩ => by
    obtain ⟨ob, g', _⟩ := R2.at_ l o g
    rw [e] at g'; exact (kC _ _ g').2
  have I2 : InF G env sx (ext ρ₁ H₁.n s₁.heap.objs.size) ⟨st.vs, H₁.push (.list [])⟩ { s₁ with heap := H2 } := I.after A2 R2
  have I3 : InF G env sx (ext ρ₁ H₁.n s₁.heap.objs.size) ⟨st.vs, H₁.push (.list [])⟩ { s₁ with heap := h₁, toks := s₁.toks + ([] : List (Str × Value)).length } := I.after A3 R3
  have O0 : ∀ b, Owned ρ st.H b → b ≠ H2.objs.size := fun b ⟨l, o, g, e⟩ => by
    obtain ⟨o', g'⟩ := A2.stay l o g
    have hl := I.bas.rep.lt l o g
    exact oC ⟨l, o', g', by rw [A2.agree l hl]; exact e⟩
  have F' : Fst G (compEnvC scope cl H2.objs.size env) (sx.comp scope) := {
    scope := by show relabel scope env = _; rw [relab_eq, F.scope]
    kind := ok.kind
    glo := F.glo
    bui := F.bui
    ownk := fun x h => by cases h
    owninj := fun x y c h => by cases h
    nd := ok.nd
    code := F.code
    qual := F.qual
    has := fun x h => by
      have hx : ((relab scope sx.scope).names.lookup x) = some .cell ∨ ((relab scope sx.scope).names.lookup x) = some .free := h
      unfold relab at hx
      rw [relab_lookup] at hx
      cases hk : scope.names.lookup x with
      | none => rw [hk] at hx; rcases hx with h | h <;> cases h
      | some kd =>
        rw [hk, Option.map_some] at hx
        have hm := mem_of_lookup hk
        cases kd with
        | free => exact hc2 (x, .free) hm rfl
        | cell => exact absurd rfl (ok.nocell _ hm)
        | _ => rcases hx with h | h <;> (rw [if_neg (by simp)] at h; cases h) }
  have inMine : ∀ b, Mine (compEnvC scope cl H2.objs.size env) (sx.comp scope) b → b = H2.objs.size := fun b m => by
    rcases m with m | ⟨x, h, _⟩
    · exact m
    · cases h
  have hnC : env.locals ≠ H2.objs.size := by
    obtain ⟨_, ⟨o, _, _, ho, _⟩, _⟩ := I2.ns
    exact (kC _ _ ho).2
  have I4 : InF G (compEnvC scope cl H2.objs.size env) (sx.comp scope) (ext ρ₁ H₁.n s₁.heap.objs.size) ⟨capV cap st.vs, H₁.push (.list [])⟩ { s₁ with heap := h₁, toks := s₁.toks + ([] : List (Str × Value)).length } := {
    bas := I3.bas
    basem := fun b o e m => (kC b o (I2.bas.base b o e).1).2 (inMine b m)
    off := fun b q m => oC q (inMine b m)
    cells := fun x c hc => by
      obtain ⟨⟨v, o, ho, hd⟩, n, _, _⟩ := I2.cells x c (hc1 x c hc)
      exact ⟨⟨v, o, (kC c o ho).1, hd⟩, n, (kC c o ho).2, fun uq1 m => (kC c o ho).2 (inMine c m)⟩
    ns := ⟨_, hns₁, fun i x v h1 h2 h3 => by
      unfold capV at h3
      rw [List.getElem?_map] at h3
      obtain ⟨cc, hcc, h3⟩ := Option.map_eq_some_iff.mp h3
      cases cc with
      | none => cases h3
      | some j =>
        obtain ⟨y, y1, y2, y3, y4⟩ := ok.cap i j hcc
        have : y = x := by have := y1.symm.trans h1; cases this; rfl
        subst this
        have h2' : (relab scope sx.scope).names.lookup y = some .local := h2
        unfold relab at h2'
        rw [relab_lookup, y4, Option.map_some] at h2'
        split at h2' <;> cases h2'⟩
    cel := fun i x v h1 h2 h3 => by
      unfold capV at h3
      rw [List.getElem?_map] at h3
      obtain ⟨cc, hcc, h3⟩ := Option.map_eq_some_iff.mp h3
      cases cc with
      | none => cases h3
      | some j =>
        obtain ⟨y, y1, y2, y3, y4⟩ := ok.cap i j hcc
        have : y = x := by have := y1.symm.trans h1; cases this; rfl
        subst this
        have h3' : st.vs[j]? = some (some v) := by
          dsimp only at h3
          cases hq : st.vs[j]? with
          | none => rw [hq] at h3; cases h3
          | some z => rw [hq] at h3; cases h3; rfl
        obtain ⟨c, w, hc, hw, hr⟩ := I3.cel j y v y2 y3 h3'
        obtain ⟨c', hc'⟩ := hc2 (y, .free) (mem_of_lookup y4) rfl
        have := hc1 _ _ hc'
        rw [hc] at this; cases this
        exact ⟨c, w, hc', hw, hr⟩ }
  have hacc : vr (ext ρ₁ H₁.n s₁.heap.objs.size) (H₁.push (.list [])).n (.ref H₁.n) (.ref s₁.heap.objs.size) := ⟨Nat.lt_succ_self _, by rw [ext_self]⟩
  have hbase : ∀ b o, G.h₀.get? b = some o → ¬ ex b := fun b o e x => by
    have := I.bas.base b o e; exact (n₁ b x).elim (fun q => by rw [q] at this; cases this.1) this.2
  have nxC : ∀ b, ex b → ¬ NoEx b := fun uq1 uq2 h => h
  have v₃ := v₁.after (g1.trans g3) nxC
  have A4 : Aft ρ (ext ρ₁ H₁.n s₁.heap.objs.size) st.H (H₁.push (.list [])) s { s₁ with heap := h₁, toks := s₁.toks + ([] : List (Str × Value)).length } (Mine (compEnvC scope cl H2.objs.size env) (sx.comp scope)) :=
    A3.mono (fun uq1 h => h.elim) fun b o m uq1 uq2 => by
      cases inMine b m
      obtain ⟨o, _, _, ho, _⟩ := hns₁
      exact ⟨o, ho⟩
  have loop : codeAny G.M A (.compLoop (.ListComp elt (⟨t, iter, ifs, 0⟩ :: gs) scope pos) 0 it (.ref s₁.heap.objs.size) (compEnvC scope cl H2.objs.size env)) (compPost G.M A (fun uq1 uq2 => False) use Q (.ref s₁.heap.objs.size) H2.objs.size) { s₁ with heap := h₁, toks := s₁.toks + ([] : List (Str × Value)).length } := by
    refine hl F' B I4 hacc v₃ hbase hok e2 A4 n₁ (fun c m o => O0 c o (inMine c m)) fun s' ρ' a i va => ?_
    obtain ⟨m, hm, _⟩ := i.ns
    have fr : s.heap.get? H2.objs.size = none ∨ Owned ρ st.H H2.objs.size := A2.fresh fC
    have fr' : s.heap.get? H2.objs.size = none := fr.elim id fun o => absurd rfl (O0 _ o)
    refine q _ _ s' ρ' m (a.unex fun b o x e => ?_) i.bas.rep va hm fr (fun q => i.off _ q mine_locals) (fun b o e => (kC b o (I2.bas.base b o e).1).2) (Ne.symm hnC) fun x c hc => ?_
    · cases inMine b x; rw [fr'] at e; cases e
    · obtain ⟨⟨v, o, ho, _⟩, _⟩ := I2.cells x c hc
      exact (kC c o ho).2
  exact codeAny_compStart_at rfl rfl loop (iter_self v₃ loop)

theorem frame_gone {C : Addr} {h' : Heap} {m : Str → Option Value} (R : Rep G.P ρ H s.heap) (hn : s.heap.Ns C m) (ho : ¬ Owned ρ H C) (hs : Heap.SameBut C s.heap h') : Stp ρ ρ H H s { s with heap := h' } (· = C) ∧ Rep G.P ρ H h' :=
  other_keep (tk := s.toks) R (fun b e => e ▸ ho) fun b o n e => (hs.2 b n).trans e

theorem den_comp {elt t iter : Expr} {ifs : List Expr} {gs : List Comprehension} {scope : Scope} {pos : Pos} {cap : List (Option Nat)} {di : St → Option (Src × MH)} {f : MV → St → Option St} {ti : St → Option (Bool × MH)} {body : Nat → St → Option St}
    (ok : CompOk sx scope cap) (hit : DenI G k sx iter di) (hs : ∀ env x, foldedSetIterable iter env x = pure x) (hl : LoopJ G k (sx.comp scope) elt (⟨t, iter, ifs, 0⟩ :: gs) scope pos 0 t f ti body) :
    DenE G k sx (.ListComp elt (⟨t, iter, ifs, 0⟩ :: gs) scope pos) (compD cap t di f ti body) := fun F B I e Q q => by
  rw [eval_ListComp]
  refine comp_run (use := none) ok hit hs hl F B I e fun acc C s' ρ' m a r v hn fr hO hb uq1 uq2 => ?_
  refine ⟨m, hn, fun h' hsb => ?_⟩
  obtain ⟨b1, b2⟩ := frame_gone r hn hO hsb
  exact q _ _ ρ' (a.skip b1 (fun c e => e ▸ fr) (fun uq1 h => h.elim) fun uq1 h => h.elim) b2 v

noncomputable def asgCompS (d : St → Option (MV × MH)) (i : Nat) (st : St) : Option (Fl × St) := (d st).map fun p => (.next, ⟨setN st.vs i (some p.1), p.2⟩)
theorem ds_assign_comp {y : Str} {py spos : Pos} {elt t iter : Expr} {ifs : List Expr} {gs : List Comprehension} {scope : Scope} {pos : Pos} {cap : List (Option Nat)} {di : St → Option (Src × MH)} {f : MV → St → Option St} {ti : St → Option (Bool × MH)} {body : Nat → St → Option St}
    (i : Nat) (hi : sx.slots[i]? = some y) (hk : sx.kindOf y = some .local)
    (hsw : ∀ env : Env, env.scope = sx.scope → swapsWith (.ListComp elt (⟨t, iter, ifs, 0⟩ :: gs) scope pos) (some (.Name y py)) spos.line env = pure true)
    (ok : CompOk sx scope cap) (hit : DenI G k sx iter di) (hs : ∀ env x, foldedSetIterable iter env x = pure x) (hl : LoopJ G k (sx.comp scope) elt (⟨t, iter, ifs, 0⟩ :: gs) scope pos 0 t f ti body) :
    DenS G k sx (.Assign [.Name y py] (.ListComp elt (⟨t, iter, ifs, 0⟩ :: gs) scope pos) spos) (asgCompS (compD cap t di f ti body) i) := fun {env} {A} {ρ} {st} {s} {fl} {st'} F B I e => by
  obtain ⟨⟨v, H₁⟩, e1, e⟩ := Option.map_eq_some_iff.mp e
  cases e
  intro Q q
  rw [exec_Assign_Name_used _ _ _ _ (hsw env F.scope)]
  refine wpAny_bind (wpAny_standAt (wpAny_bind ?_))
  show wpAny _ A (do let _ ← comprehension (.ListComp elt (⟨t, iter, ifs, 0⟩ :: gs) scope pos) scope env _ (newList []) false (eval iter env) (some (assign (.Name y py) env))) _ _ s
  refine wpAny_bind (wpAny_mono (comp_run (use := some (assign (.Name y py) env)) (Q := fun uq1 s' => Q .next s') ok hit hs hl F B I e1 fun acc C s' ρ' m a r v hn fr hO hb hL hc => ?_) (fun uq1 s' hq => wpAny_pure (wpAny_pure hq)) fun uq1 uq2 e => e)
  show wpAny _ A (assign (.Name y py) env acc) _ _ _
  have I1 := I.after a r
  refine (asg_local (G := G) (k := k) i hi hk F B I1 v rfl).wp fun uq1 s₂ ρ₂ a₂ i₂ uq2 => ?_
  obtain ⟨o, es, ep, ho, hd, hr⟩ := id hn
  have nM : ¬ Mine env sx C := fun h => by
    rcases h with rfl | ⟨x, _, h⟩
    · exact hL rfl
    · exact hc x C h rfl
  have hk2 := a₂.keep C o ho hO nM
  have hO₂ := not_owned_after a₂ ho hO
  have hn₂ : s₂.heap.Ns C m := ⟨o, es, ep, hk2, hd, hr⟩
  refine ⟨m, hn₂, fun h' hsb => ?_⟩
  obtain ⟨b1, b2⟩ := frame_gone i₂.bas.rep hn₂ hO₂ hsb
  refine q _ _ ρ₂ (((I.lift a).trans a₂).skip b1 (fun c e => e ▸ fr) (fun c m o => I.off c o m) fun c m o => i₂.off c o m) ?_ rfl
  refine i₂.afterNX b1 b2 (fun b e => e ▸ hL) (fun b o' e g => ?_) (fun b o e => hb b o e)
  subst e
  rw [hk2] at g; cases g
  exact ⟨fun f q => (by rw [hd] at q; cases q), fun f q => (by rw [hd] at q; cases q)⟩
end
end Q
end Mini

open PySem PySem.W PySem.Calls PyProof.Rows
set_option maxRecDepth 100000
namespace Mini
noncomputable section Q

noncomputable abbrev BRel (params : List Str) (ρ : Nat → Addr) (n : Nat) (bs : List MV) (binds : List (Str × Value)) : Prop := ∃ vals, binds = params.zip vals ∧ vals.length = params.length ∧ VRs ρ n bs vals
noncomputable def BindD (G : Gl) (fd : FuncData) (params : List Str) (bnd : List MV → List (Str × MV) → MH → Option (List MV × MH)) : Prop :=
  ∀ {A : Around} {ρ : Nat → Addr} {H H' : MH} {s : Shared} {xs : List MV} {vs : List Value} {ks : List (Str × MV)} {kvs : List (Str × Value)} {r : List MV}, Bas G ρ H s → VRs ρ H.n xs vs → KWs ρ H.n ks kvs →
    bnd xs ks H = some (r, H') → EvX G.M G.P A (BRel params) (bindArgs fd ⟨vs, kvs⟩) ρ H s r H'

set_option genSizeOf false in
set_option genInjectivity false in
structure FnOk (G : Gl) (f : Addr) (fd : FuncData) (body : List Stmt) (sx : Sx) (params : List Str) : Prop where
  at_ : ∃ o, G.K.lookup f = some o ∧ o.data = .func fd
  code : ∃ c o vs t, fd.code = .ref c ∧ G.K.lookup c = some o ∧ o.data = .fields vs ∧ vs[1]? = some (.str fd.qualname t)
  body : fd.body = .stmts body
  scope : fd.scope = sx.scope
  co : fd.scope.isCoroutine = false
  gen : fd.scope.isGenerator = false
  kind : fd.scope.kind = .function
  glo : fd.globals = mainGlobals
  bui : fd.builtins = builtinsNs
  clo : fd.closure = []
  nofree : ∀ x ∈ fd.scope.names, x.2 ≠ .free
  own : ∀ x ∈ fd.scope.names, x.2 = .cell → x.1 ∈ sx.own
  ownk : ∀ x ∈ sx.own, sx.kindOf x = some .cell
  nd : sx.slots.Nodup
  pre : sx.slots.take params.length = params
  code' : sx.code = fd.code
  qual' : sx.qual = fd.qualname ++ (Str.ofString ".<locals>.")
  pk : ∀ x ∈ params, sx.kindOf x = some .local ∨ sx.kindOf x = some .cell

theorem cellsFrom_has : ∀ (names : List (Str × NameKind)) (a : Nat) (acc : List (Str × Addr)) (x : Str), ((x, NameKind.cell) ∈ names ∨ (acc.lookup x).isSome = true) → ((cellsFrom a names acc).lookup x).isSome = true
  | [], _, _, _, h => h.elim (fun h => by cases h) id
  | (n, k) :: r, a, acc, x, h => by
    unfold cellsFrom
    have acc' : ∀ b, (acc.lookup x).isSome = true → (((n, b) :: acc).lookup x).isSome = true := fun b hb => by
      rw [List.lookup_cons]; cases x == n <;> simp [hb]
    split
    · refine cellsFrom_has r _ _ x ?_
      rcases h with h | h
      · cases h with
        | head => exact .inr (by rw [List.lookup_cons]; simp)
        | tail _ h => exact .inl h
      · exact .inr (acc' _ h)
    · rename_i hk
      refine cellsFrom_has r _ _ x ?_
      rcases h with h | h
      · cases h with
        | head => exact absurd rfl hk
        | tail _ h => exact .inl h
      · exact .inr h
theorem cellsFrom_mem : ∀ (names : List (Str × NameKind)) (a : Nat) (acc : List (Str × Addr)) (x : Str) (c : Addr), (x, c) ∈ cellsFrom a names acc → (x, NameKind.cell) ∈ names ∨ (x, c) ∈ acc
  | [], _, _, _, _, h => .inr h
  | (n, k) :: r, a, acc, x, c, h => by
    unfold cellsFrom at h
    split at h
    · rename_i hk
      have hk : k = .cell := by simpa using hk
      subst hk
      rcases cellsFrom_mem r _ _ x c h with h | h
      · exact .inl (List.mem_cons_of_mem _ h)
      · cases h with
        | head => exact .inl List.mem_cons_self
        | tail _ h => exact .inr h
    · rcases cellsFrom_mem r _ _ x c h with h | h
      · exact .inl (List.mem_cons_of_mem _ h)
      · exact .inr h

theorem bindL_at (kind : Str → Option NameKind) : ∀ (ps : List Str) (vals : List Value) (m : Str → Option Value) (i : Nat) (x : Str) (w : Value), ps.Nodup → ps[i]? = some x → vals[i]? = some w → kind x = some .local → bindL kind (ps.zip vals) m x = some w := by
  have keep : ∀ (ps : List Str) (vals : List Value) (m : Str → Option Value) (x : Str), x ∉ ps → bindL kind (ps.zip vals) m x = m x := by
    intro ps
    induction ps with
    | nil => intro vals m x _; rfl
    | cons p r ih =>
      intro vals m x h
      cases vals with
      | nil => rfl
      | cons v vs =>
        show bindL kind (r.zip vs) _ x = _
        rw [ih vs _ x (fun q => h (List.mem_cons_of_mem _ q))]
        have hne : x ≠ p := fun q => h (q ▸ List.mem_cons_self)
        split
        · exact if_neg hne
        · rfl
  intro ps
  induction ps with
  | nil => intro vals m i x w _ h; simp at h
  | cons p r ih =>
    intro vals m i x w nd h hv hk
    cases vals with
    | nil => simp at hv
    | cons v vs =>
      show bindL kind (r.zip vs) _ x = _
      cases i with
      | zero =>
        cases h; cases hv
        rw [keep r vs _ _ (List.nodup_cons.mp nd).1, if_pos hk]
        exact if_pos rfl
      | succ i => exact ih vs _ i x w (List.nodup_cons.mp nd).2 (by simpa using h) (by simpa using hv) hk
theorem bindC_at (kind : Str → Option NameKind) : ∀ (ps : List Str) (vals : List Value) (m : Str → Option Value) (i : Nat) (x : Str) (w : Value), ps.Nodup → ps[i]? = some x → vals[i]? = some w → kind x ≠ some .local → bindC kind (ps.zip vals) m x = some w := by
  have keep : ∀ (ps : List Str) (vals : List Value) (m : Str → Option Value) (x : Str), x ∉ ps → bindC kind (ps.zip vals) m x = m x := by
    intro ps
    induction ps with
    | nil => intro vals m x _; rfl
    | cons p r ih =>
      intro vals m x h
      cases vals with
      | nil => rfl
      | cons v vs =>
        show bindC kind (r.zip vs) _ x = _
        rw [ih vs _ x (fun q => h (List.mem_cons_of_mem _ q))]
        have hne : x ≠ p := fun q => h (q ▸ List.mem_cons_self)
        split
        · rfl
        · exact if_neg hne
  intro ps
  induction ps with
  | nil => intro vals m i x w _ h; simp at h
  | cons p r ih =>
    intro vals m i x w nd h hv hk
    cases vals with
    | nil => simp at hv
    | cons v vs =>
      show bindC kind (r.zip vs) _ x = _
      cases i with
      | zero =>
        cases h; cases hv
        rw [keep r vs _ _ (List.nodup_cons.mp nd).1, if_neg hk]
        exact if_pos rfl
      | succ i => exact ih vs _ i x w (List.nodup_cons.mp nd).2 (by simpa using h) (by simpa using hv) hk

noncomputable def retOf (p : Fl × St) : Option (MV × MH) := match p.1 with
  | .ret v => some (v, p.2.H)
  | .next => some (.val .none, p.2.H)
  | _ => none
noncomputable def fnD (bnd : List MV → List (Str × MV) → MH → Option (List MV × MH)) (m : Nat) (d : St → Option (Fl × St)) (xs : List MV) (ks : List (Str × MV)) (H : MH) : Option (MV × MH) :=
  (bnd xs ks H).bind fun p => (d ⟨p.1.map some ++ List.replicate m none, p.2⟩).bind retOf

noncomputable def FnC (G : Gl) (k : Nat) (f : Value) (g : List MV → List (Str × MV) → MH → Option (MV × MH)) : Prop :=
  ∀ {A : Around} {ρ : Nat → Addr} {H H' : MH} {s : Shared} {xs : List MV} {vs : List Value} {ks : List (Str × MV)} {kvs : List (Str × Value)} {r : MV}, Bud A k → Bas G ρ H s → VRs ρ H.n xs vs → KWs ρ H.n ks kvs →
    g xs ks H = some (r, H') → ∀ Q : Value → Shared → Prop, (∀ a s' ρ', Aft ρ ρ' H H' s s' NoEx → Rep G.P ρ' H' s'.heap → vr ρ' H'.n r a → Q a s') →
      codeAny G.M A (.call f ⟨vs, kvs⟩) (fun r s' => match r with | .ok (.ret v) => Q v s' | _ => False) s
theorem FnC.den {G : Gl} {k : Nat} {f : Value} {g : List MV → List (Str × MV) → MH → Option (MV × MH)} (h : FnC G k f g) : FnDen G k f g := fun B b v kv e Q q =>
  wpAny_call (codeAny_mono (h B b v kv e Q q) fun r s' z => by rcases r with e | (v | _ | _ | _) <;> first | exact z | exact z.elim)
section
variable {G : Gl} {k : Nat} {env : Env} {sx : Sx} {A : Around} {ρ ρ' : Nat → Addr} {st st' : St} {H H' : MH} {s s' : Shared}

theorem fn_core {f : Addr} {fd : FuncData} {body : List Stmt} {params : List Str} {d : St → Option (Fl × St)} (m : Nat)
    (ok : FnOk G f fd body sx params) (hd : DenSs G k sx body d) {A : Around} {ρ₁ : Nat → Addr} {H₁ H' : MH} {s₁ : Shared} {bs : List MV} {vals : List Value} {fl : Fl} {st' : St} {r : MV} {Q : Value → Shared → Prop} (B : Bud A (k + 1)) (b₁ : Bas G ρ₁ H₁ s₁)
    (hlen : vals.length = params.length) (hbl : bs.length = vals.length)
    (hval : ∀ (i : Nat) u w y, bs[i]? = some u → vals[i]? = some w → params[i]? = some y → vr ρ₁ H₁.n u w ∨ (sx.kindOf y = some .local ∧ vra G s₁.heap (fun b => ¬ Owned ρ₁ H₁ b) ρ₁ H₁.n u w))
    (e2 : d ⟨bs.map some ++ List.replicate m none, H₁⟩ = some (fl, st')) (e : retOf (fl, st') = some (r, H')) (q : ∀ a s' ρ', Aft ρ₁ ρ' H₁ H' s₁ s' NoEx → Rep G.P ρ' H' s'.heap → vr ρ' H'.n r a → Q a s') :
    wpAny G.M A.in1 (newFunctionEnv fd.scope fd.globals fd.closure (params.zip vals) (fd.qualname ++ (Str.ofString ".<locals>.")) (some f) fd.code none fd.builtins)
      (fun env s₂ => s₂.heap.NoLimit ∧ codeAny G.M A (.func body env) (fun r s' => match r with | .ok (.ret v) => Q v s' | _ => False) s₂) (fun uq1 uq2 => False) s₁ := by
  have r₁ := b₁.rep
  rw [ok.clo]
  refine wpAny_newFunctionEnv_cells (M := G.M) ok.kind (fun x hx => ?_) fun env he s₂ x => ?_
  · have hp : x.1 ∈ params := (List.of_mem_zip hx).1
    rcases ok.pk x.1 hp with h | h
    · exact .inl (by rw [ok.scope]; exact h)
    · exact .inr ⟨by rw [ok.scope]; exact h, cellsFrom_has _ _ _ _ (.inl (mem_of_lookup (by rw [ok.scope]; exact h)))⟩
  have hL : env.locals = s₁.heap.objs.size := by rw [he]; rfl
  have hcs : env.cells = cellsFrom (s₁.heap.objs.size + 1) fd.scope.names [] := by rw [he]; rfl
  have hscope : env.scope = sx.scope := by rw [he, ← ok.scope]; rfl
  have hkind : ∀ y, env.kindOf y = sx.kindOf y := fun y => by unfold Env.kindOf; rw [hscope]
  obtain ⟨hp, tk, hs₂⟩ := x.toInCall.same
  have kp := x.toInCall.keep
  have iscell : ∀ y c, env.cells.lookup y = some c → (y, NameKind.cell) ∈ fd.scope.names := fun y c hy => by
    rw [hcs] at hy
    exact (cellsFrom_mem _ _ _ _ _ (mem_of_lookup hy)).elim id fun h => by cases h
  have inOwn : ∀ y c, env.cells.lookup y = some c → y ∈ sx.own := fun y c hy => ok.own (y, .cell) (iscell y c hy) rfl
  have newer : ∀ b', Mine env sx b' → s₁.heap.get? b' = none := fun b' m => by
    rcases m with rfl | ⟨y, _, hc⟩
    · exact fresh_none x.toInCall.fresh
    · exact fresh_none (Nat.le_trans x.toInCall.fresh (Nat.le_of_lt (x.above y b' (mem_of_lookup hc))))
  have F' : Fst G env sx := {
    scope := hscope
    kind := by rw [← ok.scope]; exact ok.kind
    glo := by rw [he]; exact ok.glo
    bui := by rw [he]; exact ok.bui
    ownk := ok.ownk
    owninj := fun y z c uq1 uq2 hy hz => name_of_addr x.apart (mem_of_lookup hy) (mem_of_lookup hz)
    nd := ok.nd
    code := .inr (by rw [he]; exact ok.code'.symm)
    qual := by rw [he]; exact ok.qual'.symm
    has := fun y hy => by
      rcases hy with h | h
      · exact Option.isSome_iff_exists.mp (by rw [hcs]; exact cellsFrom_has _ _ _ _ (.inl (mem_of_lookup (by rw [ok.scope]; exact h))))
      · exact absurd rfl (ok.nofree (y, .free) (PySem.mem_of_lookup (by rw [ok.scope]; exact h))) }
  have a₂ : Aft ρ₁ ρ₁ H₁ H₁ s₁ s₂ NoEx := by rw [hs₂]; exact .garbage fun b' o' e' => by have := kp b' o' e'; rw [hs₂] at this; exact this
  have r₂ : Rep G.P ρ₁ H₁ s₂.heap := r₁.garbage kp
  have own1 : ∀ {b'}, Owned ρ₁ H₁ b' → ∃ o', s₁.heap.get? b' = some o' := fun ⟨l, o', g, e'⟩ => by obtain ⟨ob, g', _⟩ := r₁.at_ l o' g; exact ⟨ob, e' ▸ g'⟩
  have slot : ∀ (i : Nat) (y : Str) (u : MV), sx.slots[i]? = some y → (bs.map some ++ List.replicate m none)[i]? = some (some u) → params[i]? = some y ∧ ∃ w, vals[i]? = some w ∧ (vr ρ₁ H₁.n u w ∨ (sx.kindOf y = some .local ∧ vra G s₁.heap (fun b => ¬ Owned ρ₁ H₁ b) ρ₁ H₁.n u w)) := fun i y u h1 h2 => by
    by_cases hi : i < bs.length
    · rw [List.getElem?_append_left (by simpa using hi), List.getElem?_map] at h2
      obtain ⟨z, hz, h2⟩ := Option.map_eq_some_iff.mp h2
      cases h2
      have hi' : i < params.length := by rw [← hlen, ← hbl]; exact hi
      have hy : params[i]? = some y := by rw [← ok.pre, List.getElem?_take_of_lt hi']; exact h1
      have hw : vals[i]? = some vals[i] := List.getElem?_eq_getElem (by rw [← hbl]; exact hi)
      exact ⟨hy, _, hw, hval i u _ y hz hw hy⟩
    · rw [List.getElem?_append_right (by simpa using Nat.le_of_not_lt hi)] at h2
      rw [List.getElem?_replicate] at h2
      split at h2 <;> cases h2
  have pnd : params.Nodup := by rw [← ok.pre]; exact ok.nd.sublist (List.take_sublist _ _)
  have I : InF G env sx ρ₁ ⟨bs.map some ++ List.replicate m none, H₁⟩ s₂ := {
    bas := b₁.on a₂ r₂
    basem := fun b' o' e' mm => by have := newer b' mm; rw [(b₁.base b' o' e').1] at this; cases this
    off := fun b' q' mm => by obtain ⟨o', e'⟩ := own1 q'; rw [newer b' mm] at e'; cases e'
    cells := fun y c hy => by
      have hm : Mine env sx c := .inr ⟨y, inOwn y c hy, hy⟩
      exact ⟨⟨_, x.cell y c hy⟩, fun q' => by (obtain ⟨o', e'⟩ := own1 q'; rw [newer c hm] at e'; cases e'), Nat.ne_of_gt (x.above y c (mem_of_lookup hy)), fun hn => absurd (inOwn y c hy) hn⟩
    ns := ⟨_, x.toInCall.ns, fun i y u h1 h2 h3 => by
      obtain ⟨hpi, w, hw, hr⟩ := slot i y u h1 h3
      refine ⟨w, bindL_at _ _ _ _ i y w pnd hpi hw (by rw [hkind]; exact h2), ?_⟩
      rcases hr with hr | ⟨_, hr⟩
      · exact vra_of_vr hr
      · exact vra_mono (Nat.le_refl _) (fun uq1 uq2 => rfl) (fun b' o' e' f => ⟨⟨f, fun mm => by (have := newer b' mm; rw [this] at e'; cases e')⟩, kp b' o' e'⟩) hr⟩
    cel := fun i y u h1 h2 h3 => by
      obtain ⟨hpi, w, hw, hr⟩ := slot i y u h1 h3
      have hc : sx.kindOf y = some .cell := h2.elim id fun h => absurd rfl (ok.nofree (y, .free) (PySem.mem_of_lookup (by rw [ok.scope]; exact h)))
      obtain ⟨c, hcc⟩ := F'.has y (.inl hc)
      have := x.cell y c hcc
      rw [bindC_at _ _ _ _ i y w pnd hpi hw (by rw [hkind, hc]; decide)] at this
      rcases hr with hr | ⟨hr, _⟩
      · exact ⟨c, w, hcc, this, hr⟩
      · rw [hc] at hr; cases hr }
  refine ⟨b₁.nolimit.keeps kp, codeAny_func ?_⟩
  refine (hd F' B.deeper I e2).wp fun fw s₃ ρ₃ a₃ i₃ v₃ => ?_
  have a₂' : Aft ρ₁ ρ₁ H₁ H₁ s₁ s₂ (Mine env sx) := a₂.mono (fun uq1 h => h.elim) fun b' o' mm e' uq1 => ⟨o', kp b' o' e'⟩
  have a₄ : Aft ρ₁ ρ₃ H₁ st'.H s₁ s₃ NoEx := (a₂'.trans a₃).unex fun b' o' mm e' => by rw [newer b' mm] at e'; cases e'
  unfold retOf at e
  cases fl with
  | next => cases e; cases v₃; exact q _ _ ρ₃ a₄ i₃.bas.rep rfl
  | brk => cases e
  | cont => cases e
  | ret u => obtain ⟨w, rfl, hw⟩ := v₃; cases e; exact q _ _ ρ₃ a₄ i₃.bas.rep hw

theorem fn_code {f : Addr} {fd : FuncData} {body : List Stmt} {params : List Str} {bnd : List MV → List (Str × MV) → MH → Option (List MV × MH)} {d : St → Option (Fl × St)} (m : Nat)
    (ok : FnOk G f fd body sx params) (hb : BindD G fd params bnd) (hd : DenSs G k sx body d) : FnC G (k + 1) (.ref f) (fnD bnd m d) := fun {A} {ρ} {H} {H'} {s} {xs} {vs} {ks} {kvs} {r} B b v kv e Q q => by
  obtain ⟨⟨bs, H₁⟩, e1, e⟩ := Option.bind_eq_some_iff.mp e
  obtain ⟨⟨fl, st'⟩, e2, e⟩ := Option.bind_eq_some_iff.mp e
  obtain ⟨o, ho, hdata⟩ := ok.at_
  obtain ⟨c, oc, cvs, ct, hcd, hoc, hcdata, hcq⟩ := ok.code
  refine codeAny_call_function (by have := B.d; omega) (b.K f o ho) hdata ok.co ok.gen ok.body ⟨c, oc, cvs, ct, hcd, b.K c oc hoc, hcdata, hcq⟩ ?_
  refine wpAny_mono (hb b v kv e1 _ fun binds s₁ ρ₁ a₁ r₁ v₁ => ?_) (fun uq1 uq2 x => x) fun uq1 uq2 x => x.elim
  obtain ⟨vals, rfl, hlen, hvals⟩ := v₁
  have hbl : bs.length = vals.length := hvals.length.symm
  exact fn_core m ok hd B (b.on a₁ r₁) hlen hbl (fun i u w y h1 h2 uq1 => .inl (by obtain ⟨w', h3, h4⟩ := hvals.some h1; rw [h2] at h3; cases h3; exact h4)) e2 e fun a s' ρ' a' r' v' => q a s' ρ' (a₁.trans a') r' v'

theorem bind_peek {fd : FuncData} {params : List Str} {bnd : List MV → List (Str × MV) → Option (List MV)}
    (h : ∀ {ρ : Nat → Addr} {n : Nat} {xs : List MV} {vs : List Value} {ks : List (Str × MV)} {kvs : List (Str × Value)} {r : List MV}, VRs ρ n xs vs → KWs ρ n ks kvs → bnd xs ks = some r →
      ∃ vals, (∀ S, peek G.K S (bindArgs fd ⟨vs, kvs⟩) = some (params.zip vals)) ∧ vals.length = params.length ∧ VRs ρ n r vals) :
    BindD G fd params (fun xs ks H => (bnd xs ks).map fun r => (r, H)) := fun {A} {ρ} {H} {uq1} {s} {uq2} {uq3} {uq4} {uq5} {uq6} b v kv e Q q => by
  obtain ⟨r, e1, e⟩ := Option.map_eq_some_iff.mp e
  cases e
  obtain ⟨vals, hp, hl, hv⟩ := h v kv e1
  exact kp_binds b.K hp _ _ _ _ (q _ s ρ .refl b.rep ⟨vals, rfl, hl, hv⟩)
end
end Q
end Mini

open PySem PySem.W PySem.Calls PyProof.Rows
set_option maxRecDepth 100000
namespace Mini
noncomputable section Q

section
variable {G : Gl} {k : Nat} {sx : Sx}
theorem den_never {e : Expr} : DenE G k sx e (fun uq1 => none) := fun uq1 uq2 uq3 e => by cases e
theorem ds_never {t : Stmt} : DenS G k sx t (fun uq1 => none) := fun uq1 uq2 uq3 e => by cases e
noncomputable def augS (i : Nat) (d : St → Option (MV × MH)) (st : St) : Option (Fl × St) := (getv st i).bind fun p => (d ⟨st.vs, p.2⟩).bind fun q => match p.1, q.1 with
  | .int a, .int b => some (.next, ⟨st.vs.set i (some (.int (a + b))), q.2⟩)
  | _, _ => none
theorem ds_aug {x : Str} {value : Expr} {px pos : Pos} {d : St → Option (MV × MH)} (i : Nat) (hi : sx.slots[i]? = some x) (hk : sx.kindOf x = some .local) (h : DenE G k sx value d) :
    DenS G k sx (.AugAssign (.Name x px) .Add value pos) (augS i d) := fun {uq1} {uq2} {ρ} {st} {s} {uq3} {uq4} F B I e Q q => by
  obtain ⟨⟨v, H₁⟩, e1, e⟩ := Option.bind_eq_some_iff.mp e
  obtain ⟨⟨u, H₂⟩, e2, e⟩ := Option.bind_eq_some_iff.mp e
  obtain ⟨g1, rfl, g3⟩ := getv_some e1
  obtain ⟨m, hn, hv⟩ := I.ns
  obtain ⟨w, hm, r⟩ := hv i x _ hi hk g1
  have r := vr_of_vra r g3
  refine wpAny_AugAssign_Name (wpAny_loadName_local (by rw [F.scope]; exact F.kind) (by show Env.kindOf _ _ = _; unfold Env.kindOf; rw [F.scope]; exact hk) hn hm (h F B I e2 _ fun a s₁ ρ₁ a₁ r₁ v₁ => ?_))
  dsimp only at e
  split at e
  case h_2 => cases e
  cases e
  obtain ⟨t, rfl⟩ := r
  obtain ⟨t', rfl⟩ := v₁
  have I1 := I.after a₁ r₁
  have t1 := Aft.toks (ρ := ρ₁) (H := H₂) (s := s₁) (tk := s₁.toks + 1) (ex := NoEx)
  refine wpAny_iadd_int ?_
  exact (store_local F (I1.after t1 r₁) i hi hk (v := .int _) ⟨_, rfl⟩).wp fun uq1 s₂ ρ₂ a₂ i₂ uq2 => q _ _ _ ((I.lift (a₁.trans t1)).trans a₂) i₂ rfl

noncomputable def dummyEnv (sc : Scope) : Env := { scope := sc, locals := 0, globals := 0, cells := [] }
theorem swaps_scope {v : Expr} {t : Option Expr} {l : Nat} {env env' : Env} (h : env.scope = env'.scope) : swapsWith v t l env = swapsWith v t l env' := by
  obtain ⟨⟩ := env; obtain ⟨⟩ := env'; cases h; rfl
theorem swapped_scope {ts : List Expr} {v : Expr} {env env' : Env} (h : env.scope = env'.scope) : swappedStores ts v env = swappedStores ts v env' := by
  obtain ⟨⟩ := env; obtain ⟨⟩ := env'; cases h; rfl
noncomputable def swap2S (i j : Nat) (d : St → Option (MV × MH)) (st : St) : Option (Fl × St) := (d st).bind fun p => (tupAt p.1 p.2).bind fun xs => match xs with
  | [a, b] => some (.next, ⟨(st.vs.set j (some b)).set i (some a), p.2⟩)
  | _ => none
theorem ds_swap2 {elts : List Expr} {kk : Nat} {tpos pos : Pos} {value : Expr} {x y : Str} {d : St → Option (MV × MH)} (i j : Nat) (hi : sx.slots[i]? = some x) (hki : sx.kindOf x = some .local) (hj : sx.slots[j]? = some y) (hkj : sx.kindOf y = some .local)
    (hw : ∀ env : Env, env.scope = sx.scope → swappedStores [.Tuple elts kk tpos] value env = pure (some [x, y])) (h : DenE G k sx value d) (hs : ∀ env, swapsWithSole [.Tuple elts kk tpos] value pos.line env = pure false) :
    DenS G k sx (.Assign [.Tuple elts kk tpos] value pos) (swap2S i j d) := fun {env} {A} {ρ} {st} {s} {uq1} {uq2} F B I e Q q => by
  obtain ⟨⟨v, H₁⟩, e1, e⟩ := Option.bind_eq_some_iff.mp e
  obtain ⟨xs, e2, e⟩ := Option.bind_eq_some_iff.mp e
  split at e
  case h_2 => cases e
  cases e
  rename_i a b
  refine Assign_Tuple_swapped (h F B I e1 _ fun o s₁ ρ₁ a₁ r₁ v₁ => ?_) (hs _) (hw env F.scope)
  have I1 := I.after a₁ r₁
  obtain ⟨t, ws, rfl, it, hv⟩ := tupAt_ok I1.bas v₁ e2
  obtain ⟨o, ho, hc, nn, hd⟩ := it
  cases hv with | cons ha hv => ?_
  cases hv with | cons hb hv => ?_
  cases hv
  refine wpAny_unpackItems_tuple (items := List.toArray [_, _]) B.h ⟨o, ho, hc, nn, hd⟩ fun h' hx => ?_
  have kp : ∀ b x, s₁.heap.get? b = some x → h'.get? b = some x := fun b x e => hx b x (Nat.ne_of_lt (Heap.lt_size e)) e
  have g1 := Aft.garbage (ρ := ρ₁) (H := H₁) (s := s₁) (tk := s₁.toks) (ex := NoEx) kp
  have I2 := I1.after g1 (I1.bas.rep.garbage kp)
  refine wpAny_assignInOrder_more (bindName_ ((store_local F I2 j hj hkj hb).wp fun uq1 s₂ ρ₂ a₂ i₂ uq2 => ?_))
  refine wpAny_assignInOrder_more (bindName_ ((store_local F i₂ i hi hki (vr_mono a₂.le a₂.agree ha)).wp fun uq1 s₃ ρ₃ a₃ i₃ uq2 => ?_))
  exact wpAny_assignInOrder_none (q _ _ _ (((I.lift (a₁.trans g1)).trans a₂).trans a₃) i₃ rfl)
end

end Q
end Mini

open PySem PySem.W PySem.Calls PyProof.Rows
set_option maxRecDepth 100000
namespace Mini
noncomputable section Q
theorem plainAttrs_pat : PlainAttrs "re.Pattern" :=
  ⟨⟨"object.__getattribute__", by rw [typeLookup_type, builtinLookup_eq_fast]; kernel_rfl, by decide +kernel⟩, by rw [typeLookup_type, builtinLookup_eq_fast]; kernel_rfl⟩
theorem owner_pat : Manifest.owners.lookup (String.ofList ['n', 'r', 'e', 't', 't', 'a', 'P', '.', 'e', 'r'].reverse) = some Manifest.sig_re_Pattern := by kernel_rfl
theorem slot_pat_search : Slot "re.Pattern" "search" "re.Pattern.search" :=
  .of (owner := "re.Pattern") (n := "search") (by rw [typeLookup_type, builtinLookup_eq_fast]; kernel_rfl) (by decide +kernel) (by decide +kernel) (by decide +kernel)
    (by first | exact .inl (by decide +kernel) | exact .inr (by decide +kernel)) (by rw [isSubtype_type]; kernel_rfl)
theorem type_pat_search : typeOf (.builtin "re.Pattern.search") = pure (.type "method_descriptor") := by show builtinType _ = _; rw [builtinType_eq_fast]; kernel_rfl
theorem entry_pat_search : entryFor table "re.Pattern.search" = some Builtin.«re.Pattern.search» := entryFor_of_tree (by kernel_rfl)
theorem args_pat_search (a b : Value) : argsOk "re.Pattern.search" ⟨[a, b], []⟩ := by
  unfold argsOk; rw [signature?_of (id := "re.Pattern.search") (n := ['h', 'c', 'r', 'a', 'e', 's']) (o := ['n', 'r', 'e', 't', 't', 'a', 'P', '.', 'e', 'r']) (by kernel_rfl) owner_pat]; kernel_rfl

open PySem.Sre PySem.Builtin.Re

noncomputable def NoHit (code : Array Nat) (c : Nat) : Prop := ∀ seen, ∃ seen', inSet code c code.size 5 true seen = .ok (false, seen')

theorem admitted_none (m : M) (h : ∀ c ∈ m.text.toList, NoHit m.code c) (hl : m.lim ≤ m.text.size) : ∀ (fuel s : Nat) (seen : Sre.Seen), ∃ seen', M.admitted m fuel s seen = .ok (none, seen')
  | 0, s, seen => ⟨seen, rfl⟩
  | fuel + 1, s, seen => by
    unfold M.admitted
    by_cases hs : s ≥ m.lim
    · rw [if_pos hs]; exact ⟨_, rfl⟩
    · rw [if_neg hs]
      have hlt : s < m.text.size := by omega
      have hm : m.text.getD s 0 ∈ m.text.toList := by
        rw [← Array.getElem_eq_getD (h := hlt)]; simp
      obtain ⟨seen', e⟩ := h _ hm seen
      rw [e]
      exact admitted_none m h hl fuel (s + 1) seen'

noncomputable def FirstSet (code : Array Nat) : Prop := code.getD 0 0 = 14 ∧ code.getD 2 0 = 4 ∧ code.getD 3 0 = 1
theorem said {m : M} (h1 : m.outcome = none) (h2 : m.frames = []) : ((m.say false).runFor 4).outcome = some .failed := by
  obtain ⟨⟩ := m
  dsimp only at h1 h2
  subst h1 h2
  rfl
theorem att_says {code text : Array Nat} (hc : FirstSet code) (h : ∀ c ∈ text.toList, NoHit code c) (m : Sre.M) (e1 : m.text = text) (e2 : m.code = code) (e3 : m.lim = text.size) (e4 : m.outcome = none) (e5 : m.frames = []) :
    ((m.attemptFrom 0 true).runFor 4).outcome = some .failed := by
  obtain ⟨h0, h2, h3⟩ := hc
  have hf : m.hasFirstSet = true := by
    unfold M.hasFirstSet
    rw [e2, h0, h2]
    decide
  unfold M.attemptFrom
  rw [hf]
  obtain ⟨seen', e⟩ := admitted_none m (by rw [e1, e2]; exact h) (by rw [e1, e3]; exact Nat.le_refl _) (m.lim + 1 - 0) 0 m.seen
  rw [e]
  exact said (m := { m with seen := seen' }) e4 e5
theorem search_says {code text : Array Nat} (hc : FirstSet code) (h : ∀ c ∈ text.toList, NoHit code c) (g : Nat) : ((forSearch code text g 0 text.size false).runFor 4).outcome = some .failed := by
  unfold forSearch
  dsimp only
  by_cases hz : 0 > text.size ∨ text.size - 0 < (header code).1
  · rw [if_pos (by simpa using hz)]
    exact said rfl rfl
  · rw [if_neg (by simpa using hz)]
    exact att_says hc h _ rfl rfl rfl rfl rfl

section
variable {M : Model} {A : Around} {E : Value → Shared → Prop} {s : Shared}
theorem run_none {m : Sre.M} {Q : Option Sre.M → Shared → Prop} (h : (m.runFor 4).outcome = some .failed) (q : Q none s) : wpAny M A (reRunToEnd m) Q E s := by
  unfold reRunToEnd
  have d : reDrive (2 ^ 64) m = pure (m.runFor 4) := by
    show reDrive (18446744073709551615 + 1) m = _
    rw [reDrive]
    show (if (m.runFor 4).outcome.isSome then pure (m.runFor 4) else _) = _
    rw [h]; rfl
  rw [d]
  refine wpAny_bind (wpAny_pure (wpAny_bind (wpAny_forIn_list _ (fun uq1 uq2 s' => s' = s) _ (fun x rest b s' e => ?_) (fun b s' e => ?_) _ _ rfl)))
  · split
    · exact wpAny_bind (wpAny_rule (wpAny_pure e))
    · exact wpAny_pure e
  · subst e; rw [h]; exact wpAny_pure q

theorem search_none {P : Addr} {o : Obj} {fs : Array Value} {T : Addr} {oT : Obj} {items : Array Value} {nT : Nat} {x : Str} {t : Tok} {Q : Value → Shared → Prop} {prog : Program} {w : World}
    (ho : s.heap.get? P = some o) (hc : o.cls = .type "re.Pattern") (hd : o.data = .fields fs) (h6 : reRawNat (fs.getD 6 .none) = 0) (h5 : fs.getD 5 .none = .ref T) (hT : s.heap.get? T = some oT) (hTd : oT.data = .seq items nT)
    (hf : FirstSet ((items.map reRawOf).map (·.toNat))) (hn : ∀ c ∈ x.cps.toList, NoHit ((items.map reRawOf).map (·.toNat)) c) (hx : (x.cps.size : Int) < 2 ^ 63 - 1) (q : Q .none s) :
    wpAny (model prog w) A (call (.builtin "re.Pattern.search") [.ref P, .str x t]) Q E s := by
  refine wpAny_call_entry slot_pat_search ⟨o, ho, hc⟩ entry_pat_search ?_ (args_pat_search _ _)
  unfold Builtin.«re.Pattern.search»
  refine wpAny_bind ?_
  unfold reTarget
  dsimp only
  have e1 : reNamed "re.Pattern.search" "search" ["string", "pos", "endpos"] 1 [.str x t] [] = pure [some (.str x t), none, none] := by rfl
  rw [e1]
  refine wpAny_bind (wpAny_pure (wpAny_bind (wpAny_pure (wpAny_bind (wpAny_pure (wpAny_bind (wpAny_fieldsOf ho hd ?_)))))))
  have e2 : reTextOf (.str x t) = pure (x.cps, 0) := by rfl
  rw [e2]
  refine wpAny_bind (wpAny_pure ?_)
  dsimp only
  rw [h6]
  simp only [show ((0 : Nat) == 0 && (0 : Nat) == 1) = false from rfl, show ((0 : Nat) == 1 && (0 : Nat) == 0) = false from rfl, Bool.false_eq_true, if_false]
  have e3 : reNoCollectionInside (.str x t) 0 = pure () := by rfl
  rw [e3]
  refine wpAny_bind (wpAny_pure (wpAny_bind ?_))
  unfold reRawItems
  rw [h5]
  refine wpAny_bind (wpAny_seqItems hT hTd (wpAny_pure (wpAny_pure ?_)))
  unfold reAnswer
  refine wpAny_bind (run_none ?_ (wpAny_pure ⟨_, rfl, q⟩))
  have hl : min ((2 : Int) ^ 63 - 1).toNat x.cps.size = x.cps.size := by omega
  have h0 : min (0 : Int).toNat x.cps.size = 0 := by simp
  show ((forSearch _ _ _ (min (0 : Int).toNat x.cps.size) (min ((2 : Int) ^ 63 - 1).toNat x.cps.size) false).runFor 4).outcome = _
  rw [hl, h0]
  exact search_says hf hn _
end

noncomputable def safeC (c : Nat) : Bool := 32 ≤ c && c ≤ 126
noncomputable def safeV (c : Nat) : Bool := safeC c || c == 9
noncomputable def nameCode : Array Nat := #[14, 10, 4, 1, 1, 22, 0, 31, 16, 127, 0, 13, 7, 22, 0, 31, 16, 127, 0, 1]
noncomputable def valueCode : Array Nat := #[14, 14, 4, 1, 1, 9, 4294966783, 0, 0, 2147483648, 0, 0, 0, 0, 0, 13, 11, 9, 4294966783, 0, 0, 2147483648, 0, 0, 0, 0, 0, 1]
theorem name_pass {c : Nat} (h : safeC c = true) : NoHit nameCode c := fun seen => by
  unfold safeC at h
  simp only [Bool.and_eq_true, decide_eq_true_eq] at h
  have h1 : ¬ (c ≤ 31) := by omega
  have h2 : c ≠ 127 := by omega
  have e1 : inSet nameCode c 20 5 true seen = inSet nameCode c 19 8 true (seen.add 22) := by
    show (if (0 ≤ c && c ≤ 31) = true then _ else inSet nameCode c 19 8 true _) = _
    rw [if_neg (by simpa using h1)]; rfl
  have e2 : inSet nameCode c 19 8 true (seen.add 22) = inSet nameCode c 18 10 true ((seen.add 22).add 16) := by
    show (if (c == 127) = true then _ else inSet nameCode c 18 10 true _) = _
    rw [if_neg (by simpa using h2)]; rfl
  exact ⟨_, e1.trans (e2.trans rfl)⟩
theorem value_pass {c : Nat} (h : safeV c = true) : NoHit valueCode c := fun seen => by
  have key : ∀ c, c < 127 → safeV c = true → (c < 256 && (valueCode.getD (5 + (1 + c / 32)) 0).testBit (c % 32)) = false := by decide +kernel
  have hc : c < 127 := by
    unfold safeV safeC at h
    simp only [Bool.or_eq_true, Bool.and_eq_true, decide_eq_true_eq, beq_iff_eq] at h
    omega
  have e1 : inSet valueCode c 28 5 true seen = inSet valueCode c 27 14 true (seen.add 9) := by
    show (if (c < 256 && (valueCode.getD (5 + (1 + c / 32)) 0).testBit (c % 32)) = true then _ else inSet valueCode c 27 14 true _) = _
    rw [key c hc h]; rfl
  exact ⟨_, e1.trans rfl⟩
theorem name_first : FirstSet nameCode := ⟨rfl, rfl, rfl⟩
theorem value_first : FirstSet valueCode := ⟨rfl, rfl, rfl⟩

noncomputable def patIn (K : Frag) (P : Addr) : Option (Array Nat) := match K.lookup P with
  | some o => if o.cls = .type "re.Pattern" ∧ o.dict = none then (match o.data with
    | .fields fs => if reRawNat (fs.getD 6 .none) = 0 then (match fs.getD 5 .none with
      | .ref T => (match K.lookup T with
        | some oT => (match oT.data with
          | .seq items _ => some ((items.map reRawOf).map (·.toNat))
          | _ => none)
        | none => none)
      | _ => none) else none
    | _ => none) else none
  | none => none

noncomputable def isPat (P1 P2 : Addr) (x : MV) (_ : MH) : Bool := x = .val (.ref P1) || x = .val (.ref P2)
noncomputable def searchF (P1 P2 : Addr) : List MV → List (Str × MV) → MH → Option (MV × MH)
  | [x, .str y], [], H => if x = .val (.ref P1) ∧ allB safeC y.cps.toList = true ∧ y.cps.size ≤ 100000 then some (.val .none, H)
    else if x = .val (.ref P2) ∧ allB safeV y.cps.toList = true ∧ y.cps.size ≤ 100000 then some (.val .none, H) else none
  | _, _, _ => none

section
variable {G : Gl} {k : Nat} {sx : Sx} {P1 P2 : Addr}
theorem patIn_at {K : Frag} {P : Addr} {code : Array Nat} {h : Heap} (X : K.In h) (e : patIn K P = some code) : ∃ o fs T oT items nT, h.get? P = some o ∧ o.cls = .type "re.Pattern" ∧ o.dict = none ∧ o.data = .fields fs ∧ reRawNat (fs.getD 6 .none) = 0 ∧ fs.getD 5 .none = .ref T ∧ h.get? T = some oT ∧ oT.data = .seq items nT ∧ (items.map reRawOf).map (·.toNat) = code := by
  unfold patIn at e
  split at e
  case h_2 => cases e
  rename_i o ho
  split at e
  case isFalse => cases e
  rename_i hc
  split at e
  case h_2 => cases e
  rename_i fs hd
  split at e
  case isFalse => cases e
  rename_i h6
  split at e
  case h_2 => cases e
  rename_i T h5
  split at e
  case h_2 => cases e
  rename_i oT hT
  split at e
  case h_2 => cases e
  rename_i items nT hdT
  cases e
  exact ⟨o, fs, T, oT, items, nT, X _ _ ho, hc.1, hc.2, hd, h6, h5, X _ _ hT, hdT, rfl⟩

theorem getM_pat {c1 c2 : Array Nat} (e1 : patIn G.K P1 = some c1) (e2 : patIn G.K P2 = some c2) : GetM G "search" (.builtin "re.Pattern.search") (isPat P1 P2) := fun B hr v q => by
  unfold isPat at hr
  simp only [Bool.or_eq_true, decide_eq_true_eq] at hr
  rcases hr with rfl | rfl <;> cases v
  · obtain ⟨o, fs, T, oT, items, nT, ho, hc, hdict, _⟩ := patIn_at B.K e1
    exact getMethod_builtin ⟨_, ho, hc⟩ plainAttrs_pat slot_pat_search type_pat_search (fun a e => by cases e; exact ⟨_, ho, hdict⟩) q
  · obtain ⟨o, fs, T, oT, items, nT, ho, hc, hdict, _⟩ := patIn_at B.K e2
    exact getMethod_builtin ⟨_, ho, hc⟩ plainAttrs_pat slot_pat_search type_pat_search (fun a e => by cases e; exact ⟨_, ho, hdict⟩) q

theorem den_search (e1 : patIn G.K P1 = some nameCode) (e2 : patIn G.K P2 = some valueCode) : FnDen G k (.builtin "re.Pattern.search") (searchF P1 P2) := fun {A} {ρ} {H} {H'} {s} {xs} {vs} {ks} {kvs} {r} B b v kv e Q q => by
  unfold searchF at e
  split at e
  case h_2 => cases e
  rename_i x y
  cases kv; cases v with | cons hv hn => ?_
  cases hn with | cons hy hn => ?_
  cases hn
  obtain ⟨t, rfl⟩ := hy
  split at e
  · rename_i h
    obtain ⟨rfl, h1, h2⟩ := h
    cases e; cases hv
    obtain ⟨o, fs, T, oT, items, nT, ho, hc, hdict, hd, h6, h5, hT, hTd, hcode⟩ := patIn_at b.K e1
    refine search_none ho hc hd h6 h5 hT hTd (hcode ▸ name_first) (fun c hm => hcode ▸ name_pass ?_) (by omega) (q _ s ρ .refl b.rep rfl)
    exact allB_iff _ _ h1 c (by simpa using hm)
  · split at e
    · rename_i h
      obtain ⟨rfl, h1, h2⟩ := h
      cases e; cases hv
      obtain ⟨o, fs, T, oT, items, nT, ho, hc, hdict, hd, h6, h5, hT, hTd, hcode⟩ := patIn_at b.K e2
      refine search_none ho hc hd h6 h5 hT hTd (hcode ▸ value_first) (fun c hm => hcode ▸ value_pass ?_) (by omega) (q _ s ρ .refl b.rep rfl)
      exact allB_iff _ _ h1 c (by simpa using hm)
    · cases e
end
end Q
end Mini

open PySem PySem.W PySem.Calls PyProof.Rows
set_option maxRecDepth 100000
namespace Mini
noncomputable section Q
section
variable {G : Gl} {k : Nat} {sx : Sx} {A : Around} {ρ : Nat → Addr} {H H' : MH} {s : Shared}

noncomputable def typeF : List MV → List (Str × MV) → MH → Option (MV × MH)
  | [.str _], [], H => some (.val (.type "str"), H)
  | [.ref l], [], H => match H.get l with
    | some (.list _) => some (.val (.type "list"), H)
    | _ => none
  | _, _, _ => none
theorem den_typeOf : FnDen G k (.type "type") typeF := fun {A} {ρ} {H} {H'} {s} {xs} {vs} {ks} {kvs} {r} B b v kv e Q q => by
  unfold typeF at e
  split at e
  · cases e; cases kv; cases v with | cons hv hn => ?_
    cases hn; obtain ⟨t, rfl⟩ := hv
    exact call_type_of (Tx := "str") (typeIs_str _ _ _) (by decide +kernel) (q _ s ρ .refl b.rep rfl)
  · cases kv; cases v with | cons hv hn => ?_
    cases hn; obtain ⟨_, rfl⟩ := hv
    split at e
    · rename_i hx; cases e
      obtain ⟨vs, n1, g1, v1⟩ := rep_list b.rep hx
      exact call_type_of (Tx := "list") ⟨_, g1, rfl⟩ (by decide +kernel) (q _ s ρ .refl b.rep rfl)
    · cases e
  · cases e

noncomputable def insI (x : Int) : List Int → List Int
  | [] => [x]
  | y :: r => if x ≤ y then x :: y :: r else y :: insI x r
noncomputable def sortI : List Int → List Int
  | [] => []
  | x :: r => insI x (sortI r)
theorem insI_perm (x : Int) : ∀ l, (insI x l).Perm (x :: l)
  | [] => .refl _
  | y :: r => by
    unfold insI; split
    · exact .refl _
    · exact ((insI_perm x r).cons y).trans (.swap x y r)
theorem sortI_perm : ∀ l, (sortI l).Perm l
  | [] => .refl _
  | x :: r => (insI_perm x _).trans ((sortI_perm r).cons x)
theorem insI_sorted (x : Int) : ∀ l : List Int, l.Pairwise (· ≤ ·) → (insI x l).Pairwise (· ≤ ·)
  | [], _ => by simp [insI]
  | y :: r, h => by
    have hy := List.pairwise_cons.mp h
    unfold insI; split
    · rename_i hxy
      refine List.pairwise_cons.mpr ⟨fun z hz => ?_, h⟩
      rcases List.mem_cons.mp hz with rfl | hz
      · exact hxy
      · exact Int.le_trans hxy (hy.1 z hz)
    · rename_i hxy
      refine List.pairwise_cons.mpr ⟨fun z hz => ?_, insI_sorted x r hy.2⟩
      rcases List.mem_cons.mp ((insI_perm x r).mem_iff.mp hz) with rfl | hz
      · omega
      · exact hy.1 z hz
theorem sortI_sorted : ∀ l, (sortI l).Pairwise (· ≤ ·)
  | [] => .nil
  | x :: r => insI_sorted x _ (sortI_sorted r)
theorem sort_unique {l l' : List Int} (hp : l'.Perm l) (hs : l'.Pairwise (· ≤ ·)) : l' = sortI l :=
  (hp.trans (sortI_perm l).symm).eq_of_pairwise (fun uq1 uq2 uq3 uq4 h1 h2 => Int.le_antisymm h1 h2) hs (sortI_sorted l)

noncomputable def sortF : List MV → List (Str × MV) → MH → Option (MV × MH)
  | [.ref l], [], H => match H.get l with
    | some (.list xs) => if xs.length < 64 then (intsOf xs).map fun ns => (.val .none, H.set l (.list ((sortI ns).map .int))) else none
    | _ => none
  | _, _, _ => none
theorem den_sortI : FnDen G k (.builtin "list.sort") sortF := fun {A} {ρ} {H} {H'} {s} {xs} {vs} {ks} {kvs} {r} B b v kv e => by
  unfold sortF at e
  split at e
  case h_2 => cases e
  split at e
  case h_2 => cases e
  rename_i h1
  split at e
  case isFalse => cases e
  rename_i hl
  obtain ⟨ns, e1, e⟩ := Option.map_eq_some_iff.mp e
  cases e
  cases kv; cases v with | cons hv hn => ?_
  cases hn; obtain ⟨_, rfl⟩ := hv
  obtain ⟨ws, n1, g1, v1⟩ := rep_list b.rep h1
  refine .set b.rep h1 fun Q q => ?_
  refine wpAny_call_entry slot_list_sort ⟨_, g1, rfl⟩ entry_list_sort (list_sort_tree g1 (intsAre_of v1 e1) (by rw [v1.length]; exact hl) fun out ns' hI hp hs => ?_) (args_list_sort _)
  have hu := sort_unique hp hs
  subst hu
  refine ⟨_, rfl, ?_⟩
  have ha := Heap.lt_size g1
  obtain ⟨e1', ho1⟩ := updSeq g1 fun uq1 => #[]
  have ho2 := Heap.get?_push_of_some (seqObj "list" #[] 0) (Heap.get?_push_of_some (seqObj "tuple" ws.toArray 0) ho1)
  obtain ⟨e2', ho3⟩ := updSeq (vs := []) ho2 fun uq1 => out
  refine q _ _ _ s.toks ho3 ⟨out.toList, e2', by simp, vrs_ints hI⟩ (fun b' x n e => ?_) rfl
  exact (Heap.get?_update_other _ _ (Ne.symm n)).trans (Heap.get?_push_of_some _ (Heap.get?_push_of_some _ ((Heap.get?_update_other _ _ (Ne.symm n)).trans e)))

noncomputable def countF : List MV → List (Str × MV) → MH → Option (MV × MH)
  | [.ref l, .int i], [], H => match H.get l with
    | some (.list xs) => (intsOf xs).map fun ns => (.int (ns.count i : Nat), H)
    | _ => none
  | _, _, _ => none
theorem den_countI : FnDen G k (.builtin "list.count") countF := fun {A} {ρ} {H} {H'} {s} {xs} {vs} {ks} {kvs} {r} B b v kv e => by
  unfold countF at e
  split at e
  case h_2 => cases e
  split at e
  case h_2 => cases e
  rename_i h1
  obtain ⟨ns, e1, e⟩ := Option.map_eq_some_iff.mp e
  cases e
  cases kv; cases v with | cons hv hn => ?_
  cases hn with | cons hi hn => ?_
  cases hn; obtain ⟨_, rfl⟩ := hv
  obtain ⟨t, rfl⟩ := hi
  obtain ⟨ws, n1, g1, v1⟩ := rep_list b.rep h1
  exact .now b.rep fun Q q => count_list_ints (isList_of g1) (intsAre_of v1 e1) (q _ _ ⟨_, rfl⟩)

theorem den_enum {args : List Expr} {p pos : Pos} {ds : St → Option (List MV × MH)} (hk : sx.kindOf (Str.ofString "enumerate") = some .globalImplicit) (hn : nsIn G.K mainGlobals (Str.ofString "enumerate") = some none) (ha : DenEs G k sx args ds)
    (hpl : ∀ env pos, (backTo pos (starEach args env)).any (·.1) = false) :
    DenI G k sx (.Call (.Name (Str.ofString "enumerate") p) args [] pos) (fun st => (ds st).bind fun p => match p.1 with
      | [.ref l] => (match p.2.get l with | some (.list _) => some (.enum l 0, p.2) | _ => none)
      | _ => none) := fun {env} {A} {ρ} {st} {s} {src} {H'} F B I e Q q => by
  obtain ⟨⟨xs, H₁⟩, e1, e⟩ := Option.bind_eq_some_iff.mp e
  dsimp only at e
  split at e
  case h_2 => cases e
  rename_i l _
  split at e
  case h_2 => cases e
  rename_i xs hx
  cases e
  rw [arm_eval_Call_Name']
  have hnm : DenE G k sx (.Name (Str.ofString "enumerate") p) (fun st => some (.val (.type "enumerate"), st.H)) := den_builtin hk hn (by kernel_rfl) (by decide +kernel) (by kernel_rfl)
  refine wpAny_bind (hnm F B I rfl _ fun a s₁ ρ₁ a₁ r₁ v₁ => ?_)
  cases v₁
  have I1 := I.after a₁ r₁
  refine callWith_of (P := G.K.In) (by rw [hpl]; rfl) keeps_type (evalArgs_any (hpl _ _) rfl ?_)
  refine ha F B I1 e1 pos _ fun vs s₂ ρ₂ a₂ r₂ v₂ => dks_nil (G := G) (k := k) F B (I1.after a₂ r₂) rfl pos _ fun kvs s₃ ρ₃ a₃ r₃ v₃ => ?_
  have I3 := (I1.after a₂ r₂).after a₃ r₃
  refine ⟨I3.bas.K, ?_⟩
  cases v₃
  cases v₂ with | cons hv hn => ?_
  cases hn
  obtain ⟨hl, rfl⟩ := vr_mono a₃.le a₃.agree hv
  obtain ⟨vs, n1, g1, v1⟩ := rep_list r₃ hx
  refine call_enumerate_1 g1 fun h' he hit hsz kp => wpAny_pyIter_enum he ?_
  have g3 := Aft.garbage (ρ := ρ₃) (H := H') (s := s₃) (tk := s₃.toks) (ex := NoEx) kp
  have A3 := (a₁.trans a₂).trans a₃
  have fr : ∀ b, s₃.heap.objs.size ≤ b → ¬ Owned ρ₃ H' b := fun b hb ⟨l', o', g, e⟩ => by
    obtain ⟨ob, g', _⟩ := r₃.at_ l' o' g; rw [e, fresh_none hb] at g'; cases g'
  refine q _ _ ρ₃ (fun b => b = s₃.heap.objs.size ∨ b = s₃.heap.objs.size + 1) (A3.trans g3) (r₃.garbage kp) ⟨fun b hb => ?_, hl, _, _, _, rfl, hit, he, Nat.succ_ne_self _, rfl⟩ fun b hb => ?_
  · rcases hb with rfl | rfl
    · exact fr _ (Nat.le_refl _)
    · exact fr _ (Nat.le_succ _)
  · rcases hb with rfl | rfl
    · exact A3.fresh (fresh_none (Nat.le_refl _))
    · exact A3.fresh (fresh_none (Nat.le_succ _))

noncomputable def allOf (f : MV → Option PyData) : List MV → Option (List PyData)
  | [] => some []
  | x :: r => (f x).bind fun d => (allOf f r).map (d :: ·)
noncomputable def atomOf : MV → Option PyData
  | .int i => some (.int i)
  | .str x => some (.str x)
  | .val .none => some .none
  | .val (.bool b) => some (.bool b)
  | _ => none
noncomputable def pyOf : Nat → MH → MV → Option PyData
  | n + 1, H, .ref l => match H.get l with
    | some (.list xs) => (allOf (pyOf n H) xs).map .list
    | some (.tup xs) => (allOf (pyOf n H) xs).map .tuple
    | _ => none
  | _, _, x => atomOf x
theorem atom_reads {h : Heap} {x : MV} {v : Value} {d : PyData} {n : Nat} (e : atomOf x = some d) (hv : vr ρ n x v) : ∃ as, Reads h v d as := by
  unfold atomOf at e
  split at e <;> cases e
  · obtain ⟨t, rfl⟩ := hv; exact ⟨_, .int _ _⟩
  · obtain ⟨t, rfl⟩ := hv; exact ⟨_, .str _ _⟩
  · cases hv; exact ⟨_, .none⟩
  · cases hv; exact ⟨_, .bool _⟩
theorem reads_all {P : Params} {h : Heap} {f : MV → Option PyData} {xs : List MV} {vs : List Value} {n : Nat} (hv : VRs ρ n xs vs) (hf : ∀ x v d, f x = some d → vr ρ n x v → ∃ as, Reads h v d as) : ∀ {ds : List PyData}, allOf f xs = some ds → ∃ as, ReadsAll h vs ds as := by
  induction hv with
  | nil => intro ds e; cases e; exact ⟨_, .nil⟩
  | cons h1 _ ih =>
    intro ds e
    obtain ⟨d, e1, e⟩ := Option.bind_eq_some_iff.mp e
    obtain ⟨dr, e2, e⟩ := Option.map_eq_some_iff.mp e
    cases e
    obtain ⟨as, ra⟩ := hf _ _ _ e1 h1
    obtain ⟨bs, rb⟩ := ih e2
    exact ⟨_, .cons ra rb⟩
theorem reads_of {P : Params} {h : Heap} (R : Rep P ρ H h) : ∀ (n : Nat) (x : MV) (v : Value) (d : PyData), pyOf n H x = some d → vr ρ H.n x v → ∃ as, Reads h v d as := by
  intro n
  induction n with
  | zero => intro x v d e hv; exact atom_reads (by cases x <;> exact e) hv
  | succ n ih =>
    intro x v d e hv
    cases x with
    | ref l =>
      obtain ⟨_, rfl⟩ := hv
      unfold pyOf at e
      split at e
      · rename_i hx
        obtain ⟨ds, e1, e⟩ := Option.map_eq_some_iff.mp e
        cases e
        obtain ⟨vs, n1, g1, v1⟩ := rep_list R hx
        obtain ⟨as, ra⟩ := reads_all (P := P) v1 (fun x v d e hv => ih x v d e hv) e1
        exact ⟨_, .list g1 rfl rfl (by simpa using ra)⟩
      · rename_i hx
        obtain ⟨ds, e1, e⟩ := Option.map_eq_some_iff.mp e
        cases e
        obtain ⟨vs, n1, g1, v1⟩ := rep_tup R hx
        obtain ⟨as, ra⟩ := reads_all (P := P) v1 (fun x v d e hv => ih x v d e hv) e1
        exact ⟨_, .tuple g1 rfl rfl (by simpa using ra)⟩
      · cases e
    | _ => exact atom_reads e hv
noncomputable def strAnyF : List MV → List (Str × MV) → MH → Option (MV × MH)
  | [.int n], [], H => strIF [.int n] [] H
  | [.ref l], [], H => (pyOf 3 H (.ref l)).bind fun d => if d.showable = true ∧ d.hasDict = false ∧ d.depth ≤ 20 ∧ d.shown.length ≤ 100000 then some (.str d.shown, H) else none
  | _, _, _ => none
theorem den_strAny (hk : 3 ≤ k) : FnDen G k (.type "str") strAnyF := fun {A} {ρ} {H} {H'} {s} {xs} {vs} {ks} {kvs} {r} B b v kv e => by
  unfold strAnyF at e
  split at e
  · exact den_strI B b v kv e
  · obtain ⟨d, e1, e⟩ := Option.bind_eq_some_iff.mp e
    split at e
    case isFalse => cases e
    rename_i hd
    cases e
    cases kv; cases v with | cons hv hn => ?_
    cases hn
    obtain ⟨as, ra⟩ := reads_of b.rep 3 _ _ _ e1 hv
    obtain ⟨_, rfl⟩ := hv
    refine .grown b.rep fun Q q => str_of_reads ra hd.1 (PyData.noDict_hsm hd.2.1) B.g (by have := B.u; omega) (fun uq1 uq2 e => e) (fun h' u tk hk => q _ _ _ hk ⟨_, rfl⟩) (Nat.le_trans hd.2.2.2 (by rw [sizeLine_eq]; decide))
  · cases e
end
end Q
end Mini

open PySem PySem.W PySem.Calls PyProof.Rows
set_option maxRecDepth 100000
namespace Mini
noncomputable section Q
section
variable {G : Gl} {k : Nat} {sx : Sx} {A : Around} {ρ : Nat → Addr} {H H' : MH} {s : Shared}

theorem Bud.make {C : Addr} {rest : List Value} {kw : List (Str × Value)} (B : Bud A (k + 1)) : Bud (A.under (.builtin "type.__call__" ⟨.ref C :: rest, kw⟩)) k :=
  ⟨B.h, B.g, by have := B.d; show A.depth + 1 + k < _; omega, by have := B.u; show A.units + 1 + 8 * k < _; omega⟩

noncomputable def clsF (C : Addr) (g : List MV → List (Str × MV) → MH → Option (MV × MH)) (xs : List MV) (ks : List (Str × MV)) (H : MH) : Option (MV × MH) :=
  (g (.ref (H.n + 1) :: xs) ks ((H.push (.ns [])).push (.inst C H.n))).bind fun p => if p.1 = .val .none then some (.ref (H.n + 1), p.2) else none
theorem cls_code {C f : Addr} {g : List MV → List (Str × MV) → MH → Option (MV × MH)} (hm : makesIn G.K C = true) (hi : findIn G.K (.ref C) "__init__" = some (some (.ref f))) (hf : typeIn G.K (.ref f) = some (.type "function")) (h : FnC G k (.ref f) g) :
    FnC G (k + 1) (.ref C) (clsF C g) := fun {A} {ρ} {H} {H'} {s} {xs} {vs} {ks} {kvs} {r} B b v kv e Q q => by
  obtain ⟨⟨u, H₁⟩, e1, e⟩ := Option.bind_eq_some_iff.mp e
  dsimp only at e
  split at e
  case isFalse => cases e
  rename_i hu
  cases e; subst hu
  obtain ⟨hh, gg, d, t, os⟩ := s
  obtain ⟨a1, r1⟩ := push_new (s := ⟨hh, gg, d, t, os⟩) (tk := t) (ex := NoEx) (o := .ns []) (h' := hh.push emptyDict) b.rep (fresh_none (Nat.le_refl _)) (Heap.get?_push_size _ rfl) ⟨[], 0, rfl, .nil⟩ (fun b o e => Heap.get?_push_of_some _ e)
  obtain ⟨a2, r2⟩ := push_new (s := ⟨hh.push emptyDict, gg, d, t, os⟩) (tk := t) (ex := NoEx) (o := .inst C H.n) (h' := (hh.push emptyDict).push (instObj C hh.objs.size)) r1 (fresh_none (Nat.le_refl _)) (Heap.get?_push_size _ rfl)
    ⟨by show H.n < H.n + 1 + 1; omega, by rw [ext_lt H.n (by show H.n < H.n + 1; omega), ext_self]⟩ (fun b o e => Heap.get?_push_of_some _ e)
  have A2 := a1.trans a2
  have hsz : (hh.push emptyDict).objs.size = hh.objs.size + 1 := Heap.size_push ..
  have hvr : vr (ext (ext ρ H.n hh.objs.size) (H.n + 1) (hh.push emptyDict).objs.size) (H.n + 1 + 1) (.ref (H.n + 1)) (.ref (hh.objs.size + 1)) := ⟨Nat.lt_succ_self _, by rw [ext_self, hsz]⟩
  refine make_core (makes_of b.K hm) (looks_findIn b.K hi) (fun self => bind_fn b.K self hf) (.inl rfl) (codeAny_mono (h B.make (b.on A2 r2) (.cons hvr (v.mono A2.le A2.agree)) (kv.mono A2.le A2.agree) e1 (fun w s' => w = .none ∧ Q (.ref (hh.objs.size + 1)) s') fun w s' ρ' a r' vw => ?_) fun r s' z => ?_)
  · cases vw
    refine ⟨rfl, q _ _ ρ' (A2.trans a) r' ?_⟩
    exact vr_mono (m := .ref (H.n + 1)) a.le a.agree hvr
  · unfold InitBack
    rcases r with e | (v | _ | _ | _) <;> first | exact z | exact z.elim
theorem den_cls {C f : Addr} {g : List MV → List (Str × MV) → MH → Option (MV × MH)} (hm : makesIn G.K C = true) (hi : findIn G.K (.ref C) "__init__" = some (some (.ref f))) (hf : typeIn G.K (.ref f) = some (.type "function")) (h : FnC G k (.ref f) g) :
    FnDen G (k + 1) (.ref C) (clsF C g) := FnC.den (cls_code hm hi hf h)

end
end Q
end Mini

open PySem PySem.W PySem.Calls PyProof.Rows
set_option maxRecDepth 100000
namespace Mini
noncomputable section Q
section
variable {G : Gl} {k : Nat} {sx : Sx} {A : Around} {ρ : Nat → Addr} {H H' : MH} {s : Shared}

noncomputable def LamDen (G : Gl) (k : Nat) (c : Nat) (g : Nat → MV → MH → Option (MV × MH)) : Prop :=
  ∀ {A : Around} {ρ : Nat → Addr} {H H' : MH} {s : Shared} {v : MV} {w fv : Value} {l lc : Nat} {r : MV}, Bud A k → Bas G ρ H s → vr ρ H.n v w → CloAt G s.heap (fun b => ¬ Owned ρ H b) ρ H.n c l lc fv → H.get lc = some (.code (G.lams c).qual) →
    g l v H = some (r, H') → EvX G.M G.P A vr (call fv [w]) ρ H s r H'

set_option genSizeOf false in
set_option genInjectivity false in
structure LamOk (L : Lam) (x : Str) : Prop where
  bind : ∀ cl pm cdv ct v, bindArgs (kla_fn L.name L.qual L.params L.body L.scope cl pm cdv ct) ⟨[v], []⟩ = pure [(x, v)]
  kind : L.scope.kind = .function
  co : L.scope.isCoroutine = false
  gen : L.scope.isGenerator = false
  nocell : ∀ y ∈ L.scope.names, y.2 ≠ .cell
  xl : L.scope.names.lookup x = some .local
  cf : L.scope.names.lookup L.cell = some .free
  only : ∀ y, L.scope.names.lookup y = some .free → y = L.cell

noncomputable abbrev lamSx (L : Lam) (x : Str) (code : Value) : Sx := ⟨L.scope, [x, L.cell], [], code, L.qual ++ (Str.ofString ".<locals>.")⟩

theorem lam_den {c : Nat} {x : Str} {d : St → Option (MV × MH)} (ok : LamOk (G.lams c) x) (hd : ∀ code, DenE G k (lamSx (G.lams c) x code) (G.lams c).body d) :
    LamDen G (k + 1) c (fun l v H => d ⟨[some v, some (.ref l)], H⟩) := fun {A} {ρ} {H} {H'} {s} {v} {w} {fv} {l} {lc} {r} B b hv hc hcode e Q q => by
  obtain ⟨hl, hlc, f, cc, pm, ct, oc, rfl, ff, fc, hf, hcc, hcd⟩ := hc
  obtain ⟨ob, hob, vs, t, hd1, hd2⟩ := b.rep.at_ _ _ hcode
  refine wpAny_call (kla_callFunE (by have := B.d; omega) hf rfl ok.co ok.gen rfl ⟨_, ob, vs, t, rfl, hob, hd1, hd2⟩ ?_)
  rw [ok.bind]
  refine wpAny_pure (wpAny_newFunctionEnv ok.nocell (fun y hy => by cases List.mem_singleton.mp hy; exact ok.xl) (fun h₁ hns hsb => ⟨b.nolimit.fresh _ hsb, ?_⟩) ok.kind)
  have kp : ∀ b o, s.heap.get? b = some o → h₁.get? b = some o ∧ b ≠ s.heap.objs.size := fun b o e => ⟨hsb.extBut b o (Nat.ne_of_lt (Heap.lt_size e)) (Heap.get?_push_of_some _ e), Nat.ne_of_lt (Heap.lt_size e)⟩
  have hxc : x ≠ (G.lams c).cell := fun q => by have h1 := ok.xl; rw [q, ok.cf] at h1; cases h1
  generalize henv : newEnv (G.lams c).scope s.heap.objs.size mainGlobals [((G.lams c).cell, cc)] ((G.lams c).qual ++ (Str.ofString ".<locals>.")) (some f) (.ref (ρ lc)) none builtinsNs = env
  have F' : Fst G env (lamSx (G.lams c) x (.ref (ρ lc))) := {
    scope := by rw [← henv]; rfl
    kind := ok.kind
    glo := by rw [← henv]; rfl
    bui := by rw [← henv]; rfl
    ownk := fun y h => by cases h
    owninj := fun y z c h => by cases h
    nd := by simp [hxc]
    code := .inr (by rw [← henv]; rfl)
    qual := by rw [← henv]; rfl
    has := fun y hy => by
      rcases hy with h | h
      · exact absurd rfl (ok.nocell (y, .cell) (PySem.mem_of_lookup h))
      · have := ok.only y h
        subst this
        exact ⟨cc, by rw [← henv]; show List.lookup _ [(_, cc)] = _; simp [List.lookup_cons]⟩ }
  have hL : env.locals = s.heap.objs.size := by rw [← henv]; rfl
  have hcs : env.cells = [((G.lams c).cell, cc)] := by rw [← henv]; rfl
  have inMine : ∀ b, Mine env (lamSx (G.lams c) x (.ref (ρ lc))) b → b = s.heap.objs.size := fun b m => by
    rcases m with m | ⟨y, h, _⟩
    · rw [← hL]; exact m
    · cases h
  have a1 := Aft.garbage (ρ := ρ) (H := H) (s := s) (tk := s.toks + [(x, w)].length) (ex := NoEx) (h' := h₁) (fun b o e => (kp b o e).1)
  have r1 : Rep G.P ρ H h₁ := b.rep.garbage fun b o e => (kp b o e).1
  have own1 : ∀ {b'}, Owned ρ H b' → ∃ o', s.heap.get? b' = some o' := fun ⟨l, o', g, e'⟩ => by obtain ⟨ob, g', _⟩ := b.rep.at_ l o' g; exact ⟨ob, e' ▸ g'⟩
  have I : InF G env (lamSx (G.lams c) x (.ref (ρ lc))) ρ ⟨[some v, some (.ref l)], H⟩ { s with heap := h₁, toks := s.toks + [(x, w)].length } := {
    bas := b.on a1 r1
    basem := fun b' o' e' mm => (kp b' o' (b.base b' o' e').1).2 (inMine b' mm)
    off := fun b' q' mm => by obtain ⟨o', e'⟩ := own1 q'; exact (kp b' o' e').2 (inMine b' mm)
    cells := fun y cy hy => by
      rw [hcs] at hy
      have : y = (G.lams c).cell ∧ cy = cc := by
        rw [List.lookup_cons] at hy
        split at hy
        · rename_i h; cases hy; exact ⟨by simpa using h, rfl⟩
        · cases hy
      obtain ⟨rfl, rfl⟩ := this
      exact ⟨⟨_, oc, (kp _ _ hcc).1, hcd⟩, fc, by rw [hL]; exact (kp _ _ hcc).2, fun uq1 mm => (kp _ _ hcc).2 (inMine _ mm)⟩
    ns := ⟨_, by rw [hL]; exact hns, fun i y u h1 h2 h3 => by
      cases i with
      | zero =>
        cases h1; cases h3
        exact ⟨w, by simp, vra_of_vr hv⟩
      | succ i =>
        cases i with
        | zero =>
          cases h1
          have h2 : (G.lams c).scope.names.lookup (G.lams c).cell = some .local := h2
          rw [ok.cf] at h2; cases h2
        | succ i => cases h1⟩
    cel := fun i y u h1 h2 h3 => by
      cases i with
      | zero =>
        cases h1
        rcases h2 with h2 | h2
        · have h2 : (G.lams c).scope.names.lookup x = some .cell := h2
          rw [ok.xl] at h2; cases h2
        · have h2 : (G.lams c).scope.names.lookup x = some .free := h2
          rw [ok.xl] at h2; cases h2
      | succ i =>
        cases i with
        | zero =>
          cases h1; cases h3
          exact ⟨cc, _, by rw [hcs]; simp, ⟨oc, (kp _ _ hcc).1, hcd⟩, hl, rfl⟩
        | succ i => cases h1 }
  refine kla_codeExpr (wpAny_mono (hd _ F' B.deeper I e Q fun a s' ρ' a' r' v' => q a s' ρ' (a1.trans a') r' v') (fun uq1 uq2 z => z) fun uq1 uq2 z => z.elim)

noncomputable def mkClo (c : Nat) (q : Str) (ln cl : Nat) (i : Nat) (vs : List (Option MV)) (H : MH) : Option (MV × MH) := match vs[i]? with
  | some (some (.ref l)) => (match H.get 0 with
    | some (.tab none) => some (.clo c l H.n, (H.push (.code q)).set 0 (.tab (some (H.n, ln, cl))))
    | some (.tab (some (lc, ln', cl'))) => if ln' = ln ∧ cl' = cl ∧ H.get lc = some (.code q) then some (.clo c l lc, H) else none
    | _ => none)
  | _ => none

set_option genSizeOf false in
set_option genInjectivity false in
structure LamAt (G : Gl) (sx : Sx) (c : Nat) (params_ : Arguments) (body_ : Expr) (scope_ : Scope) (i : Nat) (c0 P : Addr) : Prop where
  tab : G.tab = some P
  code : sx.code = .ref c0
  hd : CodeHd G.h₀ c0 P
  name : (G.lams c).name = Str.ofString "<lambda>"
  qual : (G.lams c).qual = sx.qual ++ Str.ofString "<lambda>"
  params : (G.lams c).params = params_
  body : (G.lams c).body = body_
  scope : (G.lams c).scope = scope_
  slot : sx.slots[i]? = some (G.lams c).cell
  kind : sx.kindOf (G.lams c).cell = some .cell ∨ sx.kindOf (G.lams c).cell = some .free
  dflt : ∀ env, defaultsOf params_ env = ([], [])
  clos : ∀ (env : Env) cc, env.cells.lookup (G.lams c).cell = some cc → closureFor scope_ env = pure [((G.lams c).cell, cc)]

theorem push_set {P : Params} {h' : Heap} {tk : Nat} {a : Addr} {l0 : Nat} {o o0 o0' : MO} {ob ob0 : Obj} {ex : Addr → Prop} (R : Rep P ρ H s.heap) (hl : H.get l0 = some o0) (ha : s.heap.get? a = none) (hob : h'.get? a = some ob) (hr : orep P (ext ρ H.n a) (H.n + 1) o ob)
    (hob0 : h'.get? (ρ l0) = some ob0) (hr0 : orep P (ext ρ H.n a) (H.n + 1) o0' ob0) (k : ∀ b x, b ≠ ρ l0 → s.heap.get? b = some x → h'.get? b = some x) :
    Aft ρ (ext ρ H.n a) H ((H.push o).set l0 o0') s { s with heap := h', toks := tk } ex ∧ Rep P (ext ρ H.n a) ((H.push o).set l0 o0') h' := by
  obtain ⟨old, ho, hor⟩ := R.at_ l0 o0 hl
  have hlt := R.lt l0 o0 hl
  have hne : a ≠ ρ l0 := fun q => by rw [q, ho] at ha; cases ha
  have u1 : (h'.update (ρ l0) (fun uq1 => old)).get? (ρ l0) = some old := Heap.get?_update_self (fun uq1 => old) hob0 (orep_live hor)
  have u2 : ∀ b, b ≠ ρ l0 → (h'.update (ρ l0) (fun uq1 => old)).get? b = h'.get? b := fun b hb => (Heap.SameBut.update ..).2 b hb
  obtain ⟨a1, r1⟩ := push_new (s := s) (tk := tk) (ex := ex) (o := o) (h' := h'.update (ρ l0) (fun uq1 => old)) R ha ((u2 a hne).trans hob) hr (fun b x e => by
    by_cases hb : b = ρ l0
    · subst hb; rw [ho] at e; cases e; exact u1
    · exact (u2 b hb).trans (k b x hb e))
  obtain ⟨a2, r2⟩ := set_own (s := { s with heap := h'.update (ρ l0) (fun uq1 => old), toks := tk }) (tk := tk) (ex := ex) (l := l0) (o := o0) (o' := o0') (h' := h') (ob := ob0) r1 (by rw [MH.get_push, if_neg (Nat.ne_of_lt hlt)]; exact hl) (by rw [ext_lt l0 hlt]; exact hob0) hr0
    (fun b x hb e => by rw [ext_lt l0 hlt] at hb; exact (u2 b hb).symm.trans e)
  exact ⟨a1.trans a2, r2⟩

theorem lam_make {c : Nat} {params : Arguments} {body : Expr} {scope : Scope} {i : Nat} {c0 P : Addr} {pos : Pos} (Y : LamAt G sx c params body scope i c0 P) {env : Env} {st : St} {v : MV} {Q : Value → Shared → Prop} (F : Fst G env sx) (I : InF G env sx ρ st s)
    (e : mkClo c (G.lams c).qual pos.line pos.col i st.vs st.H = some (v, H'))
    (q : ∀ l lc fv s' ρ', v = .clo c l lc → Aft ρ ρ' st.H H' s s' NoEx → Rep G.P ρ' H' s'.heap → CloAt G s'.heap (fun b => ¬ Owned ρ' H' b) ρ' H'.n c l lc fv → H'.get lc = some (.code (G.lams c).qual) → Q fv s') :
    wpAny G.M A (eval (.Lambda params body scope pos) env) Q (fun uq1 uq2 => False) s := by
  unfold mkClo at e
  split at e
  case h_2 => cases e
  rename_i l hi
  obtain ⟨cc, w, hcl, hcell, hl, rfl⟩ := I.cel i _ _ Y.slot Y.kind hi
  obtain ⟨_, hnO, _, _⟩ := I.cells _ _ hcl
  obtain ⟨occ, hocc, hdcc⟩ := hcell
  refine kla_eval (Y.dflt env) ?_
  rw [F.qual, ← Y.qual, ← Y.params, ← Y.body, ← Y.scope, ← Y.name]
  obtain ⟨hP, hn0⟩ := I.bas.tab P Y.tab
  subst hP
  have hcode : env.code = .ref c0 := (F.code.resolve_left (by rw [Y.code]; intro z; cases z)).trans Y.code
  have CH : CodeHd s.heap c0 (ρ 0) := Y.hd.keeps fun b o e => (I.bas.base b o e).1
  have hclos := Y.clos env cc hcl
  rw [← Y.scope] at hclos
  have nB : ∀ b o (h : G.h₀.get? b = some o) {t}, st.H.get 0 = some t → b ≠ ρ 0 := fun b o h t ht q => (I.bas.base b o h).2 ⟨0, t, ht, q.symm⟩
  have gG := I.bas.ns G.T.g
  obtain ⟨bm, ob, b1, b2, b3, b4, b5, b6⟩ := G.T.bmain
  obtain ⟨og, _, _, hog, hdg, _⟩ := G.T.g
  have hbG : bm ≠ mainGlobals := fun q => by rw [q, hog] at b3; cases b3; rw [hdg] at b6; cases b6
  split at e
  · rename_i h0
    cases e
    obtain ⟨ot, hot, rfl⟩ := I.bas.rep.at_ 0 _ h0
    refine kla_makeFunction (mg := G.mg) hclos F.glo gG hcode CH hot trivial rfl (nB _ _ hog h0) ⟨bm, ob, b1, b2, hbG, nB _ _ b3 h0, (I.bas.base _ _ b3).1, b4, b5, b6⟩ fun c' ctv h' tk hx hge hlt hrec htb => ?_
    obtain ⟨c₂, oc, cvs, ct, ec, hoc, hcd, hcv⟩ := hrec
    cases ec
    obtain ⟨a1, r1⟩ := push_set (s := s) (tk := tk) (ex := NoEx) (a := c') (o := .code (G.lams c).qual) (o0' := .tab (some (st.H.n, pos.line, pos.col))) I.bas.rep h0 (fresh_none hge) hoc ⟨cvs, ct, hcd, hcv⟩ htb ⟨Nat.lt_succ_self _, by rw [ext_self]; rfl⟩ (fun b x hb e => hx b x hb e)
    have kf : ∀ b o, h'.get? b = some o → (h'.push (kla_obj (G.lams c).name (G.lams c).qual (G.lams c).params (G.lams c).body (G.lams c).scope [((G.lams c).cell, cc)] ((G.mg "__name__").getD .none) c' ctv)).get? b = some o := fun b o e => Heap.get?_push_of_some _ e
    have g2 := Aft.garbage (ρ := ext ρ st.H.n c') (H := (st.H.push (.code (G.lams c).qual)).set 0 (.tab (some (st.H.n, pos.line, pos.col)))) (s := { s with heap := h', toks := tk }) (tk := tk) (ex := NoEx) kf
    have r2 := r1.garbage kf
    have hge' : (st.H.push (MO.code (G.lams c).qual)).n = st.H.n + 1 := rfl
    refine q l st.H.n _ _ _ rfl (a1.trans g2) r2 ⟨Nat.lt_succ_of_lt hl, Nat.lt_succ_self _, h'.objs.size, cc, (G.mg (Str.ofString "__name__")).getD .none, ctv, occ, rfl, fun qo => ?_, not_owned_after a1 hocc hnO, ?_, kf _ _ (a1.keep _ _ hocc hnO id), by rw [ext_lt l hl]; exact hdcc⟩ ?_
    · obtain ⟨l', o', g', e'⟩ := qo
      obtain ⟨ob', g'', _⟩ := r1.at_ l' o' g'
      rw [e', fresh_none (Nat.le_refl _)] at g''; cases g''
    · rw [ext_self]; exact Heap.get?_push_size _ rfl
    · rw [MH.get_set, if_neg (Nat.ne_of_gt hn0), MH.get_push, if_pos rfl]
  · rename_i lc ln cl h0
    split at e
    case isFalse => cases e
    rename_i hh
    obtain ⟨rfl, rfl, hcq⟩ := hh
    cases e
    obtain ⟨ot, hot, hlc, rfl⟩ := I.bas.rep.at_ 0 _ h0
    refine kla_makeFunctionHit (mg := G.mg) (cv := .ref (ρ lc)) hclos F.glo gG hcode CH hot trivial ?_ ⟨bm, ob, b1, b2, hbG, nB _ _ b3 h0, (I.bas.base _ _ b3).1, b4, b5, b6⟩ fun ctv h' tk hk hsz => ?_
    · simp [codeAmong, rawInt]
    have kf : ∀ b o, s.heap.get? b = some o → (h'.push (kla_obj (G.lams c).name (G.lams c).qual (G.lams c).params (G.lams c).body (G.lams c).scope [((G.lams c).cell, cc)] ((G.mg "__name__").getD .none) (ρ lc) ctv)).get? b = some o := fun b o e => Heap.get?_push_of_some _ (hk b o e)
    have g2 := Aft.garbage (ρ := ρ) (H := st.H) (s := s) (tk := tk) (ex := NoEx) kf
    have r2 := I.bas.rep.garbage kf
    refine q l lc _ _ ρ rfl g2 r2 ⟨hl, hlc, h'.objs.size, cc, _, _, occ, rfl, fun qo => ?_, hnO, Heap.get?_push_size _ rfl, kf _ _ hocc, hdcc⟩ hcq
    obtain ⟨l', o', g', e'⟩ := qo
    obtain ⟨ob', g'', _⟩ := I.bas.rep.at_ l' o' g'
    rw [e', fresh_none hsz] at g''; cases g''
  · cases e

noncomputable def callClo (c0 : Nat) (q : Str) (i : Nat) (ds : St → Option (List MV × MH)) (g : Nat → MV → MH → Option (MV × MH)) (st : St) : Option (MV × MH) := match st.vs[i]? with
  | some (some (.clo c l lc)) => (ds st).bind fun p => match p.1 with
    | [v] => if c = c0 ∧ p.2.get lc = some (.code q) then g l v p.2 else none
    | _ => none
  | _ => none
theorem den_callclo {x : Str} {p pos : Pos} {args : List Expr} {ds : St → Option (List MV × MH)} {c0 : Nat} {g : Nat → MV → MH → Option (MV × MH)} (i : Nat) (hi : sx.slots[i]? = some x) (hk : sx.kindOf x = some .local) (hdb : (x == ("__debug__" : Str)) = false)
    (ha : DenEs G k sx args ds) (hpl : ∀ env pos, (backTo pos (starEach args env)).any (·.1) = false) (hl : LamDen G k c0 g) :
    DenE G k sx (.Call (.Name x p) args [] pos) (callClo c0 (G.lams c0).qual i ds g) := fun {env} {A} {ρ} {st} {s} {v} {H'} F B I e Q q => by
  unfold callClo at e
  split at e
  case h_2 => cases e
  rename_i c l lc hc
  obtain ⟨⟨xs, H₁⟩, e1, e⟩ := Option.bind_eq_some_iff.mp e
  dsimp only at e
  split at e
  case h_2 => cases e
  rename_i u _
  split at e
  case isFalse => cases e
  rename_i hh
  have eg := e
  clear e
  obtain ⟨rfl, hq⟩ := hh
  obtain ⟨m, hn, hv⟩ := I.ns
  obtain ⟨w, hm, r⟩ := hv i x _ hi hk hc
  rw [arm_eval_Call_Name']
  refine wpAny_bind (wpAny_Name (wpAny_loadName_local (by rw [F.scope]; exact F.kind) (by show Env.kindOf _ _ = _; unfold Env.kindOf; rw [F.scope]; exact hk) hn hm ?_) hdb)
  have r0 := r
  obtain ⟨g1, g2, f, cc, pm, ct, oc, rfl, ff, fc, g3, g4, g5⟩ := r
  refine callWith_of (P := FnAt f) (by rw [hpl]; rfl) keeps_F (evalArgs_any (hpl _ _) rfl ?_)
  refine ha F B I e1 pos _ fun vs s₁ ρ₁ a₁ r₁ v₁ => wpAny_evalAll_nil ?_
  have I1 := I.after a₁ r₁
  have g3' := a₁.keep _ _ g3 ff.1 id
  refine ⟨⟨_, _, _, _, g3'⟩, ?_⟩
  cases v₁ with | cons hu hn => ?_
  cases hn
  refine hl B I1.bas hu ?_ hq eg Q fun a s' ρ' a' r' v' => q a s' ρ' (a₁.trans a') r' v'
  exact vra_mono (G := G) (m := .clo _ l lc) a₁.le a₁.agree (fun b o e f => ⟨not_owned_after a₁ e f.1, a₁.keep b o e f.1 id⟩) r0

noncomputable def callKeyD (ds : St → Option (List MV × MH)) (c : Nat) (q : Str) (ln cl i : Nat) (bnd : List MV → Option (List MV)) (m : Nat) (d : St → Option (Fl × St)) (st : St) : Option (MV × MH) :=
  (ds st).bind fun p => (mkClo c q ln cl i st.vs p.2).bind fun r => (bnd p.1).bind fun bs => (d ⟨(bs ++ [r.1]).map some ++ List.replicate m none, r.2⟩).bind retOf
theorem den_callKey {id kx : Str} {p pos kp lpos : Pos} {args : List Expr} {lparams : Arguments} {lbody : Expr} {lscope : Scope} {c c0 f P : Nat} {i : Nat} {ds : St → Option (List MV × MH)} {bnd : List MV → Option (List MV)}
    {fd : FuncData} {body : List Stmt} {sxf : Sx} {params : List Str} {d : St → Option (Fl × St)} (m : Nat)
    (hn : DenE G (k + 1) sx (.Name id p) (fun st => some (.val (.ref f), st.H))) (hk : Keeps G (.ref f)) (ha : DenEs G (k + 1) sx args ds) (hpl : ∀ env pos, (backTo pos (starEach args env)).any (·.1) = false)
    (Y : LamAt G sx c lparams lbody lscope i c0 P) (ok : FnOk G f fd body sxf params) (hd : DenSs G k sxf body d) (hlast : ∀ y, params[params.length - 1]? = some y → sxf.kindOf y = some .local)
    (hb : ∀ {ρ : Nat → Addr} {n : Nat} {xs : List MV} {vs : List Value} {bs : List MV}, VRs ρ n xs vs → bnd xs = some bs → ∀ fv, ∃ vals, (∀ S, peek G.K S (bindArgs fd ⟨vs, [(kx, fv)]⟩) = some (params.zip (vals ++ [fv]))) ∧ (vals ++ [fv]).length = params.length ∧ VRs ρ n bs vals) :
    DenE G (k + 1) sx (.Call (.Name id p) args [⟨some kx, .Lambda lparams lbody lscope lpos, kp⟩] pos) (callKeyD ds c (G.lams c).qual lpos.line lpos.col i bnd m d) := fun {env} {A} {ρ} {st} {s} {v} {H'} F B I e Q q => by
  obtain ⟨⟨xs, H₁⟩, e1, e⟩ := Option.bind_eq_some_iff.mp e
  obtain ⟨⟨clo, H₂⟩, e2, e⟩ := Option.bind_eq_some_iff.mp e
  obtain ⟨bs, e3, e⟩ := Option.bind_eq_some_iff.mp e
  obtain ⟨⟨fl, st'⟩, e4, e9⟩ := Option.bind_eq_some_iff.mp e
  rw [arm_eval_Call_Name']
  refine wpAny_bind (hn F B I rfl _ fun a s₀ ρ₀ a₀ r₀ v₀ => ?_)
  cases v₀
  have I0 := I.after a₀ r₀
  refine callWith_of (P := G.K.In) (by rw [hpl]; rfl) hk (evalArgs_any (hpl _ _) rfl ?_)
  refine ha F B I0 e1 pos _ fun vs s₁ ρ₁ a₁ r₁ v₁ => ?_
  have I1 := I0.after a₁ r₁
  refine wpAny_evalAll_cons (wpAny_bind (lam_make Y F I1 e2 fun l lc fv s₂ ρ₂ hclo a₂ r₂ hc hq => ?_))
  subst hclo
  refine wpAny_bind (wpAny_standAt (wpAny_pure (wpAny_evalAll_nil ?_)))
  have I2 := I1.after a₂ r₂
  refine ⟨I2.bas.K, ?_⟩
  have v₂ := v₁.mono a₂.le a₂.agree
  obtain ⟨vals, hp, hlen, hvals⟩ := hb v₂ e3 fv
  obtain ⟨o, ho, hdata⟩ := ok.at_
  obtain ⟨cA, oc, cvs, ct, hcd, hoc, hcdata, hcq⟩ := ok.code
  refine wpAny_call (codeAny_mono (R := fun r s' => match r with | .ok (.ret v) => Q v s' | _ => False) (codeAny_call_function (by have := B.d; omega) (I2.bas.K f o ho) hdata ok.co ok.gen ok.body ⟨cA, oc, cvs, ct, hcd, I2.bas.K cA oc hoc, hcdata, hcq⟩ ?_) fun r s' z => by rcases r with e | (v | _ | _ | _) <;> first | exact z | exact z.elim)
  refine kp_binds I2.bas.K hp _ _ _ _ ?_
  have A2 := (a₀.trans a₁).trans a₂
  refine wpAny_mono (fn_core m ok hd B I2.bas hlen (by simp [hvals.length]) (fun j u w y h1 h2 h3 => ?_) e4 e9 fun a s' ρ' a' r' v' => q a s' ρ' (A2.trans a') r' v') (fun uq1 uq2 z => z) fun uq1 uq2 z => z.elim
  by_cases hj : j < bs.length
  · rw [List.getElem?_append_left hj] at h1
    rw [List.getElem?_append_left (by rw [hvals.length]; exact hj)] at h2
    obtain ⟨w', h4, h5⟩ := hvals.some h1
    rw [h2] at h4; cases h4
    exact .inl h5
  · have hj' : j = bs.length := by
      have := (List.getElem?_eq_some_iff.mp h1).1
      simp at this; omega
    subst hj'
    have e5 : u = .clo c l lc := by simpa using h1.symm
    have e6 : w = fv := by
      have : bs.length = vals.length := hvals.length.symm
      rw [this] at h2; simpa using h2.symm
    subst e5 e6
    refine .inr ⟨hlast y ?_, hc⟩
    rw [← hlen]; simp only [List.length_append, List.length_singleton, Nat.add_sub_cancel, hvals.length]; exact h3
end
end Q
end Mini

open PySem PySem.W PySem.Calls PyProof.Rows
set_option maxRecDepth 100000
namespace Mini
noncomputable section Q
section
variable {G : Gl} {k : Nat} {sx : Sx} {A : Around} {ρ : Nat → Addr} {H H' : MH} {s : Shared}

theorem LamDen.le {k' c : Nat} {g : Nat → MV → MH → Option (MV × MH)} (h : LamDen G k c g) (hk : k ≤ k') : LamDen G k' c g := fun B => h (B.le hk)
theorem DenSs.le {k' : Nat} {t : List Stmt} {d : St → Option (Fl × St)} (h : DenSs G k sx t d) (hk : k ≤ k') : DenSs G k' sx t d := fun F B => h F (B.le hk)
noncomputable abbrev closBody (env : Env) : Str × NameKind → List (Str × Addr) → Sem (ForInStep (List (Str × Addr))) := fun x r => match x with
  | (name, kind) => if (kind == .free) = true then do { let c ← cellOf env name; pure (ForInStep.yield ((name, c) :: r)) } else pure (ForInStep.yield r)
theorem clos_none {env : Env} : ∀ (names : List (Str × NameKind)) (cs : List (Str × Addr)), names.filter (·.2 == .free) = [] → forIn names cs (closBody env) = pure cs
  | [], _, _ => rfl
  | (n, kd) :: r, cs, h => by
    rw [List.filter_cons] at h
    split at h
    · cases h
    · rename_i hk
      rw [List.forIn_cons]
      have hk' : (kd == NameKind.free) = false := by simpa using hk
      show ((if (kd == .free) = true then _ else pure (ForInStep.yield cs)) >>= _) = _
      rw [hk']
      exact clos_none r cs h
theorem clos_one {env : Env} {cell : Str} {cc : Addr} (hc : env.cells.lookup cell = some cc) : ∀ (names : List (Str × NameKind)) (cs : List (Str × Addr)), names.filter (·.2 == .free) = [(cell, .free)] → forIn names cs (closBody env) = pure ((cell, cc) :: cs)
  | [], _, h => by cases h
  | (n, kd) :: r, cs, h => by
    rw [List.filter_cons] at h
    rw [List.forIn_cons]
    split at h
    · rename_i hk
      have hk' : (kd == NameKind.free) = true := hk
      have h1 := (List.cons.inj h).1
      have h2 := (List.cons.inj h).2
      cases h1
      show ((if (NameKind.free == .free) = true then _ else pure (ForInStep.yield cs)) >>= _) = _
      rw [if_pos hk']
      unfold cellOf
      rw [hc]
      exact clos_none r _ h2
    · rename_i hk
      have hk' : (kd == NameKind.free) = false := by simpa using hk
      show ((if (kd == .free) = true then _ else pure (ForInStep.yield cs)) >>= _) = _
      rw [hk']
      exact clos_one hc r cs h
theorem closure_one {env : Env} {scope : Scope} {cell : Str} {cc : Addr} (hs : scope.names.filter (·.2 == .free) = [(cell, .free)]) (hc : env.cells.lookup cell = some cc) : closureFor scope env = pure [(cell, cc)] := by
  unfold closureFor
  exact (congrArg (· >>= pure) (clos_one hc scope.names [] hs)).trans (pure_bind _ _)
end
end Q
end Mini

open PySem PySem.W PySem.Calls PyProof.Rows
set_option maxRecDepth 100000
namespace Mini
noncomputable section Q
noncomputable def codeAt (H : MH) : List (Nat × MO) := match H.get 0 with
  | some (.tab (some (lc, _, _))) => (match H.get lc with
    | some o => [(lc, o)]
    | none => [])
  | _ => []
noncomputable def filtL (n : Nat) (os : List (Nat × MO)) : List (Nat × MO) := @List.rec (Nat × MO) (fun uq1 => List (Nat × MO)) [] (fun p uq1 ih => @Bool.rec (fun uq1 => List (Nat × MO)) (p :: ih) ih (Nat.ble n p.1)) os
theorem filtL_cons (n k : Nat) (o : MO) (r : List (Nat × MO)) : filtL n ((k, o) :: r) = if n ≤ k then filtL n r else (k, o) :: filtL n r := by
  show @Bool.rec (fun uq1 => List (Nat × MO)) ((k, o) :: filtL n r) (filtL n r) (Nat.ble n k) = _
  cases h : Nat.ble n k with
  | true => rw [if_pos (Nat.le_of_ble_eq_true h)]
  | false => rw [if_neg (fun z => by rw [Nat.ble_eq_true_of_le z] at h; cases h)]
theorem filt_get (n : Nat) (os : List (Nat × MO)) (l : Nat) : getL (filtL n os) l = if l < n then getL os l else none := by
  induction os with
  | nil => show none = _; simp [getL]
  | cons p r ih =>
    obtain ⟨k, o⟩ := p
    rw [filtL_cons]
    by_cases hk : n ≤ k
    · rw [if_pos hk, ih, getL_cons]
      by_cases hl : l < n
      · rw [if_pos hl, if_pos hl, if_neg (by omega)]
      · rw [if_neg hl, if_neg hl]
    · rw [if_neg hk, getL_cons, getL_cons, ih]
      by_cases hl : l = k
      · subst hl; simp; omega
      · simp [hl]
theorem getL_app (l : Nat) : ∀ a b : List (Nat × MO), getL (a ++ b) l = (getL a l).or (getL b l)
  | [], _ => by simp [getL]
  | (k, o) :: r, b => by
    rw [List.cons_append, getL_cons, getL_cons]
    split
    · rfl
    · exact getL_app l r b
noncomputable def gcH (n : Nat) (H : MH) : MH := ⟨H.n, filtL n H.os ++ codeAt H⟩
theorem gcH_get (n : Nat) (H : MH) (l : Nat) : (gcH n H).get l = (if l < n then H.get l else none).or (getL (codeAt H) l) := by
  show getL (filtL n H.os ++ codeAt H) l = _
  rw [getL_app, filt_get]; rfl
theorem code_sub {H : MH} {l : Nat} {o : MO} (e : getL (codeAt H) l = some o) : H.get l = some o := by
  unfold codeAt at e
  split at e
  · split at e
    · rename_i lc _ _ _ o' ho
      rw [getL_cons] at e
      split at e
      · rename_i hl; cases e; rw [hl]; exact ho
      · cases e
    · cases e
  · cases e
theorem gcH_sub {n : Nat} {H : MH} {l : Nat} {o : MO} (e : (gcH n H).get l = some o) : H.get l = some o := by
  rw [gcH_get] at e
  split at e
  · cases h : H.get l with
    | some o' => rw [h] at e; exact e
    | none =>
      rw [h] at e
      rw [code_sub e] at h; cases h
  · exact code_sub e
theorem gcH_low {n : Nat} {H : MH} {l : Nat} {o : MO} (h : l < n) (e : H.get l = some o) : (gcH n H).get l = some o := by
  rw [gcH_get, if_pos h, e]; rfl

noncomputable def gcF (g : List MV → List (Str × MV) → MH → Option (MV × MH)) (xs : List MV) (ks : List (Str × MV)) (H : MH) : Option (MV × MH) := (g xs ks H).map fun p => (p.1, gcH H.n p.2)
section
variable {G : Gl} {k : Nat} {A : Around} {ρ ρ' : Nat → Addr} {H H' : MH} {s s' : Shared}
theorem Rep.gc {P : Params} {h : Heap} (n : Nat) (R : Rep P ρ H h) : Rep P ρ (gcH n H) h := by
  have sub : ∀ l o, (gcH n H).get l = some o → H.get l = some o := fun l o e => gcH_sub e
  exact ⟨fun l o e => R.at_ l o (sub l o e), fun l l' o o' e e' q => R.inj l l' o o' (sub l o e) (sub l' o' e') q, fun l o e => R.lt l o (sub l o e)⟩
theorem Aft.gc {ex : Addr → Prop} (lt : ∀ l o, H.get l = some o → l < H.n) (a : Aft ρ ρ' H H' s s' ex) : Aft ρ ρ' H (gcH H.n H') s s' ex :=
  { a with
    own := fun b ⟨l, o, e, q⟩ => a.own b ⟨l, o, gcH_sub e, q⟩
    stay := fun l o e => by
      obtain ⟨o', e'⟩ := a.stay l o e
      exact ⟨o', gcH_low (lt l o e) e'⟩ }
theorem FnC.gc {f : Value} {g : List MV → List (Str × MV) → MH → Option (MV × MH)} (h : FnC G k f g) : FnC G k f (gcF g) := fun {A} {ρ} {H} {H'} {s} {xs} {vs} {ks} {kvs} {r} B b v kv e Q q => by
  obtain ⟨⟨u, H₁⟩, e1, e⟩ := Option.map_eq_some_iff.mp e
  cases e
  exact h B b v kv e1 Q fun a s' ρ' a' r' v' => q a s' ρ' (a'.gc b.rep.lt) (r'.gc _) v'
end
end Q
end Mini

open PySem PySem.W PySem.Calls PyProof.Rows
set_option maxRecDepth 100000
namespace Mini
noncomputable section Q
section
variable {G : Gl} {k : Nat} {sx : Sx}
theorem den_strW {i : Str} (i' : Str) (h : i = i') {j : Nat} {pos : Pos} : DenE G k sx (.Constant (.str i) j pos) (fun st => some (.str i', st.H)) := h ▸ den_str
theorem den_attrW {value : Expr} {attr : Str} (attr' : Str) (h : attr = attr') {pos : Pos} {C : Addr} {d : St → Option (MV × MH)} {a : Option Value} (hv : DenE G k sx value d) (hb : ∀ env, attributeBase value attr env (eval value env) = eval value env) (hl : ∀ o r, letTemporaryGo value o r = pure ())
    (hg : plainGet G.K C attr = true) (hh : hasDictIn G.K C = true) (ha : findIn G.K (.ref C) attr = some a) (hn : noGet G.K a = true) :
    DenE G k sx (.Attribute value attr pos) (fun st => (d st).bind fun p => attrOf C attr' p.1 p.2) := h ▸ den_attr hv hb hl hg hh ha hn
theorem asg_attrW {o : Expr} {attr : Str} (attr' : Str) (e : attr = attr') {pos : Pos} {C : Addr} {d : St → Option (MV × MH)} (Y : SetsIn G.K C attr) (h : DenE G k sx o d) :
    AsgT G k sx (.Attribute o attr pos) (fun v st => (d st).bind fun p => (attrSet C attr' p.1 v p.2).map fun H => ⟨st.vs, H⟩) := e ▸ asg_attr Y h
theorem dks_consW {x : Str} (x' : Str) (e' : x = x') {e : Expr} {p : Pos} {kws : List Keyword} {d : St → Option (MV × MH)} {ds : St → Option (List (Str × MV) × MH)} (h : DenE G k sx e d) (hs : DenKs G k sx kws ds) :
    DenKs G k sx (⟨some x, e, p⟩ :: kws) (fun st => (d st).bind fun p => (ds ⟨st.vs, p.2⟩).bind fun q => some ((x', p.1) :: q.1, q.2)) := e' ▸ dks_cons h hs
end
noncomputable def params0 : Params := { strHash := fun uq1 => 0, shareClass := fun uq1 => 0, mergeTok := id, idOf := fun uq1 => 0, idOfShared := fun uq1 uq2 => 0, followText := fun uq1 => true, idOfImm := fun uq1 => 0 }
noncomputable def lookO : Frag → Nat → Option Obj
  | [], _ => none
  | p :: r, a => if p.1 = a then some p.2 else lookO r a
noncomputable def fdOf (o : Obj) : FuncData := match o.data with
  | .func f => f
  | _ => default
noncomputable def bodyOf (fd : FuncData) : List Stmt := match fd.body with
  | .stmts b => b
  | _ => []
end Q
end Mini

open PySem PySem.W PySem.Calls PyProof.Rows
set_option maxRecDepth 100000
namespace Mini
noncomputable section Q
theorem ofString_two : ∀ n, n < 100 → Str.ofString (toString (Int.ofNat n)) = if n < 10 then ⟨#[48 + n]⟩ else ⟨#[48 + n / 10, 48 + n % 10]⟩ := by decide +kernel
noncomputable def joinL (sep : List Nat) : List (List Nat) → List Nat
  | [] => []
  | [x] => x
  | x :: y :: r => x ++ (sep ++ joinL sep (y :: r))
theorem joinL_eq (sep : Str) : ∀ ls : List Str, (Str.join sep ls).cps.toList = joinL sep.cps.toList (ls.map (·.cps.toList))
  | [] => rfl
  | [x] => rfl
  | x :: y :: r => by
    show ((x ++ sep ++ Str.join sep (y :: r)).cps).toList = _
    rw [Str.cps_append, Str.cps_append, Array.toList_append, Array.toList_append, joinL_eq sep (y :: r), List.append_assoc]; rfl
theorem toStr (s : Str) (l : List Nat) (h : s.cps.toList = l) : s = ⟨l.toArray⟩ := by
  obtain ⟨⟨x⟩⟩ := s; cases h; rfl
noncomputable def joinW : List MV → List (Str × MV) → MH → Option (MV × MH)
  | [.str sep, .ref l], [], H => match H.get l with
    | some (.list xs) => (strsOf xs).bind fun ls => (fun t => if t.length ≤ 100000 ∧ (ls.toArray.foldl (· + ·.length + sep.length) 0) ≤ 100000 then some (.str ⟨t.toArray⟩, H) else none) (joinL sep.cps.toList (ls.map (·.cps.toList)))
    | _ => none
  | _, _, _ => none
theorem joinW_sub (xs : List MV) (ks : List (Str × MV)) (H : MH) (r : MV × MH) (e : joinW xs ks H = some r) : joinF xs ks H = some r := by
  unfold joinW at e
  split at e
  · rename_i sep l
    split at e
    · rename_i xs hl
      obtain ⟨ls, e1, e⟩ := Option.bind_eq_some_iff.mp e
      dsimp only at e
      split at e
      case isFalse => cases e
      rename_i hz
      cases e
      have ht : Txt.join sep ls = (⟨(joinL sep.cps.toList (ls.map (·.cps.toList))).toArray⟩ : Str) := by
        rw [beq_iff_eq.mp (join_plain_closes sep ls)]
        exact toStr _ _ (joinL_eq sep ls)
      unfold joinF
      dsimp only
      rw [hl]
      dsimp only
      rw [e1]
      show (if _ then _ else _) = _
      rw [if_pos]
      · rw [ht]
      · refine ⟨?_, ?_⟩
        · have := hz.2
          unfold Builtin.Str.tooLong
          rw [decide_eq_false_iff_not, sizeLine_eq]
          omega
        · rw [ht]; show (List.toArray _).size ≤ _; rw [List.size_toArray]; exact hz.1
    · cases e
  · cases e
theorem den_joinW {G : Gl} {k : Nat} : FnDen G k (.builtin "str.join") joinW := FnDen.sub den_join joinW_sub
end Q
end Mini

open PySem PySem.W PySem.Calls PyProof.Rows
set_option maxRecDepth 100000
namespace Mini
noncomputable section Q
section
variable {G : Gl} {k : Nat} {sx : Sx} {env : Env} {A : Around} {ρ ρ' : Nat → Addr} {H H' : MH} {s s' : Shared}
end
end Q
end Mini

open PySem PySem.W PySem.Calls PyProof.Rows
set_option maxRecDepth 100000
namespace Mini
noncomputable section Q
section
variable {G : Gl} {env : Env} {sx : Sx} {s : Shared} {L P : Addr} {m : Str → Option Value}
noncomputable abbrev H00 : MH := ⟨1, [(0, .tab none)]⟩
theorem get00 {l : Nat} {o : MO} (e : H00.get l = some o) : l = 0 ∧ o = .tab none := by
  have e : getL [(0, .tab none)] l = some o := e
  rw [getL_cons] at e
  split at e
  · rename_i h; cases e; exact ⟨h, rfl⟩
  · cases e
theorem start_InF {news : List (Addr × Obj)} (F : Fr G.h₀ L s.heap m) (N : News G.h₀ L s.heap news) (hP : (P, tabObj #[]) ∈ news) (hl : env.locals = L) (htab : G.tab = some P)
    (hcell : ∀ x c, env.cells.lookup x = some c → x ∈ sx.own ∧ ∃ ob v, (c, ob) ∈ news ∧ ob.data = .cell v)
    {vs : List (Option MV)} (hv : ∀ (i : Nat) (x : Str) (v : MV), sx.slots[i]? = some x → vs[i]? = some (some v) → sx.kindOf x = some .local ∧ ∃ w, m x = some w ∧ vr (fun uq1 => P) 1 v w) :
    InF G env sx (fun uq1 => P) ⟨vs, H00⟩ s := by
  have gP := (N _ hP).1
  have cP : ∀ x c, env.cells.lookup x = some c → c ≠ P := fun x c e q => by
    obtain ⟨_, ob, v, hm, hd⟩ := hcell x c e
    have := (N _ hm).1
    subst q
    rw [gP] at this
    cases this
    cases hd
  have own : ∀ b, Owned (fun uq1 => P) H00 b → b = P := fun b ⟨l, o, e, q⟩ => q.symm
  have hlt : ∀ b o, G.h₀.get? b = some o → b < L := fun b o e => Nat.lt_of_lt_of_le (Heap.lt_size e) F.above
  have mine : ∀ b, Mine env sx b → b = L ∨ ∃ ob v, (b, ob) ∈ news ∧ ob.data = .cell v := fun b h => by
    rcases h with h | ⟨x, _, h⟩
    · exact .inl (h.trans hl)
    · exact .inr (hcell x b h).2
  exact {
    bas := ⟨fun b o e => ⟨F.keep b o e, fun q => by
        have := own b q
        subst this
        rw [(N _ hP).2.2] at e; cases e⟩,
      ⟨fun l o e => by
          obtain ⟨_, rfl⟩ := get00 e
          exact ⟨_, gP, rfl⟩,
        fun l l' o o' e e' uq1 => by rw [(get00 e).1, (get00 e').1],
        fun l o e => by rw [(get00 e).1]; exact Nat.zero_lt_one⟩,
      fun p e => by
        rw [htab] at e; cases e
        exact ⟨rfl, Nat.zero_lt_one⟩⟩
    basem := fun b o e h => by
      rcases mine b h with rfl | ⟨ob, v, hm, _⟩
      · exact Nat.lt_irrefl _ (hlt _ _ e)
      · rw [(N _ hm).2.2] at e; cases e
    off := fun b q h => by
      have := own b q
      subst this
      rcases mine _ h with h | ⟨ob, v, hm, hd⟩
      · exact (N _ hP).2.1 h
      · have := (N _ hm).1
        rw [gP] at this; cases this; cases hd
    cells := fun x c e => by
      obtain ⟨ho, ob, v, hm, hd⟩ := hcell x c e
      exact ⟨⟨v, ob, (N _ hm).1, hd⟩, fun q => cP x c e (own c q), fun q => (N _ hm).2.1 (q.trans hl), fun n => absurd ho n⟩
    ns := ⟨m, hl ▸ F.ns, fun i x v h1 uq1 h3 => by
      obtain ⟨_, w, e, r⟩ := hv i x v h1 h3
      exact ⟨w, e, vra_of_vr r⟩⟩
    cel := fun i x v h1 h2 h3 => by
      obtain ⟨k, _⟩ := hv i x v h1 h3
      rw [k] at h2
      rcases h2 with h2 | h2 <;> cases h2 }
theorem run_fin {k : Nat} {news : List (Addr × Obj)} {body : List Stmt} {A : Around} {d : St → Option (Fl × St)} {st' : St} {t : Option (Nat × Nat × Nat)} {v : MV} {w : Value} {Q : Flow → Shared → Prop} {E : Value → Shared → Prop}
    (D : DenSs G k sx body d) (S : Fst G env sx) (B : Bud A k) (F : Fr G.h₀ L s.heap m) (N : News G.h₀ L s.heap news) (hP : (P, tabObj #[]) ∈ news) (hl : env.locals = L) (htab : G.tab = some P)
    (hcell : ∀ x c, env.cells.lookup x = some c → x ∈ sx.own ∧ ∃ ob v, (c, ob) ∈ news ∧ ob.data = .cell v)
    {vs : List (Option MV)} (hv : ∀ (i : Nat) (x : Str) (v : MV), sx.slots[i]? = some x → vs[i]? = some (some v) → sx.kindOf x = some .local ∧ ∃ w, m x = some w ∧ vr (fun uq1 => P) 1 v w)
    (e : d ⟨vs, H00⟩ = some (.ret v, st')) (ht : st'.H.get 0 = some (.tab t)) (hw : ∀ ρ n w', vr ρ n v w' → w' = w)
    (q : ∀ h' tk' m', Fr G.h₀ L h' m' → GrownAt P h' → Q (.ret w) { s with heap := h', toks := tk' }) : wpAny G.M A (execs body env) Q E s := by
  have I := start_InF F N hP hl htab hcell hv
  refine wpAny_mono (D S B I e _ fun f s' ρ' a i r => ?_) (fun uq1 uq2 h => h) fun uq1 uq2 h => h.elim
  obtain ⟨w', rfl, hr⟩ := r
  have hw' := hw _ _ _ hr
  subst hw'
  have es := a.rest
  obtain ⟨m', hm', _⟩ := i.ns
  have hF : Fr G.h₀ L s'.heap m' := ⟨hl ▸ hm', fun b o e => (i.bas.base b o e).1, F.above⟩
  have hG : GrownAt P s'.heap := by
    obtain ⟨o, g, r⟩ := i.bas.rep.at_ 0 _ ht
    have r0 : ρ' 0 = P := (i.bas.tab P htab).1
    rw [r0] at g
    cases t with
    | none => exact ⟨_, g.trans (congrArg some r)⟩
    | some p => obtain ⟨a1, a2, a3⟩ := p; exact ⟨_, g.trans (congrArg some r.2)⟩
  have := q s'.heap s'.toks m' hF hG
  rw [← es] at this
  exact this
end
end Q
end Mini

open PySem PySem.W PySem.Calls PyProof.Rows
set_option maxRecDepth 100000
namespace Mini
noncomputable section Q
theorem sub_step {m i : Nat} (h : i < m) : m - i = (m - (i + 1)) + 1 := by omega
theorem sub_next {k n i : Nat} (h : k + 1 = n - i) : k = n - (i + 1) := by omega
theorem sub_end {n i : Nat} (h : 0 = n - i) (h' : i ≤ n) : i = n := by omega
theorem sub_lt' {k n i : Nat} (h : k + 1 = n - i) : i < n := by omega
theorem big3 {n : Nat} (h : n ≤ 1000) : n ≤ 100000 := Nat.le_trans h (by decide)
theorem big5 {n : Nat} (h : n ≤ 5) : n ≤ 100000 := Nat.le_trans h (by decide)
theorem lt_small {i n m : Nat} (h : i < n) (h' : n ≤ m) : i ≤ m := Nat.le_of_lt (Nat.lt_of_lt_of_le h h')
theorem len_take {i n m : Nat} (h : m = min i n) (h' : i < n) : m = i := h.trans (Nat.min_eq_left (Nat.le_of_lt h'))
noncomputable def Kp (H H' : MH) : Prop := H.n ≤ H'.n ∧ ∀ l, l < H.n → H'.get l = H.get l
theorem Kp.refl {H : MH} : Kp H H := ⟨Nat.le_refl _, fun uq1 uq2 => rfl⟩
theorem Kp.trans {H H' H'' : MH} (a : Kp H H') (b : Kp H' H'') : Kp H H'' := ⟨Nat.le_trans a.1 b.1, fun l h => (b.2 l (Nat.lt_of_lt_of_le h a.1)).trans (a.2 l h)⟩
theorem Kp.push {H : MH} {o : MO} : Kp H (H.push o) := ⟨Nat.le_succ _, fun l h => by rw [MH.get_push, if_neg (Nat.ne_of_lt h)]⟩
theorem Kp.set {H H' : MH} {l : Nat} {o : MO} (a : Kp H H') (h : H.n ≤ l) : Kp H (H'.set l o) := ⟨a.1, fun k hk => by rw [MH.get_set, if_neg (by omega)]; exact a.2 k hk⟩
theorem get_push_self {H : MH} {o : MO} : (H.push o).get H.n = some o := by rw [MH.get_push, if_pos rfl]
theorem get_set_self {H : MH} {l : Nat} {o o' : MO} (h : H.get l = some o) : (H.set l o').get l = some o' := by rw [MH.get_set, if_pos rfl, h]; rfl
theorem get_set_ne {H : MH} {l k : Nat} {o' : MO} (h : k ≠ l) : (H.set l o').get k = H.get k := by rw [MH.get_set, if_neg h]
theorem next_list {l i : Nat} {xs : List MV} {H : MH} (h : H.get l = some (.list xs)) : (Src.list l i).next H = match xs[i]? with | some x => some (some (x, .list l (i + 1), H)) | none => some none := by
  unfold Src.next; simp only [h] <;> (cases xs[i]? <;> rfl)
theorem appTo_eq {la : Nat} {xs : List MV} {H : MH} {v : MV} (h : H.get la = some (.list xs)) (hl : xs.length ≤ 100000) : appTo la v H = some (H.set la (.list (xs ++ [v]))) := by
  unfold appTo; simp only [h]; exact if_pos hl
theorem compFor_list {f : MV → St → Option St} {ti : St → Option (Bool × MH)} {de : St → Option (MV × MH)} {P : List (Option MV) → Prop} {H0 : MH} {la l : Nat} {α : Type} {xs : List α} {φ : α → MV} {q : α → Bool} {g : α → MV}
    (step : ∀ x ∈ xs, ∀ vs H, P vs → Kp H0 H → ∃ vs' H1, f (φ x) ⟨vs, H⟩ = some ⟨vs', H⟩ ∧ P vs' ∧ ti ⟨vs', H⟩ = some (q x, H1) ∧ Kp H H1 ∧ (q x = true → ∃ H2, de ⟨vs', H1⟩ = some (g x, H2) ∧ Kp H1 H2))
    (hl : H0.get l = some (.list (xs.map φ))) (hl0 : l < H0.n) (hla : H0.n ≤ la) (hx : xs.length ≤ 1000) :
    ∀ (k i : Nat) (acc : List MV) (vs : List (Option MV)) (H : MH), P vs → Kp H0 H → H.get la = some (.list acc) → la < H.n → acc.length ≤ i → i ≤ xs.length → k = xs.length - i →
      ∃ vs' H', compFor f ti (emitD de la) (k + 1) (.list l i) ⟨vs, H⟩ = some ⟨vs', H'⟩ ∧ Kp H0 H' ∧ H'.get la = some (.list (acc ++ ((xs.drop i).filter q).map g)) ∧ la < H'.n := by
  intro k
  induction k with
  | zero =>
    intro i acc vs H p kp ha hn hai hi hk
    have hi' : i = xs.length := sub_end hk hi
    refine ⟨vs, H, ?_, kp, ?_, hn⟩
    · unfold compFor
      rw [next_list ((kp.2 l hl0).trans hl), List.getElem?_eq_none (by rw [List.length_map]; omega)]; rfl
    · rw [hi', List.drop_length]; simpa using ha
  | succ k ih =>
    intro i acc vs H p kp ha hn hai hi hk
    have hlt : i < xs.length := sub_lt' hk
    obtain ⟨vs', H1, e1, p1, e2, k1, e3⟩ := step xs[i] (List.getElem_mem hlt) vs H p kp
    have hdrop : xs.drop i = xs[i] :: xs.drop (i + 1) := List.drop_eq_getElem_cons hlt
    have unf : compFor f ti (emitD de la) (k + 1 + 1) (.list l i) ⟨vs, H⟩ = (if q xs[i] = true then emitD de la ⟨vs', H1⟩ else some ⟨vs', H1⟩).bind fun st => compFor f ti (emitD de la) (k + 1) (.list l (i + 1)) st := by
      rw [compFor, next_list ((kp.2 l hl0).trans hl), List.getElem?_map, List.getElem?_eq_getElem hlt, Option.map_some]
      dsimp only
      rw [Option.bind_some]
      dsimp only
      rw [e1, Option.bind_some, e2, Option.bind_some]
    rw [unf]
    cases hq : q xs[i] with
    | false =>
      rw [if_neg (by decide), Option.bind_some]
      obtain ⟨vs2, H2, r1, r2, r3, r4⟩ := ih (i + 1) acc vs' H1 p1 (kp.trans k1) ((k1.2 la hn).trans ha) (Nat.lt_of_lt_of_le hn k1.1) (by omega) (by omega) (by omega)
      refine ⟨vs2, H2, r1, r2, ?_, r4⟩
      rw [hdrop, List.filter_cons_of_neg (by rw [hq]; decide)]; exact r3
    | true =>
      obtain ⟨H2, e4, k2⟩ := e3 hq
      rw [if_pos rfl]
      have g2 : H2.get la = some (.list acc) := (k2.2 la (Nat.lt_of_lt_of_le hn k1.1)).trans ((k1.2 la hn).trans ha)
      have em : emitD de la ⟨vs', H1⟩ = some ⟨vs', H2.set la (.list (acc ++ [g xs[i]]))⟩ := by
        unfold emitD
        rw [e4, Option.bind_some, appTo_eq g2 (by omega)]; rfl
      rw [em, Option.bind_some]
      obtain ⟨vs3, H3, r1, r2, r3, r4⟩ := ih (i + 1) (acc ++ [g xs[i]]) vs' (H2.set la (.list (acc ++ [g xs[i]]))) p1 ((kp.trans (k1.trans k2)).set hla) (get_set_self g2) (Nat.lt_of_lt_of_le hn (k1.trans k2).1) (by rw [List.length_append, List.length_singleton]; omega) (by omega) (by omega)
      refine ⟨vs3, H3, r1, r2, ?_, r4⟩
      rw [hdrop, List.filter_cons_of_pos hq, List.map_cons]
      rw [r3, List.append_assoc]; rfl
theorem compD_list {cap : List (Option Nat)} {t : Expr} {di : St → Option (Src × MH)} {f : MV → St → Option St} {ti : St → Option (Bool × MH)} {de : St → Option (MV × MH)} {P : List (Option MV) → Prop} {H0 H1 : MH} {l : Nat} {α : Type} {xs : List α} {φ : α → MV} {q : α → Bool} {g : α → MV} {vs : List (Option MV)}
    (hdi : di ⟨vs, H0⟩ = some (.list l 0, H1)) (k1 : Kp H0 H1) (ht : (Src.list l 0).okT t = true) (p : P (capV cap vs))
    (step : ∀ x ∈ xs, ∀ vs H, P vs → Kp H1 H → ∃ vs' H2, f (φ x) ⟨vs, H⟩ = some ⟨vs', H⟩ ∧ P vs' ∧ ti ⟨vs', H⟩ = some (q x, H2) ∧ Kp H H2 ∧ (q x = true → ∃ H3, de ⟨vs', H2⟩ = some (g x, H3) ∧ Kp H2 H3))
    (hl : H1.get l = some (.list (xs.map φ))) (hl0 : l < H1.n) (hx : xs.length ≤ 1000) :
    ∃ H', compD cap t di f ti (emitD de) ⟨vs, H0⟩ = some (.ref H1.n, H') ∧ Kp H0 H' ∧ H1.n < H'.n ∧ H'.get H1.n = some (.list ((xs.filter q).map g)) := by
  obtain ⟨vs', H', e, kp, hg, hn⟩ := compFor_list step hl hl0 (Nat.le_refl _) hx (xs.length) 0 [] (capV cap vs) (H1.push (.list [])) p Kp.push get_push_self (Nat.lt_succ_self _) (Nat.zero_le _) (Nat.zero_le _) rfl
  refine ⟨H', ?_, k1.trans kp, hn, by simpa using hg⟩
  unfold compD
  rw [hdi, Option.bind_some]
  dsimp only
  rw [if_pos ht]
  have hf : (Src.list l 0).fuel H1 = xs.length + 1 := by unfold Src.fuel; simp only [hl, List.length_map]; omega
  rw [hf, e]; rfl
theorem forD_list {b : MV → St → Option (Fl × St)} {l : Nat} {xs : List MV} {R : Nat → St → Prop}
    (hR : ∀ i st, R i st → st.H.get l = some (.list xs))
    (step : ∀ i (h : i < xs.length) st, R i st → ∃ st', b xs[i] st = some (.next, st') ∧ R (i + 1) st') :
    ∀ (k i : Nat) (st : St), k = xs.length - i → i ≤ xs.length → R i st → ∃ st', forD b (k + 1) (.list l i) st = some (.next, st') ∧ R xs.length st' := by
  intro k
  induction k with
  | zero =>
    intro i st hk hi r
    have : i = xs.length := sub_end hk hi
    subst this
    refine ⟨st, ?_, r⟩
    rw [forD, next_list (hR _ _ r), List.getElem?_eq_none (Nat.le_refl _)]; rfl
  | succ k ih =>
    intro i st hk hi r
    have hlt : i < xs.length := sub_lt' hk
    obtain ⟨st', e, r'⟩ := step i hlt st r
    obtain ⟨st2, e2, r2⟩ := ih (i + 1) st' (sub_next hk) hlt r'
    refine ⟨st2, ?_, r2⟩
    rw [forD, next_list (hR _ _ r), List.getElem?_eq_getElem hlt]
    dsimp only
    rw [Option.bind_some]
    dsimp only
    show Option.bind (b xs[i] st) _ = _
    rw [e, Option.bind_some]
    exact e2
theorem forS_list {t : Expr} {di : St → Option (Src × MH)} {f : MV → St → Option St} {d : St → Option (Fl × St)} {st st1 : St} {l : Nat} {xs : List MV} {R : Nat → St → Prop}
    (hdi : di st = some (.list l 0, st1.H)) (hvs : st1.vs = st.vs) (ht : (Src.list l 0).okT t = true)
    (hR : ∀ i st, R i st → st.H.get l = some (.list xs)) (r0 : R 0 st1)
    (step : ∀ i (h : i < xs.length) st, R i st → ∃ st', (f xs[i] st).bind d = some (.next, st') ∧ R (i + 1) st') :
    ∃ st', forS t di f d st = some (.next, st') ∧ R xs.length st' := by
  obtain ⟨st', e, r⟩ := forD_list (b := fun v st => (f v st).bind d) hR step xs.length 0 st1 rfl (Nat.zero_le _) r0
  refine ⟨st', ?_, r⟩
  unfold forS
  rw [hdi, Option.bind_some]
  dsimp only
  rw [if_pos ht]
  have hf : (Src.list l 0).fuel st1.H = xs.length + 1 := by unfold Src.fuel; simp only [hR 0 _ r0]; omega
  rw [hf, ← hvs]
  exact e
end Q
end Mini

open PySem PySem.W PySem.Calls PyProof.Rows
set_option maxRecDepth 100000
namespace Mini
noncomputable section Q
section
variable {G : Gl} {k : Nat} {sx : Sx}
noncomputable def items0 (i : Nat) (st : St) : Option (Fl × St) := (getv st i).bind fun p => match p.1 with
  | .ref l => if p.2.get l = some (.emp l) then some (.next, ⟨st.vs, p.2⟩) else none
  | _ => none
theorem ds_items0 {x : Str} {px apos cpos fpos : Pos} {t : Expr} {b : List Stmt} (i : Nat)
    (hn : DenE G k sx (.Name x px) (fun st => getv st i))
    (he : ∀ env, eval (.Call (.Attribute (.Name x px) (Str.ofString "items") apos) [] [] cpos) env = (do
      let ov ← eval (.Name x px) env
      standAt apos.atName
      let (f, first) ← holding [ov] (getMethod ov (Str.ofString "items") (do return (← importBound (.Name x px) env).getD true))
      callWith cpos f first (backTo cpos (starEach [] env)) (backToKw cpos (keywordEach [] env))))
    (hs : ∀ env v, foldedSetIterable (.Call (.Attribute (.Name x px) (Str.ofString "items") apos) [] [] cpos) env v = pure v) :
    DenS G k sx (.For t (.Call (.Attribute (.Name x px) (Str.ofString "items") apos) [] [] cpos) b [] fpos) (items0 i) := fun {env} {A} {ρ} {st} {s} {fl} {st'} F B I e => by
  obtain ⟨⟨v, H₁⟩, e1, e⟩ := Option.bind_eq_some_iff.mp e
  dsimp only at e
  split at e
  case h_2 => cases e
  rename_i l
  split at e
  case isFalse => cases e
  rename_i hl
  cases e
  refine fun Q q => wpAny_For ?_ (hs _)
  rw [he]
  refine wpAny_bind ((hn F B I e1).wp fun ov s₁ ρ₁ a₁ r₁ v₁ => wpAny_bind (wpAny_standAt (wpAny_bind (wpAny_holding ?_))))
  obtain ⟨_, rfl⟩ := v₁
  obtain ⟨od, g1, hod⟩ := r₁.at_ l _ hl
  obtain ⟨_, hod, lo⟩ := hod
  subst hod
  have I1 := I.after a₁ r₁
  refine getMethod_builtin ⟨_, g1, rfl⟩ PySem.F.plainAttrs_dict PySem.F.slot_dict_items PySem.F.type_dict_items (fun a e => by cases e; exact ⟨_, g1, rfl⟩) ?_
  refine callWith_of (P := G.K.In) (by rfl) keeps_builtin (evalArgs_any (by rfl) (by rfl) ?_)
  refine (dens_nil (G := G) (k := k) (sx := sx) F B I1 rfl cpos).wp fun vs s₂ ρ₂ a₂ r₂ v₂ => (dks_nil (G := G) (k := k) (sx := sx) F B (I1.after a₂ r₂) rfl cpos).wp fun kvs s₃ ρ₃ a₃ r₃ v₃ => ?_
  cases v₂
  have I3 := (I1.after a₂ r₂).after a₃ r₃
  have A3 := (a₁.trans a₂).trans a₃
  obtain ⟨od', g3, hod'⟩ := r₃.at_ l _ hl
  obtain ⟨_, hod', _⟩ := hod'
  subst hod'
  have hrho : ρ₃ l = ρ₁ l := (a₃.agree l (r₂.lt l _ hl)).trans (a₂.agree l (r₁.lt l _ hl))
  rw [hrho] at g3
  have hAt : ∀ {h : Heap}, h.get? (ρ₁ l) = some emptyDict → h.DictAt (strKind G.prog G.w) (ρ₁ l) [] 0 := fun g => ⟨_, _, g, ⟨rfl, rfl, rfl⟩, rfl, fun e he => (by simp at he), by exact .nil, List.nodup_nil⟩
  have hD : s₃.heap.DictOf (strKind G.prog G.w) (ρ₁ l) [] := let ⟨o, es, a, b, c, d, e, f⟩ := hAt g3; ⟨o, es, 0, a, b, c, d, e, f⟩
  refine ⟨I3.bas.K, ?_⟩
  refine call_meetsIn PySem.F.slot_dict_items hD.typeIs PySem.F.entry_dict_items (PySem.F.args_dict_items_1 _) (meets_dict_items (strKind G.prog G.w) (ρ₁ l) lo) ⟨⟨[], hD⟩, ?_⟩
  have k4 : ∀ b o, s₃.heap.get? b = some o → (s₃.heap.push { cls := .type "dict_items", data := .fields #[.ref (ρ₁ l)] }).get? b = some o := fun b o e => Heap.get?_push_of_some _ e
  refine wpAny_pyIter_items (knd := strKind G.prog G.w) (kvs := []) (ep := 0) ⟨_, Heap.get?_push_size _ rfl, rfl, rfl⟩ (hAt (k4 _ _ g3)) ?_
  let h4 : Heap := s₃.heap.push { cls := .type "dict_items", data := .fields #[.ref (ρ₁ l)] }
  let h5 : Heap := h4.push { cls := .type "dict_itemiterator", data := .fields #[.none, .bool false, .ref (ρ₁ l), .int 0 0, .int 0 0, .int 0 0, .none, .none] }
  have k5 : ∀ b o, s₃.heap.get? b = some o → h5.get? b = some o := fun b o e => Heap.get?_push_of_some _ (k4 b o e)
  have a5 : Aft ρ₃ ρ₃ H₁ H₁ s₃ { s₃ with heap := h5, toks := s₃.toks } NoEx := Aft.garbage k5
  have r5 : Rep G.P ρ₃ H₁ h5 := r₃.garbage k5
  have I5 := I3.after a5 r5
  have A5 := A3.trans a5
  have fr : s₃.heap.get? h4.objs.size = none := fresh_none (by show s₃.heap.objs.size ≤ h4.objs.size; rw [Heap.size_push]; exact Nat.le_succ _)
  refine codeAny_forLoop_any (fun n s' => s' = { s₃ with heap := h5, toks := s₃.toks }) (fun n s' hI => ?_) 0 rfl
  subst hI
  refine wpAny_pyNext_items_end (knd := strKind G.prog G.w) (kvs := []) (ep := 0) (i := 0) B.h (Heap.get?_push_size _ rfl) (hAt (k5 _ _ g3)) rfl fun h' hx => ?_
  refine wpAny_execs_nil ?_
  have nO : ¬ Owned ρ₃ H₁ h4.objs.size := fun ⟨l', o, e, z⟩ => by
    obtain ⟨ob, hob, _⟩ := r₃.at_ l' o e
    rw [z, fr] at hob; cases hob
  have st6 : Stp ρ₃ ρ₃ H₁ H₁ { s₃ with heap := h5, toks := s₃.toks } { s₃ with heap := h', toks := s₃.toks } (fun b => b = h4.objs.size) :=
    ⟨fun uq1 uq2 => rfl, Nat.le_refl _, fun b o e uq1 n => hx b o n e, rfl, fun uq1 h => .inl h, fun uq1 o e => ⟨o, e⟩⟩
  have r6 : Rep G.P ρ₃ H₁ h' := ⟨fun l' o e => by
    obtain ⟨ob, hob, z⟩ := r5.at_ l' o e
    exact ⟨ob, hx _ _ (fun w => nO ⟨l', o, e, w⟩) hob, z⟩, r5.inj, r5.lt⟩
  have isf : IsF { s₃ with heap := h5, toks := s₃.toks } (fun b => b = h4.objs.size) := fun b hb => by subst hb; exact ⟨_, _, Heap.get?_push_size _ rfl, rfl⟩
  have hbs : ∀ b o, G.h₀.get? b = some o → ¬ (b = h4.objs.size) := fun b o e z => by
    have := (I3.bas.base b o e).1
    rw [z, fr] at this; cases this
  have I6 := I5.afterEx st6 r6 isf hbs
  have A6 := (I.lift A5).skip st6 (fun b hb => .inl ?_) (fun b m o => I.off b o m) (fun b m o => I5.off b o m)
  · exact q .next _ ρ₃ A6 I6 rfl
  · subst hb
    cases hg : s.heap.get? h4.objs.size with
    | none => rfl
    | some o =>
      exfalso
      by_cases ho : Owned ρ st.H h4.objs.size
      · obtain ⟨l', o', e', z⟩ := ho
        obtain ⟨o2, e2⟩ := A3.stay l' o' e'
        refine nO ⟨l', o2, e2, ?_⟩
        rw [A3.agree l' (I.bas.rep.lt l' o' e')]; exact z
      · have := A3.keep _ o hg ho id
        rw [fr] at this; cases this

theorem sole_scope {ts : List Expr} {v : Expr} {l : Nat} {env env' : Env} (h : env.scope = env'.scope) : swapsWithSole ts v l env = swapsWithSole ts v l env' := by
  obtain ⟨⟩ := env; obtain ⟨⟩ := env'; cases h; kernel_rfl
theorem bind_peekA {fd : FuncData} {params : List Str} {bnd : List MV → List (Str × MV) → Option (List MV)}
    (h : ∀ {ρ : Nat → Addr} {n : Nat} {xs : List MV} {vs : List Value} {ks : List (Str × MV)} {kvs : List (Str × Value)} {r : List MV}, VRs ρ n xs vs → KWs ρ n ks kvs → bnd xs ks = some r →
      ∃ vals g, (∀ S, peekA G.K S (bindArgs fd ⟨vs, kvs⟩) = some (emptyDict, g)) ∧ (∀ D, g D = pure (params.zip (vals ++ [.ref D]))) ∧ (vals ++ [Value.none]).length = params.length ∧ VRs ρ n r vals) :
    BindD G fd params (fun xs ks H => (bnd xs ks).map fun r => (r ++ [.ref H.n], H.push (.emp H.n))) := fun {A} {ρ} {H} {uq1} {s} {uq2} {uq3} {uq4} {uq5} {uq6} b v kv e Q q => by
  obtain ⟨r, e1, e⟩ := Option.map_eq_some_iff.mp e
  cases e
  obtain ⟨vals, g, hp, hg, hl, hv⟩ := h v kv e1
  have big : (s.heap.objs.size == sysModules) = false := by
    obtain ⟨mc, ⟨o, es, ep, ho, _⟩, _⟩ := G.T.nolimit
    have := Heap.lt_size (b.base _ o ho).1
    refine beq_eq_false_iff_ne.mpr (Nat.ne_of_gt (Nat.lt_trans ?_ this))
    decide
  have key : ∀ (t : Sem (List (Str × Value))) (g : Addr → Sem (List (Str × Value))), peekA G.K ⟨G.M.prog, G.M.w.params⟩ t = some (emptyDict, g) → wpAny G.M A (g s.heap.objs.size) Q (fun uq1 uq2 => False) { s with heap := s.heap.push emptyDict } → wpAny G.M A t Q (fun uq1 uq2 => False) s := by
    intro t
    induction t with
    | rule _ k ih => intro g e q Γ p hΓ; exact ih () g e q Γ p hΓ
    | point _ k ih => intro g e q Γ p hΓ; exact ih () g e q Γ p hΓ
    | ask k ih => intro g e q Γ p hΓ; exact ih _ g e q Γ p hΓ
    | load a _ k ih =>
      intro g e q Γ p hΓ
      simp only [peekA] at e
      split at e
      · rename_i ob ho; exact ⟨ob, b.K _ _ ho, ih ob g e q Γ p hΓ⟩
      · cases e
    | alloc ob k _ =>
      intro g e q
      have e : some (ob, k) = some (emptyDict, g) := e
      obtain ⟨e1, e2⟩ := Prod.mk.inj (Option.some.inj e)
      subst e1
      subst e2
      show wpAny G.M A (alloc emptyDict >>= k) Q _ s
      exact wpAny_bind (wpAny_alloc q)
    | _ => intro g e; cases e
  refine key _ g (hp _) ?_
  rw [hg]
  obtain ⟨p1, p2⟩ := push_new (s := s) (tk := s.toks) (ex := NoEx) (a := s.heap.objs.size) (ob := emptyDict) (o := .emp H.n) (h' := s.heap.push emptyDict) b.rep (fresh_none (Nat.le_refl _)) (Heap.get?_push_size _ rfl) ⟨Nat.lt_succ_self _, rfl, by rw [ext_self]; exact big⟩ (fun b o e => Heap.get?_push_of_some _ e)
  refine wpAny_pure (q _ _ _ p1 p2 ⟨vals ++ [.ref s.heap.objs.size], rfl, by simpa using hl, ?_⟩)
  exact (hv.mono (Nat.le_succ _) ext_lt).append (.cons ⟨Nat.lt_succ_self _, by rw [ext_self]⟩ .nil)
end
end Q
end Mini

open PySem PySem.W PySem.Calls PyProof.Rows
set_option maxRecDepth 100000
namespace Mini
noncomputable section Q
theorem compFor_gen {f : MV → St → Option St} {ti : St → Option (Bool × MH)} {body : St → Option St} {S : Nat → Src} {n : Nat} {R : Nat → St → Prop}
    (hend : ∀ st, R n st → (S n).next st.H = some none)
    (step : ∀ i, i < n → ∀ st, R i st → ∃ v H' st1 q H1 st2, (S i).next st.H = some (some (v, S (i + 1), H')) ∧ f v ⟨st.vs, H'⟩ = some st1 ∧ ti st1 = some (q, H1) ∧ (if q = true then body ⟨st1.vs, H1⟩ else some ⟨st1.vs, H1⟩) = some st2 ∧ R (i + 1) st2) :
    ∀ (k i : Nat) (st : St), k = n - i → i ≤ n → R i st → ∃ st', compFor f ti body (k + 1) (S i) st = some st' ∧ R n st' := by
  intro k
  induction k with
  | zero =>
    intro i st hk hi r
    have : i = n := sub_end hk hi
    subst this
    refine ⟨st, ?_, r⟩
    rw [compFor, hend st r]; rfl
  | succ k ih =>
    intro i st hk hi r
    obtain ⟨v, H', st1, q, H1, st2, e1, e2, e3, e4, r'⟩ := step i (sub_lt' hk) st r
    obtain ⟨st3, e5, r3⟩ := ih (i + 1) st2 (sub_next hk) (sub_lt' hk) r'
    refine ⟨st3, ?_, r3⟩
    rw [compFor, e1, Option.bind_some]
    dsimp only
    rw [e2, Option.bind_some, e3, Option.bind_some]
    show Option.bind (if q = true then body ⟨st1.vs, H1⟩ else some ⟨st1.vs, H1⟩) _ = _
    rw [e4, Option.bind_some]
    exact e5
end Q
end Mini

open PySem PySem.W PySem.Calls PyProof.Rows
set_option maxRecDepth 100000
namespace Mini
noncomputable section Q
noncomputable def digB (i : Int) : Bool := decide (0 ≤ i) && decide (i < 100)
noncomputable def strN : List MV → List (Str × MV) → MH → Option (MV × MH)
  | [.ref l], [], H => match H.get l with
    | some (.list xs) => (intsOf xs).bind fun ns => if ns.length ≤ 100 ∧ ns.all digB = true then some (.str (PyData.list (ns.map .int)).shown, H) else none
    | _ => none
  | _, _, _ => none
theorem len_dig {i : Int} (h : digB i = true) : (PyData.int i).shown.cps.toList.length ≤ 2 := by
  unfold digB at h
  simp only [Bool.and_eq_true, decide_eq_true_eq] at h
  obtain ⟨n, rfl⟩ := Int.eq_ofNat_of_zero_le h.1
  have : (PyData.int ((n : Nat) : Int)).shown = Str.ofString (toString (Int.ofNat n)) := rfl
  rw [this, ofString_two n (by omega)]
  split <;> simp
theorem joinL_len : ∀ ls : List (List Nat), (∀ l ∈ ls, l.length ≤ 2) → (joinL [44, 32] ls).length ≤ 4 * ls.length
  | [], _ => Nat.le_refl _
  | [x], h => by have := h x (List.mem_singleton.mpr rfl); show x.length ≤ 4 * 1; omega
  | x :: y :: r, h => by
    have h1 := h x (List.mem_cons_self ..)
    have h2 := joinL_len (y :: r) fun l hl => h l (List.mem_cons_of_mem _ hl)
    show (x ++ ([44, 32] ++ joinL [44, 32] (y :: r))).length ≤ _
    simp only [List.length_append, List.length_cons, List.length_nil] at h2 ⊢
    omega
theorem dig_show : ∀ n, n < 100 → (PyData.int (Int.ofNat n)).showable = true := by decide +kernel
theorem dig_show' {i : Int} (h : digB i = true) : (PyData.int i).showable = true := by
  unfold digB at h
  simp only [Bool.and_eq_true, decide_eq_true_eq] at h
  obtain ⟨n, rfl⟩ := Int.eq_ofNat_of_zero_le h.1
  exact dig_show n (by omega)
theorem ints_all {H : MH} : ∀ ns : List Int, ns.all digB = true → allOf (pyOf 2 H) (ns.map .int) = some (ns.map PyData.int) ∧ PyData.showableAll (ns.map .int) = true ∧ PyData.hasDictAll (ns.map .int) = false ∧ PyData.depthAll (ns.map .int) = 0 ∧ PyData.shownAll (ns.map .int) = ns.map fun i => (PyData.int i).shown
  | [], _ => ⟨rfl, rfl, rfl, rfl, rfl⟩
  | a :: r, h => by
    rw [List.all_cons, Bool.and_eq_true] at h
    obtain ⟨h1, h2, h3, h4, h5⟩ := ints_all (H := H) r h.2
    refine ⟨?_, ?_, ?_, ?_, ?_⟩
    · show (some (PyData.int a)).bind _ = _
      rw [Option.bind_some, h1]; rfl
    · show (PyData.showable _ && _) = true
      rw [h2, dig_show' h.1]; rfl
    · show (PyData.hasDict _ || _) = false
      rw [h3]; rfl
    · show max (PyData.depth _) _ = 0
      rw [h4]; rfl
    · rw [List.map_cons, PyData.shownAll_cons, h5]; rfl
theorem strN_sub (xs : List MV) (ks : List (Str × MV)) (H : MH) (r : MV × MH) (e : strN xs ks H = some r) : strAnyF xs ks H = some r := by
  unfold strN at e
  split at e
  · rename_i l
    split at e
    · rename_i xs hl
      obtain ⟨ns, e1, e⟩ := Option.bind_eq_some_iff.mp e
      split at e
      case isFalse => cases e
      rename_i hz
      cases e
      have hx : xs = ns.map .int := by
        clear hl hz e
        induction xs generalizing ns with
        | nil => cases e1; rfl
        | cons x r ih =>
          cases x with
          | int i =>
            obtain ⟨q, e2, e3⟩ := Option.map_eq_some_iff.mp e1
            cases e3
            rw [ih q e2]; rfl
          | _ => cases e1
      subst hx
      obtain ⟨h1, h2, h3, h4, h5⟩ := ints_all (H := H) ns hz.2
      have hd : pyOf 3 H (.ref l) = some (.list (ns.map .int)) := by
        unfold pyOf; rw [hl]; show (allOf (pyOf 2 H) (ns.map .int)).map _ = _; rw [h1]; rfl
      show (pyOf 3 H (.ref l)).bind _ = _
      rw [hd]
      show (if _ then _ else _) = _
      rw [if_pos]
      refine ⟨h2, h3, ?_, ?_⟩
      · show PyData.depthAll (ns.map .int) + 1 ≤ 20
        omega
      · show (PyData.list (ns.map .int)).shown.cps.size ≤ 100000
        rw [← Array.length_toList, PyData.shown_list, Str.cps_append, Str.cps_append, Array.toList_append, Array.toList_append, joinL_eq, h5, List.map_map]
        have e2 : (Str.ofString "[").cps.toList = [91] := by kernel_rfl
        have e3 : (Str.ofString "]").cps.toList = [93] := by kernel_rfl
        have e4 : (Str.ofString ", ").cps.toList = [44, 32] := by kernel_rfl
        rw [e2, e3, e4]
        have := joinL_len (ns.map fun i => (PyData.int i).shown.cps.toList) (fun l hl => by
          obtain ⟨i, hi, rfl⟩ := List.mem_map.mp hl
          exact len_dig (List.all_eq_true.mp hz.2 i hi))
        have hn := hz.1
        simp only [List.length_append, List.length_cons, List.length_nil, List.length_map, Function.comp_def] at this ⊢
        omega
    · cases e
  · cases e
theorem den_strN {G : Gl} {k : Nat} (hk : 3 ≤ k) : FnDen G k (.type "str") strN := FnDen.sub (den_strAny hk) strN_sub
end Q
end Mini

open PySem PySem.W PyProof.Rows
set_option maxRecDepth 100000
set_option maxHeartbeats 8000000
namespace Mini
theorem wsaid : PySem.Challenge.rw_pg0324_02.wellSaid = true := by kernel_rfl
theorem holds_both {r : OpenRow} {q : Program} {loose : List Str} {Xt : Shared → Bool} {XP : (Str → Option Value) → Heap → Prop} {α : Type} {Yf : Shared → α} {Ya : World → α} {YP : World → Heap → Prop} {d : DefRec} {kwd : List (Str × Expr)} {N : Nat}
    (hY : ∀ w s, Yf s = Ya w → YP w s.heap) (hYk : ∀ w h h', YP w h → (∀ b o, h.get? b = some o → h'.get? b = some o) → YP w h')
    (hX : ∀ s, Xt s = true → XP (s.heap.nsMap mainGlobals) s.heap) (hXk : ∀ mg h h', XP mg h → (∀ b o, h.get? b = some o → h'.get? b = some o) → XP mg h')
    (hdef : defOf q r.name = some (d, kwd)) (hp : r.prog.theDef r.name = some (d.params, d.body, d.scope)) (hk : kwWritten? d.params.kwonlyargs d.params.kw_defaults = some kwd) (hRf : ∀ s, Xt s = true → RecFacts r.records s.heap) (hwr : (!r.writes || r.records.isEmpty) = true)
    (k1 : r.wellSaid = true) (ok : (chainsOk q && opensWell r.prog && (frees r.toRowW && r.within.isEmpty)) = true) (hb : r.prog.bare) (hw : r.toRowW.promised)
    (both : LeftO r.prog q loose Xt Yf Ya N ∧ WalkO q loose XP YP r.toRowW d kwd fun f vs => PySem.call f vs) : r.Holds := holds_open both.1 hY hYk hX hXk hdef hp hk hRf hwr k1 ok hb hw both.2
noncomputable def vwB : {l : List Stmt // (view PySem.Challenge.pw_pg0324_02 [0, 1, 7, 9, 10, 11, 13, 15, 16]).main.body = l} := ⟨[_, _, _, _, _, _, _, _, _], by rfl⟩
noncomputable def vw : Program := { PySem.Challenge.pw_pg0324_02 with main := { PySem.Challenge.pw_pg0324_02.main with body := vwB.1 } }
noncomputable abbrev lo : List Str := [Str.ofString "insort_right", Str.ofString "bisect_right", Str.ofString "bisect_left", Str.ofString "Whitespace", Str.ofString "tspecials", Str.ofString "_name_disallowed_re", Str.ofString "_value_disallowed_re", Str.ofString "_formatparam"]
noncomputable abbrev xt : Shared → Bool := fun s => xlAt vw [] s && recOk (RowW.records PySem.Challenge.rw_pg0324_02.row.toRowW) s
local macro_rules
  | `(tactic| o_head $H) => `(tactic| exact $(Lean.mkIdent `walk))
theorem hd2 (walk : PySem.Challenge.rw_pg0324_02.row.Holds) : PySem.Challenge.rw_pg0324_02.Holds := by
  w_on
  refine holds_law wsaid fun uq1 => ?_
  k_head
end Mini

open PySem PySem.W PySem.Calls PyProof.Rows
set_option maxRecDepth 100000
set_option maxHeartbeats 8000000
namespace Mini
noncomputable def asL : List Addr := [2, 3, 32, 34, 35, 37, 38, 39, 40, 41, 43, 44, 46, 47, 48, 49, 50, 52, 53, 55, 56, 57, 58, 59, 61, 62, 64, 65, 76, 78, 79, 81, 82, 83, 85, 86, 88, 89, 90, 92, 93, 95, 96, 97, 99, 100, 102, 103, 104, 106, 107, 109, 110, 111, 113, 114, 116, 117, 118, 120, 121, 123, 124, 125, 126, 127, 128, 129, 135, 136, 140, 141, 145, 146, 147, 148, 150, 151, 153, 154, 162, 163, 165, 166, 168, 169, 170, 172, 173, 175, 176, 177, 179, 180, 182, 183, 184, 186, 187, 189, 190, 191, 194, 195, 196, 198, 199, 201, 202, 203, 205, 206, 208, 209, 210, 213, 214, 215, 216, 218, 219, 221, 222, 223, 226, 227, 228, 231, 232, 233, 235, 236, 238, 239, 240, 242, 243, 245, 246, 247, 250, 251, 252, 254, 255, 257, 258, 259, 261, 262, 264, 265, 266, 268, 269, 271, 272, 273, 274, 275, 276, 277, 280, 283, 284, 285, 288, 289]
theorem asL_ok (P : Params) : asL = (hd2.heap_1 P).map (·.1) := by kernel_rfl
noncomputable abbrev HK : Hook := kmHook hd2.heap_1 asL asL_ok [286]
noncomputable def lhsG (p q : Program) (r : RowW) (b : Bool) (w : World) := (openEnds treeTable p (w.withFollow "special-get-raises" b) 3552).map (fun s => (openSeen q lo (importedModules p.main.body) (fun s => xlAt q [] s && recOk r.records s) true s, (asL.map s.heap.get?, ([286] : List Addr).map s.heap.get?)))
noncomputable def rhsG (q : Program) (K : Params → Frag) (b : Bool) (w : World) := some (openGood q lo, ((K (w.withFollow "special-get-raises" b).params).map fun p => some p.2, ([286] : List Addr).map fun uq1 => some (tabObj #[])))
lay_quick Mini.lhsG Mini.rhsG
theorem left_F (w : World) : PySem.W.Fast.tw14008161086483400779 PySem.Challenge.pw_pg0324_02 vw PySem.Challenge.rw_pg0324_02.row.toRowW false w = PySem.W.Fast.tw4792287774427242042 vw hd2.heap_1 false w := by kernel_rfl
theorem left_T (w : World) : PySem.W.Fast.tw14008161086483400779 PySem.Challenge.pw_pg0324_02 vw PySem.Challenge.rw_pg0324_02.row.toRowW true w = PySem.W.Fast.tw4792287774427242042 vw hd2.heap_1 true w := by kernel_rfl
theorem left_b {b : Bool} {w : World} (h : PySem.W.Fast.tw14008161086483400779 PySem.Challenge.pw_pg0324_02 vw PySem.Challenge.rw_pg0324_02.row.toRowW b w = PySem.W.Fast.tw4792287774427242042 vw hd2.heap_1 b w) : lhsG PySem.Challenge.pw_pg0324_02 vw PySem.Challenge.rw_pg0324_02.row.toRowW b w = rhsG vw hd2.heap_1 b w := by
  rw [PySem.W.Fast.te14008161086483400779, PySem.W.Fast.te4792287774427242042]
  exact h
theorem hl : LeftO PySem.Challenge.rw_pg0324_02.row.prog vw lo xt HK.obs HK.val 3552 := fun w =>
  byRow2 "special-get-raises" (P := fun w => (openEnds treeTable PySem.Challenge.rw_pg0324_02.row.prog w 3552).map (fun s => (openSeen vw lo (importedModules PySem.Challenge.rw_pg0324_02.row.prog.main.body) xt true s, HK.obs s)) = some (openGood vw lo, HK.val w)) (fun w => left_b (left_F w)) (fun w => left_b (left_T w)) w
end Mini

open PySem PySem.W PySem.Calls PyProof.Rows
set_option maxRecDepth 100000
set_option maxHeartbeats 4000000
namespace Mini.L2
noncomputable abbrev K2 := hd2.heap_1
noncomputable def c0 : Addr := 288
noncomputable def t0 : Addr := 286
set_option genSizeOf false in
set_option genInjectivity false in
structure Cx where
  prog : Program
  w : World
  h₀ : Heap
  p : Program
  loose : List Str
  mean : ExcName → Option Value
  mg : Str → Option Value
  mb : Str → Option Value
  X : (K2 w.params).In h₀
  T : Top p loose mean mg mb h₀
  hd : CodeHd h₀ c0 t0
  lists : Addr → Option (List Int)
  listsOk : ∀ a ns, lists a = some ns → ∃ vs : List Value, h₀.IsList a vs.toArray ∧ IntsAre vs ns
noncomputable def law_O : {o : Obj // lookO (Mini.hd2.heap_1 params0) 289 = some o} := ⟨_, rfl⟩
noncomputable def law_o : Obj := law_O.1
noncomputable def law_fd : FuncData := fdOf law_o
noncomputable def law_body : List Stmt := bodyOf law_fd
noncomputable def law_sx : Sx := ⟨law_fd.scope, [Str.ofString "script", Str.ofString "numbers", Str.ofString "drawn", Str.ofString "table", Str.ofString "tabs", Str.ofString "blanks", Str.ofString "great", Str.ofString "plain", Str.ofString "few", Str.ofString "fewer", Str.ofString "other", Str.ofString "sizes", Str.ofString "told", Str.ofString "always", Str.ofString "bands"], [Str.ofString "table", Str.ofString "sizes", Str.ofString "bands"], law_fd.code, law_fd.qualname ++ Str.ofString ".<locals>."⟩
noncomputable def lam0_e : Expr := match law_body with
  | [_, _, _, _, _, _, _, _, _, .Assign _ (.ListComp (.BinOp _ _ (.Call _ _ [⟨_, l, _⟩] _) _) _ _ _) _, _, _] => l
  | _ => default
noncomputable def lam0 : Lam := match lam0_e with
  | .Lambda ps b sc _ => ⟨Str.ofString "<lambda>", Str.ofString "law.<locals>.<lambda>", ps, b, sc, Str.ofString "bands"⟩
  | _ => ⟨Str.ofString "<lambda>", Str.ofString "law.<locals>.<lambda>", default, default, default, Str.ofString "bands"⟩
noncomputable abbrev Cx.G (c : Cx) : Gl := ⟨c.prog, c.w, K2 c.w.params, c.h₀, c.p, c.loose, c.mean, c.mg, c.mb, fun uq1 => lam0, c.X, c.T, some t0, c.lists, c.listsOk⟩
theorem gm_search (c : Cx) : GetM c.G "search" (.builtin "re.Pattern.search") (isPat 141 146) := getM_pat (c1 := nameCode) (c2 := valueCode) (by kernel_rfl) (by kernel_rfl)
theorem fd_search {k : Nat} (c : Cx) : FnDen c.G k (.builtin "re.Pattern.search") (searchF 141 146) := den_search (by kernel_rfl) (by kernel_rfl)

noncomputable def bisect_right_O : {o : Obj // lookO (Mini.hd2.heap_1 params0) 56 = some o} := ⟨_, rfl⟩
noncomputable def bisect_right_o : Obj := bisect_right_O.1
noncomputable def bisect_right_fd : FuncData := fdOf bisect_right_o
noncomputable def bisect_right_body : List Stmt := bodyOf bisect_right_fd
noncomputable def bisect_right_params : List Str := [Str.ofString "a", Str.ofString "x", Str.ofString "lo", Str.ofString "hi", Str.ofString "key"]
noncomputable def bisect_right_sx : Sx := ⟨bisect_right_fd.scope, [Str.ofString "a", Str.ofString "x", Str.ofString "lo", Str.ofString "hi", Str.ofString "key", Str.ofString "mid"], [], bisect_right_fd.code, bisect_right_fd.qualname ++ Str.ofString ".<locals>."⟩
noncomputable def bisect_right_CO : {o : Obj // lookO (Mini.hd2.heap_1 params0) 55 = some o} := ⟨_, rfl⟩
noncomputable def bisect_right_co : Obj := bisect_right_CO.1
noncomputable def bisect_right_ca : Nat := 55
noncomputable def bisect_right_m : Nat := 1
theorem bisect_right_ok (c : Cx) : FnOk c.G 56 bisect_right_fd bisect_right_body bisect_right_sx bisect_right_params :=
  ⟨⟨bisect_right_o, by kernel_rfl, by kernel_rfl⟩, ⟨bisect_right_ca, bisect_right_co, _, _, by kernel_rfl, by kernel_rfl, rfl, rfl⟩, by kernel_rfl, by kernel_rfl, by kernel_rfl, by kernel_rfl, by kernel_rfl, by kernel_rfl, by kernel_rfl, by kernel_rfl,
    by decide +kernel, by decide +kernel, by decide +kernel, by decide +kernel, by kernel_rfl, by kernel_rfl, by kernel_rfl, by decide +kernel⟩
noncomputable def bisect_right_bnd : List MV → List (Str × MV) → Option (List MV)
  | [a, x, lo, hi], [] => some [a, x, lo, hi, .val .none]
  | _, _ => none
theorem bisect_right_bind (c : Cx) : BindD c.G bisect_right_fd bisect_right_params (fun xs ks H => (bisect_right_bnd xs ks).map fun r => (r, H)) := bind_peek fun v kv e => by
  unfold bisect_right_bnd at e
  split at e
  · cases e; cases kv
    cases v with | cons h0 v => ?_
    cases v with | cons h1 v => ?_
    cases v with | cons h2 v => ?_
    cases v with | cons h3 v => ?_
    cases v
    refine ⟨[_, _, _, _, _], fun S => by rfl, rfl, (.cons h0 (.cons h1 (.cons h2 (.cons h3 (.cons ?_ .nil)))))⟩
    all_goals first | rfl | exact ⟨_, rfl⟩
  · cases e
noncomputable def bisect_right_D (c : Cx) : {d : St → Option (Fl × St) // DenSs c.G 20 bisect_right_sx bisect_right_body d} := ⟨_, by
  refine' dss_cons ?_ ?_
  refine' ds_if ?_ ?_ ?_
  refine' denB_cmp opB_lt ?_ ?_ (by decide) (by rfl)
  exact (@den_local _ _ _ _ _ 2 (by kernel_rfl) (by kernel_rfl) (by kernel_rfl))
  exact (@den_int _ _ _ _ _ _)
  refine' dss_cons ?_ ?_
  exact (@ds_never _ _ _ _)
  exact (@dss_nil _ _ _)
  exact (@dss_nil _ _ _)
  refine' dss_cons ?_ ?_
  refine' ds_if ?_ ?_ ?_
  refine' denB_isNone 3 (by kernel_rfl) (by kernel_rfl) (by kernel_rfl)
  refine' dss_cons ?_ ?_
  refine' ds_assign ?_ ?_ (fun uq1 uq2 => rfl) (fun uq1 => rfl) (fun uq1 => rfl)
  refine' den_call (fv := (PySem.Value.builtin "len")) ?_ ?_ ?_ ?_ (fun uq1 uq2 => rfl) (fun uq1 uq2 => rfl) ?_
  exact (@den_builtin _ _ _ _ _ ((PySem.Value.builtin "len")) (by kernel_rfl) (by kernel_rfl) (by kernel_rfl) (by decide +kernel) (by kernel_rfl))
  exact (@keeps_builtin _ _)
  refine' dens_cons ?_ ?_ (fun uq1 => rfl)
  exact (@den_local _ _ _ _ _ 0 (by kernel_rfl) (by kernel_rfl) (by kernel_rfl))
  exact (@dens_nil _ _ _)
  exact (@dks_nil _ _ _)
  exact (@den_lenS _ _)
  exact (@asg_local _ _ _ _ _ 3 (by kernel_rfl) (by kernel_rfl))
  exact (@dss_nil _ _ _)
  exact (@dss_nil _ _ _)
  refine' dss_cons ?_ ?_
  refine' ds_if ?_ ?_ ?_
  refine' denB_isNone 4 (by kernel_rfl) (by kernel_rfl) (by kernel_rfl)
  refine' dss_cons ?_ ?_
  refine' ds_while 64 ?_ ?_
  refine' denB_cmp opB_lt ?_ ?_ (by decide) (by rfl)
  exact (@den_local _ _ _ _ _ 2 (by kernel_rfl) (by kernel_rfl) (by kernel_rfl))
  exact (@den_local _ _ _ _ _ 3 (by kernel_rfl) (by kernel_rfl) (by kernel_rfl))
  refine' dss_cons ?_ ?_
  refine' ds_assign ?_ ?_ (fun uq1 uq2 => rfl) (fun uq1 => rfl) (fun uq1 => rfl)
  refine' den_bin fdivop_ok ?_ ?_
  refine' den_bin addop_ok ?_ ?_
  exact (@den_local _ _ _ _ _ 2 (by kernel_rfl) (by kernel_rfl) (by kernel_rfl))
  exact (@den_local _ _ _ _ _ 3 (by kernel_rfl) (by kernel_rfl) (by kernel_rfl))
  exact (@den_int _ _ _ _ _ _)
  exact (@asg_local _ _ _ _ _ 5 (by kernel_rfl) (by kernel_rfl))
  refine' dss_cons ?_ ?_
  refine' ds_if ?_ ?_ ?_
  refine' denB_cmp opB_lt ?_ ?_ (by decide) (by rfl)
  exact (@den_local _ _ _ _ _ 1 (by kernel_rfl) (by kernel_rfl) (by kernel_rfl))
  refine' den_index ?_ ?_ (fun uq1 uq2 => rfl)
  exact (@den_local _ _ _ _ _ 0 (by kernel_rfl) (by kernel_rfl) (by kernel_rfl))
  exact (@den_local _ _ _ _ _ 5 (by kernel_rfl) (by kernel_rfl) (by kernel_rfl))
  refine' dss_cons ?_ ?_
  refine' ds_assign ?_ ?_ (fun uq1 uq2 => rfl) (fun uq1 => rfl) (fun uq1 => rfl)
  exact (@den_local _ _ _ _ _ 5 (by kernel_rfl) (by kernel_rfl) (by kernel_rfl))
  exact (@asg_local _ _ _ _ _ 3 (by kernel_rfl) (by kernel_rfl))
  exact (@dss_nil _ _ _)
  refine' dss_cons ?_ ?_
  refine' ds_assign ?_ ?_ (fun uq1 uq2 => rfl) (fun uq1 => rfl) (fun uq1 => rfl)
  refine' den_bin addop_ok ?_ ?_
  exact (@den_local _ _ _ _ _ 5 (by kernel_rfl) (by kernel_rfl) (by kernel_rfl))
  exact (@den_int _ _ _ _ _ _)
  exact (@asg_local _ _ _ _ _ 2 (by kernel_rfl) (by kernel_rfl))
  exact (@dss_nil _ _ _)
  exact (@dss_nil _ _ _)
  exact (@dss_nil _ _ _)
  refine' dss_cons ?_ ?_
  refine' ds_while 64 ?_ ?_
  refine' denB_cmp opB_lt ?_ ?_ (by decide) (by rfl)
  exact (@den_local _ _ _ _ _ 2 (by kernel_rfl) (by kernel_rfl) (by kernel_rfl))
  exact (@den_local _ _ _ _ _ 3 (by kernel_rfl) (by kernel_rfl) (by kernel_rfl))
  refine' dss_cons ?_ ?_
  refine' ds_assign ?_ ?_ (fun uq1 uq2 => rfl) (fun uq1 => rfl) (fun uq1 => rfl)
  refine' den_bin fdivop_ok ?_ ?_
  refine' den_bin addop_ok ?_ ?_
  exact (@den_local _ _ _ _ _ 2 (by kernel_rfl) (by kernel_rfl) (by kernel_rfl))
  exact (@den_local _ _ _ _ _ 3 (by kernel_rfl) (by kernel_rfl) (by kernel_rfl))
  exact (@den_int _ _ _ _ _ _)
  exact (@asg_local _ _ _ _ _ 5 (by kernel_rfl) (by kernel_rfl))
  refine' dss_cons ?_ ?_
  refine' ds_if ?_ ?_ ?_
  refine' denB_cmp opB_lt ?_ ?_ (by decide) (by rfl)
  exact (@den_local _ _ _ _ _ 1 (by kernel_rfl) (by kernel_rfl) (by kernel_rfl))
  exact (@den_never _ _ _ _)
  refine' dss_cons ?_ ?_
  refine' ds_assign ?_ ?_ (fun uq1 uq2 => rfl) (fun uq1 => rfl) (fun uq1 => rfl)
  exact (@den_local _ _ _ _ _ 5 (by kernel_rfl) (by kernel_rfl) (by kernel_rfl))
  exact (@asg_local _ _ _ _ _ 3 (by kernel_rfl) (by kernel_rfl))
  exact (@dss_nil _ _ _)
  refine' dss_cons ?_ ?_
  refine' ds_assign ?_ ?_ (fun uq1 uq2 => rfl) (fun uq1 => rfl) (fun uq1 => rfl)
  refine' den_bin addop_ok ?_ ?_
  exact (@den_local _ _ _ _ _ 5 (by kernel_rfl) (by kernel_rfl) (by kernel_rfl))
  exact (@den_int _ _ _ _ _ _)
  exact (@asg_local _ _ _ _ _ 2 (by kernel_rfl) (by kernel_rfl))
  exact (@dss_nil _ _ _)
  exact (@dss_nil _ _ _)
  exact (@dss_nil _ _ _)
  refine' dss_cons ?_ ?_
  refine' ds_ret ?_
  exact (@den_local _ _ _ _ _ 2 (by kernel_rfl) (by kernel_rfl) (by kernel_rfl))
  exact (@dss_nil _ _ _)⟩
noncomputable def bisect_right_d (c : Cx) : St → Option (Fl × St) := (bisect_right_D c).1
theorem bisect_right_den (c : Cx) : DenSs c.G 20 bisect_right_sx bisect_right_body (bisect_right_d c) := (bisect_right_D c).2
noncomputable def bisect_right_f (c : Cx) : List MV → List (Str × MV) → MH → Option (MV × MH) := (fnD (fun xs ks H => (bisect_right_bnd xs ks).map fun r => (r, H)) bisect_right_m (bisect_right_d c))
theorem bisect_right_code (c : Cx) : FnC c.G 21 (.ref 56) (bisect_right_f c) := fn_code bisect_right_m (bisect_right_ok c) (bisect_right_bind c) (bisect_right_den c)
theorem fd_56 (c : Cx) : FnDen c.G 21 (.ref 56) (bisect_right_f c) := FnC.den (bisect_right_code c)
noncomputable def bisect_left_O : {o : Obj // lookO (Mini.hd2.heap_1 params0) 65 = some o} := ⟨_, rfl⟩
noncomputable def bisect_left_o : Obj := bisect_left_O.1
noncomputable def bisect_left_fd : FuncData := fdOf bisect_left_o
noncomputable def bisect_left_body : List Stmt := bodyOf bisect_left_fd
noncomputable def bisect_left_params : List Str := [Str.ofString "a", Str.ofString "x", Str.ofString "lo", Str.ofString "hi", Str.ofString "key"]
noncomputable def bisect_left_sx : Sx := ⟨bisect_left_fd.scope, [Str.ofString "a", Str.ofString "x", Str.ofString "lo", Str.ofString "hi", Str.ofString "key", Str.ofString "mid"], [], bisect_left_fd.code, bisect_left_fd.qualname ++ Str.ofString ".<locals>."⟩
noncomputable def bisect_left_CO : {o : Obj // lookO (Mini.hd2.heap_1 params0) 64 = some o} := ⟨_, rfl⟩
noncomputable def bisect_left_co : Obj := bisect_left_CO.1
noncomputable def bisect_left_ca : Nat := 64
noncomputable def bisect_left_m : Nat := 1
theorem bisect_left_ok (c : Cx) : FnOk c.G 65 bisect_left_fd bisect_left_body bisect_left_sx bisect_left_params :=
  ⟨⟨bisect_left_o, by kernel_rfl, by kernel_rfl⟩, ⟨bisect_left_ca, bisect_left_co, _, _, by kernel_rfl, by kernel_rfl, rfl, rfl⟩, by kernel_rfl, by kernel_rfl, by kernel_rfl, by kernel_rfl, by kernel_rfl, by kernel_rfl, by kernel_rfl, by kernel_rfl,
    by decide +kernel, by decide +kernel, by decide +kernel, by decide +kernel, by kernel_rfl, by kernel_rfl, by kernel_rfl, by decide +kernel⟩
noncomputable def bisect_left_bnd : List MV → List (Str × MV) → Option (List MV)
  | [a, x], [] => some [a, x, .int 0, .val .none, .val .none]
  | _, _ => none
theorem bisect_left_bind (c : Cx) : BindD c.G bisect_left_fd bisect_left_params (fun xs ks H => (bisect_left_bnd xs ks).map fun r => (r, H)) := bind_peek fun v kv e => by
  unfold bisect_left_bnd at e
  split at e
  · cases e; cases kv
    cases v with | cons h0 v => ?_
    cases v with | cons h1 v => ?_
    cases v
    refine ⟨[_, _, _, _, _], fun S => by rfl, rfl, (.cons h0 (.cons h1 (.cons ?_ (.cons ?_ (.cons ?_ .nil)))))⟩
    all_goals first | rfl | exact ⟨_, rfl⟩
  · cases e
noncomputable def bisect_left_D (c : Cx) : {d : St → Option (Fl × St) // DenSs c.G 20 bisect_left_sx bisect_left_body d} := ⟨_, by
  refine' dss_cons ?_ ?_
  refine' ds_if ?_ ?_ ?_
  refine' denB_cmp opB_lt ?_ ?_ (by decide) (by rfl)
  exact (@den_local _ _ _ _ _ 2 (by kernel_rfl) (by kernel_rfl) (by kernel_rfl))
  exact (@den_int _ _ _ _ _ _)
  refine' dss_cons ?_ ?_
  exact (@ds_never _ _ _ _)
  exact (@dss_nil _ _ _)
  exact (@dss_nil _ _ _)
  refine' dss_cons ?_ ?_
  refine' ds_if ?_ ?_ ?_
  refine' denB_isNone 3 (by kernel_rfl) (by kernel_rfl) (by kernel_rfl)
  refine' dss_cons ?_ ?_
  refine' ds_assign ?_ ?_ (fun uq1 uq2 => rfl) (fun uq1 => rfl) (fun uq1 => rfl)
  refine' den_call (fv := (PySem.Value.builtin "len")) ?_ ?_ ?_ ?_ (fun uq1 uq2 => rfl) (fun uq1 uq2 => rfl) ?_
  exact (@den_builtin _ _ _ _ _ ((PySem.Value.builtin "len")) (by kernel_rfl) (by kernel_rfl) (by kernel_rfl) (by decide +kernel) (by kernel_rfl))
  exact (@keeps_builtin _ _)
  refine' dens_cons ?_ ?_ (fun uq1 => rfl)
  exact (@den_local _ _ _ _ _ 0 (by kernel_rfl) (by kernel_rfl) (by kernel_rfl))
  exact (@dens_nil _ _ _)
  exact (@dks_nil _ _ _)
  exact (@den_lenS _ _)
  exact (@asg_local _ _ _ _ _ 3 (by kernel_rfl) (by kernel_rfl))
  exact (@dss_nil _ _ _)
  exact (@dss_nil _ _ _)
  refine' dss_cons ?_ ?_
  refine' ds_if ?_ ?_ ?_
  refine' denB_isNone 4 (by kernel_rfl) (by kernel_rfl) (by kernel_rfl)
  refine' dss_cons ?_ ?_
  refine' ds_while 64 ?_ ?_
  refine' denB_cmp opB_lt ?_ ?_ (by decide) (by rfl)
  exact (@den_local _ _ _ _ _ 2 (by kernel_rfl) (by kernel_rfl) (by kernel_rfl))
  exact (@den_local _ _ _ _ _ 3 (by kernel_rfl) (by kernel_rfl) (by kernel_rfl))
  refine' dss_cons ?_ ?_
  refine' ds_assign ?_ ?_ (fun uq1 uq2 => rfl) (fun uq1 => rfl) (fun uq1 => rfl)
  refine' den_bin fdivop_ok ?_ ?_
  refine' den_bin addop_ok ?_ ?_
  exact (@den_local _ _ _ _ _ 2 (by kernel_rfl) (by kernel_rfl) (by kernel_rfl))
  exact (@den_local _ _ _ _ _ 3 (by kernel_rfl) (by kernel_rfl) (by kernel_rfl))
  exact (@den_int _ _ _ _ _ _)
  exact (@asg_local _ _ _ _ _ 5 (by kernel_rfl) (by kernel_rfl))
  refine' dss_cons ?_ ?_
  refine' ds_if ?_ ?_ ?_
  refine' denB_cmp opB_lt ?_ ?_ (by decide) (by rfl)
  refine' den_index ?_ ?_ (fun uq1 uq2 => rfl)
  exact (@den_local _ _ _ _ _ 0 (by kernel_rfl) (by kernel_rfl) (by kernel_rfl))
  exact (@den_local _ _ _ _ _ 5 (by kernel_rfl) (by kernel_rfl) (by kernel_rfl))
  exact (@den_local _ _ _ _ _ 1 (by kernel_rfl) (by kernel_rfl) (by kernel_rfl))
  refine' dss_cons ?_ ?_
  refine' ds_assign ?_ ?_ (fun uq1 uq2 => rfl) (fun uq1 => rfl) (fun uq1 => rfl)
  refine' den_bin addop_ok ?_ ?_
  exact (@den_local _ _ _ _ _ 5 (by kernel_rfl) (by kernel_rfl) (by kernel_rfl))
  exact (@den_int _ _ _ _ _ _)
  exact (@asg_local _ _ _ _ _ 2 (by kernel_rfl) (by kernel_rfl))
  exact (@dss_nil _ _ _)
  refine' dss_cons ?_ ?_
  refine' ds_assign ?_ ?_ (fun uq1 uq2 => rfl) (fun uq1 => rfl) (fun uq1 => rfl)
  exact (@den_local _ _ _ _ _ 5 (by kernel_rfl) (by kernel_rfl) (by kernel_rfl))
  exact (@asg_local _ _ _ _ _ 3 (by kernel_rfl) (by kernel_rfl))
  exact (@dss_nil _ _ _)
  exact (@dss_nil _ _ _)
  exact (@dss_nil _ _ _)
  refine' dss_cons ?_ ?_
  refine' ds_while 64 ?_ ?_
  refine' denB_cmp opB_lt ?_ ?_ (by decide) (by rfl)
  exact (@den_local _ _ _ _ _ 2 (by kernel_rfl) (by kernel_rfl) (by kernel_rfl))
  exact (@den_local _ _ _ _ _ 3 (by kernel_rfl) (by kernel_rfl) (by kernel_rfl))
  refine' dss_cons ?_ ?_
  refine' ds_assign ?_ ?_ (fun uq1 uq2 => rfl) (fun uq1 => rfl) (fun uq1 => rfl)
  refine' den_bin fdivop_ok ?_ ?_
  refine' den_bin addop_ok ?_ ?_
  exact (@den_local _ _ _ _ _ 2 (by kernel_rfl) (by kernel_rfl) (by kernel_rfl))
  exact (@den_local _ _ _ _ _ 3 (by kernel_rfl) (by kernel_rfl) (by kernel_rfl))
  exact (@den_int _ _ _ _ _ _)
  exact (@asg_local _ _ _ _ _ 5 (by kernel_rfl) (by kernel_rfl))
  refine' dss_cons ?_ ?_
  refine' ds_if ?_ ?_ ?_
  refine' denB_cmp opB_lt ?_ ?_ (by decide) (by rfl)
  exact (@den_never _ _ _ _)
  exact (@den_local _ _ _ _ _ 1 (by kernel_rfl) (by kernel_rfl) (by kernel_rfl))
  refine' dss_cons ?_ ?_
  refine' ds_assign ?_ ?_ (fun uq1 uq2 => rfl) (fun uq1 => rfl) (fun uq1 => rfl)
  refine' den_bin addop_ok ?_ ?_
  exact (@den_local _ _ _ _ _ 5 (by kernel_rfl) (by kernel_rfl) (by kernel_rfl))
  exact (@den_int _ _ _ _ _ _)
  exact (@asg_local _ _ _ _ _ 2 (by kernel_rfl) (by kernel_rfl))
  exact (@dss_nil _ _ _)
  refine' dss_cons ?_ ?_
  refine' ds_assign ?_ ?_ (fun uq1 uq2 => rfl) (fun uq1 => rfl) (fun uq1 => rfl)
  exact (@den_local _ _ _ _ _ 5 (by kernel_rfl) (by kernel_rfl) (by kernel_rfl))
  exact (@asg_local _ _ _ _ _ 3 (by kernel_rfl) (by kernel_rfl))
  exact (@dss_nil _ _ _)
  exact (@dss_nil _ _ _)
  exact (@dss_nil _ _ _)
  refine' dss_cons ?_ ?_
  refine' ds_ret ?_
  exact (@den_local _ _ _ _ _ 2 (by kernel_rfl) (by kernel_rfl) (by kernel_rfl))
  exact (@dss_nil _ _ _)⟩
noncomputable def bisect_left_d (c : Cx) : St → Option (Fl × St) := (bisect_left_D c).1
theorem bisect_left_den (c : Cx) : DenSs c.G 20 bisect_left_sx bisect_left_body (bisect_left_d c) := (bisect_left_D c).2
noncomputable def bisect_left_f (c : Cx) : List MV → List (Str × MV) → MH → Option (MV × MH) := (fnD (fun xs ks H => (bisect_left_bnd xs ks).map fun r => (r, H)) bisect_left_m (bisect_left_d c))
theorem bisect_left_code (c : Cx) : FnC c.G 21 (.ref 65) (bisect_left_f c) := fn_code bisect_left_m (bisect_left_ok c) (bisect_left_bind c) (bisect_left_den c)
theorem fd_65 (c : Cx) : FnDen c.G 21 (.ref 65) (bisect_left_f c) := FnC.den (bisect_left_code c)
noncomputable def insort_right_O : {o : Obj // lookO (Mini.hd2.heap_1 params0) 47 = some o} := ⟨_, rfl⟩
noncomputable def insort_right_o : Obj := insort_right_O.1
noncomputable def insort_right_fd : FuncData := fdOf insort_right_o
noncomputable def insort_right_body : List Stmt := bodyOf insort_right_fd
noncomputable def insort_right_params : List Str := [Str.ofString "a", Str.ofString "x", Str.ofString "lo", Str.ofString "hi", Str.ofString "key"]
noncomputable def insort_right_sx : Sx := ⟨insort_right_fd.scope, [Str.ofString "a", Str.ofString "x", Str.ofString "lo", Str.ofString "hi", Str.ofString "key"], [], insort_right_fd.code, insort_right_fd.qualname ++ Str.ofString ".<locals>."⟩
noncomputable def insort_right_CO : {o : Obj // lookO (Mini.hd2.heap_1 params0) 46 = some o} := ⟨_, rfl⟩
noncomputable def insort_right_co : Obj := insort_right_CO.1
noncomputable def insort_right_ca : Nat := 46
noncomputable def insort_right_m : Nat := 0
theorem insort_right_ok (c : Cx) : FnOk c.G 47 insort_right_fd insort_right_body insort_right_sx insort_right_params :=
  ⟨⟨insort_right_o, by kernel_rfl, by kernel_rfl⟩, ⟨insort_right_ca, insort_right_co, _, _, by kernel_rfl, by kernel_rfl, rfl, rfl⟩, by kernel_rfl, by kernel_rfl, by kernel_rfl, by kernel_rfl, by kernel_rfl, by kernel_rfl, by kernel_rfl, by kernel_rfl,
    by decide +kernel, by decide +kernel, by decide +kernel, by decide +kernel, by kernel_rfl, by kernel_rfl, by kernel_rfl, by decide +kernel⟩
noncomputable def insort_right_bnd : List MV → List (Str × MV) → Option (List MV)
  | [a, x], [] => some [a, x, .int 0, .val .none, .val .none]
  | _, _ => none
theorem insort_right_bind (c : Cx) : BindD c.G insort_right_fd insort_right_params (fun xs ks H => (insort_right_bnd xs ks).map fun r => (r, H)) := bind_peek fun v kv e => by
  unfold insort_right_bnd at e
  split at e
  · cases e; cases kv
    cases v with | cons h0 v => ?_
    cases v with | cons h1 v => ?_
    cases v
    refine ⟨[_, _, _, _, _], fun S => by rfl, rfl, (.cons h0 (.cons h1 (.cons ?_ (.cons ?_ (.cons ?_ .nil)))))⟩
    all_goals first | rfl | exact ⟨_, rfl⟩
  · cases e
noncomputable def insort_right_D (c : Cx) : {d : St → Option (Fl × St) // DenSs c.G 24 insort_right_sx insort_right_body d} := ⟨_, by
  refine' dss_cons ?_ ?_
  refine' ds_if ?_ ?_ ?_
  refine' denB_isNone 4 (by kernel_rfl) (by kernel_rfl) (by kernel_rfl)
  refine' dss_cons ?_ ?_
  refine' ds_assign ?_ ?_ (fun uq1 uq2 => rfl) (fun uq1 => rfl) (fun uq1 => rfl)
  refine' den_call (fv := (PySem.Value.ref 56)) ?_ ?_ ?_ ?_ (fun uq1 uq2 => rfl) (fun uq1 uq2 => rfl) ?_
  exact (@den_glob _ _ _ _ _ ((PySem.Value.ref 56)) (by kernel_rfl) (by kernel_rfl) (by kernel_rfl))
  exact (@keeps_K' _ _ (by kernel_rfl))
  refine' dens_cons ?_ ?_ (fun uq1 => rfl)
  exact (@den_local _ _ _ _ _ 0 (by kernel_rfl) (by kernel_rfl) (by kernel_rfl))
  refine' dens_cons ?_ ?_ (fun uq1 => rfl)
  exact (@den_local _ _ _ _ _ 1 (by kernel_rfl) (by kernel_rfl) (by kernel_rfl))
  refine' dens_cons ?_ ?_ (fun uq1 => rfl)
  exact (@den_local _ _ _ _ _ 2 (by kernel_rfl) (by kernel_rfl) (by kernel_rfl))
  refine' dens_cons ?_ ?_ (fun uq1 => rfl)
  exact (@den_local _ _ _ _ _ 3 (by kernel_rfl) (by kernel_rfl) (by kernel_rfl))
  exact (@dens_nil _ _ _)
  exact (@dks_nil _ _ _)
  exact (@FnDen.le _ _ _ _ _ (Mini.L2.fd_56 _) (by decide))
  exact (@asg_local _ _ _ _ _ 2 (by kernel_rfl) (by kernel_rfl))
  exact (@dss_nil _ _ _)
  refine' dss_cons ?_ ?_
  refine' ds_assign ?_ ?_ (fun uq1 uq2 => rfl) (fun uq1 => rfl) (fun uq1 => rfl)
  refine' den_call (fv := (PySem.Value.ref 56)) ?_ ?_ ?_ ?_ (fun uq1 uq2 => rfl) (fun uq1 uq2 => rfl) ?_
  exact (@den_glob _ _ _ _ _ ((PySem.Value.ref 56)) (by kernel_rfl) (by kernel_rfl) (by kernel_rfl))
  exact (@keeps_K' _ _ (by kernel_rfl))
  refine' dens_cons ?_ ?_ (fun uq1 => rfl)
  exact (@den_local _ _ _ _ _ 0 (by kernel_rfl) (by kernel_rfl) (by kernel_rfl))
  refine' dens_cons ?_ ?_ (fun uq1 => rfl)
  exact (@den_never _ _ _ _)
  refine' dens_cons ?_ ?_ (fun uq1 => rfl)
  exact (@den_local _ _ _ _ _ 2 (by kernel_rfl) (by kernel_rfl) (by kernel_rfl))
  refine' dens_cons ?_ ?_ (fun uq1 => rfl)
  exact (@den_local _ _ _ _ _ 3 (by kernel_rfl) (by kernel_rfl) (by kernel_rfl))
  exact (@dens_nil _ _ _)
  refine' dks_consW ⟨#[107, 101, 121]⟩ (by kernel_rfl) ?_ ?_
  exact (@den_local _ _ _ _ _ 4 (by kernel_rfl) (by kernel_rfl) (by kernel_rfl))
  exact (@dks_nil _ _ _)
  exact (@FnDen.le _ _ _ _ _ (Mini.L2.fd_56 _) (by decide))
  exact (@asg_local _ _ _ _ _ 2 (by kernel_rfl) (by kernel_rfl))
  exact (@dss_nil _ _ _)
  refine' dss_cons ?_ ?_
  refine' ds_expr ?_ (fun uq1 => rfl)
  refine' den_meth (fun uq1 => rfl) ?_ (getM_list PySem.F.slot_list_insert (by rfl)) ?_ ?_ ?_ (fun uq1 uq2 => rfl) (fun uq1 uq2 => rfl) ?_
  exact (@den_local _ _ _ _ _ 0 (by kernel_rfl) (by kernel_rfl) (by kernel_rfl))
  exact (@keeps_builtin _ _)
  refine' dens_cons ?_ ?_ (fun uq1 => rfl)
  exact (@den_local _ _ _ _ _ 2 (by kernel_rfl) (by kernel_rfl) (by kernel_rfl))
  refine' dens_cons ?_ ?_ (fun uq1 => rfl)
  exact (@den_local _ _ _ _ _ 1 (by kernel_rfl) (by kernel_rfl) (by kernel_rfl))
  exact (@dens_nil _ _ _)
  exact (@dks_nil _ _ _)
  exact (@den_insert _ _)
  exact (@dss_nil _ _ _)⟩
noncomputable def insort_right_d (c : Cx) : St → Option (Fl × St) := (insort_right_D c).1
theorem insort_right_den (c : Cx) : DenSs c.G 24 insort_right_sx insort_right_body (insort_right_d c) := (insort_right_D c).2
noncomputable def insort_right_f (c : Cx) : List MV → List (Str × MV) → MH → Option (MV × MH) := (fnD (fun xs ks H => (insort_right_bnd xs ks).map fun r => (r, H)) insort_right_m (insort_right_d c))
theorem insort_right_code (c : Cx) : FnC c.G 25 (.ref 47) (insort_right_f c) := fn_code insort_right_m (insort_right_ok c) (insort_right_bind c) (insort_right_den c)
theorem fd_47 (c : Cx) : FnDen c.G 25 (.ref 47) (insort_right_f c) := FnC.den (insort_right_code c)
noncomputable def h_conv_O : {o : Obj // lookO (Mini.hd2.heap_1 params0) 176 = some o} := ⟨_, rfl⟩
noncomputable def h_conv_o : Obj := h_conv_O.1
noncomputable def h_conv_fd : FuncData := fdOf h_conv_o
noncomputable def h_conv_body : List Stmt := bodyOf h_conv_fd
noncomputable def h_conv_params : List Str := [Str.ofString "self", Str.ofString "value", Str.ofString "name"]
noncomputable def h_conv_sx : Sx := ⟨h_conv_fd.scope, [Str.ofString "self", Str.ofString "value", Str.ofString "name", Str.ofString "regex"], [], h_conv_fd.code, h_conv_fd.qualname ++ Str.ofString ".<locals>."⟩
noncomputable def h_conv_CO : {o : Obj // lookO (Mini.hd2.heap_1 params0) 175 = some o} := ⟨_, rfl⟩
noncomputable def h_conv_co : Obj := h_conv_CO.1
noncomputable def h_conv_ca : Nat := 175
noncomputable def h_conv_m : Nat := 1
theorem h_conv_ok (c : Cx) : FnOk c.G 176 h_conv_fd h_conv_body h_conv_sx h_conv_params :=
  ⟨⟨h_conv_o, by kernel_rfl, by kernel_rfl⟩, ⟨h_conv_ca, h_conv_co, _, _, by kernel_rfl, by kernel_rfl, rfl, rfl⟩, by kernel_rfl, by kernel_rfl, by kernel_rfl, by kernel_rfl, by kernel_rfl, by kernel_rfl, by kernel_rfl, by kernel_rfl,
    by decide +kernel, by decide +kernel, by decide +kernel, by decide +kernel, by kernel_rfl, by kernel_rfl, by kernel_rfl, by decide +kernel⟩
noncomputable def h_conv_bnd : List MV → List (Str × MV) → Option (List MV)
  | [s, v], [(kn, b)] => if kn = ⟨#[110, 97, 109, 101]⟩ then some [s, v, b] else none
  | _, _ => none
theorem h_conv_bind (c : Cx) : BindD c.G h_conv_fd h_conv_params (fun xs ks H => (h_conv_bnd xs ks).map fun r => (r, H)) := bind_peek fun v kv e => by
  unfold h_conv_bnd at e
  split at e
  · split at e
    case isFalse => cases e
    rename_i hkn; cases hkn; cases e
    cases kv with | cons k1 kv => ?_
    cases kv
    cases v with | cons h0 v => ?_
    cases v with | cons h1 v => ?_
    cases v
    refine ⟨[_, _, _], fun S => by rfl, rfl, (.cons h0 (.cons h1 (.cons k1 .nil)))⟩
  · cases e
noncomputable def h_conv_D (c : Cx) : {d : St → Option (Fl × St) // DenSs c.G 20 h_conv_sx h_conv_body d} := ⟨_, by
  refine' dss_cons ?_ ?_
  refine' ds_if ?_ ?_ ?_
  refine' denB_cmp opB_is ?_ ?_ (by decide) (by rfl)
  refine' den_call (fv := (PySem.Value.type "type")) ?_ ?_ ?_ ?_ (fun uq1 uq2 => rfl) (fun uq1 uq2 => rfl) ?_
  exact (@den_builtin _ _ _ _ _ ((PySem.Value.type "type")) (by kernel_rfl) (by kernel_rfl) (by kernel_rfl) (by decide +kernel) (by kernel_rfl))
  exact (@keeps_type _ _)
  refine' dens_cons ?_ ?_ (fun uq1 => rfl)
  exact (@den_local _ _ _ _ _ 1 (by kernel_rfl) (by kernel_rfl) (by kernel_rfl))
  exact (@dens_nil _ _ _)
  exact (@dks_nil _ _ _)
  exact (@den_typeOf _ _)
  exact (@den_builtin _ _ _ _ _ ((PySem.Value.type "str")) (by kernel_rfl) (by kernel_rfl) (by kernel_rfl) (by decide +kernel) (by kernel_rfl))
  refine' dss_cons ?_ ?_
  refine' ds_assign ?_ ?_ (fun uq1 uq2 => rfl) (fun uq1 => rfl) (fun uq1 => rfl)
  refine' den_ifexp ?_ ?_ ?_
  refine' denB_val ?_ (fun uq1 => rfl)
  exact (@den_local _ _ _ _ _ 2 (by kernel_rfl) (by kernel_rfl) (by kernel_rfl))
  exact (@den_glob _ _ _ _ _ ((PySem.Value.ref 141)) (by kernel_rfl) (by kernel_rfl) (by kernel_rfl))
  exact (@den_glob _ _ _ _ _ ((PySem.Value.ref 146)) (by kernel_rfl) (by kernel_rfl) (by kernel_rfl))
  exact (@asg_local _ _ _ _ _ 3 (by kernel_rfl) (by kernel_rfl))
  refine' dss_cons ?_ ?_
  refine' ds_if ?_ ?_ ?_
  refine' denB_val ?_ (fun uq1 => rfl)
  refine' den_meth (fun uq1 => rfl) ?_ (Mini.L2.gm_search _) ?_ ?_ ?_ (fun uq1 uq2 => rfl) (fun uq1 uq2 => rfl) ?_
  exact (@den_local _ _ _ _ _ 3 (by kernel_rfl) (by kernel_rfl) (by kernel_rfl))
  exact (@keeps_builtin _ _)
  refine' dens_cons ?_ ?_ (fun uq1 => rfl)
  exact (@den_local _ _ _ _ _ 1 (by kernel_rfl) (by kernel_rfl) (by kernel_rfl))
  exact (@dens_nil _ _ _)
  exact (@dks_nil _ _ _)
  exact (@Mini.L2.fd_search _ _)
  refine' dss_cons ?_ ?_
  exact (@ds_never _ _ _ _)
  exact (@dss_nil _ _ _)
  exact (@dss_nil _ _ _)
  refine' dss_cons ?_ ?_
  refine' ds_ret ?_
  exact (@den_local _ _ _ _ _ 1 (by kernel_rfl) (by kernel_rfl) (by kernel_rfl))
  exact (@dss_nil _ _ _)
  exact (@dss_nil _ _ _)
  refine' dss_cons ?_ ?_
  exact (@ds_never _ _ _ _)
  exact (@dss_nil _ _ _)⟩
noncomputable def h_conv_d (c : Cx) : St → Option (Fl × St) := (h_conv_D c).1
theorem h_conv_den (c : Cx) : DenSs c.G 20 h_conv_sx h_conv_body (h_conv_d c) := (h_conv_D c).2
noncomputable def h_conv_f (c : Cx) : List MV → List (Str × MV) → MH → Option (MV × MH) := (fnD (fun xs ks H => (h_conv_bnd xs ks).map fun r => (r, H)) h_conv_m (h_conv_d c))
theorem h_conv_code (c : Cx) : FnC c.G 21 (.ref 176) (h_conv_f c) := fn_code h_conv_m (h_conv_ok c) (h_conv_bind c) (h_conv_den c)
theorem fd_176 (c : Cx) : FnDen c.G 21 (.ref 176) (h_conv_f c) := FnC.den (h_conv_code c)
noncomputable def h_all_O : {o : Obj // lookO (Mini.hd2.heap_1 params0) 214 = some o} := ⟨_, rfl⟩
noncomputable def h_all_o : Obj := h_all_O.1
noncomputable def h_all_fd : FuncData := fdOf h_all_o
noncomputable def h_all_body : List Stmt := bodyOf h_all_fd
noncomputable def h_all_params : List Str := [Str.ofString "self", Str.ofString "name"]
noncomputable def h_all_sx : Sx := ⟨h_all_fd.scope, [Str.ofString "self", Str.ofString "name"], [Str.ofString "name"], h_all_fd.code, h_all_fd.qualname ++ Str.ofString ".<locals>."⟩
noncomputable def h_all_CO : {o : Obj // lookO (Mini.hd2.heap_1 params0) 213 = some o} := ⟨_, rfl⟩
noncomputable def h_all_co : Obj := h_all_CO.1
noncomputable def h_all_ca : Nat := 213
noncomputable def h_all_m : Nat := 0
theorem h_all_ok (c : Cx) : FnOk c.G 214 h_all_fd h_all_body h_all_sx h_all_params :=
  ⟨⟨h_all_o, by kernel_rfl, by kernel_rfl⟩, ⟨h_all_ca, h_all_co, _, _, by kernel_rfl, by kernel_rfl, rfl, rfl⟩, by kernel_rfl, by kernel_rfl, by kernel_rfl, by kernel_rfl, by kernel_rfl, by kernel_rfl, by kernel_rfl, by kernel_rfl,
    by decide +kernel, by decide +kernel, by decide +kernel, by decide +kernel, by kernel_rfl, by kernel_rfl, by kernel_rfl, by decide +kernel⟩
noncomputable def h_all_bnd : List MV → List (Str × MV) → Option (List MV)
  | [s, n], [] => some [s, n]
  | _, _ => none
theorem h_all_bind (c : Cx) : BindD c.G h_all_fd h_all_params (fun xs ks H => (h_all_bnd xs ks).map fun r => (r, H)) := bind_peek fun v kv e => by
  unfold h_all_bnd at e
  split at e
  · cases e; cases kv
    cases v with | cons h0 v => ?_
    cases v with | cons h1 v => ?_
    cases v
    refine ⟨[_, _], fun S => by rfl, rfl, (.cons h0 (.cons h1 .nil))⟩
  · cases e
noncomputable def h_all_D (c : Cx) : {d : St → Option (Fl × St) // DenSs c.G 24 h_all_sx h_all_body d} := ⟨_, by
  refine' dss_cons ?_ ?_
  refine' ds_assign ?_ ?_ (fun uq1 uq2 => rfl) (fun uq1 => rfl) (fun uq1 => rfl)
  refine' den_meth (fun uq1 => rfl) ?_ (getM_inst (C := 275) (f := 176) (by kernel_rfl) (by kernel_rfl) (by kernel_rfl)) ?_ ?_ ?_ (fun uq1 uq2 => rfl) (fun uq1 uq2 => rfl) ?_
  exact (@den_local _ _ _ _ _ 0 (by kernel_rfl) (by kernel_rfl) (by kernel_rfl))
  exact (@keeps_K' _ _ (by kernel_rfl))
  refine' dens_cons ?_ ?_ (fun uq1 => rfl)
  refine' den_meth (fun uq1 => rfl) ?_ (getM_str PySem.F.slot_str_lower (by rfl)) ?_ ?_ ?_ (fun uq1 uq2 => rfl) (fun uq1 uq2 => rfl) ?_
  exact (@den_cell _ _ _ _ _ 1 (by kernel_rfl) (Or.inl (by kernel_rfl)) (by kernel_rfl) (by kernel_rfl))
  exact (@keeps_builtin _ _)
  exact (@dens_nil _ _ _)
  exact (@dks_nil _ _ _)
  exact (@den_lower _ _)
  exact (@dens_nil _ _ _)
  refine' dks_consW ⟨#[110, 97, 109, 101]⟩ (by kernel_rfl) ?_ ?_
  exact (@den_bool _ _ _ _ _ _)
  exact (@dks_nil _ _ _)
  exact (@FnDen.le _ _ _ _ _ (Mini.L2.fd_176 _) (by decide))
  exact (@asg_cell _ _ _ _ _ 1 (by kernel_rfl) (by decide +kernel))
  refine' dss_cons ?_ ?_
  refine' ds_ret ?_
  refine' den_comp (cap := [none, none, some 1]) ?_ ?_ (fun uq1 uq2 => rfl) ?_
  exact ⟨by rfl, by decide +kernel, by decide +kernel, by decide +kernel, by decide +kernel, capChk_ok (by kernel_rfl)⟩
  refine' den_iter ?_
  refine' den_attrW (C := 275) (a := none) ⟨#[95, 104, 101, 97, 100, 101, 114, 115]⟩ (by kernel_rfl) ?_ (fun uq1 => rfl) (fun uq1 uq2 => rfl) (by kernel_rfl) (by kernel_rfl) (by kernel_rfl) (by kernel_rfl)
  exact (@den_local _ _ _ _ _ 0 (by kernel_rfl) (by kernel_rfl) (by kernel_rfl))
  refine' loop_j rfl (by intro g' h; first | (cases h; done) | (cases h; rfl)) ?_ ?_ ?_
  exact (@asg_local _ _ _ _ _ 1 (by kernel_rfl) (by kernel_rfl))
  refine' ifs_one ?_
  refine' denB_cmp opB_eq ?_ ?_ (by decide) (by rfl)
  refine' den_meth (fun uq1 => rfl) ?_ (getM_str PySem.F.slot_str_lower (by rfl)) ?_ ?_ ?_ (fun uq1 uq2 => rfl) (fun uq1 uq2 => rfl) ?_
  refine' den_index ?_ ?_ (fun uq1 uq2 => rfl)
  exact (@den_local _ _ _ _ _ 1 (by kernel_rfl) (by kernel_rfl) (by kernel_rfl))
  exact (@den_int _ _ _ _ _ _)
  exact (@keeps_builtin _ _)
  exact (@dens_nil _ _ _)
  exact (@dks_nil _ _ _)
  exact (@den_lower _ _)
  exact (@den_cell _ _ _ _ _ 2 (by kernel_rfl) (Or.inl (by kernel_rfl)) (by kernel_rfl) (by kernel_rfl))
  refine' body_emit rfl ?_
  refine' den_index ?_ ?_ (fun uq1 uq2 => rfl)
  exact (@den_local _ _ _ _ _ 1 (by kernel_rfl) (by kernel_rfl) (by kernel_rfl))
  exact (@den_int _ _ _ _ _ _)
  exact (@dss_nil _ _ _)⟩
noncomputable def h_all_d (c : Cx) : St → Option (Fl × St) := (h_all_D c).1
theorem h_all_den (c : Cx) : DenSs c.G 24 h_all_sx h_all_body (h_all_d c) := (h_all_D c).2
noncomputable def h_all_f (c : Cx) : List MV → List (Str × MV) → MH → Option (MV × MH) := (fnD (fun xs ks H => (h_all_bnd xs ks).map fun r => (r, H)) h_all_m (h_all_d c))
theorem h_all_code (c : Cx) : FnC c.G 25 (.ref 214) (h_all_f c) := fn_code h_all_m (h_all_ok c) (h_all_bind c) (h_all_den c)
theorem fd_214 (c : Cx) : FnDen c.G 25 (.ref 214) (h_all_f c) := FnC.den (h_all_code c)
noncomputable def h_init_O : {o : Obj // lookO (Mini.hd2.heap_1 params0) 169 = some o} := ⟨_, rfl⟩
noncomputable def h_init_o : Obj := h_init_O.1
noncomputable def h_init_fd : FuncData := fdOf h_init_o
noncomputable def h_init_body : List Stmt := bodyOf h_init_fd
noncomputable def h_init_params : List Str := [Str.ofString "self", Str.ofString "headers"]
noncomputable def h_init_sx : Sx := ⟨h_init_fd.scope, [Str.ofString "self", Str.ofString "headers", Str.ofString "k", Str.ofString "v"], [], h_init_fd.code, h_init_fd.qualname ++ Str.ofString ".<locals>."⟩
noncomputable def h_init_CO : {o : Obj // lookO (Mini.hd2.heap_1 params0) 168 = some o} := ⟨_, rfl⟩
noncomputable def h_init_co : Obj := h_init_CO.1
noncomputable def h_init_ca : Nat := 168
noncomputable def h_init_m : Nat := 2
theorem h_init_ok (c : Cx) : FnOk c.G 169 h_init_fd h_init_body h_init_sx h_init_params :=
  ⟨⟨h_init_o, by kernel_rfl, by kernel_rfl⟩, ⟨h_init_ca, h_init_co, _, _, by kernel_rfl, by kernel_rfl, rfl, rfl⟩, by kernel_rfl, by kernel_rfl, by kernel_rfl, by kernel_rfl, by kernel_rfl, by kernel_rfl, by kernel_rfl, by kernel_rfl,
    by decide +kernel, by decide +kernel, by decide +kernel, by decide +kernel, by kernel_rfl, by kernel_rfl, by kernel_rfl, by decide +kernel⟩
noncomputable def h_init_bnd : List MV → List (Str × MV) → Option (List MV)
  | [s], [] => some [s, .val .none]
  | _, _ => none
theorem h_init_bind (c : Cx) : BindD c.G h_init_fd h_init_params (fun xs ks H => (h_init_bnd xs ks).map fun r => (r, H)) := bind_peek fun v kv e => by
  unfold h_init_bnd at e
  split at e
  · cases e; cases kv
    cases v with | cons h0 v => ?_
    cases v
    refine ⟨[_, _], fun S => by rfl, rfl, (.cons h0 (.cons ?_ .nil))⟩
    all_goals first | rfl | exact ⟨_, rfl⟩
  · cases e
noncomputable def h_init_D (c : Cx) : {d : St → Option (Fl × St) // DenSs c.G 24 h_init_sx h_init_body d} := ⟨_, by
  refine' dss_cons ?_ ?_
  refine' ds_assign ?_ ?_ (fun uq1 uq2 => rfl) (fun uq1 => rfl) (fun uq1 => rfl)
  refine' den_ifexp ?_ ?_ ?_
  refine' denB_cmp opB_isNot ?_ ?_ (by decide) (by rfl)
  exact (@den_local _ _ _ _ _ 1 (by kernel_rfl) (by kernel_rfl) (by kernel_rfl))
  exact (@den_none _ _ _ _ _)
  exact (@den_local _ _ _ _ _ 1 (by kernel_rfl) (by kernel_rfl) (by kernel_rfl))
  refine' den_list ?_
  exact (@dens_nil _ _ _)
  exact (@asg_local _ _ _ _ _ 1 (by kernel_rfl) (by kernel_rfl))
  refine' dss_cons ?_ ?_
  refine' ds_if ?_ ?_ ?_
  refine' denB_cmp opB_isNot ?_ ?_ (by decide) (by rfl)
  refine' den_call (fv := (PySem.Value.type "type")) ?_ ?_ ?_ ?_ (fun uq1 uq2 => rfl) (fun uq1 uq2 => rfl) ?_
  exact (@den_builtin _ _ _ _ _ ((PySem.Value.type "type")) (by kernel_rfl) (by kernel_rfl) (by kernel_rfl) (by decide +kernel) (by kernel_rfl))
  exact (@keeps_type _ _)
  refine' dens_cons ?_ ?_ (fun uq1 => rfl)
  exact (@den_local _ _ _ _ _ 1 (by kernel_rfl) (by kernel_rfl) (by kernel_rfl))
  exact (@dens_nil _ _ _)
  exact (@dks_nil _ _ _)
  exact (@den_typeOf _ _)
  exact (@den_builtin _ _ _ _ _ ((PySem.Value.type "list")) (by kernel_rfl) (by kernel_rfl) (by kernel_rfl) (by decide +kernel) (by kernel_rfl))
  refine' dss_cons ?_ ?_
  exact (@ds_never _ _ _ _)
  exact (@dss_nil _ _ _)
  exact (@dss_nil _ _ _)
  refine' dss_cons ?_ ?_
  refine' ds_assign ?_ ?_ (fun uq1 uq2 => rfl) (fun uq1 => rfl) (fun uq1 => rfl)
  exact (@den_local _ _ _ _ _ 1 (by kernel_rfl) (by kernel_rfl) (by kernel_rfl))
  refine' asg_attrW (C := 275) ⟨#[95, 104, 101, 97, 100, 101, 114, 115]⟩ (by kernel_rfl) ⟨by kernel_rfl, by kernel_rfl, by kernel_rfl, by kernel_rfl⟩ ?_
  exact (@den_local _ _ _ _ _ 0 (by kernel_rfl) (by kernel_rfl) (by kernel_rfl))
  refine' dss_cons ?_ ?_
  refine' ds_if ?_ ?_ ?_
  refine' denB_val ?_ (fun uq1 => rfl)
  exact (@den_bool _ _ _ _ _ _)
  refine' dss_cons ?_ ?_
  refine' ds_for ?_ ?_ ?_ (fun uq1 uq2 => rfl)
  refine' den_iter ?_
  exact (@den_local _ _ _ _ _ 1 (by kernel_rfl) (by kernel_rfl) (by kernel_rfl))
  refine' asg_tuple (n := 2) ?_ (fun uq1 => rfl) (fun uq1 => rfl)
  refine' asgs_cons ?_ ?_ (fun uq1 => rfl)
  exact (@asg_local _ _ _ _ _ 2 (by kernel_rfl) (by kernel_rfl))
  refine' asgs_cons ?_ ?_ (fun uq1 => rfl)
  exact (@asg_local _ _ _ _ _ 3 (by kernel_rfl) (by kernel_rfl))
  exact (@asgs_nil _ _ _)
  refine' dss_cons ?_ ?_
  refine' ds_expr ?_ (fun uq1 => rfl)
  refine' den_meth (fun uq1 => rfl) ?_ (getM_inst (C := 275) (f := 176) (by kernel_rfl) (by kernel_rfl) (by kernel_rfl)) ?_ ?_ ?_ (fun uq1 uq2 => rfl) (fun uq1 uq2 => rfl) ?_
  exact (@den_local _ _ _ _ _ 0 (by kernel_rfl) (by kernel_rfl) (by kernel_rfl))
  exact (@keeps_K' _ _ (by kernel_rfl))
  refine' dens_cons ?_ ?_ (fun uq1 => rfl)
  exact (@den_local _ _ _ _ _ 2 (by kernel_rfl) (by kernel_rfl) (by kernel_rfl))
  exact (@dens_nil _ _ _)
  refine' dks_consW ⟨#[110, 97, 109, 101]⟩ (by kernel_rfl) ?_ ?_
  exact (@den_bool _ _ _ _ _ _)
  exact (@dks_nil _ _ _)
  exact (@FnDen.le _ _ _ _ _ (Mini.L2.fd_176 _) (by decide))
  refine' dss_cons ?_ ?_
  refine' ds_expr ?_ (fun uq1 => rfl)
  refine' den_meth (fun uq1 => rfl) ?_ (getM_inst (C := 275) (f := 176) (by kernel_rfl) (by kernel_rfl) (by kernel_rfl)) ?_ ?_ ?_ (fun uq1 uq2 => rfl) (fun uq1 uq2 => rfl) ?_
  exact (@den_local _ _ _ _ _ 0 (by kernel_rfl) (by kernel_rfl) (by kernel_rfl))
  exact (@keeps_K' _ _ (by kernel_rfl))
  refine' dens_cons ?_ ?_ (fun uq1 => rfl)
  exact (@den_local _ _ _ _ _ 3 (by kernel_rfl) (by kernel_rfl) (by kernel_rfl))
  exact (@dens_nil _ _ _)
  refine' dks_consW ⟨#[110, 97, 109, 101]⟩ (by kernel_rfl) ?_ ?_
  exact (@den_bool _ _ _ _ _ _)
  exact (@dks_nil _ _ _)
  exact (@FnDen.le _ _ _ _ _ (Mini.L2.fd_176 _) (by decide))
  exact (@dss_nil _ _ _)
  exact (@dss_nil _ _ _)
  exact (@dss_nil _ _ _)
  exact (@dss_nil _ _ _)⟩
noncomputable def h_init_d (c : Cx) : St → Option (Fl × St) := (h_init_D c).1
theorem h_init_den (c : Cx) : DenSs c.G 24 h_init_sx h_init_body (h_init_d c) := (h_init_D c).2
noncomputable def h_init_f (c : Cx) : List MV → List (Str × MV) → MH → Option (MV × MH) := (fnD (fun xs ks H => (h_init_bnd xs ks).map fun r => (r, H)) h_init_m (h_init_d c))
theorem h_init_code (c : Cx) : FnC c.G 25 (.ref 169) (h_init_f c) := fn_code h_init_m (h_init_ok c) (h_init_bind c) (h_init_den c)
theorem fd_275 (c : Cx) : FnDen c.G 26 (.ref 275) (clsF 275 (h_init_f c)) := den_cls (by kernel_rfl) (by kernel_rfl) (by kernel_rfl) (h_init_code c)
noncomputable def w_init_O : {o : Obj // lookO (Mini.hd2.heap_1 params0) 82 = some o} := ⟨_, rfl⟩
noncomputable def w_init_o : Obj := w_init_O.1
noncomputable def w_init_fd : FuncData := fdOf w_init_o
noncomputable def w_init_body : List Stmt := bodyOf w_init_fd
noncomputable def w_init_params : List Str := [Str.ofString "self", Str.ofString "ws"]
noncomputable def w_init_sx : Sx := ⟨w_init_fd.scope, [Str.ofString "self", Str.ofString "ws", Str.ofString "S", Str.ofString "T", Str.ofString "count", Str.ofString "b", Str.ofString "n", Str.ofString "nt", Str.ofString "ch"], [], w_init_fd.code, w_init_fd.qualname ++ Str.ofString ".<locals>."⟩
noncomputable def w_init_CO : {o : Obj // lookO (Mini.hd2.heap_1 params0) 81 = some o} := ⟨_, rfl⟩
noncomputable def w_init_co : Obj := w_init_CO.1
noncomputable def w_init_ca : Nat := 81
noncomputable def w_init_m : Nat := 7
theorem w_init_ok (c : Cx) : FnOk c.G 82 w_init_fd w_init_body w_init_sx w_init_params :=
  ⟨⟨w_init_o, by kernel_rfl, by kernel_rfl⟩, ⟨w_init_ca, w_init_co, _, _, by kernel_rfl, by kernel_rfl, rfl, rfl⟩, by kernel_rfl, by kernel_rfl, by kernel_rfl, by kernel_rfl, by kernel_rfl, by kernel_rfl, by kernel_rfl, by kernel_rfl,
    by decide +kernel, by decide +kernel, by decide +kernel, by decide +kernel, by kernel_rfl, by kernel_rfl, by kernel_rfl, by decide +kernel⟩
noncomputable def w_init_bnd : List MV → List (Str × MV) → Option (List MV)
  | [s, x], [] => some [s, x]
  | _, _ => none
theorem w_init_bind (c : Cx) : BindD c.G w_init_fd w_init_params (fun xs ks H => (w_init_bnd xs ks).map fun r => (r, H)) := bind_peek fun v kv e => by
  unfold w_init_bnd at e
  split at e
  · cases e; cases kv
    cases v with | cons h0 v => ?_
    cases v with | cons h1 v => ?_
    cases v
    refine ⟨[_, _], fun S => by rfl, rfl, (.cons h0 (.cons h1 .nil))⟩
  · cases e
noncomputable def w_init_D (c : Cx) : {d : St → Option (Fl × St) // DenSs c.G 20 w_init_sx w_init_body d} := ⟨_, by
  refine' dss_cons ?_ ?_
  refine' ds_assign ?_ ?_ (fun uq1 uq2 => rfl) (fun uq1 => rfl) (fun uq1 => rfl)
  exact (@den_local _ _ _ _ _ 1 (by kernel_rfl) (by kernel_rfl) (by kernel_rfl))
  refine' asg_attrW (C := 127) ⟨#[114, 97, 119]⟩ (by kernel_rfl) ⟨by kernel_rfl, by kernel_rfl, by kernel_rfl, by kernel_rfl⟩ ?_
  exact (@den_local _ _ _ _ _ 0 (by kernel_rfl) (by kernel_rfl) (by kernel_rfl))
  refine' dss_cons ?_ ?_
  refine' ds_swap2 (x := (PySem.Str.ofString "S")) (y := (PySem.Str.ofString "T")) 2 3 (by kernel_rfl) (by kernel_rfl) (by kernel_rfl) (by kernel_rfl) (fun env h => (swapped_scope (env' := dummyEnv _) h).trans (by kernel_rfl)) ?_ (fun uq1 => rfl)
  refine' den_tuple ?_
  refine' dens_cons ?_ ?_ (fun uq1 => rfl)
  refine' den_clsattr (C := 127) (mc := .type "type") (x := (Str.ofString " ")) (t := (347)) ?_ (fun uq1 => rfl) (fun uq1 uq2 => rfl) (by kernel_rfl) (by kernel_rfl)
  exact (@den_glob _ _ _ _ _ ((PySem.Value.ref 127)) (by kernel_rfl) (by kernel_rfl) (by kernel_rfl))
  refine' dens_cons ?_ ?_ (fun uq1 => rfl)
  refine' den_clsattr (C := 127) (mc := .type "type") (x := (Str.ofString "\t")) (t := (348)) ?_ (fun uq1 => rfl) (fun uq1 uq2 => rfl) (by kernel_rfl) (by kernel_rfl)
  exact (@den_glob _ _ _ _ _ ((PySem.Value.ref 127)) (by kernel_rfl) (by kernel_rfl) (by kernel_rfl))
  exact (@dens_nil _ _ _)
  refine' dss_cons ?_ ?_
  refine' ds_assign ?_ ?_ (fun uq1 uq2 => rfl) (fun uq1 => rfl) (fun uq1 => rfl)
  refine' den_list ?_
  exact (@dens_nil _ _ _)
  exact (@asg_local _ _ _ _ _ 4 (by kernel_rfl) (by kernel_rfl))
  refine' dss_cons ?_ ?_
  refine' ds_assign3 ?_ ?_ ?_ ?_ (fun uq1 => rfl) (fun uq1 => rfl)
  exact (@den_int _ _ _ _ _ _)
  exact (@asg_local _ _ _ _ _ 5 (by kernel_rfl) (by kernel_rfl))
  exact (@asg_local _ _ _ _ _ 6 (by kernel_rfl) (by kernel_rfl))
  exact (@asg_local _ _ _ _ _ 7 (by kernel_rfl) (by kernel_rfl))
  refine' dss_cons ?_ ?_
  refine' ds_for ?_ ?_ ?_ (fun uq1 uq2 => rfl)
  refine' den_iter ?_
  refine' den_attrW (C := 127) (a := none) ⟨#[114, 97, 119]⟩ (by kernel_rfl) ?_ (fun uq1 => rfl) (fun uq1 uq2 => rfl) (by kernel_rfl) (by kernel_rfl) (by kernel_rfl) (by kernel_rfl)
  exact (@den_local _ _ _ _ _ 0 (by kernel_rfl) (by kernel_rfl) (by kernel_rfl))
  exact (@asg_local _ _ _ _ _ 8 (by kernel_rfl) (by kernel_rfl))
  refine' dss_cons ?_ ?_
  refine' ds_if ?_ ?_ ?_
  refine' denB_cmp opB_eq ?_ ?_ (by decide) (by rfl)
  exact (@den_local _ _ _ _ _ 8 (by kernel_rfl) (by kernel_rfl) (by kernel_rfl))
  exact (@den_local _ _ _ _ _ 2 (by kernel_rfl) (by kernel_rfl) (by kernel_rfl))
  refine' dss_cons ?_ ?_
  refine' ds_assign ?_ ?_ (fun uq1 uq2 => rfl) (fun uq1 => rfl) (fun uq1 => rfl)
  refine' den_bin addop_ok ?_ ?_
  exact (@den_local _ _ _ _ _ 6 (by kernel_rfl) (by kernel_rfl) (by kernel_rfl))
  exact (@den_int _ _ _ _ _ _)
  exact (@asg_local _ _ _ _ _ 6 (by kernel_rfl) (by kernel_rfl))
  refine' dss_cons ?_ ?_
  refine' ds_assign ?_ ?_ (fun uq1 uq2 => rfl) (fun uq1 => rfl) (fun uq1 => rfl)
  refine' den_bin addop_ok ?_ ?_
  exact (@den_local _ _ _ _ _ 5 (by kernel_rfl) (by kernel_rfl) (by kernel_rfl))
  exact (@den_int _ _ _ _ _ _)
  exact (@asg_local _ _ _ _ _ 5 (by kernel_rfl) (by kernel_rfl))
  exact (@dss_nil _ _ _)
  refine' dss_cons ?_ ?_
  refine' ds_if ?_ ?_ ?_
  refine' denB_cmp opB_eq ?_ ?_ (by decide) (by rfl)
  exact (@den_local _ _ _ _ _ 8 (by kernel_rfl) (by kernel_rfl) (by kernel_rfl))
  exact (@den_local _ _ _ _ _ 3 (by kernel_rfl) (by kernel_rfl) (by kernel_rfl))
  refine' dss_cons ?_ ?_
  refine' ds_assign ?_ ?_ (fun uq1 uq2 => rfl) (fun uq1 => rfl) (fun uq1 => rfl)
  refine' den_bin addop_ok ?_ ?_
  exact (@den_local _ _ _ _ _ 6 (by kernel_rfl) (by kernel_rfl) (by kernel_rfl))
  exact (@den_int _ _ _ _ _ _)
  exact (@asg_local _ _ _ _ _ 6 (by kernel_rfl) (by kernel_rfl))
  refine' dss_cons ?_ ?_
  refine' ds_assign ?_ ?_ (fun uq1 uq2 => rfl) (fun uq1 => rfl) (fun uq1 => rfl)
  refine' den_bin addop_ok ?_ ?_
  exact (@den_local _ _ _ _ _ 7 (by kernel_rfl) (by kernel_rfl) (by kernel_rfl))
  exact (@den_int _ _ _ _ _ _)
  exact (@asg_local _ _ _ _ _ 7 (by kernel_rfl) (by kernel_rfl))
  refine' dss_cons ?_ ?_
  refine' ds_if ?_ ?_ ?_
  refine' denB_cmp opB_ge ?_ ?_ (by decide) (by rfl)
  exact (@den_local _ _ _ _ _ 5 (by kernel_rfl) (by kernel_rfl) (by kernel_rfl))
  refine' den_call (fv := (PySem.Value.builtin "len")) ?_ ?_ ?_ ?_ (fun uq1 uq2 => rfl) (fun uq1 uq2 => rfl) ?_
  exact (@den_builtin _ _ _ _ _ ((PySem.Value.builtin "len")) (by kernel_rfl) (by kernel_rfl) (by kernel_rfl) (by decide +kernel) (by kernel_rfl))
  exact (@keeps_builtin _ _)
  refine' dens_cons ?_ ?_ (fun uq1 => rfl)
  exact (@den_local _ _ _ _ _ 4 (by kernel_rfl) (by kernel_rfl) (by kernel_rfl))
  exact (@dens_nil _ _ _)
  exact (@dks_nil _ _ _)
  exact (@den_lenS _ _)
  refine' dss_cons ?_ ?_
  refine' ds_assign ?_ ?_ (fun uq1 uq2 => rfl) (fun uq1 => rfl) (fun uq1 => rfl)
  refine' den_bin addop_ok ?_ ?_
  exact (@den_local _ _ _ _ _ 4 (by kernel_rfl) (by kernel_rfl) (by kernel_rfl))
  refine' den_bin mulop_ok ?_ ?_
  refine' den_list ?_
  refine' dens_cons ?_ ?_ (fun uq1 => rfl)
  exact (@den_int _ _ _ _ _ _)
  exact (@dens_nil _ _ _)
  refine' den_bin addop_ok ?_ ?_
  refine' den_bin subop_ok ?_ ?_
  exact (@den_local _ _ _ _ _ 5 (by kernel_rfl) (by kernel_rfl) (by kernel_rfl))
  refine' den_call (fv := (PySem.Value.builtin "len")) ?_ ?_ ?_ ?_ (fun uq1 uq2 => rfl) (fun uq1 uq2 => rfl) ?_
  exact (@den_builtin _ _ _ _ _ ((PySem.Value.builtin "len")) (by kernel_rfl) (by kernel_rfl) (by kernel_rfl) (by decide +kernel) (by kernel_rfl))
  exact (@keeps_builtin _ _)
  refine' dens_cons ?_ ?_ (fun uq1 => rfl)
  exact (@den_local _ _ _ _ _ 4 (by kernel_rfl) (by kernel_rfl) (by kernel_rfl))
  exact (@dens_nil _ _ _)
  exact (@dks_nil _ _ _)
  exact (@den_lenS _ _)
  exact (@den_int _ _ _ _ _ _)
  exact (@asg_local _ _ _ _ _ 4 (by kernel_rfl) (by kernel_rfl))
  exact (@dss_nil _ _ _)
  exact (@dss_nil _ _ _)
  refine' dss_cons ?_ ?_
  refine' ds_assign ?_ ?_ (fun uq1 uq2 => rfl) (fun uq1 => rfl) (fun uq1 => rfl)
  refine' den_bin addop_ok ?_ ?_
  refine' den_index ?_ ?_ (fun uq1 uq2 => rfl)
  exact (@den_local _ _ _ _ _ 4 (by kernel_rfl) (by kernel_rfl) (by kernel_rfl))
  exact (@den_local _ _ _ _ _ 5 (by kernel_rfl) (by kernel_rfl) (by kernel_rfl))
  exact (@den_int _ _ _ _ _ _)
  refine' asg_item ?_ ?_
  exact (@den_local _ _ _ _ _ 4 (by kernel_rfl) (by kernel_rfl) (by kernel_rfl))
  exact (@den_local _ _ _ _ _ 5 (by kernel_rfl) (by kernel_rfl) (by kernel_rfl))
  refine' dss_cons ?_ ?_
  refine' ds_assign ?_ ?_ (fun uq1 uq2 => rfl) (fun uq1 => rfl) (fun uq1 => rfl)
  exact (@den_int _ _ _ _ _ _)
  exact (@asg_local _ _ _ _ _ 5 (by kernel_rfl) (by kernel_rfl))
  exact (@dss_nil _ _ _)
  refine' dss_cons ?_ ?_
  exact (@ds_break _ _ _ _)
  exact (@dss_nil _ _ _)
  exact (@dss_nil _ _ _)
  exact (@dss_nil _ _ _)
  refine' dss_cons ?_ ?_
  refine' ds_assign ?_ ?_ (fun uq1 uq2 => rfl) (fun uq1 => rfl) (fun uq1 => rfl)
  exact (@den_local _ _ _ _ _ 6 (by kernel_rfl) (by kernel_rfl) (by kernel_rfl))
  refine' asg_attrW (C := 127) ⟨#[110]⟩ (by kernel_rfl) ⟨by kernel_rfl, by kernel_rfl, by kernel_rfl, by kernel_rfl⟩ ?_
  exact (@den_local _ _ _ _ _ 0 (by kernel_rfl) (by kernel_rfl) (by kernel_rfl))
  refine' dss_cons ?_ ?_
  refine' ds_assign ?_ ?_ (fun uq1 uq2 => rfl) (fun uq1 => rfl) (fun uq1 => rfl)
  exact (@den_local _ _ _ _ _ 7 (by kernel_rfl) (by kernel_rfl) (by kernel_rfl))
  refine' asg_attrW (C := 127) ⟨#[110, 116]⟩ (by kernel_rfl) ⟨by kernel_rfl, by kernel_rfl, by kernel_rfl, by kernel_rfl⟩ ?_
  exact (@den_local _ _ _ _ _ 0 (by kernel_rfl) (by kernel_rfl) (by kernel_rfl))
  refine' dss_cons ?_ ?_
  refine' ds_assign ?_ ?_ (fun uq1 uq2 => rfl) (fun uq1 => rfl) (fun uq1 => rfl)
  refine' den_tuple ?_
  refine' dens_cons ?_ ?_ (fun uq1 => rfl)
  refine' den_call (fv := (PySem.Value.type "tuple")) ?_ ?_ ?_ ?_ (fun uq1 uq2 => rfl) (fun uq1 uq2 => rfl) ?_
  exact (@den_builtin _ _ _ _ _ ((PySem.Value.type "tuple")) (by kernel_rfl) (by kernel_rfl) (by kernel_rfl) (by decide +kernel) (by kernel_rfl))
  exact (@keeps_type _ _)
  refine' dens_cons ?_ ?_ (fun uq1 => rfl)
  exact (@den_local _ _ _ _ _ 4 (by kernel_rfl) (by kernel_rfl) (by kernel_rfl))
  exact (@dens_nil _ _ _)
  exact (@dks_nil _ _ _)
  exact (@den_tupleL _ _)
  refine' dens_cons ?_ ?_ (fun uq1 => rfl)
  exact (@den_local _ _ _ _ _ 5 (by kernel_rfl) (by kernel_rfl) (by kernel_rfl))
  exact (@dens_nil _ _ _)
  refine' asg_attrW (C := 127) ⟨#[110, 111, 114, 109]⟩ (by kernel_rfl) ⟨by kernel_rfl, by kernel_rfl, by kernel_rfl, by kernel_rfl⟩ ?_
  exact (@den_local _ _ _ _ _ 0 (by kernel_rfl) (by kernel_rfl) (by kernel_rfl))
  refine' dss_cons ?_ ?_
  refine' ds_assign ?_ ?_ (fun uq1 uq2 => rfl) (fun uq1 => rfl) (fun uq1 => rfl)
  refine' den_cmp opB_le ?_ ?_ (by decide) (by rfl)
  refine' den_call (fv := (PySem.Value.builtin "len")) ?_ ?_ ?_ ?_ (fun uq1 uq2 => rfl) (fun uq1 uq2 => rfl) ?_
  exact (@den_builtin _ _ _ _ _ ((PySem.Value.builtin "len")) (by kernel_rfl) (by kernel_rfl) (by kernel_rfl) (by decide +kernel) (by kernel_rfl))
  exact (@keeps_builtin _ _)
  refine' dens_cons ?_ ?_ (fun uq1 => rfl)
  exact (@den_local _ _ _ _ _ 4 (by kernel_rfl) (by kernel_rfl) (by kernel_rfl))
  exact (@dens_nil _ _ _)
  exact (@dks_nil _ _ _)
  exact (@den_lenS _ _)
  exact (@den_int _ _ _ _ _ _)
  refine' asg_attrW (C := 127) ⟨#[105, 115, 95, 115, 105, 109, 112, 108, 101]⟩ (by kernel_rfl) ⟨by kernel_rfl, by kernel_rfl, by kernel_rfl, by kernel_rfl⟩ ?_
  exact (@den_local _ _ _ _ _ 0 (by kernel_rfl) (by kernel_rfl) (by kernel_rfl))
  exact (@dss_nil _ _ _)⟩
noncomputable def w_init_d (c : Cx) : St → Option (Fl × St) := (w_init_D c).1
theorem w_init_den (c : Cx) : DenSs c.G 20 w_init_sx w_init_body (w_init_d c) := (w_init_D c).2
noncomputable def w_init_f (c : Cx) : List MV → List (Str × MV) → MH → Option (MV × MH) := (fnD (fun xs ks H => (w_init_bnd xs ks).map fun r => (r, H)) w_init_m (w_init_d c))
theorem w_init_code (c : Cx) : FnC c.G 21 (.ref 82) (w_init_f c) := fn_code w_init_m (w_init_ok c) (w_init_bind c) (w_init_den c)
theorem fd_127 (c : Cx) : FnDen c.G 22 (.ref 127) (clsF 127 (w_init_f c)) := den_cls (by kernel_rfl) (by kernel_rfl) (by kernel_rfl) (w_init_code c)
noncomputable def w_long_O : {o : Obj // lookO (Mini.hd2.heap_1 params0) 89 = some o} := ⟨_, rfl⟩
noncomputable def w_long_o : Obj := w_long_O.1
noncomputable def w_long_fd : FuncData := fdOf w_long_o
noncomputable def w_long_body : List Stmt := bodyOf w_long_fd
noncomputable def w_long_params : List Str := [Str.ofString "self"]
noncomputable def w_long_sx : Sx := ⟨w_long_fd.scope, [Str.ofString "self", Str.ofString "count", Str.ofString "trailing"], [], w_long_fd.code, w_long_fd.qualname ++ Str.ofString ".<locals>."⟩
noncomputable def w_long_CO : {o : Obj // lookO (Mini.hd2.heap_1 params0) 88 = some o} := ⟨_, rfl⟩
noncomputable def w_long_co : Obj := w_long_CO.1
noncomputable def w_long_ca : Nat := 88
noncomputable def w_long_m : Nat := 2
theorem w_long_ok (c : Cx) : FnOk c.G 89 w_long_fd w_long_body w_long_sx w_long_params :=
  ⟨⟨w_long_o, by kernel_rfl, by kernel_rfl⟩, ⟨w_long_ca, w_long_co, _, _, by kernel_rfl, by kernel_rfl, rfl, rfl⟩, by kernel_rfl, by kernel_rfl, by kernel_rfl, by kernel_rfl, by kernel_rfl, by kernel_rfl, by kernel_rfl, by kernel_rfl,
    by decide +kernel, by decide +kernel, by decide +kernel, by decide +kernel, by kernel_rfl, by kernel_rfl, by kernel_rfl, by decide +kernel⟩
noncomputable def w_long_bnd : List MV → List (Str × MV) → Option (List MV)
  | [s], [] => some [s]
  | _, _ => none
theorem w_long_bind (c : Cx) : BindD c.G w_long_fd w_long_params (fun xs ks H => (w_long_bnd xs ks).map fun r => (r, H)) := bind_peek fun v kv e => by
  unfold w_long_bnd at e
  split at e
  · cases e; cases kv
    cases v with | cons h0 v => ?_
    cases v
    refine ⟨[_], fun S => by rfl, rfl, (.cons h0 .nil)⟩
  · cases e
noncomputable def w_long_D (c : Cx) : {d : St → Option (Fl × St) // DenSs c.G 20 w_long_sx w_long_body d} := ⟨_, by
  refine' dss_cons ?_ ?_
  refine' ds_assign ?_ ?_ (fun uq1 uq2 => rfl) (fun uq1 => rfl) (fun uq1 => rfl)
  refine' den_attrW (C := 127) (a := none) ⟨#[110, 111, 114, 109]⟩ (by kernel_rfl) ?_ (fun uq1 => rfl) (fun uq1 uq2 => rfl) (by kernel_rfl) (by kernel_rfl) (by kernel_rfl) (by kernel_rfl)
  exact (@den_local _ _ _ _ _ 0 (by kernel_rfl) (by kernel_rfl) (by kernel_rfl))
  refine' asg_tuple (n := 2) ?_ (fun uq1 => rfl) (fun uq1 => rfl)
  refine' asgs_cons ?_ ?_ (fun uq1 => rfl)
  exact (@asg_local _ _ _ _ _ 1 (by kernel_rfl) (by kernel_rfl))
  refine' asgs_cons ?_ ?_ (fun uq1 => rfl)
  exact (@asg_local _ _ _ _ _ 2 (by kernel_rfl) (by kernel_rfl))
  exact (@asgs_nil _ _ _)
  refine' dss_cons ?_ ?_
  refine' ds_ret ?_
  refine' den_call (fv := (PySem.Value.builtin "max")) ?_ ?_ ?_ ?_ (fun uq1 uq2 => rfl) (fun uq1 uq2 => rfl) ?_
  exact (@den_builtin _ _ _ _ _ ((PySem.Value.builtin "max")) (by kernel_rfl) (by kernel_rfl) (by kernel_rfl) (by decide +kernel) (by kernel_rfl))
  exact (@keeps_builtin _ _)
  refine' dens_cons ?_ ?_ (fun uq1 => rfl)
  refine' den_bin subop_ok ?_ ?_
  refine' den_call (fv := (PySem.Value.builtin "len")) ?_ ?_ ?_ ?_ (fun uq1 uq2 => rfl) (fun uq1 uq2 => rfl) ?_
  exact (@den_builtin _ _ _ _ _ ((PySem.Value.builtin "len")) (by kernel_rfl) (by kernel_rfl) (by kernel_rfl) (by decide +kernel) (by kernel_rfl))
  exact (@keeps_builtin _ _)
  refine' dens_cons ?_ ?_ (fun uq1 => rfl)
  exact (@den_local _ _ _ _ _ 1 (by kernel_rfl) (by kernel_rfl) (by kernel_rfl))
  exact (@dens_nil _ _ _)
  exact (@dks_nil _ _ _)
  exact (@den_lenS _ _)
  exact (@den_int _ _ _ _ _ _)
  refine' dens_cons ?_ ?_ (fun uq1 => rfl)
  exact (@den_local _ _ _ _ _ 2 (by kernel_rfl) (by kernel_rfl) (by kernel_rfl))
  exact (@dens_nil _ _ _)
  exact (@dks_nil _ _ _)
  exact (@den_max _ _)
  exact (@dss_nil _ _ _)⟩
noncomputable def w_long_d (c : Cx) : St → Option (Fl × St) := (w_long_D c).1
theorem w_long_den (c : Cx) : DenSs c.G 20 w_long_sx w_long_body (w_long_d c) := (w_long_D c).2
noncomputable def w_long_f (c : Cx) : List MV → List (Str × MV) → MH → Option (MV × MH) := (fnD (fun xs ks H => (w_long_bnd xs ks).map fun r => (r, H)) w_long_m (w_long_d c))
theorem w_long_code (c : Cx) : FnC c.G 21 (.ref 89) (w_long_f c) := fn_code w_long_m (w_long_ok c) (w_long_bind c) (w_long_den c)
theorem fd_89 (c : Cx) : FnDen c.G 21 (.ref 89) (w_long_f c) := FnC.den (w_long_code c)
noncomputable def w_ind_O : {o : Obj // lookO (Mini.hd2.heap_1 params0) 96 = some o} := ⟨_, rfl⟩
noncomputable def w_ind_o : Obj := w_ind_O.1
noncomputable def w_ind_fd : FuncData := fdOf w_ind_o
noncomputable def w_ind_body : List Stmt := bodyOf w_ind_fd
noncomputable def w_ind_params : List Str := [Str.ofString "self", Str.ofString "tabsize"]
noncomputable def w_ind_sx : Sx := ⟨w_ind_fd.scope, [Str.ofString "self", Str.ofString "tabsize", Str.ofString "count", Str.ofString "trailing", Str.ofString "il", Str.ofString "i"], [], w_ind_fd.code, w_ind_fd.qualname ++ Str.ofString ".<locals>."⟩
noncomputable def w_ind_CO : {o : Obj // lookO (Mini.hd2.heap_1 params0) 95 = some o} := ⟨_, rfl⟩
noncomputable def w_ind_co : Obj := w_ind_CO.1
noncomputable def w_ind_ca : Nat := 95
noncomputable def w_ind_m : Nat := 4
theorem w_ind_ok (c : Cx) : FnOk c.G 96 w_ind_fd w_ind_body w_ind_sx w_ind_params :=
  ⟨⟨w_ind_o, by kernel_rfl, by kernel_rfl⟩, ⟨w_ind_ca, w_ind_co, _, _, by kernel_rfl, by kernel_rfl, rfl, rfl⟩, by kernel_rfl, by kernel_rfl, by kernel_rfl, by kernel_rfl, by kernel_rfl, by kernel_rfl, by kernel_rfl, by kernel_rfl,
    by decide +kernel, by decide +kernel, by decide +kernel, by decide +kernel, by kernel_rfl, by kernel_rfl, by kernel_rfl, by decide +kernel⟩
noncomputable def w_ind_bnd : List MV → List (Str × MV) → Option (List MV)
  | [s, x], [] => some [s, x]
  | _, _ => none
theorem w_ind_bind (c : Cx) : BindD c.G w_ind_fd w_ind_params (fun xs ks H => (w_ind_bnd xs ks).map fun r => (r, H)) := bind_peek fun v kv e => by
  unfold w_ind_bnd at e
  split at e
  · cases e; cases kv
    cases v with | cons h0 v => ?_
    cases v with | cons h1 v => ?_
    cases v
    refine ⟨[_, _], fun S => by rfl, rfl, (.cons h0 (.cons h1 .nil))⟩
  · cases e
noncomputable def w_ind_D (c : Cx) : {d : St → Option (Fl × St) // DenSs c.G 20 w_ind_sx w_ind_body d} := ⟨_, by
  refine' dss_cons ?_ ?_
  refine' ds_assign ?_ ?_ (fun uq1 uq2 => rfl) (fun uq1 => rfl) (fun uq1 => rfl)
  refine' den_attrW (C := 127) (a := none) ⟨#[110, 111, 114, 109]⟩ (by kernel_rfl) ?_ (fun uq1 => rfl) (fun uq1 uq2 => rfl) (by kernel_rfl) (by kernel_rfl) (by kernel_rfl) (by kernel_rfl)
  exact (@den_local _ _ _ _ _ 0 (by kernel_rfl) (by kernel_rfl) (by kernel_rfl))
  refine' asg_tuple (n := 2) ?_ (fun uq1 => rfl) (fun uq1 => rfl)
  refine' asgs_cons ?_ ?_ (fun uq1 => rfl)
  exact (@asg_local _ _ _ _ _ 2 (by kernel_rfl) (by kernel_rfl))
  refine' asgs_cons ?_ ?_ (fun uq1 => rfl)
  exact (@asg_local _ _ _ _ _ 3 (by kernel_rfl) (by kernel_rfl))
  exact (@asgs_nil _ _ _)
  refine' dss_cons ?_ ?_
  refine' ds_assign ?_ ?_ (fun uq1 uq2 => rfl) (fun uq1 => rfl) (fun uq1 => rfl)
  exact (@den_int _ _ _ _ _ _)
  exact (@asg_local _ _ _ _ _ 4 (by kernel_rfl) (by kernel_rfl))
  refine' dss_cons ?_ ?_
  refine' ds_for ?_ ?_ ?_ (fun uq1 uq2 => rfl)
  refine' den_iter ?_
  refine' den_call (fv := (PySem.Value.type "range")) ?_ ?_ ?_ ?_ (fun uq1 uq2 => rfl) (fun uq1 uq2 => rfl) ?_
  exact (@den_builtin _ _ _ _ _ ((PySem.Value.type "range")) (by kernel_rfl) (by kernel_rfl) (by kernel_rfl) (by decide +kernel) (by kernel_rfl))
  exact (@keeps_type _ _)
  refine' dens_cons ?_ ?_ (fun uq1 => rfl)
  exact (@den_local _ _ _ _ _ 1 (by kernel_rfl) (by kernel_rfl) (by kernel_rfl))
  refine' dens_cons ?_ ?_ (fun uq1 => rfl)
  refine' den_call (fv := (PySem.Value.builtin "len")) ?_ ?_ ?_ ?_ (fun uq1 uq2 => rfl) (fun uq1 uq2 => rfl) ?_
  exact (@den_builtin _ _ _ _ _ ((PySem.Value.builtin "len")) (by kernel_rfl) (by kernel_rfl) (by kernel_rfl) (by decide +kernel) (by kernel_rfl))
  exact (@keeps_builtin _ _)
  refine' dens_cons ?_ ?_ (fun uq1 => rfl)
  exact (@den_local _ _ _ _ _ 2 (by kernel_rfl) (by kernel_rfl) (by kernel_rfl))
  exact (@dens_nil _ _ _)
  exact (@dks_nil _ _ _)
  exact (@den_lenS _ _)
  exact (@dens_nil _ _ _)
  exact (@dks_nil _ _ _)
  exact (@den_range _ _)
  exact (@asg_local _ _ _ _ _ 5 (by kernel_rfl) (by kernel_rfl))
  refine' dss_cons ?_ ?_
  refine' ds_assign ?_ ?_ (fun uq1 uq2 => rfl) (fun uq1 => rfl) (fun uq1 => rfl)
  refine' den_bin addop_ok ?_ ?_
  exact (@den_local _ _ _ _ _ 4 (by kernel_rfl) (by kernel_rfl) (by kernel_rfl))
  refine' den_bin mulop_ok ?_ ?_
  refine' den_bin fdivop_ok ?_ ?_
  exact (@den_local _ _ _ _ _ 5 (by kernel_rfl) (by kernel_rfl) (by kernel_rfl))
  exact (@den_local _ _ _ _ _ 1 (by kernel_rfl) (by kernel_rfl) (by kernel_rfl))
  refine' den_index ?_ ?_ (fun uq1 uq2 => rfl)
  exact (@den_local _ _ _ _ _ 2 (by kernel_rfl) (by kernel_rfl) (by kernel_rfl))
  exact (@den_local _ _ _ _ _ 5 (by kernel_rfl) (by kernel_rfl) (by kernel_rfl))
  exact (@asg_local _ _ _ _ _ 4 (by kernel_rfl) (by kernel_rfl))
  exact (@dss_nil _ _ _)
  refine' dss_cons ?_ ?_
  refine' ds_ret ?_
  refine' den_bin addop_ok ?_ ?_
  exact (@den_local _ _ _ _ _ 3 (by kernel_rfl) (by kernel_rfl) (by kernel_rfl))
  refine' den_bin mulop_ok ?_ ?_
  exact (@den_local _ _ _ _ _ 1 (by kernel_rfl) (by kernel_rfl) (by kernel_rfl))
  refine' den_bin addop_ok ?_ ?_
  exact (@den_local _ _ _ _ _ 4 (by kernel_rfl) (by kernel_rfl) (by kernel_rfl))
  refine' den_attrW (C := 127) (a := none) ⟨#[110, 116]⟩ (by kernel_rfl) ?_ (fun uq1 => rfl) (fun uq1 uq2 => rfl) (by kernel_rfl) (by kernel_rfl) (by kernel_rfl) (by kernel_rfl)
  exact (@den_local _ _ _ _ _ 0 (by kernel_rfl) (by kernel_rfl) (by kernel_rfl))
  exact (@dss_nil _ _ _)⟩
noncomputable def w_ind_d (c : Cx) : St → Option (Fl × St) := (w_ind_D c).1
theorem w_ind_den (c : Cx) : DenSs c.G 20 w_ind_sx w_ind_body (w_ind_d c) := (w_ind_D c).2
noncomputable def w_ind_f (c : Cx) : List MV → List (Str × MV) → MH → Option (MV × MH) := (fnD (fun xs ks H => (w_ind_bnd xs ks).map fun r => (r, H)) w_ind_m (w_ind_d c))
theorem w_ind_code (c : Cx) : FnC c.G 21 (.ref 96) (w_ind_f c) := fn_code w_ind_m (w_ind_ok c) (w_ind_bind c) (w_ind_den c)
theorem fd_96 (c : Cx) : FnDen c.G 21 (.ref 96) (w_ind_f c) := FnC.den (w_ind_code c)
noncomputable def w_less_O : {o : Obj // lookO (Mini.hd2.heap_1 params0) 117 = some o} := ⟨_, rfl⟩
noncomputable def w_less_o : Obj := w_less_O.1
noncomputable def w_less_fd : FuncData := fdOf w_less_o
noncomputable def w_less_body : List Stmt := bodyOf w_less_fd
noncomputable def w_less_params : List Str := [Str.ofString "self", Str.ofString "other"]
noncomputable def w_less_sx : Sx := ⟨w_less_fd.scope, [Str.ofString "self", Str.ofString "other", Str.ofString "n", Str.ofString "ts"], [], w_less_fd.code, w_less_fd.qualname ++ Str.ofString ".<locals>."⟩
noncomputable def w_less_CO : {o : Obj // lookO (Mini.hd2.heap_1 params0) 116 = some o} := ⟨_, rfl⟩
noncomputable def w_less_co : Obj := w_less_CO.1
noncomputable def w_less_ca : Nat := 116
noncomputable def w_less_m : Nat := 2
theorem w_less_ok (c : Cx) : FnOk c.G 117 w_less_fd w_less_body w_less_sx w_less_params :=
  ⟨⟨w_less_o, by kernel_rfl, by kernel_rfl⟩, ⟨w_less_ca, w_less_co, _, _, by kernel_rfl, by kernel_rfl, rfl, rfl⟩, by kernel_rfl, by kernel_rfl, by kernel_rfl, by kernel_rfl, by kernel_rfl, by kernel_rfl, by kernel_rfl, by kernel_rfl,
    by decide +kernel, by decide +kernel, by decide +kernel, by decide +kernel, by kernel_rfl, by kernel_rfl, by kernel_rfl, by decide +kernel⟩
noncomputable def w_less_bnd : List MV → List (Str × MV) → Option (List MV)
  | [s, x], [] => some [s, x]
  | _, _ => none
theorem w_less_bind (c : Cx) : BindD c.G w_less_fd w_less_params (fun xs ks H => (w_less_bnd xs ks).map fun r => (r, H)) := bind_peek fun v kv e => by
  unfold w_less_bnd at e
  split at e
  · cases e; cases kv
    cases v with | cons h0 v => ?_
    cases v with | cons h1 v => ?_
    cases v
    refine ⟨[_, _], fun S => by rfl, rfl, (.cons h0 (.cons h1 .nil))⟩
  · cases e
noncomputable def w_less_D (c : Cx) : {d : St → Option (Fl × St) // DenSs c.G 24 w_less_sx w_less_body d} := ⟨_, by
  refine' dss_cons ?_ ?_
  refine' ds_if ?_ ?_ ?_
  refine' denB_cmp opB_ge ?_ ?_ (by decide) (by rfl)
  refine' den_attrW (C := 127) (a := none) ⟨#[110]⟩ (by kernel_rfl) ?_ (fun uq1 => rfl) (fun uq1 uq2 => rfl) (by kernel_rfl) (by kernel_rfl) (by kernel_rfl) (by kernel_rfl)
  exact (@den_local _ _ _ _ _ 0 (by kernel_rfl) (by kernel_rfl) (by kernel_rfl))
  refine' den_attrW (C := 127) (a := none) ⟨#[110]⟩ (by kernel_rfl) ?_ (fun uq1 => rfl) (fun uq1 uq2 => rfl) (by kernel_rfl) (by kernel_rfl) (by kernel_rfl) (by kernel_rfl)
  exact (@den_local _ _ _ _ _ 1 (by kernel_rfl) (by kernel_rfl) (by kernel_rfl))
  refine' dss_cons ?_ ?_
  refine' ds_ret ?_
  exact (@den_bool _ _ _ _ _ _)
  exact (@dss_nil _ _ _)
  exact (@dss_nil _ _ _)
  refine' dss_cons ?_ ?_
  refine' ds_if ?_ ?_ ?_
  refine' denB_and2 ?_ ?_
  refine' denB_val ?_ (fun uq1 => rfl)
  refine' den_attrW (C := 127) (a := none) ⟨#[105, 115, 95, 115, 105, 109, 112, 108, 101]⟩ (by kernel_rfl) ?_ (fun uq1 => rfl) (fun uq1 uq2 => rfl) (by kernel_rfl) (by kernel_rfl) (by kernel_rfl) (by kernel_rfl)
  exact (@den_local _ _ _ _ _ 0 (by kernel_rfl) (by kernel_rfl) (by kernel_rfl))
  refine' denB_val ?_ (fun uq1 => rfl)
  refine' den_attrW (C := 127) (a := none) ⟨#[105, 115, 95, 115, 105, 109, 112, 108, 101]⟩ (by kernel_rfl) ?_ (fun uq1 => rfl) (fun uq1 uq2 => rfl) (by kernel_rfl) (by kernel_rfl) (by kernel_rfl) (by kernel_rfl)
  exact (@den_local _ _ _ _ _ 1 (by kernel_rfl) (by kernel_rfl) (by kernel_rfl))
  refine' dss_cons ?_ ?_
  refine' ds_ret ?_
  refine' den_cmp opB_le ?_ ?_ (by decide) (by rfl)
  refine' den_attrW (C := 127) (a := none) ⟨#[110, 116]⟩ (by kernel_rfl) ?_ (fun uq1 => rfl) (fun uq1 uq2 => rfl) (by kernel_rfl) (by kernel_rfl) (by kernel_rfl) (by kernel_rfl)
  exact (@den_local _ _ _ _ _ 0 (by kernel_rfl) (by kernel_rfl) (by kernel_rfl))
  refine' den_attrW (C := 127) (a := none) ⟨#[110, 116]⟩ (by kernel_rfl) ?_ (fun uq1 => rfl) (fun uq1 uq2 => rfl) (by kernel_rfl) (by kernel_rfl) (by kernel_rfl) (by kernel_rfl)
  exact (@den_local _ _ _ _ _ 1 (by kernel_rfl) (by kernel_rfl) (by kernel_rfl))
  exact (@dss_nil _ _ _)
  exact (@dss_nil _ _ _)
  refine' dss_cons ?_ ?_
  refine' ds_assign ?_ ?_ (fun uq1 uq2 => rfl) (fun uq1 => rfl) (fun uq1 => rfl)
  refine' den_bin addop_ok ?_ ?_
  refine' den_call (fv := (PySem.Value.builtin "max")) ?_ ?_ ?_ ?_ (fun uq1 uq2 => rfl) (fun uq1 uq2 => rfl) ?_
  exact (@den_builtin _ _ _ _ _ ((PySem.Value.builtin "max")) (by kernel_rfl) (by kernel_rfl) (by kernel_rfl) (by decide +kernel) (by kernel_rfl))
  exact (@keeps_builtin _ _)
  refine' dens_cons ?_ ?_ (fun uq1 => rfl)
  refine' den_meth (fun uq1 => rfl) ?_ (getM_inst (C := 127) (f := 89) (by kernel_rfl) (by kernel_rfl) (by kernel_rfl)) ?_ ?_ ?_ (fun uq1 uq2 => rfl) (fun uq1 uq2 => rfl) ?_
  exact (@den_local _ _ _ _ _ 0 (by kernel_rfl) (by kernel_rfl) (by kernel_rfl))
  exact (@keeps_K' _ _ (by kernel_rfl))
  exact (@dens_nil _ _ _)
  exact (@dks_nil _ _ _)
  exact (@FnDen.le _ _ _ _ _ (Mini.L2.fd_89 _) (by decide))
  refine' dens_cons ?_ ?_ (fun uq1 => rfl)
  refine' den_meth (fun uq1 => rfl) ?_ (getM_inst (C := 127) (f := 89) (by kernel_rfl) (by kernel_rfl) (by kernel_rfl)) ?_ ?_ ?_ (fun uq1 uq2 => rfl) (fun uq1 uq2 => rfl) ?_
  exact (@den_local _ _ _ _ _ 1 (by kernel_rfl) (by kernel_rfl) (by kernel_rfl))
  exact (@keeps_K' _ _ (by kernel_rfl))
  exact (@dens_nil _ _ _)
  exact (@dks_nil _ _ _)
  exact (@FnDen.le _ _ _ _ _ (Mini.L2.fd_89 _) (by decide))
  exact (@dens_nil _ _ _)
  exact (@dks_nil _ _ _)
  exact (@den_max _ _)
  exact (@den_int _ _ _ _ _ _)
  exact (@asg_local _ _ _ _ _ 2 (by kernel_rfl) (by kernel_rfl))
  refine' dss_cons ?_ ?_
  refine' ds_for ?_ ?_ ?_ (fun uq1 uq2 => rfl)
  refine' den_iter ?_
  refine' den_call (fv := (PySem.Value.type "range")) ?_ ?_ ?_ ?_ (fun uq1 uq2 => rfl) (fun uq1 uq2 => rfl) ?_
  exact (@den_builtin _ _ _ _ _ ((PySem.Value.type "range")) (by kernel_rfl) (by kernel_rfl) (by kernel_rfl) (by decide +kernel) (by kernel_rfl))
  exact (@keeps_type _ _)
  refine' dens_cons ?_ ?_ (fun uq1 => rfl)
  exact (@den_int _ _ _ _ _ _)
  refine' dens_cons ?_ ?_ (fun uq1 => rfl)
  refine' den_bin addop_ok ?_ ?_
  exact (@den_local _ _ _ _ _ 2 (by kernel_rfl) (by kernel_rfl) (by kernel_rfl))
  exact (@den_int _ _ _ _ _ _)
  exact (@dens_nil _ _ _)
  exact (@dks_nil _ _ _)
  exact (@den_range _ _)
  exact (@asg_local _ _ _ _ _ 3 (by kernel_rfl) (by kernel_rfl))
  refine' dss_cons ?_ ?_
  refine' ds_if ?_ ?_ ?_
  refine' denB_cmp opB_ge ?_ ?_ (by decide) (by rfl)
  refine' den_meth (fun uq1 => rfl) ?_ (getM_inst (C := 127) (f := 96) (by kernel_rfl) (by kernel_rfl) (by kernel_rfl)) ?_ ?_ ?_ (fun uq1 uq2 => rfl) (fun uq1 uq2 => rfl) ?_
  exact (@den_local _ _ _ _ _ 0 (by kernel_rfl) (by kernel_rfl) (by kernel_rfl))
  exact (@keeps_K' _ _ (by kernel_rfl))
  refine' dens_cons ?_ ?_ (fun uq1 => rfl)
  exact (@den_local _ _ _ _ _ 3 (by kernel_rfl) (by kernel_rfl) (by kernel_rfl))
  exact (@dens_nil _ _ _)
  exact (@dks_nil _ _ _)
  exact (@FnDen.le _ _ _ _ _ (Mini.L2.fd_96 _) (by decide))
  refine' den_meth (fun uq1 => rfl) ?_ (getM_inst (C := 127) (f := 96) (by kernel_rfl) (by kernel_rfl) (by kernel_rfl)) ?_ ?_ ?_ (fun uq1 uq2 => rfl) (fun uq1 uq2 => rfl) ?_
  exact (@den_local _ _ _ _ _ 1 (by kernel_rfl) (by kernel_rfl) (by kernel_rfl))
  exact (@keeps_K' _ _ (by kernel_rfl))
  refine' dens_cons ?_ ?_ (fun uq1 => rfl)
  exact (@den_local _ _ _ _ _ 3 (by kernel_rfl) (by kernel_rfl) (by kernel_rfl))
  exact (@dens_nil _ _ _)
  exact (@dks_nil _ _ _)
  exact (@FnDen.le _ _ _ _ _ (Mini.L2.fd_96 _) (by decide))
  refine' dss_cons ?_ ?_
  refine' ds_ret ?_
  exact (@den_bool _ _ _ _ _ _)
  exact (@dss_nil _ _ _)
  exact (@dss_nil _ _ _)
  exact (@dss_nil _ _ _)
  refine' dss_cons ?_ ?_
  refine' ds_ret ?_
  exact (@den_bool _ _ _ _ _ _)
  exact (@dss_nil _ _ _)⟩
noncomputable def w_less_d (c : Cx) : St → Option (Fl × St) := (w_less_D c).1
theorem w_less_den (c : Cx) : DenSs c.G 24 w_less_sx w_less_body (w_less_d c) := (w_less_D c).2
noncomputable def w_less_f (c : Cx) : List MV → List (Str × MV) → MH → Option (MV × MH) := (fnD (fun xs ks H => (w_less_bnd xs ks).map fun r => (r, H)) w_less_m (w_less_d c))
theorem w_less_code (c : Cx) : FnC c.G 25 (.ref 117) (w_less_f c) := fn_code w_less_m (w_less_ok c) (w_less_bind c) (w_less_den c)
theorem fd_117 (c : Cx) : FnDen c.G 25 (.ref 117) (w_less_f c) := FnC.den (w_less_code c)
noncomputable def ahead_O : {o : Obj // lookO (Mini.hd2.heap_1 params0) 284 = some o} := ⟨_, rfl⟩
noncomputable def ahead_o : Obj := ahead_O.1
noncomputable def ahead_fd : FuncData := fdOf ahead_o
noncomputable def ahead_body : List Stmt := bodyOf ahead_fd
noncomputable def ahead_params : List Str := [Str.ofString "bands", Str.ofString "size"]
noncomputable def ahead_sx : Sx := ⟨ahead_fd.scope, [Str.ofString "bands", Str.ofString "size", Str.ofString "row", Str.ofString "found", Str.ofString "band", Str.ofString "columns", Str.ofString "column"], [Str.ofString "size", Str.ofString "row"], ahead_fd.code, ahead_fd.qualname ++ Str.ofString ".<locals>."⟩
noncomputable def ahead_CO : {o : Obj // lookO (Mini.hd2.heap_1 params0) 283 = some o} := ⟨_, rfl⟩
noncomputable def ahead_co : Obj := ahead_CO.1
noncomputable def ahead_ca : Nat := 283
noncomputable def ahead_m : Nat := 5
theorem ahead_ok (c : Cx) : FnOk c.G 284 ahead_fd ahead_body ahead_sx ahead_params :=
  ⟨⟨ahead_o, by kernel_rfl, by kernel_rfl⟩, ⟨ahead_ca, ahead_co, _, _, by kernel_rfl, by kernel_rfl, rfl, rfl⟩, by kernel_rfl, by kernel_rfl, by kernel_rfl, by kernel_rfl, by kernel_rfl, by kernel_rfl, by kernel_rfl, by kernel_rfl,
    by decide +kernel, by decide +kernel, by decide +kernel, by decide +kernel, by kernel_rfl, by kernel_rfl, by kernel_rfl, by decide +kernel⟩
noncomputable def ahead_bnd : List MV → List (Str × MV) → Option (List MV)
  | [b, z], [] => some [b, z]
  | _, _ => none
theorem ahead_bind (c : Cx) : BindD c.G ahead_fd ahead_params (fun xs ks H => (ahead_bnd xs ks).map fun r => (r, H)) := bind_peek fun v kv e => by
  unfold ahead_bnd at e
  split at e
  · cases e; cases kv
    cases v with | cons h0 v => ?_
    cases v with | cons h1 v => ?_
    cases v
    refine ⟨[_, _], fun S => by rfl, rfl, (.cons h0 (.cons h1 .nil))⟩
  · cases e
noncomputable def ahead_D (c : Cx) : {d : St → Option (Fl × St) // DenSs c.G 28 ahead_sx ahead_body d} := ⟨_, by
  refine' dss_cons ?_ ?_
  refine' ds_assign ?_ ?_ (fun uq1 uq2 => rfl) (fun uq1 => rfl) (fun uq1 => rfl)
  refine' den_list ?_
  exact (@dens_nil _ _ _)
  exact (@asg_cell _ _ _ _ _ 2 (by kernel_rfl) (by decide +kernel))
  refine' dss_cons ?_ ?_
  refine' ds_assign ?_ ?_ (fun uq1 uq2 => rfl) (fun uq1 => rfl) (fun uq1 => rfl)
  exact (@den_int _ _ _ _ _ _)
  exact (@asg_local _ _ _ _ _ 3 (by kernel_rfl) (by kernel_rfl))
  refine' dss_cons ?_ ?_
  refine' ds_for ?_ ?_ ?_ (fun uq1 uq2 => rfl)
  refine' den_iter ?_
  exact (@den_local _ _ _ _ _ 0 (by kernel_rfl) (by kernel_rfl) (by kernel_rfl))
  exact (@asg_local _ _ _ _ _ 4 (by kernel_rfl) (by kernel_rfl))
  refine' dss_cons ?_ ?_
  refine' ds_assign_comp (cap := [none, none, some 1]) 5 (by kernel_rfl) (by kernel_rfl) (fun env h => (swaps_scope (env' := dummyEnv _) h).trans (by kernel_rfl)) ?_ ?_ (fun uq1 uq2 => rfl) ?_
  exact ⟨by rfl, by decide +kernel, by decide +kernel, by decide +kernel, by decide +kernel, capChk_ok (by kernel_rfl)⟩
  refine' den_iter ?_
  exact (@den_local _ _ _ _ _ 4 (by kernel_rfl) (by kernel_rfl) (by kernel_rfl))
  refine' loop_j rfl (by intro g' h; first | (cases h; done) | (cases h; rfl)) ?_ ?_ ?_
  exact (@asg_local _ _ _ _ _ 1 (by kernel_rfl) (by kernel_rfl))
  exact (@ifs_nil _ _ _)
  refine' body_emit rfl ?_
  refine' den_meth (fun uq1 => rfl) ?_ (getM_inst (C := 127) (f := 96) (by kernel_rfl) (by kernel_rfl) (by kernel_rfl)) ?_ ?_ ?_ (fun uq1 uq2 => rfl) (fun uq1 uq2 => rfl) ?_
  exact (@den_local _ _ _ _ _ 1 (by kernel_rfl) (by kernel_rfl) (by kernel_rfl))
  exact (@keeps_K' _ _ (by kernel_rfl))
  refine' dens_cons ?_ ?_ (fun uq1 => rfl)
  exact (@den_cell _ _ _ _ _ 2 (by kernel_rfl) (Or.inl (by kernel_rfl)) (by kernel_rfl) (by kernel_rfl))
  exact (@dens_nil _ _ _)
  exact (@dks_nil _ _ _)
  exact (@FnDen.le _ _ _ _ _ (Mini.L2.fd_96 _) (by decide))
  refine' dss_cons ?_ ?_
  refine' ds_aug 3 (by kernel_rfl) (by kernel_rfl) ?_
  refine' den_call (fv := (PySem.Value.builtin "sum")) ?_ ?_ ?_ ?_ (fun uq1 uq2 => rfl) (fun uq1 uq2 => rfl) ?_
  exact (@den_builtin _ _ _ _ _ ((PySem.Value.builtin "sum")) (by kernel_rfl) (by kernel_rfl) (by kernel_rfl) (by decide +kernel) (by kernel_rfl))
  exact (@keeps_builtin _ _)
  refine' dens_cons ?_ ?_ (fun uq1 => rfl)
  refine' den_comp (cap := [none, none, none, some 2]) ?_ ?_ (fun uq1 uq2 => rfl) ?_
  exact ⟨by rfl, by decide +kernel, by decide +kernel, by decide +kernel, by decide +kernel, capChk_ok (by kernel_rfl)⟩
  refine' den_iter ?_
  exact (@den_local _ _ _ _ _ 5 (by kernel_rfl) (by kernel_rfl) (by kernel_rfl))
  refine' loop_j rfl (by intro g' h; first | (cases h; done) | (cases h; rfl)) ?_ ?_ ?_
  exact (@asg_local _ _ _ _ _ 1 (by kernel_rfl) (by kernel_rfl))
  exact (@ifs_nil _ _ _)
  refine' body_emit rfl ?_
  refine' den_call (fv := (PySem.Value.ref 65)) ?_ ?_ ?_ ?_ (fun uq1 uq2 => rfl) (fun uq1 uq2 => rfl) ?_
  exact (@den_glob _ _ _ _ _ ((PySem.Value.ref 65)) (by kernel_rfl) (by kernel_rfl) (by kernel_rfl))
  exact (@keeps_K' _ _ (by kernel_rfl))
  refine' dens_cons ?_ ?_ (fun uq1 => rfl)
  exact (@den_cell _ _ _ _ _ 3 (by kernel_rfl) (Or.inl (by kernel_rfl)) (by kernel_rfl) (by kernel_rfl))
  refine' dens_cons ?_ ?_ (fun uq1 => rfl)
  exact (@den_local _ _ _ _ _ 1 (by kernel_rfl) (by kernel_rfl) (by kernel_rfl))
  exact (@dens_nil _ _ _)
  exact (@dks_nil _ _ _)
  exact (@FnDen.le _ _ _ _ _ (Mini.L2.fd_65 _) (by decide))
  exact (@dens_nil _ _ _)
  exact (@dks_nil _ _ _)
  exact (@den_sum _ _)
  refine' dss_cons ?_ ?_
  refine' ds_for ?_ ?_ ?_ (fun uq1 uq2 => rfl)
  refine' den_iter ?_
  exact (@den_local _ _ _ _ _ 5 (by kernel_rfl) (by kernel_rfl) (by kernel_rfl))
  exact (@asg_local _ _ _ _ _ 6 (by kernel_rfl) (by kernel_rfl))
  refine' dss_cons ?_ ?_
  refine' ds_expr ?_ (fun uq1 => rfl)
  refine' den_call (fv := (PySem.Value.ref 47)) ?_ ?_ ?_ ?_ (fun uq1 uq2 => rfl) (fun uq1 uq2 => rfl) ?_
  exact (@den_glob _ _ _ _ _ ((PySem.Value.ref 47)) (by kernel_rfl) (by kernel_rfl) (by kernel_rfl))
  exact (@keeps_K' _ _ (by kernel_rfl))
  refine' dens_cons ?_ ?_ (fun uq1 => rfl)
  exact (@den_cell _ _ _ _ _ 2 (by kernel_rfl) (Or.inl (by kernel_rfl)) (by kernel_rfl) (by kernel_rfl))
  refine' dens_cons ?_ ?_ (fun uq1 => rfl)
  exact (@den_local _ _ _ _ _ 6 (by kernel_rfl) (by kernel_rfl) (by kernel_rfl))
  exact (@dens_nil _ _ _)
  exact (@dks_nil _ _ _)
  exact (@FnDen.le _ _ _ _ _ (Mini.L2.fd_47 _) (by decide))
  exact (@dss_nil _ _ _)
  exact (@dss_nil _ _ _)
  refine' dss_cons ?_ ?_
  refine' ds_ret ?_
  exact (@den_local _ _ _ _ _ 3 (by kernel_rfl) (by kernel_rfl) (by kernel_rfl))
  exact (@dss_nil _ _ _)⟩
noncomputable def ahead_d (c : Cx) : St → Option (Fl × St) := (ahead_D c).1
theorem ahead_den (c : Cx) : DenSs c.G 28 ahead_sx ahead_body (ahead_d c) := (ahead_D c).2
noncomputable def ahead_f (c : Cx) : List MV → List (Str × MV) → MH → Option (MV × MH) := (gcF (fnD (fun xs ks H => (ahead_bnd xs ks).map fun r => (r, H)) ahead_m (ahead_d c)))
theorem ahead_code (c : Cx) : FnC c.G 29 (.ref 284) (ahead_f c) := FnC.gc (fn_code ahead_m (ahead_ok c) (ahead_bind c) (ahead_den c))
theorem fd_284 (c : Cx) : FnDen c.G 29 (.ref 284) (ahead_f c) := FnC.den (ahead_code c)
end Mini.L2

open PySem PySem.W PySem.Calls PyProof.Rows
set_option maxRecDepth 100000
set_option maxHeartbeats 4000000
namespace Mini.L2
noncomputable section Q
noncomputable def bcond : St → Option (Bool × MH) := cmp2 (fun st => getv st 2) (fun st => getv st 3) (fun x y uq1 => ltop x y)
noncomputable def bbodyL (c : Cx) : St → Option (Fl × St) := seqS (asgS (seq2 (seq2 (fun st => getv st 2) (fun st => getv st 3) addop) (fun st => some (.int 2, st.H)) fdivop) (setv 5)) (seqS (ifS (cmp2 (seq2 (fun st => getv st 0) (fun st => getv st 5) (itemop c.G)) (fun st => getv st 1) (fun x y uq1 => ltop x y)) (seqS (asgS (seq2 (fun st => getv st 5) (fun st => some (.int 1, st.H)) addop) (setv 2)) nilS) (seqS (asgS (fun st => getv st 5) (setv 3)) nilS)) nilS)
noncomputable def stB (l : Nat) (x lo hi : Int) (m : Option MV) (H : MH) : St := ⟨[some (.ref l), some (.int x), some (.int lo), some (.int hi), some (.val .none), m], H⟩
theorem bcond_eq (l : Nat) (x lo hi : Int) (m : Option MV) (H : MH) : bcond (stB l x lo hi m H) = some (decide (lo < hi), H) := by rfl
theorem bbodyL_eq (c : Cx) (l : Nat) (x lo hi mid y : Int) (m : Option MV) (H : MH) (hm : (lo + hi).fdiv 2 = mid) (h : itemop c.G (.ref l) (.int mid) H = some (.int y, H)) :
    bbodyL c (stB l x lo hi m H) = some (.next, if y < x then stB l x (mid + 1) hi (some (.int mid)) H else stB l x lo mid (some (.int mid)) H) := by
  have e1 : asgS (seq2 (seq2 (fun st => getv st 2) (fun st => getv st 3) addop) (fun st => some (.int 2, st.H)) fdivop) (setv 5) (stB l x lo hi m H) = some (.next, stB l x lo hi (some (.int mid)) H) := by
    rw [← hm]; rfl
  have e2 : cmp2 (seq2 (fun st => getv st 0) (fun st => getv st 5) (itemop c.G)) (fun st => getv st 1) (fun x y uq1 => ltop x y) (stB l x lo hi (some (.int mid)) H) = some (decide (y < x), H) := by
    have e3 : seq2 (fun st => getv st 0) (fun st => getv st 5) (itemop c.G) (stB l x lo hi (some (.int mid)) H) = some (.int y, H) := h
    unfold cmp2
    rw [e3]; rfl
  unfold bbodyL seqS
  rw [e1]
  show Option.bind (ifS _ _ _ (stB l x lo hi (some (.int mid)) H)) _ = _
  unfold ifS
  rw [e2]
  by_cases hy : y < x
  · rw [if_pos hy, decide_eq_true hy]; rfl
  · rw [if_neg hy, decide_eq_false hy]; rfl
noncomputable def bbodyR (c : Cx) : St → Option (Fl × St) := seqS (asgS (seq2 (seq2 (fun st => getv st 2) (fun st => getv st 3) addop) (fun st => some (.int 2, st.H)) fdivop) (setv 5)) (seqS (ifS (cmp2 (fun st => getv st 1) (seq2 (fun st => getv st 0) (fun st => getv st 5) (itemop c.G)) (fun x y uq1 => ltop x y)) (seqS (asgS (fun st => getv st 5) (setv 3)) nilS) (seqS (asgS (seq2 (fun st => getv st 5) (fun st => some (.int 1, st.H)) addop) (setv 2)) nilS)) nilS)
theorem bbodyR_eq (c : Cx) (l : Nat) (x lo hi mid y : Int) (m : Option MV) (H : MH) (hm : (lo + hi).fdiv 2 = mid) (h : itemop c.G (.ref l) (.int mid) H = some (.int y, H)) :
    bbodyR c (stB l x lo hi m H) = some (.next, if ¬ x < y then stB l x (mid + 1) hi (some (.int mid)) H else stB l x lo mid (some (.int mid)) H) := by
  have e1 : asgS (seq2 (seq2 (fun st => getv st 2) (fun st => getv st 3) addop) (fun st => some (.int 2, st.H)) fdivop) (setv 5) (stB l x lo hi m H) = some (.next, stB l x lo hi (some (.int mid)) H) := by
    rw [← hm]; rfl
  have e2 : cmp2 (fun st => getv st 1) (seq2 (fun st => getv st 0) (fun st => getv st 5) (itemop c.G)) (fun x y uq1 => ltop x y) (stB l x lo hi (some (.int mid)) H) = some (decide (x < y), H) := by
    have e3 : seq2 (fun st => getv st 0) (fun st => getv st 5) (itemop c.G) (stB l x lo hi (some (.int mid)) H) = some (.int y, H) := h
    unfold cmp2
    show Option.bind (seq2 (fun st => getv st 0) (fun st => getv st 5) (itemop c.G) (stB l x lo hi (some (.int mid)) H)) _ = _
    rw [e3]; rfl
  unfold bbodyR seqS
  rw [e1]
  show Option.bind (ifS _ _ _ (stB l x lo hi (some (.int mid)) H)) _ = _
  unfold ifS
  rw [e2]
  by_cases hy : x < y
  · rw [if_neg (fun z => z hy), decide_eq_true hy]; rfl
  · rw [if_pos hy, decide_eq_false hy]; rfl
theorem loopG {b : St → Option (Fl × St)} {p : Int → Prop} [DecidablePred p] {l : Nat} {x : Int} {H : MH} {g : Nat → Int} {len : Nat}
    (hb : ∀ (lo hi mid : Nat) (m : Option MV), mid < len → (lo + hi) / 2 = mid → b (stB l x lo hi m H) = some (.next, if p (g mid) then stB l x ((mid + 1 : Nat) : Int) hi (some (.int mid)) H else stB l x lo mid (some (.int mid)) H))
    (mono : ∀ i j, i ≤ j → j < len → p (g j) → p (g i)) :
    ∀ (n lo hi : Nat) (m : Option MV), hi < n + lo → lo ≤ hi → hi ≤ len → (∀ i, i < lo → p (g i)) → (∀ i, hi ≤ i → i < len → ¬ p (g i)) →
      ∃ (r : Nat) (m' : Option MV), whileD bcond b n (stB l x lo hi m H) = some (.next, stB l x r r m' H) ∧ r ≤ len ∧ (∀ i, i < r → p (g i)) ∧ (∀ i, r ≤ i → i < len → ¬ p (g i)) := by
  intro n
  induction n with
  | zero => intro lo hi m h1 h2; omega
  | succ n ih =>
    intro lo hi m h1 h2 h3 h4 h5
    by_cases hlt : lo < hi
    · have hm : (lo + hi) / 2 < len := by omega
      have step : whileD bcond b (n + 1) (stB l x lo hi m H) = whileD bcond b n (if p (g ((lo + hi) / 2)) then stB l x (((lo + hi) / 2 + 1 : Nat) : Int) hi (some (.int ((lo + hi) / 2 : Nat))) H else stB l x lo ((lo + hi) / 2 : Nat) (some (.int ((lo + hi) / 2 : Nat))) H) := by
        show Option.bind (bcond (stB l x lo hi m H)) _ = _
        rw [bcond_eq, decide_eq_true (by omega)]
        show Option.bind (b (stB l x lo hi m H)) _ = _
        rw [hb lo hi _ m hm rfl]; rfl
      rw [step]
      by_cases hp : p (g ((lo + hi) / 2))
      · rw [if_pos hp]
        exact ih _ _ _ (by omega) (by omega) h3 (fun i hi' => mono i _ (by omega) hm hp) h5
      · rw [if_neg hp]
        exact ih _ _ _ (by omega) (by omega) (by omega) h4 fun i h6 h7 h8 => hp (mono _ i h6 h7 h8)
    · have : lo = hi := by omega
      subst this
      refine ⟨lo, m, ?_, h3, h4, h5⟩
      show Option.bind (bcond (stB l x lo lo m H)) _ = _
      rw [bcond_eq, decide_eq_false (by omega)]; rfl
theorem count_split {p : Int → Prop} [DecidablePred p] : ∀ (ns : List Int) (r : Nat), r ≤ ns.length → (∀ i, i < r → p (ns.getD i 0)) → (∀ i, r ≤ i → i < ns.length → ¬ p (ns.getD i 0)) → ns.countP (fun y => decide (p y)) = r ∧ ns.take r = ns.filter (fun y => decide (p y))
  | [], r, h, _, _ => by
    have : r = 0 := by simpa using h
    subst this; exact ⟨rfl, rfl⟩
  | a :: l, 0, h, h1, h2 => by
    have ha : ¬ p a := h2 0 (Nat.le_refl _) (by simp)
    obtain ⟨i1, i2⟩ := count_split l 0 (Nat.zero_le _) (fun i h => absurd h (Nat.not_lt_zero _)) fun i uq1 h => h2 (i + 1) (Nat.zero_le _) (by simpa using h)
    refine ⟨by rw [List.countP_cons, i1]; simp [ha], ?_⟩
    rw [List.filter_cons, if_neg (by simpa using ha)]
    exact i2
  | a :: l, r + 1, h, h1, h2 => by
    have ha : p a := h1 0 (Nat.succ_pos _)
    obtain ⟨i1, i2⟩ := count_split l r (by simpa using h) (fun i h => h1 (i + 1) (Nat.succ_lt_succ h)) fun i h3 h => h2 (i + 1) (Nat.succ_le_succ h3) (by simpa using h)
    refine ⟨by rw [List.countP_cons, i1]; simp [ha], ?_⟩
    rw [List.filter_cons, if_pos (by simpa using ha), List.take_succ_cons, i2]
theorem item_ints {c : Cx} {l : Nat} {ns : List Int} {H : MH} (h : H.get l = some (.list (ns.map .int))) {i : Nat} (hi : i < ns.length) (hn : ns.length ≤ 60) : itemop c.G (.ref l) (.int i) H = some (.int (ns.getD i 0), H) := by
  have L : listAt c.G (.ref l) H = some (ns.map .int) := by unfold listAt; dsimp only; rw [h]
  unfold itemop
  dsimp only
  rw [if_pos (by omega), L]
  show Option.map _ ((ns.map MV.int)[((i : Nat) : Int).toNat]?) = _
  rw [Int.toNat_natCast, List.getElem?_map, List.getElem?_eq_getElem hi, List.getD_eq_getElem?_getD, List.getElem?_eq_getElem hi]; rfl
theorem len_list {c : Cx} {l : Nat} {xs : List MV} {H : MH} (h : H.get l = some (.list xs)) (hn : xs.length ≤ 100000) : lenS c.G [.ref l] [] H = some (.int xs.length, H) := by
  have L : listAt c.G (.ref l) H = some xs := by unfold listAt; dsimp only; rw [h]
  unfold lenS
  dsimp only
  rw [L]
  dsimp only
  rw [if_pos hn]
noncomputable def bD1 : St → Option (Fl × St) := ifS (cmp2 (fun st => getv st 2) (fun st => some (.int 0, st.H)) (fun x y uq1 => ltop x y)) (seqS (fun uq1 => none) nilS) nilS
noncomputable def bLen (c : Cx) : St → Option (MV × MH) := fun st => ((fun st => (getv st 0).bind fun p => (some (([] : List MV), ({ vs := st.vs, H := p.2 } : St).H)).bind fun q => some (p.1 :: q.1, q.2)) st).bind fun p => (some (([] : List (Str × MV)), ({ vs := st.vs, H := p.2 } : St).H)).bind fun q => lenS c.G p.1 q.1 q.2
noncomputable def bD2 (c : Cx) : St → Option (Fl × St) := ifS (isNone 3) (seqS (asgS (bLen c) (setv 3)) nilS) nilS
noncomputable def bD5 : St → Option (Fl × St) := seqS (retS (fun st => getv st 2)) nilS
theorem bisl_d (c : Cx) : ∃ D4, bisect_left_d c = seqS bD1 (seqS (bD2 c) (seqS (ifS (isNone 4) (seqS (whileD bcond (bbodyL c) 64) nilS) D4) bD5)) := ⟨_, rfl⟩
theorem bisr_d (c : Cx) : ∃ D4, bisect_right_d c = seqS bD1 (seqS (bD2 c) (seqS (ifS (isNone 4) (seqS (whileD bcond (bbodyR c) 64) nilS) D4) bD5)) := ⟨_, rfl⟩
theorem bis_run {c : Cx} {d : St → Option (Fl × St)} {b : St → Option (Fl × St)} {D4 : St → Option (Fl × St)} (hd : d = seqS bD1 (seqS (bD2 c) (seqS (ifS (isNone 4) (seqS (whileD bcond b 64) nilS) D4) bD5)))
    {l : Nat} {ns : List Int} {x : Int} {H : MH} (h : H.get l = some (.list (ns.map .int))) (hn : ns.length ≤ 60) {hi : Option MV} (hhi : hi = some (.val .none) ∨ hi = some (.int ns.length)) {r : Nat} {m' : Option MV}
    (hw : whileD bcond b 64 (stB l x ((0 : Nat) : Int) ns.length none H) = some (.next, stB l x r r m' H)) :
    d ⟨[some (.ref l), some (.int x), some (.int 0), hi, some (.val .none), none], H⟩ = some (.ret (.int r), stB l x r r m' H) := by
  have e2 : bD2 c ⟨[some (.ref l), some (.int x), some (.int 0), hi, some (.val .none), none], H⟩ = some (.next, stB l x ((0 : Nat) : Int) ns.length none H) := by
    rcases hhi with rfl | rfl
    · have el : bLen c ⟨[some (.ref l), some (.int x), some (.int 0), some (.val .none), some (.val .none), none], H⟩ = some (.int ns.length, H) := by
        show Option.bind (some ([MV.ref l], H)) (fun p => (some (([] : List (Str × MV)), H)).bind fun q => lenS c.G [MV.ref l] [] H) = _
        rw [Option.bind_some, Option.bind_some, len_list h (by rw [List.length_map]; omega), List.length_map]
      show (ifS (isNone 3) (seqS (asgS (bLen c) (setv 3)) nilS) nilS ⟨[some (.ref l), some (.int x), some (.int 0), some (.val .none), some (.val .none), none], H⟩) = _
      unfold ifS
      show Option.bind (some (true, H)) _ = _
      rw [Option.bind_some, if_pos rfl]
      show seqS (asgS (bLen c) (setv 3)) nilS ⟨[some (.ref l), some (.int x), some (.int 0), some (.val .none), some (.val .none), none], H⟩ = _
      unfold seqS asgS
      rw [el]; rfl
    · rfl
  rw [hd]
  show Option.bind (bD1 ⟨[some (.ref l), some (.int x), some (.int 0), hi, some (.val .none), none], H⟩) _ = _
  have e1 : bD1 ⟨[some (.ref l), some (.int x), some (.int 0), hi, some (.val .none), none], H⟩ = some (.next, ⟨[some (.ref l), some (.int x), some (.int 0), hi, some (.val .none), none], H⟩) := by rfl
  rw [e1, Option.bind_some]
  show Option.bind (bD2 c ⟨[some (.ref l), some (.int x), some (.int 0), hi, some (.val .none), none], H⟩) _ = _
  rw [e2, Option.bind_some]
  show Option.bind (ifS (isNone 4) (seqS (whileD bcond b 64) nilS) D4 (stB l x ((0 : Nat) : Int) ns.length none H)) _ = _
  have e3 : ifS (isNone 4) (seqS (whileD bcond b 64) nilS) D4 (stB l x ((0 : Nat) : Int) ns.length none H) = some (.next, stB l x r r m' H) := by
    unfold ifS
    show Option.bind (some (true, H)) _ = _
    rw [Option.bind_some, if_pos rfl]
    show Option.bind (whileD bcond b 64 (stB l x ((0 : Nat) : Int) ns.length none H)) _ = _
    rw [hw]; rfl
  rw [e3]; rfl
theorem sorted_mono {p : Int → Prop} (hp : ∀ a b, a ≤ b → p b → p a) {ns : List Int} (hs : ns.Pairwise (· ≤ ·)) : ∀ i j, i ≤ j → j < ns.length → p (ns.getD j 0) → p (ns.getD i 0) := fun i j hij hj h => by
  rcases Nat.lt_or_eq_of_le hij with hlt | rfl
  · refine hp _ _ ?_ h
    have := List.pairwise_iff_getElem.mp hs i j (by omega) hj hlt
    rw [List.getD_eq_getElem?_getD, List.getD_eq_getElem?_getD, List.getElem?_eq_getElem hj, List.getElem?_eq_getElem (by omega : i < ns.length)]
    exact this
  · exact h
theorem fdiv_two (lo hi mid : Nat) (h : (lo + hi) / 2 = mid) : ((lo : Int) + (hi : Int)).fdiv 2 = (mid : Int) := by
  rw [← h, Int.fdiv_eq_ediv_of_nonneg _ (by omega)]; omega
theorem bisl {c : Cx} {l : Nat} {ns : List Int} {x : Int} {H : MH} (h : H.get l = some (.list (ns.map .int))) (hs : ns.Pairwise (· ≤ ·)) (hn : ns.length ≤ 60) :
    bisect_left_f c [.ref l, .int x] [] H = some (.int (ns.countP (fun y => decide (y < x)) : Nat), H) := by
  obtain ⟨D4, hd⟩ := bisl_d c
  obtain ⟨r, m', hw, h1, h2, h3⟩ := loopG (b := bbodyL c) (p := fun y => y < x) (l := l) (x := x) (H := H) (g := fun i => ns.getD i 0) (len := ns.length)
    (fun lo hi mid m hm hmid => bbodyL_eq c l x lo hi mid (ns.getD mid 0) m H (fdiv_two lo hi mid hmid) (item_ints h hm hn)) (sorted_mono (p := fun y => y < x) (fun a b hab hb => Int.lt_of_le_of_lt hab hb) hs) 64 0 ns.length none (by omega) (Nat.zero_le _) (Nat.le_refl _) (fun i hi => absurd hi (Nat.not_lt_zero _)) fun i hi hi' => by omega
  have hc := (count_split (p := fun y => y < x) ns r h1 h2 h3).1
  show Option.bind (bisect_left_d c ⟨[some (.ref l), some (.int x), some (.int 0), some (.val .none), some (.val .none), none], H⟩) retOf = _
  rw [bis_run hd h hn (.inl rfl) hw, hc]; rfl
theorem bisr {c : Cx} {l : Nat} {ns : List Int} {x : Int} {H : MH} (h : H.get l = some (.list (ns.map .int))) (hs : ns.Pairwise (· ≤ ·)) (hn : ns.length ≤ 60) {hi : MV} (hhi : hi = .val .none) :
    bisect_right_f c [.ref l, .int x, .int 0, hi] [] H = some (.int (ns.countP (fun y => decide (¬ x < y)) : Nat), H) := by
  subst hhi
  obtain ⟨D4, hd⟩ := bisr_d c
  obtain ⟨r, m', hw, h1, h2, h3⟩ := loopG (b := bbodyR c) (p := fun y => ¬ x < y) (l := l) (x := x) (H := H) (g := fun i => ns.getD i 0) (len := ns.length)
    (fun lo hi mid m hm hmid => bbodyR_eq c l x lo hi mid (ns.getD mid 0) m H (fdiv_two lo hi mid hmid) (item_ints h hm hn)) (sorted_mono (p := fun y => ¬ x < y) (fun a b hab hb hx => hb (Int.lt_of_lt_of_le hx hab)) hs) 64 0 ns.length none (by omega) (Nat.zero_le _) (Nat.le_refl _) (fun i hi => absurd hi (Nat.not_lt_zero _)) fun i hi hi' => by omega
  have hc := (count_split (p := fun y => ¬ x < y) ns r h1 h2 h3).1
  show Option.bind (bisect_right_d c ⟨[some (.ref l), some (.int x), some (.int 0), some (.val .none), some (.val .none), none], H⟩) retOf = _
  rw [bis_run hd h hn (.inl rfl) hw, hc]; rfl
end Q
end Mini.L2

open PySem PySem.W PySem.Calls PyProof.Rows
set_option maxRecDepth 100000
set_option maxHeartbeats 4000000
namespace Mini.L2
noncomputable section Q
noncomputable def stI (l : Nat) (x r : Int) (H : MH) : St := ⟨[some (.ref l), some (.int x), some (.int r), some (.val .none), some (.val .none)], H⟩
theorem ins_d (c : Cx) : ∃ F D4 F2, insort_right_d c = seqS (ifS (isNone 4) (seqS (asgS F (setv 2)) nilS) D4) (seqS (exprS F2) nilS) ∧ (∀ l x H, F (stI l x 0 H) = bisect_right_f c [.ref l, .int x, .int 0, .val .none] [] H) ∧
    (∀ l x r H, isListM (.ref l) H = true → F2 (stI l x r H) = insertF [.ref l, .int r, .int x] [] H) := ⟨_, _, _, rfl, fun uq1 uq2 uq3 => rfl, fun l x r H h => by
  show (if isListM (.ref l) H = true then _ else _) = _
  rw [if_pos h]; rfl⟩
noncomputable def insS (x : Int) (ns : List Int) : List Int := ns.filter (fun y => decide (¬ x < y)) ++ x :: ns.filter (fun y => decide (x < y))
theorem insS_perm (x : Int) (ns : List Int) : (insS x ns).Perm (x :: ns) := by
  unfold insS
  refine List.perm_middle.trans (List.Perm.cons x ?_)
  have : ns.filter (fun y => decide (x < y)) = ns.filter (fun y => !decide (¬ x < y)) := by congr 1; funext y; by_cases h : x < y <;> simp [h]
  rw [this]
  exact List.filter_append_perm _ ns
theorem insS_sorted {x : Int} {ns : List Int} (hs : ns.Pairwise (· ≤ ·)) : (insS x ns).Pairwise (· ≤ ·) := by
  unfold insS
  rw [List.pairwise_append]
  refine ⟨hs.filter _, ?_, ?_⟩
  · rw [List.pairwise_cons]
    refine ⟨fun y hy => ?_, hs.filter _⟩
    have := (List.mem_filter.mp hy).2
    simp at this; omega
  · intro a ha b hb
    have h1 := (List.mem_filter.mp ha).2
    rcases List.mem_cons.mp hb with rfl | hb
    · simp at h1; exact h1
    · have h2 := (List.mem_filter.mp hb).2
      simp at h1 h2; omega
theorem insort {c : Cx} {l : Nat} {ns : List Int} {x : Int} {H : MH} (h : H.get l = some (.list (ns.map .int))) (hs : ns.Pairwise (· ≤ ·)) (hn : ns.length ≤ 60) :
    insort_right_f c [.ref l, .int x] [] H = some (.val .none, H.set l (.list ((insS x ns).map .int))) := by
  obtain ⟨F, D4, F2, hd, hF, hF2⟩ := ins_d c
  obtain ⟨D5, hd'⟩ := bisr_d c
  have hb := bisr (x := x) h hs hn rfl (c := c)
  have hr : ns.take (ns.countP (fun y => decide (¬ x < y))) = ns.filter (fun y => decide (¬ x < y)) ∧ ns.drop (ns.countP (fun y => decide (¬ x < y))) = ns.filter (fun y => decide (x < y)) := by
    have key : ∀ ns : List Int, ns.Pairwise (· ≤ ·) → ns.take (ns.countP (fun y => decide (¬ x < y))) = ns.filter (fun y => decide (¬ x < y)) ∧ ns.drop (ns.countP (fun y => decide (¬ x < y))) = ns.filter (fun y => decide (x < y)) := by
      intro ns
      induction ns with
      | nil => intro _; exact ⟨rfl, rfl⟩
      | cons a r ih =>
        intro hp
        obtain ⟨h1, h2⟩ := List.pairwise_cons.mp hp
        obtain ⟨i1, i2⟩ := ih h2
        by_cases ha : x < a
        · have none : ∀ y ∈ r, x < y := fun y hy => Int.lt_of_lt_of_le ha (h1 y hy)
          have c0 : (a :: r).countP (fun y => decide (¬ x < y)) = 0 := by
            rw [List.countP_eq_zero]
            intro y hy
            rcases List.mem_cons.mp hy with rfl | hy
            · simpa using ha
            · simpa using none y hy
          rw [c0]
          refine ⟨?_, ?_⟩
          · rw [List.take_zero, eq_comm, List.filter_eq_nil_iff]
            intro y hy
            rcases List.mem_cons.mp hy with rfl | hy
            · simpa using ha
            · simpa using none y hy
          · rw [List.drop_zero, eq_comm, List.filter_eq_self]
            intro y hy
            rcases List.mem_cons.mp hy with rfl | hy
            · simpa using ha
            · simpa using none y hy
        · rw [List.countP_cons_of_pos (by simpa using ha), List.take_succ_cons, List.drop_succ_cons, i1, i2, List.filter_cons_of_pos (by simpa using ha), List.filter_cons_of_neg (by simpa using ha)]
          exact ⟨rfl, rfl⟩
    exact key ns hs
  have hi : insertF [.ref l, .int (ns.countP (fun y => decide (¬ x < y)) : Nat), .int x] [] H = some (.val .none, H.set l (.list ((insS x ns).map .int))) := by
    unfold insertF
    dsimp only
    rw [h]
    dsimp only
    have hc := List.countP_le_length (p := fun y => decide (¬ x < y)) (l := ns)
    rw [if_pos ⟨by rw [List.length_map]; omega, by omega, by omega⟩, Int.toNat_natCast, ← List.map_take, ← List.map_drop, hr.1, hr.2]
    unfold insS
    rw [List.map_append, List.map_cons]
  show Option.bind (insort_right_d c (stI l x 0 H)) retOf = _
  rw [hd]
  have e1 : ifS (isNone 4) (seqS (asgS F (setv 2)) nilS) D4 (stI l x 0 H) = some (.next, stI l x (ns.countP (fun y => decide (¬ x < y)) : Nat) H) := by
    unfold ifS
    show Option.bind (some (true, H)) _ = _
    rw [Option.bind_some, if_pos rfl]
    show seqS (asgS F (setv 2)) nilS (stI l x 0 H) = _
    unfold seqS asgS
    rw [hF, hb]; rfl
  have e2 : seqS (exprS F2) nilS (stI l x (ns.countP (fun y => decide (¬ x < y)) : Nat) H) = some (.next, ⟨(stI l x (ns.countP (fun y => decide (¬ x < y)) : Nat) H).vs, H.set l (.list ((insS x ns).map .int))⟩) := by
    unfold seqS exprS
    rw [hF2 _ _ _ _ (by unfold isListM; dsimp only; rw [h]), hi]; rfl
  show Option.bind (Option.bind (ifS (isNone 4) (seqS (asgS F (setv 2)) nilS) D4 (stI l x 0 H)) _) _ = _
  rw [e1, Option.bind_some]
  show Option.bind (seqS (exprS F2) nilS (stI l x (ns.countP (fun y => decide (¬ x < y)) : Nat) H)) _ = _
  rw [e2]; rfl
end Q
end Mini.L2

open PySem PySem.W PySem.Calls PyProof.Rows
set_option maxRecDepth 100000
set_option maxHeartbeats 4000000
namespace Mini.L2
noncomputable section Q
noncomputable def w_ind_Dx (c : Cx) : St → Option (Fl × St) := fun st => seqS (fun st => asgS (fun st => (getv st 0).bind fun p => attrOf 127 (Str.mk #[110, 111, 114, 109]) p.fst p.snd) (fun v st => asgTup 2 (fun vs st => asgCons (setv 2) (fun vs st => asgCons (setv 3) asgNil vs st) vs st) v st) st) (fun st => seqS (fun st => asgS (fun st => some (MV.int 0, st.H)) (setv 4) st) (fun st => seqS (fun st => forS (Expr.Name (Str.ofString "i") (Pos.mk 86 12 86 13)) (fun st => (((getv st 1).bind fun p => ((((getv (St.mk (st.vs) (p.snd)) 2).bind fun p_1 => (some ([], (St.mk ((St.mk (st.vs) (p.snd)).vs) (p_1.snd)).H)).bind fun q => some (p_1.fst :: q.fst, q.snd)).bind fun p_1 => (some ([], (St.mk ((St.mk (st.vs) (p.snd)).vs) (p_1.snd)).H)).bind fun q => lenS c.G p_1.fst q.fst q.snd).bind fun p_1 => (some ([], (St.mk ((St.mk (st.vs) (p.snd)).vs) (p_1.snd)).H)).bind fun q => some (p_1.fst :: q.fst, q.snd)).bind fun q => some (p.fst :: q.fst, q.snd)).bind fun p => (some ([], (St.mk (st.vs) (p.snd)).H)).bind fun q => rangeF p.fst q.fst q.snd).bind fun p => Option.map (fun src => (src, p.snd)) (iterOf p.fst p.snd)) (setv 5) (fun st => seqS (fun st => asgS (fun st => seq2 (fun st => getv st 4) (fun st => seq2 (fun st => seq2 (fun st => getv st 5) (fun st => getv st 1) fdivop st) (fun st => seq2 (fun st => getv st 2) (fun st => getv st 5) (itemop c.G) st) mulop st) addop st) (setv 4) st) nilS st) st) (fun st => seqS (fun st => retS (fun st => seq2 (fun st => getv st 3) (fun st => seq2 (fun st => getv st 1) (fun st => seq2 (fun st => getv st 4) (fun st => (getv st 0).bind fun p => attrOf 127 (Str.mk #[110, 116]) p.fst p.snd) addop st) mulop st) addop st) st) nilS st) st) st) st
theorem w_ind_Dx_eq (c : Cx) : w_ind_d c = w_ind_Dx c := by kernel_rfl
noncomputable def w_less_Dx (c : Cx) : St → Option (Fl × St) := fun st => seqS (fun st => ifS (fun st => cmp2 (fun st => (getv st 0).bind fun p => attrOf 127 (Str.mk #[110]) p.fst p.snd) (fun st => (getv st 1).bind fun p => attrOf 127 (Str.mk #[110]) p.fst p.snd) (fun x y x_1 => leop y x) st) (fun st => seqS (fun st => retS (fun st => some (bv false, st.H)) st) nilS st) nilS st) (fun st => seqS (fun st => ifS (fun st => (((getv st 0).bind fun p => attrOf 127 (Str.mk #[105, 115, 95, 115, 105, 109, 112, 108, 101]) p.fst p.snd).bind fun p => Option.map (fun c => (c, p.snd)) (truth p.fst p.snd)).bind fun p => if p.fst = true then ((getv (St.mk (st.vs) (p.snd)) 1).bind fun p => attrOf 127 (Str.mk #[105, 115, 95, 115, 105, 109, 112, 108, 101]) p.fst p.snd).bind fun p => Option.map (fun c => (c, p.snd)) (truth p.fst p.snd) else some (false, p.snd)) (fun st => seqS (fun st => retS (fun st => Option.map (fun p => (bv p.fst, p.snd)) (cmp2 (fun st => (getv st 0).bind fun p => attrOf 127 (Str.mk #[110, 116]) p.fst p.snd) (fun st => (getv st 1).bind fun p => attrOf 127 (Str.mk #[110, 116]) p.fst p.snd) (fun x y x_1 => leop x y) st)) st) nilS st) nilS st) (fun st => seqS (fun st => asgS (fun st => seq2 (fun st => (((getv st 0).bind fun r => if hasNo 127 (Str.ofString "longest_run_of_spaces") r.fst r.snd = true then (some ([], (St.mk (st.vs) (r.snd)).H)).bind fun p => (some ([], (St.mk (st.vs) (p.snd)).H)).bind fun q => w_long_f c (r.fst :: p.fst) q.fst q.snd else none).bind fun p => (((getv (St.mk (st.vs) (p.snd)) 1).bind fun r => if hasNo 127 (Str.ofString "longest_run_of_spaces") r.fst r.snd = true then (some ([], (St.mk ((St.mk (st.vs) (p.snd)).vs) (r.snd)).H)).bind fun p_1 => (some ([], (St.mk ((St.mk (st.vs) (p.snd)).vs) (p_1.snd)).H)).bind fun q => w_long_f c (r.fst :: p_1.fst) q.fst q.snd else none).bind fun p_1 => (some ([], (St.mk ((St.mk (st.vs) (p.snd)).vs) (p_1.snd)).H)).bind fun q => some (p_1.fst :: q.fst, q.snd)).bind fun q => some (p.fst :: q.fst, q.snd)).bind fun p => (some ([], (St.mk (st.vs) (p.snd)).H)).bind fun q => maxF p.fst q.fst q.snd) (fun st => some (MV.int 1, st.H)) addop st) (setv 2) st) (fun st => seqS (fun st => forS (Expr.Name (Str.ofString "ts") (Pos.mk 102 12 102 14)) (fun st => (((some (MV.int 2, st.H)).bind fun p => ((seq2 (fun st => getv st 2) (fun st => some (MV.int 1, st.H)) addop (St.mk (st.vs) (p.snd))).bind fun p_1 => (some ([], (St.mk ((St.mk (st.vs) (p.snd)).vs) (p_1.snd)).H)).bind fun q => some (p_1.fst :: q.fst, q.snd)).bind fun q => some (p.fst :: q.fst, q.snd)).bind fun p => (some ([], (St.mk (st.vs) (p.snd)).H)).bind fun q => rangeF p.fst q.fst q.snd).bind fun p => Option.map (fun src => (src, p.snd)) (iterOf p.fst p.snd)) (setv 3) (fun st => seqS (fun st => ifS (fun st => cmp2 (fun st => (getv st 0).bind fun r => if hasNo 127 (Str.ofString "indent_level") r.fst r.snd = true then ((getv (St.mk (st.vs) (r.snd)) 3).bind fun p => (some ([], (St.mk ((St.mk (st.vs) (r.snd)).vs) (p.snd)).H)).bind fun q => some (p.fst :: q.fst, q.snd)).bind fun p => (some ([], (St.mk (st.vs) (p.snd)).H)).bind fun q => w_ind_f c (r.fst :: p.fst) q.fst q.snd else none) (fun st => (getv st 1).bind fun r => if hasNo 127 (Str.ofString "indent_level") r.fst r.snd = true then ((getv (St.mk (st.vs) (r.snd)) 3).bind fun p => (some ([], (St.mk ((St.mk (st.vs) (r.snd)).vs) (p.snd)).H)).bind fun q => some (p.fst :: q.fst, q.snd)).bind fun p => (some ([], (St.mk (st.vs) (p.snd)).H)).bind fun q => w_ind_f c (r.fst :: p.fst) q.fst q.snd else none) (fun x y x_1 => leop y x) st) (fun st => seqS (fun st => retS (fun st => some (bv false, st.H)) st) nilS st) nilS st) nilS st) st) (fun st => seqS (fun st => retS (fun st => some (bv true, st.H)) st) nilS st) st) st) st) st
theorem w_less_Dx_eq (c : Cx) : w_less_d c = w_less_Dx c := by kernel_rfl
set_option genSizeOf false in
set_option genInjectivity false in
structure WO where
  l : Nat
  d : Nat
  tp : Nat
  ct : Nat
  es : List (Str × MV)
  cnt : List MV
  t : Int
  b : Int
set_option genSizeOf false in
set_option genInjectivity false in
structure WO.At (o : WO) (H : MH) : Prop where
  hl : H.get o.l = some (.inst 127 o.d)
  hd : H.get o.d = some (.ns o.es)
  hn : getS o.es ⟨#[110, 111, 114, 109]⟩ = some (.ref o.tp)
  ht : getS o.es ⟨#[110, 116]⟩ = some (.int o.t)
  hs : getS o.es ⟨#[110]⟩ = some (.int (o.t + o.b))
  hq : getS o.es ⟨#[105, 115, 95, 115, 105, 109, 112, 108, 101]⟩ = some (bv true)
  htp : H.get o.tp = some (.tup [.ref o.ct, .int o.b])
  hct : H.get o.ct = some (.tup o.cnt)
  hlen : o.cnt.length ≤ 1
  no1 : getS o.es (Str.ofString "indent_level") = none
  no2 : getS o.es (Str.ofString "less") = none
  rt : 0 ≤ o.t ∧ o.t ≤ 2
  rb : 0 ≤ o.b ∧ o.b ≤ 6
theorem WO.At.attr {o : WO} {H : MH} (A : o.At H) {name : Str} {v : MV} (h : getS o.es name = some v) (hb : ∀ id, v ≠ .val (.builtin id)) (ht : ∀ id, v ≠ .val (.type id)) : attrOf 127 name (.ref o.l) H = some (v, H) := by
  unfold attrOf instOf
  dsimp only
  rw [A.hl]
  dsimp only
  rw [if_pos rfl, A.hd]
  dsimp only
  rw [Option.bind_some, h]
  split
  · rename_i e; cases e; exact absurd rfl (hb _)
  · rename_i e; cases e; exact absurd rfl (ht _)
  · rename_i e; cases e; rfl
  · rename_i e; cases e
theorem get_push_lt {H : MH} {l : Nat} {o : MO} (h : l < H.n) : (H.push o).get l = H.get l := by rw [MH.get_push, if_neg (Nat.ne_of_lt h)]
theorem WO.At.push {o : WO} {H : MH} {x : MO} (A : o.At H) (h1 : o.l < H.n) (h2 : o.d < H.n) (h3 : o.tp < H.n) (h4 : o.ct < H.n) : o.At (H.push x) :=
  ⟨by rw [get_push_lt h1]; exact A.hl, by rw [get_push_lt h2]; exact A.hd, A.hn, A.ht, A.hs, A.hq, by rw [get_push_lt h3]; exact A.htp, by rw [get_push_lt h4]; exact A.hct, A.hlen, A.no1, A.no2, A.rt, A.rb⟩
theorem ind {c : Cx} {o : WO} {H : MH} {z : Int} (A : o.At H) (h1 : o.l < H.n) (h2 : o.d < H.n) (h3 : o.tp < H.n) (h4 : o.ct < H.n) (hz : 1 ≤ z ∧ z ≤ 1000) :
    w_ind_f c [.ref o.l, .int z] [] H = some (.int (o.b + z * o.t), H.push (.range z o.cnt.length)) := by
  have a1 : attrOf 127 (Str.mk #[110, 111, 114, 109]) (.ref o.l) H = some (.ref o.tp, H) := A.attr A.hn (fun uq1 e => by cases e) (fun uq1 e => by cases e)
  have t1 : tupAt (.ref o.tp) H = some [.ref o.ct, .int o.b] := by unfold tupAt; dsimp only; rw [A.htp]
  have L : listAt c.G (.ref o.ct) H = none := by unfold listAt; dsimp only; rw [A.hct]
  have t2 : tupAt (.ref o.ct) H = some o.cnt := by unfold tupAt; dsimp only; rw [A.hct]
  have l1 : lenS c.G [.ref o.ct] [] H = some (.int o.cnt.length, H) := by
    unfold lenS; dsimp only; rw [L]; dsimp only; rw [t2]; dsimp only; rw [if_pos (by have := A.hlen; omega)]
  have hs1 : small z = true := by unfold small; simp only [Bool.and_eq_true, decide_eq_true_eq]; omega
  have hs2 : small (o.cnt.length : Int) = true := by unfold small; simp only [Bool.and_eq_true, decide_eq_true_eq]; have := A.hlen; omega
  have hs3 : small o.t = true := by unfold small; simp only [Bool.and_eq_true, decide_eq_true_eq]; have := A.rt; omega
  have r1 : rangeF [.int z, .int o.cnt.length] [] H = some (.ref H.n, H.push (.range z o.cnt.length)) := by
    unfold rangeF; dsimp only; rw [hs1, hs2]; rfl
  have i1 : iterOf (.ref H.n) (H.push (.range z o.cnt.length)) = some (.range z 0) := by
    unfold iterOf
    dsimp only
    rw [MH.get_push, if_pos rfl]
    dsimp only
    have := A.hlen
    rw [if_pos (by omega)]
    have : ((o.cnt.length : Int) - z).toNat = 0 := by omega
    rw [this]
  have a2 : attrOf 127 (Str.mk #[110, 116]) (.ref o.l) (H.push (.range z o.cnt.length)) = some (.int o.t, H.push (.range z o.cnt.length)) := (A.push h1 h2 h3 h4).attr A.ht (fun uq1 e => by cases e) (fun uq1 e => by cases e)
  show Option.bind (w_ind_d c ⟨[some (.ref o.l), some (.int z), none, none, none, none], H⟩) retOf = _
  rw [w_ind_Dx_eq]
  unfold w_ind_Dx
  simp [seqS, asgS, getv, nthV_eq, a1, asgTup, t1, asgCons, setv_eq, asgNil, l1, r1, i1, forS, forD, Src.okT, Src.fuel, Src.next, retS, seq2, a2, addop, mulop, hs1, hs3, retOf, nilS]
theorem less {c : Cx} {x y : WO} {H : MH} (X : x.At H) (Y : y.At H) (ht : x.t ≤ y.t) :
    w_less_f c [.ref x.l, .ref y.l] [] H = some (bv (decide (x.t + x.b < y.t + y.b)), H) := by
  have a1 : attrOf 127 (Str.mk #[110]) (.ref x.l) H = some (.int (x.t + x.b), H) := X.attr X.hs (fun uq1 e => by cases e) (fun uq1 e => by cases e)
  have a2 : attrOf 127 (Str.mk #[110]) (.ref y.l) H = some (.int (y.t + y.b), H) := Y.attr Y.hs (fun uq1 e => by cases e) (fun uq1 e => by cases e)
  have a3 : attrOf 127 (Str.mk #[110, 116]) (.ref x.l) H = some (.int x.t, H) := X.attr X.ht (fun uq1 e => by cases e) (fun uq1 e => by cases e)
  have a4 : attrOf 127 (Str.mk #[110, 116]) (.ref y.l) H = some (.int y.t, H) := Y.attr Y.ht (fun uq1 e => by cases e) (fun uq1 e => by cases e)
  have a5 : attrOf 127 (Str.mk #[105, 115, 95, 115, 105, 109, 112, 108, 101]) (.ref x.l) H = some (bv true, H) := X.attr X.hq (fun uq1 e => by cases e) (fun uq1 e => by cases e)
  have a6 : attrOf 127 (Str.mk #[105, 115, 95, 115, 105, 109, 112, 108, 101]) (.ref y.l) H = some (bv true, H) := Y.attr Y.hq (fun uq1 e => by cases e) (fun uq1 e => by cases e)
  have tr : truth (bv true) H = some true := by rfl
  show Option.bind (w_less_d c ⟨[some (.ref x.l), some (.ref y.l), none, none], H⟩) retOf = _
  rw [w_less_Dx_eq]
  unfold w_less_Dx
  by_cases h : y.t + y.b ≤ x.t + x.b
  · simp [seqS, ifS, cmp2, getv, nthV_eq, a1, a2, leop, h, retS, retOf]
    exact congrArg bv (decide_eq_false (by omega)).symm
  · simp [seqS, ifS, cmp2, getv, nthV_eq, a1, a2, a3, a4, a5, a6, leop, h, retS, retOf, nilS, tr, ht]
    exact congrArg bv (decide_eq_true (by omega)).symm
end Q
end Mini.L2

open PySem PySem.W PySem.Calls PyProof.Rows
set_option maxRecDepth 100000
set_option maxHeartbeats 4000000
namespace Mini.L2
noncomputable section Q
noncomputable def iter_ (i : Nat) : St → Option (Src × MH) := fun st => (getv st i).bind fun p => Option.map (fun src => (src, p.2)) (iterOf p.1 p.2)
noncomputable def nilL (st : St) : Option (List MV × MH) := some ([], st.H)
noncomputable def a1 (d : St → Option (MV × MH)) : St → Option (List MV × MH) := fun st => (d st).bind fun p => (some ([], (St.mk st.vs p.2).H)).bind fun q => some (p.1 :: q.1, q.2)
noncomputable def a2 (d e : St → Option (MV × MH)) : St → Option (List MV × MH) := fun st => (d st).bind fun p => ((e (St.mk st.vs p.2)).bind fun p1 => (some ([], (St.mk (St.mk st.vs p.2).vs p1.2).H)).bind fun q => some (p1.1 :: q.1, q.2)).bind fun q => some (p.1 :: q.1, q.2)
noncomputable def callF (ds : St → Option (List MV × MH)) (f : List MV → List (Str × MV) → MH → Option (MV × MH)) : St → Option (MV × MH) := fun st => (ds st).bind fun p => (some (([] : List (Str × MV)), (St.mk st.vs p.2).H)).bind fun q => f p.1 q.1 q.2
noncomputable def ahDe1 (c : Cx) : St → Option (MV × MH) := fun st => (getv st 1).bind fun r => if hasNo 127 (Str.ofString "indent_level") r.1 r.2 = true then ((getv (St.mk st.vs r.2) 2).bind fun p => (some (([] : List MV), (St.mk (St.mk st.vs r.2).vs p.2).H)).bind fun q => some (p.1 :: q.1, q.2)).bind fun p => (some (([] : List (Str × MV)), (St.mk st.vs p.2).H)).bind fun q => w_ind_f c (r.1 :: p.1) q.1 q.2 else none
noncomputable def ahDe2 (c : Cx) : St → Option (MV × MH) := callF (a2 (fun st => getv st 3) (fun st => getv st 1)) (bisect_left_f c)
noncomputable def tt (st : St) : Option (Bool × MH) := some (true, st.H)
noncomputable def ahT1 : Expr := Expr.Name (Str.ofString "lead") (Pos.mk 209 47 209 51)
noncomputable def ahT2 : Expr := Expr.Name (Str.ofString "column") (Pos.mk 210 51 210 57)
noncomputable def ahT3 : Expr := Expr.Name (Str.ofString "column") (Pos.mk 211 12 211 18)
noncomputable def ahT4 : Expr := Expr.Name (Str.ofString "band") (Pos.mk 208 8 208 12)
noncomputable def ahC (c : Cx) : St → Option (Fl × St) := asgCompS (compD [none, none, some 1] ahT1 (iter_ 4) (setv 1) tt (emitD (ahDe1 c))) 5
noncomputable def ahA (c : Cx) : St → Option (Fl × St) := augS 3 (callF (a1 (compD [none, none, none, some 2] ahT2 (iter_ 5) (setv 1) tt (emitD (ahDe2 c)))) sumF)
noncomputable def ahE (c : Cx) : St → Option (Fl × St) := seqS (exprS (callF (a2 (fun st => getv st 2) (fun st => getv st 6)) (insort_right_f c))) nilS
noncomputable def ahB (c : Cx) : St → Option (Fl × St) := seqS (ahC c) (seqS (ahA c) (seqS (forS ahT3 (iter_ 5) (setv 6) (ahE c)) nilS))
noncomputable def ahX (c : Cx) : St → Option (Fl × St) := seqS (asgS (fun st => (some (([] : List MV), st.H)).bind fun p => if p.1.length ≤ 100000 then some (MV.ref p.2.n, p.2.push (MO.list p.1)) else none) (setv 2)) (seqS (asgS (fun st => some (MV.int 0, st.H)) (setv 3)) (seqS (forS ahT4 (iter_ 0) (setv 4) (ahB c)) (seqS (retS fun st => getv st 3) nilS)))
theorem ahead_eq (c : Cx) : ahead_d c = ahX c := by kernel_rfl
noncomputable def WO.In (o : WO) (n : Nat) : Prop := o.l < n ∧ o.d < n ∧ o.tp < n ∧ o.ct < n
theorem WO.At.kp {o : WO} {H H' : MH} (A : o.At H) (i : o.In H.n) (k : Kp H H') : o.At H' :=
  ⟨(k.2 _ i.1).trans A.hl, (k.2 _ i.2.1).trans A.hd, A.hn, A.ht, A.hs, A.hq, (k.2 _ i.2.2.1).trans A.htp, (k.2 _ i.2.2.2).trans A.hct, A.hlen, A.no1, A.no2, A.rt, A.rb⟩
theorem WO.In.kp {o : WO} {H H' : MH} (i : o.In H.n) (k : Kp H H') : o.In H'.n := ⟨Nat.lt_of_lt_of_le i.1 k.1, Nat.lt_of_lt_of_le i.2.1 k.1, Nat.lt_of_lt_of_le i.2.2.1 k.1, Nat.lt_of_lt_of_le i.2.2.2 k.1⟩
theorem WO.At.hasNo {o : WO} {H : MH} (A : o.At H) {name : Str} (h : getS o.es name = none) : hasNo 127 name (.ref o.l) H = true := by
  unfold Mini.hasNo instOf
  dsimp only
  rw [A.hl]
  dsimp only
  rw [if_pos rfl, A.hd]
  dsimp only
  rw [h]; rfl
set_option genSizeOf false in
set_option genInjectivity false in
structure Bands (H : MH) (lb : Nat) (bs : List (Nat × List WO)) : Prop where
  hb : H.get lb = some (.list (bs.map fun p => .ref p.1))
  lt : lb < H.n
  each : ∀ p ∈ bs, p.1 < H.n ∧ H.get p.1 = some (.list (p.2.map fun o => .ref o.l)) ∧ p.2.length ≤ 10 ∧ ∀ o ∈ p.2, o.At H ∧ o.In H.n
  len : bs.length ≤ 5
noncomputable def cols (z : Int) (ws : List WO) : List Int := ws.map fun o => o.b + z * o.t
noncomputable def cntR (r : List Int) (cs : List Int) : Int := (cs.map fun x => ((r.countP (fun y => decide (y < x)) : Nat) : Int)).sum
noncomputable def ahF (z : Int) : List (List WO) → List Int × Int → List Int × Int
  | [], p => p
  | ws :: rest, p => ahF z rest ((cols z ws).foldl (fun r x => insS x r) p.1, p.2 + cntR p.1 (cols z ws))
theorem iter_list {i a : Nat} {vs : List (Option MV)} {xs : List MV} {H : MH} (hv : getv ⟨vs, H⟩ i = some (.ref a, H)) (h : H.get a = some (.list xs)) : iter_ i ⟨vs, H⟩ = some (.list a 0, H) := by
  unfold iter_
  rw [hv, Option.bind_some]
  unfold iterOf
  dsimp only
  rw [h]; rfl
theorem ahC_ok {c : Cx} {lb rw a : Nat} {z f : Int} {cl cm : Option MV} {H : MH} {ws : List WO} (ha : a < H.n) (hg : H.get a = some (.list (ws.map fun o => .ref o.l))) (hw : ws.length ≤ 10) (he : ∀ o ∈ ws, o.At H ∧ o.In H.n) (hz : 1 ≤ z ∧ z ≤ 1000) :
    ∃ H', ahC c ⟨[some (.ref lb), some (.int z), some (.ref rw), some (.int f), some (.ref a), cl, cm], H⟩ = some (.next, ⟨[some (.ref lb), some (.int z), some (.ref rw), some (.int f), some (.ref a), some (.ref H.n), cm], H'⟩) ∧ Kp H H' ∧ H.n < H'.n ∧ H'.get H.n = some (.list ((cols z ws).map .int)) := by
  obtain ⟨H', e, k, hn, hl⟩ := compD_list (cap := [none, none, some 1]) (t := ahT1) (di := iter_ 4) (f := setv 1) (ti := tt) (de := ahDe1 c) (P := fun vs => ∃ u w, vs = [u, w, some (.int z)]) (H0 := H) (H1 := H) (l := a) (xs := ws) (φ := fun o => .ref o.l) (q := fun uq1 => true) (g := fun o => .int (o.b + z * o.t))
    (vs := [some (.ref lb), some (.int z), some (.ref rw), some (.int f), some (.ref a), cl, cm]) (iter_list rfl hg) .refl (by rfl) ⟨_, _, rfl⟩
    (fun o ho vs H1 ⟨u, w, hvs⟩ k1 => by
      subst hvs
      obtain ⟨A, i⟩ := he o ho
      have A1 := A.kp i k1
      have i1 := i.kp k1
      refine ⟨[u, some (.ref o.l), some (.int z)], H1, rfl, ⟨_, _, rfl⟩, rfl, .refl, fun uq1 => ⟨H1.push (.range z o.cnt.length), ?_, Kp.push⟩⟩
      show (if hasNo 127 (Str.ofString "indent_level") (.ref o.l) H1 = true then _ else none) = _
      rw [if_pos (A1.hasNo A1.no1)]
      exact ind A1 i1.1 i1.2.1 i1.2.2.1 i1.2.2.2 hz)
    hg ha (by omega)
  refine ⟨H', ?_, k, hn, ?_⟩
  · unfold ahC asgCompS
    rw [e]; rfl
  · rw [hl, List.filter_eq_self.mpr (fun uq1 uq2 => rfl)]
    unfold cols
    rw [List.map_map]; rfl
theorem intsOf_map (ns : List Int) : intsOf (ns.map .int) = some ns := by
  induction ns with
  | nil => rfl
  | cons a r ih => show (intsOf (r.map .int)).map _ = _; rw [ih]; rfl
theorem ahA_ok {c : Cx} {lb rw a cl : Nat} {z f : Int} {cm : Option MV} {H : MH} {row cs : List Int} (hr : H.get rw = some (.list (row.map .int))) (hrn : rw < H.n) (hs : row.Pairwise (· ≤ ·)) (hrl : row.length ≤ 60)
    (hc : H.get cl = some (.list (cs.map .int))) (hcn : cl < H.n) (hcl : cs.length ≤ 10) :
    ∃ H', ahA c ⟨[some (.ref lb), some (.int z), some (.ref rw), some (.int f), some (.ref a), some (.ref cl), cm], H⟩ = some (.next, ⟨[some (.ref lb), some (.int z), some (.ref rw), some (.int (f + cntR row cs)), some (.ref a), some (.ref cl), cm], H'⟩) ∧ Kp H H' := by
  obtain ⟨H', e, k, hn, hl⟩ := compD_list (cap := [none, none, none, some 2]) (t := ahT2) (di := iter_ 5) (f := setv 1) (ti := tt) (de := ahDe2 c) (P := fun vs => ∃ u v w, vs = [u, v, w, some (.ref rw)]) (H0 := H) (H1 := H) (l := cl) (xs := cs) (φ := .int) (q := fun uq1 => true) (g := fun x => .int ((row.countP (fun y => decide (y < x)) : Nat) : Int))
    (vs := [some (.ref lb), some (.int z), some (.ref rw), some (.int f), some (.ref a), some (.ref cl), cm]) (iter_list rfl hc) .refl (by rfl) ⟨_, _, _, rfl⟩
    (fun x uq1 vs H1 ⟨u, v, w, hvs⟩ k1 => by
      subst hvs
      exact ⟨[u, some (.int x), w, some (.ref rw)], H1, rfl, ⟨_, _, _, rfl⟩, rfl, .refl, fun uq1 => ⟨H1, bisl ((k1.2 rw hrn).trans hr) hs hrl, .refl⟩⟩)
    hc hcn (by omega)
  refine ⟨H', ?_, k⟩
  have es : sumF [.ref H.n] [] H' = some (.int (cntR row cs), H') := by
    unfold sumF
    dsimp only
    rw [hl, List.filter_eq_self.mpr (fun uq1 uq2 => rfl)]
    dsimp only
    have : cs.map (fun x => MV.int ((row.countP (fun y => decide (y < x)) : Nat) : Int)) = (cs.map fun x => ((row.countP (fun y => decide (y < x)) : Nat) : Int)).map .int := by rw [List.map_map]; rfl
    rw [this, intsOf_map]; rfl
  have ec : callF (a1 (compD [none, none, none, some 2] ahT2 (iter_ 5) (setv 1) tt (emitD (ahDe2 c)))) sumF ⟨[some (.ref lb), some (.int z), some (.ref rw), some (.int f), some (.ref a), some (.ref cl), cm], H⟩ = some (.int (cntR row cs), H') := by
    unfold callF a1
    rw [e]
    exact es
  unfold ahA augS
  show Option.bind (callF (a1 (compD [none, none, none, some 2] ahT2 (iter_ 5) (setv 1) tt (emitD (ahDe2 c)))) sumF ⟨[some (.ref lb), some (.int z), some (.ref rw), some (.int f), some (.ref a), some (.ref cl), cm], H⟩) _ = _
  rw [ec]; rfl
theorem foldl_ins {cs : List Int} : ∀ {row : List Int}, row.Pairwise (· ≤ ·) → (cs.foldl (fun r x => insS x r) row).Pairwise (· ≤ ·) ∧ (cs.foldl (fun r x => insS x r) row).length = row.length + cs.length := by
  induction cs with
  | nil => intro row h; exact ⟨h, rfl⟩
  | cons x cs ih =>
    intro row h
    obtain ⟨i1, i2⟩ := ih (insS_sorted (x := x) h)
    refine ⟨i1, ?_⟩
    rw [List.foldl_cons, i2, (insS_perm x row).length_eq, List.length_cons, List.length_cons]; omega
theorem ahE_ok {c : Cx} {lb rw a cl : Nat} {z f : Int} {cm : Option MV} {H0 H : MH} {row cs : List Int} (hrw : H0.n ≤ rw) (hr : H.get rw = some (.list (row.map .int))) (hrn : rw < H.n) (hs : row.Pairwise (· ≤ ·))
    (hc : H.get cl = some (.list (cs.map .int))) (hcn : cl < H.n) (hne : cl ≠ rw) (hcl : row.length + cs.length ≤ 60) (k0 : Kp H0 H) :
    ∃ cm' H', forS ahT3 (iter_ 5) (setv 6) (ahE c) ⟨[some (.ref lb), some (.int z), some (.ref rw), some (.int f), some (.ref a), some (.ref cl), cm], H⟩ = some (.next, ⟨[some (.ref lb), some (.int z), some (.ref rw), some (.int f), some (.ref a), some (.ref cl), cm'], H'⟩) ∧ Kp H0 H' ∧ H.n ≤ H'.n ∧
      H'.get rw = some (.list ((cs.foldl (fun r x => insS x r) row).map .int)) := by
  obtain ⟨st', e, cm', H', rfl, h1, h2, h3, h4⟩ := forS_list (t := ahT3) (di := iter_ 5) (f := setv 6) (d := ahE c) (st := ⟨[some (.ref lb), some (.int z), some (.ref rw), some (.int f), some (.ref a), some (.ref cl), cm], H⟩) (st1 := ⟨[some (.ref lb), some (.int z), some (.ref rw), some (.int f), some (.ref a), some (.ref cl), cm], H⟩) (l := cl) (xs := cs.map .int)
    (R := fun i st => ∃ cm' H', st = ⟨[some (.ref lb), some (.int z), some (.ref rw), some (.int f), some (.ref a), some (.ref cl), cm'], H'⟩ ∧ Kp H0 H' ∧ H.n ≤ H'.n ∧ H'.get rw = some (.list (((cs.take i).foldl (fun r x => insS x r) row).map .int)) ∧ H'.get cl = some (.list (cs.map .int)))
    (iter_list rfl hc) rfl (by rfl) (fun i st ⟨cm', H', e, uq1, uq2, uq3, h⟩ => by rw [e]; exact h) ⟨cm, H, rfl, k0, Nat.le_refl _, hr, hc⟩
    (fun i hi st ⟨cm', H', e, k, hn, h1, h2⟩ => by
      subst e
      rw [List.length_map] at hi
      obtain ⟨p1, p2⟩ := foldl_ins (cs := cs.take i) hs
      have ei := insort (c := c) (x := cs[i]) h1 p1 (by rw [p2, List.length_take]; omega)
      refine ⟨⟨[some (.ref lb), some (.int z), some (.ref rw), some (.int f), some (.ref a), some (.ref cl), some (.int cs[i])], H'.set rw (.list ((insS cs[i] ((cs.take i).foldl (fun r x => insS x r) row)).map .int))⟩, ?_, some (.int cs[i]), _, rfl, k.set hrw, hn, ?_, ?_⟩
      · rw [List.getElem_map]
        show Option.bind (exprS (callF (a2 (fun st => getv st 2) (fun st => getv st 6)) (insort_right_f c)) ⟨[some (.ref lb), some (.int z), some (.ref rw), some (.int f), some (.ref a), some (.ref cl), some (.int cs[i])], H'⟩) _ = _
        have ee : callF (a2 (fun st => getv st 2) (fun st => getv st 6)) (insort_right_f c) ⟨[some (.ref lb), some (.int z), some (.ref rw), some (.int f), some (.ref a), some (.ref cl), some (.int cs[i])], H'⟩ = some (.val .none, H'.set rw (.list ((insS cs[i] ((cs.take i).foldl (fun r x => insS x r) row)).map .int))) := ei
        unfold exprS
        rw [ee]; rfl
      · rw [get_set_self h1, List.take_succ_eq_append_getElem hi, List.foldl_append]; rfl
      · rw [get_set_ne hne]; exact h2)
  refine ⟨cm', H', e, h1, h2, ?_⟩
  rw [h3, List.length_map, List.take_length]
theorem ahF_append (z : Int) : ∀ (a b : List (List WO)) (p : List Int × Int), ahF z (a ++ b) p = ahF z b (ahF z a p)
  | [], _, _ => rfl
  | _ :: r, b, p => ahF_append z r b _
theorem ahF_row (z : Int) : ∀ (a : List (List WO)) (p : List Int × Int), p.1.Pairwise (· ≤ ·) → (ahF z a p).1.Pairwise (· ≤ ·) ∧ (ahF z a p).1.length = p.1.length + (a.map List.length).sum
  | [], _, h => ⟨h, rfl⟩
  | ws :: r, p, h => by
    obtain ⟨h1, h2⟩ := foldl_ins (cs := cols z ws) h
    obtain ⟨i1, i2⟩ := ahF_row z r ((cols z ws).foldl (fun r x => insS x r) p.1, p.2 + cntR p.1 (cols z ws)) h1
    refine ⟨i1, ?_⟩
    show (ahF z r _).1.length = _
    rw [i2, h2, List.map_cons, List.sum_cons]
    unfold cols
    rw [List.length_map]; omega
theorem sum_take_le {bs : List (Nat × List WO)} (h : ∀ p ∈ bs, p.2.length ≤ 10) : ∀ i, (((bs.take i).map (·.2)).map List.length).sum ≤ 10 * bs.length := by
  induction bs with
  | nil => intro i; simp
  | cons p r ih =>
    intro i
    cases i with
    | zero => simp
    | succ i =>
      have h1 := h p (List.mem_cons_self ..)
      have h2 := ih (fun q hq => h q (List.mem_cons_of_mem _ hq)) i
      simp only [List.take_succ_cons, List.map_cons, List.sum_cons, List.length_cons] at h2 ⊢
      omega
theorem ahead_d_ok {c : Cx} {lb : Nat} {bs : List (Nat × List WO)} {z : Int} {H : MH} (B : Bands H lb bs) (hz : 1 ≤ z ∧ z ≤ 1000) :
    ∃ st', ahead_d c ⟨[some (.ref lb), some (.int z), none, none, none, none, none], H⟩ = some (.ret (.int (ahF z (bs.map (·.2)) ([], 0)).2), st') ∧ Kp H st'.H := by
  rw [ahead_eq]
  have e0 : asgS (fun st => (some (([] : List MV), st.H)).bind fun p => if p.1.length ≤ 100000 then some (MV.ref p.2.n, p.2.push (MO.list p.1)) else none) (setv 2) ⟨[some (.ref lb), some (.int z), none, none, none, none, none], H⟩ = some (.next, ⟨[some (.ref lb), some (.int z), some (.ref H.n), none, none, none, none], H.push (.list [])⟩) := by rfl
  obtain ⟨st', e, bd, cl, cm, H', rfl, k, hrn, hr⟩ := forS_list (t := ahT4) (di := iter_ 0) (f := setv 4) (d := ahB c) (st := ⟨[some (.ref lb), some (.int z), some (.ref H.n), some (.int 0), none, none, none], H.push (.list [])⟩) (st1 := ⟨[some (.ref lb), some (.int z), some (.ref H.n), some (.int 0), none, none, none], H.push (.list [])⟩) (l := lb) (xs := bs.map fun p => .ref p.1)
    (R := fun i st => ∃ bd cl cm H', st = ⟨[some (.ref lb), some (.int z), some (.ref H.n), some (.int (ahF z ((bs.take i).map (·.2)) ([], 0)).2), bd, cl, cm], H'⟩ ∧ Kp H H' ∧ H.n < H'.n ∧ H'.get H.n = some (.list ((ahF z ((bs.take i).map (·.2)) ([], 0)).1.map .int)))
    (iter_list rfl ((Kp.push.2 lb B.lt).trans B.hb)) rfl (by rfl) (fun i st ⟨uq1, uq2, uq3, H', e, k, uq4, uq5⟩ => by rw [e]; exact (k.2 lb B.lt).trans B.hb)
    ⟨none, none, none, _, rfl, Kp.push, Nat.lt_succ_self _, get_push_self⟩
    (fun i hi st ⟨bd, cl, cm, H', e, k, hrn, hr⟩ => by
      subst e
      rw [List.length_map] at hi
      obtain ⟨b1, b2, b3, b4⟩ := B.each bs[i] (List.getElem_mem hi)
      obtain ⟨r1, r2⟩ := ahF_row z ((bs.take i).map (·.2)) ([], 0) List.Pairwise.nil
      have hsum := sum_take_le (fun p hp => (B.each p hp).2.2.1) i
      have hlen := B.len
      have r3 : (ahF z ((bs.take i).map (·.2)) ([], 0)).1.length ≤ 50 := by rw [r2]; simp only [List.length_nil]; omega
      rw [List.getElem_map]
      obtain ⟨H1, e1, k1, n1, g1⟩ := ahC_ok (c := c) (lb := lb) (rw := H.n) (f := (ahF z ((bs.take i).map (·.2)) ([], 0)).2) (cl := cl) (cm := cm) (Nat.lt_of_lt_of_le b1 k.1) ((k.2 _ b1).trans b2) b3 (fun o ho => ⟨(b4 o ho).1.kp (b4 o ho).2 k, (b4 o ho).2.kp k⟩) hz
      have hcl : (cols z bs[i].2).length ≤ 10 := by unfold cols; rw [List.length_map]; exact b3
      obtain ⟨H2, e2, k2⟩ := ahA_ok (c := c) (lb := lb) (a := bs[i].1) (z := z) (f := (ahF z ((bs.take i).map (·.2)) ([], 0)).2) (cm := cm) ((k1.2 _ hrn).trans hr) (Nat.lt_of_lt_of_le hrn k1.1) r1 (by omega) g1 n1 hcl
      obtain ⟨cm', H3, e3, k3, n3, g3⟩ := ahE_ok (c := c) (lb := lb) (a := bs[i].1) (z := z) (f := (ahF z ((bs.take i).map (·.2)) ([], 0)).2 + cntR (ahF z ((bs.take i).map (·.2)) ([], 0)).1 (cols z bs[i].2)) (cm := cm) (H0 := H) (Nat.le_refl _) ((k2.2 _ (Nat.lt_of_lt_of_le hrn k1.1)).trans ((k1.2 _ hrn).trans hr)) (Nat.lt_of_lt_of_le hrn (k1.trans k2).1) r1
        ((k2.2 _ n1).trans g1) (Nat.lt_of_lt_of_le n1 k2.1) (Nat.ne_of_gt hrn) (by omega) (k.trans (k1.trans k2))
      have hF : ahF z ((bs.take (i + 1)).map (·.2)) ([], 0) = ((cols z bs[i].2).foldl (fun r x => insS x r) (ahF z ((bs.take i).map (·.2)) ([], 0)).1, (ahF z ((bs.take i).map (·.2)) ([], 0)).2 + cntR (ahF z ((bs.take i).map (·.2)) ([], 0)).1 (cols z bs[i].2)) := by
        rw [List.take_succ_eq_append_getElem hi, List.map_append, ahF_append]; rfl
      refine ⟨⟨[some (.ref lb), some (.int z), some (.ref H.n), some (.int (ahF z ((bs.take (i + 1)).map (·.2)) ([], 0)).2), some (.ref bs[i].1), some (.ref H'.n), cm'], H3⟩, ?_, _, _, _, _, rfl, k3, ?_, ?_⟩
      · show Option.bind (ahC c ⟨[some (.ref lb), some (.int z), some (.ref H.n), some (.int (ahF z ((bs.take i).map (·.2)) ([], 0)).2), some (.ref bs[i].1), cl, cm], H'⟩) _ = _
        rw [e1, Option.bind_some]
        show Option.bind (ahA c ⟨[some (.ref lb), some (.int z), some (.ref H.n), some (.int (ahF z ((bs.take i).map (·.2)) ([], 0)).2), some (.ref bs[i].1), some (.ref H'.n), cm], H1⟩) _ = _
        rw [e2, Option.bind_some]
        show Option.bind (forS ahT3 (iter_ 5) (setv 6) (ahE c) ⟨[some (.ref lb), some (.int z), some (.ref H.n), some (.int ((ahF z ((bs.take i).map (·.2)) ([], 0)).2 + cntR (ahF z ((bs.take i).map (·.2)) ([], 0)).1 (cols z bs[i].2))), some (.ref bs[i].1), some (.ref H'.n), cm], H2⟩) _ = _
        rw [e3, hF]; rfl
      · exact Nat.lt_of_lt_of_le hrn (Nat.le_trans k1.1 (Nat.le_trans k2.1 n3))
      · rw [hF]; exact g3)
  refine ⟨⟨[some (.ref lb), some (.int z), some (.ref H.n), some (.int (ahF z (bs.map (·.2)) ([], 0)).2), bd, cl, cm], H'⟩, ?_, k⟩
  unfold ahX
  show Option.bind (asgS _ _ _) _ = _
  rw [e0, Option.bind_some]
  show Option.bind (forS ahT4 (iter_ 0) (setv 4) (ahB c) ⟨[some (.ref lb), some (.int z), some (.ref H.n), some (.int 0), none, none, none], H.push (.list [])⟩) _ = _
  rw [e, Option.bind_some, List.length_map, List.take_length]
  rfl
end Q
end Mini.L2

open PySem PySem.W PySem.Calls PyProof.Rows
set_option maxRecDepth 100000
set_option maxHeartbeats 4000000
namespace Mini.L2
noncomputable section Q
noncomputable def wiB (c : Cx) : St → Option (Fl × St) := (fun st => seqS (fun st => ifS (fun st => cmp2 (fun st => getv st 8) (fun st => getv st 2) eqop st) (fun st => seqS (fun st => asgS (fun st => seq2 (fun st => getv st 6) (fun st => some (MV.int 1, st.H)) addop st) (setv 6) st) (fun st => seqS (fun st => asgS (fun st => seq2 (fun st => getv st 5) (fun st => some (MV.int 1, st.H)) addop st) (setv 5) st) nilS st) st) (fun st => seqS (fun st => ifS (fun st => cmp2 (fun st => getv st 8) (fun st => getv st 3) eqop st) (fun st => seqS (fun st => asgS (fun st => seq2 (fun st => getv st 6) (fun st => some (MV.int 1, st.H)) addop st) (setv 6) st) (fun st => seqS (fun st => asgS (fun st => seq2 (fun st => getv st 7) (fun st => some (MV.int 1, st.H)) addop st) (setv 7) st) (fun st => seqS (fun st => ifS (fun st => cmp2 (fun st => getv st 5) (fun st => ((getv st 4).bind fun p => (some ([], (St.mk (st.vs) (p.snd)).H)).bind fun q => some (p.fst :: q.fst, q.snd)).bind fun p => (some ([], (St.mk (st.vs) (p.snd)).H)).bind fun q => lenS c.G p.fst q.fst q.snd) (fun x y x_1 => leop y x) st) (fun st => seqS (fun st => asgS (fun st => seq2 (fun st => getv st 4) (fun st => seq2 (fun st => ((some (MV.int 0, st.H)).bind fun p => (some ([], (St.mk (st.vs) (p.snd)).H)).bind fun q => some (p.fst :: q.fst, q.snd)).bind fun p => if p.fst.length ≤ 100000 then some (MV.ref p.snd.n, p.snd.push (MO.list p.fst)) else none) (fun st => seq2 (fun st => seq2 (fun st => getv st 5) (fun st => ((getv st 4).bind fun p => (some ([], (St.mk (st.vs) (p.snd)).H)).bind fun q => some (p.fst :: q.fst, q.snd)).bind fun p => (some ([], (St.mk (st.vs) (p.snd)).H)).bind fun q => lenS c.G p.fst q.fst q.snd) subop st) (fun st => some (MV.int 1, st.H)) addop st) mulop st) addop st) (setv 4) st) nilS st) nilS st) (fun st => seqS (fun st => asgS (fun st => seq2 (fun st => seq2 (fun st => getv st 4) (fun st => getv st 5) (itemop c.G) st) (fun st => some (MV.int 1, st.H)) addop st) (fun v st => (getv st 4).bind fun p => (getv (St.mk (st.vs) (p.snd)) 5).bind fun q => Option.map (fun H => (St.mk (st.vs) (H))) (itemSet p.fst q.fst v q.snd)) st) (fun st => seqS (fun st => asgS (fun st => some (MV.int 0, st.H)) (setv 5) st) nilS st) st) st) st) st) (fun st => seqS (fun st => some (Fl.brk, st)) nilS st) st) nilS st) st) nilS st)
noncomputable def wiX (c : Cx) : St → Option (Fl × St) := fun st => seqS (fun st => asgS (fun st => getv st 1) (fun v st => (getv st 0).bind fun p => Option.map (fun H => (St.mk (st.vs) (H))) (attrSet 127 (Str.mk #[114, 97, 119]) p.fst v p.snd)) st) (fun st => seqS (fun st => swap2S 2 3 (fun st => (((some (MV.val (Value.ref 127), st.H)).bind fun p => if p.fst = MV.val (Value.ref 127) then some (MV.str (Str.ofString " "), p.snd) else none).bind fun p => (((some (MV.val (Value.ref 127), (St.mk (st.vs) (p.snd)).H)).bind fun p => if p.fst = MV.val (Value.ref 127) then some (MV.str (Str.ofString "\t"), p.snd) else none).bind fun p_1 => (some ([], (St.mk ((St.mk (st.vs) (p.snd)).vs) (p_1.snd)).H)).bind fun q => some (p_1.fst :: q.fst, q.snd)).bind fun q => some (p.fst :: q.fst, q.snd)).bind fun p => if p.fst.length ≤ 100000 then some (MV.ref p.snd.n, p.snd.push (MO.tup p.fst)) else none) st) (fun st => seqS (fun st => asgS (fun st => (some ([], st.H)).bind fun p => if p.fst.length ≤ 100000 then some (MV.ref p.snd.n, p.snd.push (MO.list p.fst)) else none) (setv 4) st) (fun st => seqS (fun st => asg3S (fun st => some (MV.int 0, st.H)) (setv 5) (setv 6) (setv 7) st) (fun st => seqS (fun st => forS (Expr.Name (Str.ofString "ch") (Pos.mk 61 12 61 14)) (fun st => ((getv st 0).bind fun p => attrOf 127 (Str.mk #[114, 97, 119]) p.fst p.snd).bind fun p => Option.map (fun src => (src, p.snd)) (iterOf p.fst p.snd)) (setv 8) (wiB c) st) (fun st => seqS (fun st => asgS (fun st => getv st 6) (fun v st => (getv st 0).bind fun p => Option.map (fun H => (St.mk (st.vs) (H))) (attrSet 127 (Str.mk #[110]) p.fst v p.snd)) st) (fun st => seqS (fun st => asgS (fun st => getv st 7) (fun v st => (getv st 0).bind fun p => Option.map (fun H => (St.mk (st.vs) (H))) (attrSet 127 (Str.mk #[110, 116]) p.fst v p.snd)) st) (fun st => seqS (fun st => asgS (fun st => ((((getv st 4).bind fun p => (some ([], (St.mk (st.vs) (p.snd)).H)).bind fun q => some (p.fst :: q.fst, q.snd)).bind fun p => (some ([], (St.mk (st.vs) (p.snd)).H)).bind fun q => tupleF p.fst q.fst q.snd).bind fun p => ((getv (St.mk (st.vs) (p.snd)) 5).bind fun p_1 => (some ([], (St.mk ((St.mk (st.vs) (p.snd)).vs) (p_1.snd)).H)).bind fun q => some (p_1.fst :: q.fst, q.snd)).bind fun q => some (p.fst :: q.fst, q.snd)).bind fun p => if p.fst.length ≤ 100000 then some (MV.ref p.snd.n, p.snd.push (MO.tup p.fst)) else none) (fun v st => (getv st 0).bind fun p => Option.map (fun H => (St.mk (st.vs) (H))) (attrSet 127 (Str.mk #[110, 111, 114, 109]) p.fst v p.snd)) st) (fun st => seqS (fun st => asgS (fun st => Option.map (fun p => (bv p.fst, p.snd)) (cmp2 (fun st => ((getv st 4).bind fun p => (some ([], (St.mk (st.vs) (p.snd)).H)).bind fun q => some (p.fst :: q.fst, q.snd)).bind fun p => (some ([], (St.mk (st.vs) (p.snd)).H)).bind fun q => lenS c.G p.fst q.fst q.snd) (fun st => some (MV.int 1, st.H)) (fun x y x_1 => leop x y) st)) (fun v st => (getv st 0).bind fun p => Option.map (fun H => (St.mk (st.vs) (H))) (attrSet 127 (Str.mk #[105, 115, 95, 115, 105, 109, 112, 108, 101]) p.fst v p.snd)) st) nilS st) st) st) st) st) st) st) st) st
theorem w_init_eq (c : Cx) : w_init_d c = wiX c := by kernel_rfl
theorem addop_int (a b : Int) (H : MH) : addop (.int a) (.int b) H = some (.int (a + b), H) := rfl
theorem subop_int (a b : Int) (H : MH) : subop (.int a) (.int b) H = some (.int (a - b), H) := rfl
noncomputable abbrev stW (me lc : Nat) (x : Str) (b n nt : Int) (ch : Option MV) (H : MH) : St := ⟨[some (.ref me), some (.str x), some (.str ⟨#[32]⟩), some (.str ⟨#[9]⟩), some (.ref lc), some (.int b), some (.int n), some (.int nt), ch], H⟩
theorem wi_space (c : Cx) (me lc : Nat) (x : Str) (b n nt : Int) (H : MH) : wiB c (stW me lc x b n nt (some (.str ⟨#[32]⟩)) H) = some (.next, stW me lc x (b + 1) (n + 1) nt (some (.str ⟨#[32]⟩)) H) := by
  have e : streq ⟨#[32]⟩ ⟨#[32]⟩ = true := by rfl
  unfold wiB
  simp [seqS, ifS, cmp2, getv, nthV_eq, eqop, e, asgS, seq2, addop, setv_eq, nilS, stW]
theorem item0 {c : Cx} {l : Nat} {H : MH} {x : MV} (h : H.get l = some (.list [x])) : itemop c.G (.ref l) (.int 0) H = some (x, H) := by
  have L : listAt c.G (.ref l) H = some [x] := by unfold listAt; dsimp only; rw [h]
  unfold itemop
  dsimp only
  rw [if_pos (by decide), L]; rfl
theorem itemSet0 {l : Nat} {H : MH} {x v : MV} (h : H.get l = some (.list [x])) : itemSet (.ref l) (.int 0) v H = some (H.set l (.list [v])) := by
  unfold itemSet
  simp only [h]
  rfl
theorem wi_tab1 (c : Cx) (me lc : Nat) (x : Str) (n nt : Int) (H : MH) (h : H.get lc = some (.list [])) (hl : lc < H.n) :
    ∃ H', wiB c (stW me lc x 0 n nt (some (.str ⟨#[9]⟩)) H) = some (.next, stW me (H.n + 1 + 1) x 0 (n + 1) (nt + 1) (some (.str ⟨#[9]⟩)) H') ∧ Kp H H' ∧ H'.n = H.n + 1 + 1 + 1 ∧ H'.get (H.n + 1 + 1) = some (.list [.int 1]) := by
  have e : streq ⟨#[9]⟩ ⟨#[32]⟩ = false := by rfl
  have e2 : streq ⟨#[9]⟩ ⟨#[9]⟩ = true := by rfl
  have l1 : lenS c.G [.ref lc] [] H = some (.int 0, H) := len_list h (by decide)
  have l2 : lenS c.G [.ref lc] [] (H.push (.list [.int 0])) = some (.int 0, H.push (.list [.int 0])) := len_list ((Kp.push.2 _ hl).trans h) (by decide)
  have m1 : mulop (.ref H.n) (.int 1) (H.push (.list [.int 0])) = some (.ref (H.n + 1), (H.push (.list [.int 0])).push (.list [.int 0])) := by
    unfold mulop
    simp only [get_push_self]
    have hs : small 1 = true := by decide +kernel
    rw [hs]; rfl
  have ad : addop (.ref lc) (.ref (H.n + 1)) ((H.push (.list [.int 0])).push (.list [.int 0])) = some (.ref (H.n + 1 + 1), ((H.push (.list [.int 0])).push (.list [.int 0])).push (.list [.int 0])) := by
    have g1 : ((H.push (.list [.int 0])).push (.list [.int 0])).get lc = some (.list []) := ((Kp.push.trans Kp.push).2 _ hl).trans h
    have g2 : ((H.push (.list [.int 0])).push (.list [.int 0])).get (H.n + 1) = some (.list [.int 0]) := get_push_self
    unfold addop
    simp only [g1, g2]
    rfl
  have g3 : (((H.push (.list [.int 0])).push (.list [.int 0])).push (.list [.int 0])).get (H.n + 1 + 1) = some (.list [.int 0]) := get_push_self
  have i1 := item0 (c := c) g3
  have s1 := itemSet0 (v := .int 1) g3
  refine ⟨(((H.push (.list [.int 0])).push (.list [.int 0])).push (.list [.int 0])).set (H.n + 1 + 1) (.list [.int 1]), ?_, ((Kp.push.trans Kp.push).trans Kp.push).set (by omega), rfl, get_set_self g3⟩
  unfold wiB
  simp [seqS, ifS, cmp2, getv, nthV_eq, eqop, e, e2, asgS, seq2, addop_int, subop_int, setv_eq, nilS, stW, l1, leop, l2, m1, ad, i1, s1]
theorem wi_tab2 (c : Cx) (me lc : Nat) (x : Str) (n nt k : Int) (H : MH) (h : H.get lc = some (.list [.int k])) :
    wiB c (stW me lc x 0 n nt (some (.str ⟨#[9]⟩)) H) = some (.next, stW me lc x 0 (n + 1) (nt + 1) (some (.str ⟨#[9]⟩)) (H.set lc (.list [.int (k + 1)]))) := by
  have e : streq ⟨#[9]⟩ ⟨#[32]⟩ = false := by rfl
  have e2 : streq ⟨#[9]⟩ ⟨#[9]⟩ = true := by rfl
  have l1 : lenS c.G [.ref lc] [] H = some (.int 1, H) := len_list h (by show 1 ≤ 100000; decide)
  have i1 := item0 (c := c) h
  have s1 := itemSet0 (v := .int (k + 1)) h
  unfold wiB
  simp [seqS, ifS, cmp2, getv, nthV_eq, eqop, e, e2, asgS, seq2, addop_int, subop_int, setv_eq, nilS, stW, l1, leop, i1, s1]
noncomputable def leadL (t b : Nat) : List Nat := List.replicate t 9 ++ List.replicate b 32
noncomputable def leadT (t b : Nat) : Str := ⟨(leadL t b).toArray⟩
theorem next_str {x : Str} {i ch : Nat} {H : MH} (h : x.cps[i]? = some ch) : (Src.str x i).next H = some (some (.str ⟨#[ch]⟩, .str x (i + 1), H)) := by
  unfold Src.next; simp only [h]
theorem next_str_end {x : Str} {i : Nat} {H : MH} (h : x.cps[i]? = none) : (Src.str x i).next H = some none := by
  unfold Src.next; simp only [h]
noncomputable abbrev wiF (c : Cx) : MV → St → Option (Fl × St) := fun v st => (setv 8 v st).bind (wiB c)
theorem wi_blanks (c : Cx) (me lc : Nat) (X x : Str) (nt : Int) (H : MH) : ∀ (k i : Nat) (b n : Int) (ch : Option MV), (∀ j, j < k → x.cps[i + j]? = some 32) → x.cps[i + k]? = none →
    ∃ ch', forD (wiF c) (k + 1) (.str x i) (stW me lc X b n nt ch H) = some (.next, stW me lc X (b + k) (n + k) nt ch' H) := by
  intro k
  induction k with
  | zero =>
    intro i b n ch _ he
    refine ⟨ch, ?_⟩
    rw [forD, next_str_end (show x.cps[i]? = none from he)]
    simp
  | succ k ih =>
    intro i b n ch hj he
    obtain ⟨ch', e⟩ := ih (i + 1) (b + 1) (n + 1) (some (.str ⟨#[32]⟩)) (fun j h => by rw [Nat.add_right_comm]; exact hj (j + 1) (by omega)) (by rw [← he]; congr 1; omega)
    refine ⟨ch', ?_⟩
    rw [forD, next_str (show x.cps[i]? = some 32 from hj 0 (Nat.succ_pos _)), Option.bind_some]
    show Option.bind (wiB c (stW me lc X b n nt (some (.str ⟨#[32]⟩)) H)) _ = _
    rw [wi_space, Option.bind_some]
    show forD (wiF c) (k + 1) (.str x (i + 1)) (stW me lc X (b + 1) (n + 1) nt (some (.str ⟨#[32]⟩)) H) = _
    rw [e]
    have h1 : b + 1 + (k : Int) = b + ((k + 1 : Nat) : Int) := by omega
    have h2 : n + 1 + (k : Int) = n + ((k + 1 : Nat) : Int) := by omega
    rw [h1, h2]
theorem lead_tab {t b i : Nat} (h : i < t) : (leadT t b).cps[i]? = some 9 := by
  show (leadL t b).toArray[i]? = _
  rw [List.getElem?_toArray]
  unfold leadL
  rw [List.getElem?_append_left (by rw [List.length_replicate]; exact h), List.getElem?_replicate, if_pos h]
theorem lead_blank {t b j : Nat} (h : j < b) : (leadT t b).cps[t + j]? = some 32 := by
  show (leadL t b).toArray[t + j]? = _
  rw [List.getElem?_toArray]
  unfold leadL
  rw [List.getElem?_append_right (by rw [List.length_replicate]; omega), List.length_replicate, Nat.add_sub_cancel_left, List.getElem?_replicate, if_pos h]
theorem lead_end {t b : Nat} : (leadT t b).cps[t + b]? = none := by
  show (leadL t b).toArray[t + b]? = _
  rw [List.getElem?_toArray, List.getElem?_eq_none]
  unfold leadL
  rw [List.length_append, List.length_replicate, List.length_replicate]; omega
theorem wi_loop (c : Cx) (me lc : Nat) (t b : Nat) (ht : t ≤ 2) (ch : Option MV) (H : MH) (h : H.get lc = some (.list [])) (hl : lc < H.n) :
    ∃ lc' ch' H', forD (wiF c) (t + b + 1) (.str (leadT t b) 0) (stW me lc (leadT t b) 0 0 0 ch H) = some (.next, stW me lc' (leadT t b) b (t + b : Nat) t ch' H') ∧ (∀ l, l < H.n → l ≠ lc → H'.get l = H.get l) ∧ H.n ≤ H'.n ∧ lc' < H'.n ∧ lc ≤ lc' ∧ (H.n ≤ lc' ∨ lc' = lc) ∧
      H'.get lc' = some (.list (if t = 0 then [] else [.int t])) := by
  have bl : ∀ lc n nt H ch, ∃ ch', forD (wiF c) (b + 1) (.str (leadT t b) t) (stW me lc (leadT t b) 0 n nt ch H) = some (.next, stW me lc (leadT t b) b (n + b) nt ch' H) := fun lc n nt H ch => by
    obtain ⟨ch', e⟩ := wi_blanks c me lc (leadT t b) (leadT t b) nt H b t 0 n ch (fun j hj => lead_blank hj) lead_end
    exact ⟨ch', by rw [e, Int.zero_add]⟩
  match t, ht with
  | 0, _ =>
    obtain ⟨ch', e⟩ := bl lc 0 0 H ch
    refine ⟨lc, ch', H, ?_, fun uq1 uq2 uq3 => rfl, Nat.le_refl _, hl, Nat.le_refl _, .inr rfl, h⟩
    rw [Nat.zero_add, e, Int.zero_add]; rfl
  | 1, _ =>
    obtain ⟨H1, e1, k1, n1, g1⟩ := wi_tab1 c me lc (leadT 1 b) 0 0 H h hl
    obtain ⟨ch', e⟩ := bl (H.n + 1 + 1) (0 + 1) (0 + 1) H1 (some (.str ⟨#[9]⟩))
    refine ⟨H.n + 1 + 1, ch', H1, ?_, fun l hl' uq1 => k1.2 l hl', k1.1, by omega, by omega, .inl (by omega), g1⟩
    have hn : 1 + b + 1 = (b + 1) + 1 := by omega
    rw [hn, forD, next_str (lead_tab (t := 1) (b := b) (i := 0) (by decide)), Option.bind_some]
    show Option.bind (wiB c (stW me lc (leadT 1 b) 0 0 0 (some (.str ⟨#[9]⟩)) H)) _ = _
    rw [e1, Option.bind_some]
    show forD (wiF c) (b + 1) (.str (leadT 1 b) 1) (stW me (H.n + 1 + 1) (leadT 1 b) 0 (0 + 1) (0 + 1) (some (.str ⟨#[9]⟩)) H1) = _
    rw [e]
    have : (0 + 1 : Int) + (b : Int) = ((1 + b : Nat) : Int) := by omega
    rw [this]; rfl
  | 2, _ =>
    obtain ⟨H1, e1, k1, n1, g1⟩ := wi_tab1 c me lc (leadT 2 b) 0 0 H h hl
    have e2 := wi_tab2 c me (H.n + 1 + 1) (leadT 2 b) (0 + 1) (0 + 1) 1 H1 g1
    obtain ⟨ch', e⟩ := bl (H.n + 1 + 1) (0 + 1 + 1) (0 + 1 + 1) (H1.set (H.n + 1 + 1) (.list [.int (1 + 1)])) (some (.str ⟨#[9]⟩))
    refine ⟨H.n + 1 + 1, ch', H1.set (H.n + 1 + 1) (.list [.int (1 + 1)]), ?_, fun l hl' uq1 => by rw [get_set_ne (by omega)]; exact k1.2 l hl', k1.1, by show _ < H1.n; omega, by omega, .inl (by omega), get_set_self g1⟩
    have hn : 2 + b + 1 = (b + 1) + 1 + 1 := by omega
    rw [hn, forD, next_str (lead_tab (t := 2) (b := b) (i := 0) (by decide)), Option.bind_some]
    show Option.bind (wiB c (stW me lc (leadT 2 b) 0 0 0 (some (.str ⟨#[9]⟩)) H)) _ = _
    rw [e1, Option.bind_some]
    show forD (wiF c) ((b + 1) + 1) (.str (leadT 2 b) 1) (stW me (H.n + 1 + 1) (leadT 2 b) 0 (0 + 1) (0 + 1) (some (.str ⟨#[9]⟩)) H1) = _
    rw [forD, next_str (lead_tab (t := 2) (b := b) (i := 1) (by decide)), Option.bind_some]
    show Option.bind (wiB c (stW me (H.n + 1 + 1) (leadT 2 b) 0 (0 + 1) (0 + 1) (some (.str ⟨#[9]⟩)) H1)) _ = _
    rw [e2, Option.bind_some]
    show forD (wiF c) (b + 1) (.str (leadT 2 b) 2) (stW me (H.n + 1 + 1) (leadT 2 b) 0 (0 + 1 + 1) (0 + 1 + 1) (some (.str ⟨#[9]⟩)) (H1.set (H.n + 1 + 1) (.list [.int (1 + 1)]))) = _
    rw [e]
    have : (0 + 1 + 1 : Int) + (b : Int) = ((2 + b : Nat) : Int) := by omega
    rw [this]; rfl
end Q
end Mini.L2

open PySem PySem.W PySem.Calls PyProof.Rows
set_option maxRecDepth 100000
set_option maxHeartbeats 4000000
namespace Mini.L2
noncomputable section Q
noncomputable def nRaw : Str := ⟨#[114, 97, 119]⟩
noncomputable def nN : Str := ⟨#[110]⟩
noncomputable def nNt : Str := ⟨#[110, 116]⟩
noncomputable def nNorm : Str := ⟨#[110, 111, 114, 109]⟩
noncomputable def nSim : Str := ⟨#[105, 115, 95, 115, 105, 109, 112, 108, 101]⟩
noncomputable def setA (name : Str) : MV → St → Option St := fun v st => (getv st 0).bind fun p => Option.map (fun H => St.mk st.vs H) (attrSet 127 name p.1 v p.2)
noncomputable def wiRaw : St → Option (Fl × St) := asgS (fun st => getv st 1) (setA nRaw)
noncomputable def wiSw : St → Option (Fl × St) := swap2S 2 3 (fun st => (a2 (fun st => (some (MV.val (Value.ref 127), st.H)).bind fun p => if p.1 = MV.val (Value.ref 127) then some (MV.str (Str.ofString " "), p.2) else none) (fun st => (some (MV.val (Value.ref 127), st.H)).bind fun p => if p.1 = MV.val (Value.ref 127) then some (MV.str (Str.ofString "\t"), p.2) else none) st).bind fun p => if p.1.length ≤ 100000 then some (MV.ref p.2.n, p.2.push (MO.tup p.1)) else none)
noncomputable def wiCnt : St → Option (Fl × St) := asgS (fun st => (some (([] : List MV), st.H)).bind fun p => if p.1.length ≤ 100000 then some (MV.ref p.2.n, p.2.push (MO.list p.1)) else none) (setv 4)
noncomputable def wi0 : St → Option (Fl × St) := asg3S (fun st => some (MV.int 0, st.H)) (setv 5) (setv 6) (setv 7)
noncomputable def wiT : Expr := Expr.Name (Str.ofString "ch") (Pos.mk 61 12 61 14)
noncomputable def wiI : St → Option (Src × MH) := fun st => ((getv st 0).bind fun p => attrOf 127 nRaw p.1 p.2).bind fun p => Option.map (fun src => (src, p.2)) (iterOf p.1 p.2)
noncomputable def wiN : St → Option (Fl × St) := asgS (fun st => getv st 6) (setA nN)
noncomputable def wiNt : St → Option (Fl × St) := asgS (fun st => getv st 7) (setA nNt)
noncomputable def wiTup : St → Option (MV × MH) := fun st => (a2 (callF (a1 (fun st => getv st 4)) tupleF) (fun st => getv st 5) st).bind fun p => if p.1.length ≤ 100000 then some (MV.ref p.2.n, p.2.push (MO.tup p.1)) else none
noncomputable def wiNorm : St → Option (Fl × St) := asgS wiTup (setA nNorm)
noncomputable def wiSim (c : Cx) : St → Option (Fl × St) := asgS (fun st => Option.map (fun p => (bv p.1, p.2)) (cmp2 (callF (a1 (fun st => getv st 4)) (lenS c.G)) (fun st => some (MV.int 1, st.H)) (fun x y uq1 => leop x y) st)) (setA nSim)
theorem wiX_eq (c : Cx) : wiX c = seqS wiRaw (seqS wiSw (seqS wiCnt (seqS wi0 (seqS (forS wiT wiI (setv 8) (wiB c)) (seqS wiN (seqS wiNt (seqS wiNorm (seqS (wiSim c) nilS)))))))) := by kernel_rfl
theorem setA_eq {name : Str} {me d : Nat} {es : List (Str × MV)} {v : MV} {vs : List (Option MV)} {H : MH} (h1 : H.get me = some (.inst 127 d)) (h2 : H.get d = some (.ns es)) (hl : es.length ≤ 100) :
    setA name v ⟨some (.ref me) :: vs, H⟩ = some ⟨some (.ref me) :: vs, H.set d (.ns (putE es name v))⟩ := by
  show Option.map _ (attrSet 127 name (.ref me) v H) = _
  unfold attrSet
  dsimp only
  rw [h1]
  dsimp only
  rw [if_pos rfl, h2]
  dsimp only
  rw [if_pos hl]; rfl
theorem seq_step {d ds : St → Option (Fl × St)} {st st' : St} (h : d st = some (.next, st')) : seqS d ds st = ds st' := by
  unfold seqS; rw [h]; rfl
theorem wi_es (x : Str) (n nt norm sim : MV) : putE (putE (putE (putE [(nRaw, .str x)] nN n) nNt nt) nNorm norm) nSim sim = [(nRaw, .str x), (nN, n), (nNt, nt), (nNorm, norm), (nSim, sim)] := by kernel_rfl
theorem wi_ok (c : Cx) {t b : Nat} (ht : t ≤ 2) (hb : b ≤ 6) (H : MH) :
    ∃ (o : WO) (H' : MH), clsF 127 (w_init_f c) [.str (leadT t b)] [] H = some (.ref o.l, H') ∧ Kp H H' ∧ o.At H' ∧ o.In H'.n ∧ o.t = t ∧ o.b = b := by
  let me := H.n + 1
  let H1 : MH := (H.push (.ns [])).push (.inst 127 H.n)
  let H2 : MH := H1.set H.n (.ns [(nRaw, .str (leadT t b))])
  let H3 : MH := H2.push (.tup [.str (Str.ofString " "), .str (Str.ofString "\t")])
  let H4 : MH := H3.push (.list [])
  have g1 : H1.get me = some (.inst 127 H.n) := get_push_self
  have g2 : H1.get H.n = some (.ns []) := (Kp.push.2 _ (Nat.lt_succ_self _)).trans get_push_self
  have h1 : H2.get me = some (.inst 127 H.n) := by rw [get_set_ne (by omega)]; exact g1
  have h2 : H2.get H.n = some (.ns [(nRaw, .str (leadT t b))]) := get_set_self g2
  have n2 : H2.n = H.n + 1 + 1 := rfl
  have k4 : Kp H2 H4 := Kp.push.trans Kp.push
  have h41 : H4.get me = some (.inst 127 H.n) := (k4.2 _ (by omega)).trans h1
  have h42 : H4.get H.n = some (.ns [(nRaw, .str (leadT t b))]) := (k4.2 _ (by omega)).trans h2
  have e1 : wiRaw ⟨[some (.ref me), some (.str (leadT t b)), none, none, none, none, none, none, none], H1⟩ = some (.next, ⟨[some (.ref me), some (.str (leadT t b)), none, none, none, none, none, none, none], H2⟩) := by
    unfold wiRaw asgS
    show Option.map _ (setA nRaw (.str (leadT t b)) ⟨some (.ref me) :: [some (.str (leadT t b)), none, none, none, none, none, none, none], H1⟩) = _
    rw [setA_eq g1 g2 (by decide)]; rfl
  have e2 : wiSw ⟨[some (.ref me), some (.str (leadT t b)), none, none, none, none, none, none, none], H2⟩ = some (.next, ⟨[some (.ref me), some (.str (leadT t b)), some (.str (Str.ofString " ")), some (.str (Str.ofString "\t")), none, none, none, none, none], H3⟩) := by
    have t3 : tupAt (.ref H2.n) H3 = some [.str (Str.ofString " "), .str (Str.ofString "\t")] := by
      have : H3.get H2.n = some (.tup [.str (Str.ofString " "), .str (Str.ofString "\t")]) := get_push_self
      unfold tupAt; simp only [this]
    unfold wiSw swap2S
    show Option.bind (tupAt (.ref H2.n) H3) _ = _
    rw [t3]; rfl
  have e3 : wiCnt ⟨[some (.ref me), some (.str (leadT t b)), some (.str (Str.ofString " ")), some (.str (Str.ofString "\t")), none, none, none, none, none], H3⟩ = some (.next, ⟨[some (.ref me), some (.str (leadT t b)), some (.str (Str.ofString " ")), some (.str (Str.ofString "\t")), some (.ref H3.n), none, none, none, none], H4⟩) := by rfl
  have q1 : Str.ofString " " = (⟨#[32]⟩ : Str) := by kernel_rfl
  have q2 : Str.ofString "\t" = (⟨#[9]⟩ : Str) := by kernel_rfl
  have e4 : wi0 ⟨[some (.ref me), some (.str (leadT t b)), some (.str (Str.ofString " ")), some (.str (Str.ofString "\t")), some (.ref H3.n), none, none, none, none], H4⟩ = some (.next, stW me H3.n (leadT t b) 0 0 0 none H4) := by
    rw [q1, q2]; rfl
  obtain ⟨lc, ch, H5, e5, k5, n5, l5, l6, l7, g5⟩ := wi_loop c me H3.n t b ht none H4 get_push_self (Nat.lt_succ_self _)
  have hn4 : H4.n = H.n + 1 + 1 + 1 + 1 := rfl
  have hn3 : H3.n = H.n + 1 + 1 + 1 := rfl
  have h51 : H5.get me = some (.inst 127 H.n) := (k5 _ (by omega) (by omega)).trans h41
  have h52 : H5.get H.n = some (.ns [(nRaw, .str (leadT t b))]) := (k5 _ (by omega) (by omega)).trans h42
  have ef : forS wiT wiI (setv 8) (wiB c) (stW me H3.n (leadT t b) 0 0 0 none H4) = some (.next, stW me lc (leadT t b) b (t + b : Nat) t ch H5) := by
    have ea : attrOf 127 nRaw (.ref me) H4 = some (.str (leadT t b), H4) := by
      unfold attrOf instOf
      simp only [h41, h42]
      rfl
    have ei : iterOf (.str (leadT t b)) H4 = some (.str (leadT t b) 0) := by
      unfold iterOf
      dsimp only
      rw [if_pos]
      rw [Array.all_eq_true']
      intro x hx
      have hx : x ∈ leadL t b := by simpa [leadT] using hx
      unfold leadL at hx
      rcases List.mem_append.mp hx with hx | hx
      · rw [(List.mem_replicate.mp hx).2]; decide
      · rw [(List.mem_replicate.mp hx).2]; decide
    have hsz : (leadT t b).cps.size = t + b := by
      show (leadL t b).toArray.size = _
      rw [List.size_toArray]; unfold leadL
      rw [List.length_append, List.length_replicate, List.length_replicate]
    have eI : wiI (stW me H3.n (leadT t b) 0 0 0 none H4) = some (.str (leadT t b) 0, H4) := by
      unfold wiI
      show Option.bind (attrOf 127 nRaw (.ref me) H4) _ = _
      rw [ea, Option.bind_some]
      dsimp only
      rw [ei]; rfl
    unfold forS
    rw [eI, Option.bind_some]
    dsimp only
    rw [if_pos (by rfl)]
    have hf : (Src.str (leadT t b) 0).fuel H4 = t + b + 1 := by show (leadT t b).cps.size + 1 - 0 = _; rw [hsz]; omega
    rw [hf]
    exact e5
  let H6 : MH := H5.set H.n (.ns (putE [(nRaw, .str (leadT t b))] nN (.int (t + b : Nat))))
  let H7 : MH := H6.set H.n (.ns (putE (putE [(nRaw, .str (leadT t b))] nN (.int (t + b : Nat))) nNt (.int t)))
  let cnt : List MV := if t = 0 then [] else [.int t]
  let H8 : MH := (H7.push (.tup cnt)).push (.tup [.ref H7.n, .int b])
  let H9 : MH := H8.set H.n (.ns (putE (putE (putE [(nRaw, .str (leadT t b))] nN (.int (t + b : Nat))) nNt (.int t)) nNorm (.ref (H7.n + 1))))
  let H10 : MH := H9.set H.n (.ns (putE (putE (putE (putE [(nRaw, .str (leadT t b))] nN (.int (t + b : Nat))) nNt (.int t)) nNorm (.ref (H7.n + 1))) nSim (bv true)))
  have hcl : cnt.length ≤ 1 := by show (if t = 0 then [] else [MV.int t]).length ≤ 1; split; exact Nat.zero_le _; exact Nat.le_refl _
  have m6 : H6.get me = some (.inst 127 H.n) := by rw [get_set_ne (by omega)]; exact h51
  have d6 := get_set_self (o' := .ns (putE [(nRaw, .str (leadT t b))] nN (.int (t + b : Nat)))) h52
  have m7 : H7.get me = some (.inst 127 H.n) := by rw [get_set_ne (by omega)]; exact m6
  have d7 := get_set_self (o' := .ns (putE (putE [(nRaw, .str (leadT t b))] nN (.int (t + b : Nat))) nNt (.int t))) d6
  have hne : lc ≠ H.n := by omega
  have c7 : H7.get lc = some (.list cnt) := by rw [get_set_ne hne, get_set_ne hne]; exact g5
  have n7 : H7.n = H5.n := rfl
  have k8 : Kp H7 H8 := Kp.push.trans Kp.push
  have m8 : H8.get me = some (.inst 127 H.n) := (k8.2 _ (by omega)).trans m7
  have d8 := (k8.2 H.n (by omega)).trans d7
  have p8 : H8.get (H7.n + 1) = some (.tup [.ref H7.n, .int b]) := get_push_self
  have t8 : H8.get H7.n = some (.tup cnt) := (Kp.push.2 _ (Nat.lt_succ_self _)).trans get_push_self
  have c8 : H8.get lc = some (.list cnt) := (k8.2 _ (by omega)).trans c7
  have m9 : H9.get me = some (.inst 127 H.n) := by rw [get_set_ne (by omega)]; exact m8
  have d9 := get_set_self (o' := .ns (putE (putE (putE [(nRaw, .str (leadT t b))] nN (.int (t + b : Nat))) nNt (.int t)) nNorm (.ref (H7.n + 1)))) d8
  have c9 : H9.get lc = some (.list cnt) := by rw [get_set_ne hne]; exact c8
  have e6 : wiN (stW me lc (leadT t b) b (t + b : Nat) t ch H5) = some (.next, stW me lc (leadT t b) b (t + b : Nat) t ch H6) := by
    unfold wiN asgS
    show Option.map _ (setA nN (.int (t + b : Nat)) ⟨some (.ref me) :: _, H5⟩) = _
    rw [setA_eq h51 h52 (by show 1 ≤ 100; decide)]; rfl
  have e7 : wiNt (stW me lc (leadT t b) b (t + b : Nat) t ch H6) = some (.next, stW me lc (leadT t b) b (t + b : Nat) t ch H7) := by
    unfold wiNt asgS
    show Option.map _ (setA nNt (.int t) ⟨some (.ref me) :: _, H6⟩) = _
    rw [setA_eq m6 d6 (by show 2 ≤ 100; decide)]; rfl
  have et : tupleF [.ref lc] [] H7 = some (.ref H7.n, H7.push (.tup cnt)) := by
    unfold tupleF
    simp only [c7]
    exact if_pos (by omega)
  have eT : wiTup (stW me lc (leadT t b) b (t + b : Nat) t ch H7) = some (.ref (H7.n + 1), H8) := by
    have ec : callF (a1 (fun st => getv st 4)) tupleF (stW me lc (leadT t b) b (t + b : Nat) t ch H7) = some (.ref H7.n, H7.push (.tup cnt)) := et
    unfold wiTup a2
    rw [ec]; rfl
  have e8 : wiNorm (stW me lc (leadT t b) b (t + b : Nat) t ch H7) = some (.next, stW me lc (leadT t b) b (t + b : Nat) t ch H9) := by
    unfold wiNorm asgS
    rw [eT, Option.bind_some]
    show Option.map _ (setA nNorm (.ref (H7.n + 1)) ⟨some (.ref me) :: _, H8⟩) = _
    rw [setA_eq m8 d8 (by show 3 ≤ 100; decide)]; rfl
  have e9 : wiSim c (stW me lc (leadT t b) b (t + b : Nat) t ch H9) = some (.next, stW me lc (leadT t b) b (t + b : Nat) t ch H10) := by
    have ec : callF (a1 (fun st => getv st 4)) (lenS c.G) (stW me lc (leadT t b) b (t + b : Nat) t ch H9) = some (.int cnt.length, H9) := len_list c9 (by omega)
    unfold wiSim asgS cmp2
    dsimp only
    rw [ec]
    have hd : decide ((cnt.length : Int) ≤ 1) = true := decide_eq_true (by omega)
    show Option.bind (Option.map (fun p : Bool × MH => (bv p.1, p.2)) (Option.map (fun c => (c, H9)) (some (decide ((cnt.length : Int) ≤ 1))))) _ = _
    rw [hd]
    show Option.map _ (setA nSim (bv true) ⟨some (.ref me) :: _, H9⟩) = _
    rw [setA_eq m9 d9 (by show 4 ≤ 100; decide)]; rfl
  refine ⟨⟨me, H.n, H7.n + 1, H7.n, [(nRaw, .str (leadT t b)), (nN, .int (t + b : Nat)), (nNt, .int t), (nNorm, .ref (H7.n + 1)), (nSim, bv true)], cnt, t, b⟩, H10, ?_, ?_, ?_, ?_, rfl, rfl⟩
  · have run : w_init_d c ⟨[some (.ref me), some (.str (leadT t b)), none, none, none, none, none, none, none], H1⟩ = some (.next, stW me lc (leadT t b) b (t + b : Nat) t ch H10) := by
      rw [w_init_eq, wiX_eq, seq_step e1, seq_step e2, seq_step e3, seq_step e4, seq_step ef, seq_step e6, seq_step e7, seq_step e8, seq_step e9]; rfl
    have call : w_init_f c [.ref (H.n + 1), .str (leadT t b)] [] H1 = some (.val .none, H10) := by
      show Option.bind (w_init_d c ⟨[some (.ref me), some (.str (leadT t b)), none, none, none, none, none, none, none], H1⟩) retOf = _
      rw [run]; rfl
    unfold clsF
    show Option.bind (w_init_f c [.ref (H.n + 1), .str (leadT t b)] [] H1) _ = _
    rw [call]; rfl
  · have q : Kp H H4 := (Kp.push.trans Kp.push |>.set (Nat.le_refl _)).trans k4
    have q5 : Kp H H5 := ⟨Nat.le_trans q.1 n5, fun l hl => (k5 l (Nat.lt_of_lt_of_le hl q.1) (by omega)).trans (q.2 l hl)⟩
    exact (((((q5.set (Nat.le_refl _)).set (Nat.le_refl _)).trans k8).set (Nat.le_refl _)).set (Nat.le_refl _))
  · refine ⟨?_, ?_, by kernel_rfl, by kernel_rfl, ?_, by kernel_rfl, ?_, ?_, hcl, by kernel_rfl, by kernel_rfl, ⟨by show (0 : Int) ≤ (t : Int); omega, by show (t : Int) ≤ 2; omega⟩, ⟨by show (0 : Int) ≤ (b : Int); omega, by show (b : Int) ≤ 6; omega⟩⟩
    · show H10.get me = _
      rw [get_set_ne (by omega)]; exact m9
    · show H10.get H.n = _
      rw [get_set_self d9, wi_es]
    · have : ((t + b : Nat) : Int) = (t : Int) + (b : Int) := by omega
      show getS _ _ = some (MV.int ((t : Int) + (b : Int)))
      rw [← this]; kernel_rfl
    · show H10.get (H7.n + 1) = _
      rw [get_set_ne (by omega), get_set_ne (by omega)]; exact p8
    · show H10.get H7.n = _
      rw [get_set_ne (by omega), get_set_ne (by omega)]; exact t8
  · have : H10.n = H7.n + 1 + 1 := rfl
    exact ⟨by show H.n + 1 < H10.n; omega, by show H.n < H10.n; omega, by show H7.n + 1 < H10.n; omega, by show H7.n < H10.n; omega⟩
end Q
end Mini.L2

open PySem PySem.W PySem.Calls PyProof.Rows
set_option maxRecDepth 100000
set_option maxHeartbeats 4000000
namespace Mini.L2
noncomputable section Q
noncomputable def h_conv_Dx (c : Cx) : St → Option (Fl × St) := fun st => seqS (fun st => ifS (fun st => cmp2 (fun st => ((getv st 1).bind fun p => (some ([], (St.mk (st.vs) (p.snd)).H)).bind fun q => some (p.fst :: q.fst, q.snd)).bind fun p => (some ([], (St.mk (st.vs) (p.snd)).H)).bind fun q => typeF p.fst q.fst q.snd) (fun st => some (MV.val (Value.type "str"), st.H)) (fun x y x_1 => isop x y) st) (fun st => seqS (fun st => asgS (fun st => ((getv st 2).bind fun p => Option.map (fun c => (c, p.snd)) (truth p.fst p.snd)).bind fun p => if p.fst = true then some (MV.val (Value.ref 141), (St.mk (st.vs) (p.snd)).H) else some (MV.val (Value.ref 146), (St.mk (st.vs) (p.snd)).H)) (setv 3) st) (fun st => seqS (fun st => ifS (fun st => ((getv st 3).bind fun r => if isPat 141 146 r.fst r.snd = true then ((getv (St.mk (st.vs) (r.snd)) 1).bind fun p => (some ([], (St.mk ((St.mk (st.vs) (r.snd)).vs) (p.snd)).H)).bind fun q => some (p.fst :: q.fst, q.snd)).bind fun p => (some ([], (St.mk (st.vs) (p.snd)).H)).bind fun q => searchF 141 146 (r.fst :: p.fst) q.fst q.snd else none).bind fun p => Option.map (fun c => (c, p.snd)) (truth p.fst p.snd)) (fun st => seqS (fun x => none) nilS st) nilS st) (fun st => seqS (fun st => retS (fun st => getv st 1) st) nilS st) st) st) nilS st) (fun st => seqS (fun x => none) nilS st) st
theorem h_conv_Dx_eq (c : Cx) : h_conv_d c = h_conv_Dx c := by kernel_rfl

noncomputable def okTxt (b : Bool) (v : Str) : Bool := (if b then allB safeC v.cps.toList else allB safeV v.cps.toList) && decide (v.cps.size ≤ 100000)
theorem conv {c : Cx} {s : MV} {v : Str} {b : Bool} {H : MH} (h : okTxt b v = true) : h_conv_f c [s, .str v] [(⟨#[110, 97, 109, 101]⟩, bv b)] H = some (.str v, H) := by
  have ty : typeF [.str v] [] H = some (.val (.type "str"), H) := by rfl
  have is1 : isop (.val (.type "str")) (.val (.type "str")) = some true := by kernel_rfl
  have tb : ∀ b, truth (.val (.bool b)) H = some b := fun b => by cases b <;> rfl
  have tn : truth (.val .none) H = some false := by rfl
  have p1 : isPat 141 146 (.val (.ref 141)) H = true := by rfl
  have p2 : isPat 141 146 (.val (.ref 146)) H = true := by rfl
  have hb : h_conv_bnd [s, .str v] [(⟨#[110, 97, 109, 101]⟩, bv b)] = some [s, .str v, bv b] := by
    unfold h_conv_bnd; dsimp only; rw [if_pos rfl]
  unfold okTxt at h
  simp only [Bool.and_eq_true, decide_eq_true_eq] at h
  unfold h_conv_f fnD
  dsimp only
  rw [hb]
  show Option.bind (h_conv_d c ⟨[some s, some (.str v), some (bv b), none], H⟩) retOf = _
  rw [h_conv_Dx_eq]
  unfold h_conv_Dx
  cases b with
  | true =>
    have h1 : allB safeC v.cps.toList = true := by simpa using h.1
    have sr : searchF 141 146 [.val (.ref 141), .str v] [] H = some (.val .none, H) := by
      unfold searchF; dsimp only; rw [if_pos ⟨rfl, h1, h.2⟩]
    simp [seqS, ifS, cmp2, getv, nthV_eq, ty, is1, asgS, tb, setv_eq, p1, sr, tn, nilS, retS, retOf, bv]
  | false =>
    have h1 : allB safeV v.cps.toList = true := by simpa using h.1
    have sr : searchF 141 146 [.val (.ref 146), .str v] [] H = some (.val .none, H) := by
      unfold searchF; dsimp only
      rw [if_neg (fun z => by cases z.1), if_pos ⟨rfl, h1, h.2⟩]
    simp [seqS, ifS, cmp2, getv, nthV_eq, ty, is1, asgS, tb, setv_eq, p2, sr, tn, nilS, retS, retOf, bv]
noncomputable def low (x : Str) : Str := ⟨(mapB lo1 x.cps.toList).toArray⟩
noncomputable def asc (x : Str) : Bool := allB (fun c => Nat.ble c 127) x.cps.toList && decide (x.length ≤ 100000)
theorem lower_eq {x : Str} {H : MH} (h : asc x = true) : lowerF [.str x] [] H = some (.str (low x), H) := by
  unfold asc at h
  simp only [Bool.and_eq_true, decide_eq_true_eq] at h
  unfold lowerF
  dsimp only
  rw [if_pos ⟨h.2, h.1⟩]; rfl
set_option genSizeOf false in
set_option genInjectivity false in
structure Row where
  a : Nat
  k : Str
  v : Str
set_option genSizeOf false in
set_option genInjectivity false in
structure HO where
  l : Nat
  d : Nat
  hl : Nat
  es : List (Str × MV)
  rows : List Row
set_option genSizeOf false in
set_option genInjectivity false in
structure HO.At (o : HO) (H : MH) : Prop where
  hl' : H.get o.l = some (.inst 275 o.d)
  hd : H.get o.d = some (.ns o.es)
  hh : getS o.es ⟨#[95, 104, 101, 97, 100, 101, 114, 115]⟩ = some (.ref o.hl)
  no1 : getS o.es (Str.ofString "_convert_string_type") = none
  no2 : getS o.es (Str.ofString "get_all") = none
  no3 : getS o.es (Str.ofString "add_header") = none
  hg : H.get o.hl = some (.list (o.rows.map fun r => .ref r.a))
  row : ∀ r ∈ o.rows, H.get r.a = some (.tup [.str r.k, .str r.v]) ∧ asc r.k = true ∧ r.a < H.n
  lt : o.l < H.n ∧ o.d < H.n ∧ o.hl < H.n
  len : o.rows.length ≤ 100
theorem HO.At.hasNo {o : HO} {H : MH} (A : o.At H) {name : Str} (h : getS o.es name = none) : hasNo 275 name (.ref o.l) H = true := by
  unfold Mini.hasNo instOf
  dsimp only
  rw [A.hl']
  dsimp only
  rw [if_pos rfl, A.hd]
  dsimp only
  rw [h]; rfl
theorem HO.At.heads {o : HO} {H : MH} (A : o.At H) : attrOf 275 (Str.mk #[95, 104, 101, 97, 100, 101, 114, 115]) (.ref o.l) H = some (.ref o.hl, H) := by
  unfold attrOf instOf
  dsimp only
  rw [A.hl']
  dsimp only
  rw [if_pos rfl, A.hd]
  dsimp only
  rw [Option.bind_some, A.hh]
theorem HO.At.kp {o : HO} {H H' : MH} (A : o.At H) (k : Kp H H') : o.At H' :=
  ⟨(k.2 _ A.lt.1).trans A.hl', (k.2 _ A.lt.2.1).trans A.hd, A.hh, A.no1, A.no2, A.no3, (k.2 _ A.lt.2.2).trans A.hg, fun r hr => ⟨(k.2 _ (A.row r hr).2.2).trans (A.row r hr).1, (A.row r hr).2.1, Nat.lt_of_lt_of_le (A.row r hr).2.2 k.1⟩,
    ⟨Nat.lt_of_lt_of_le A.lt.1 k.1, Nat.lt_of_lt_of_le A.lt.2.1 k.1, Nat.lt_of_lt_of_le A.lt.2.2 k.1⟩, A.len⟩
noncomputable def haCV (c : Cx) : St → Option (MV × MH) := fun st => (getv st 0).bind fun r => if hasNo 275 (Str.ofString "_convert_string_type") r.1 r.2 = true then (((getv (St.mk st.vs r.2) 1).bind fun r_1 => if isStrM r_1.1 r_1.2 = true then (some (([] : List MV), (St.mk (St.mk st.vs r.2).vs r_1.2).H)).bind fun p => (some (([] : List (Str × MV)), (St.mk (St.mk st.vs r.2).vs p.2).H)).bind fun q => lowerF (r_1.1 :: p.1) q.1 q.2 else none).bind fun p => (some (([] : List MV), (St.mk (St.mk st.vs r.2).vs p.2).H)).bind fun q => some (p.1 :: q.1, q.2)).bind fun p => ((some (bv true, (St.mk st.vs p.2).H)).bind fun p_1 => (some (([] : List (Str × MV)), (St.mk (St.mk st.vs p.2).vs p_1.2).H)).bind fun q => some ((Str.mk #[110, 97, 109, 101], p_1.1) :: q.1, q.2)).bind fun q => h_conv_f c (r.1 :: p.1) q.1 q.2 else none
noncomputable def haT : Expr := Expr.Name (Str.ofString "kv") (Pos.mk 161 26 161 28)
noncomputable def haI : St → Option (Src × MH) := fun st => ((getv st 0).bind fun p => attrOf 275 (Str.mk #[95, 104, 101, 97, 100, 101, 114, 115]) p.1 p.2).bind fun p => Option.map (fun src => (src, p.2)) (iterOf p.1 p.2)
noncomputable def haTi (c : Cx) : St → Option (Bool × MH) := cmp2 (fun st => (seq2 (fun st => getv st 1) (fun st => some (MV.int 0, st.H)) (itemop c.G) st).bind fun r => if isStrM r.1 r.2 = true then (some (([] : List MV), (St.mk st.vs r.2).H)).bind fun p => (some (([] : List (Str × MV)), (St.mk st.vs p.2).H)).bind fun q => lowerF (r.1 :: p.1) q.1 q.2 else none) (fun st => getv st 2) eqop
noncomputable def haDe (c : Cx) : St → Option (MV × MH) := seq2 (fun st => getv st 1) (fun st => some (MV.int 1, st.H)) (itemop c.G)
theorem h_all_eq (c : Cx) : h_all_d c = seqS (asgS (haCV c) (setv 1)) (seqS (retS (compD [none, none, some 1] haT haI (setv 1) (haTi c) (emitD (haDe c)))) nilS) := by kernel_rfl
theorem item_tup {c : Cx} {l : Nat} {a b : MV} {H : MH} (h : H.get l = some (.tup [a, b])) : itemop c.G (.ref l) (.int 0) H = some (a, H) ∧ itemop c.G (.ref l) (.int 1) H = some (b, H) := by
  have L : listAt c.G (.ref l) H = none := by unfold listAt; dsimp only; rw [h]
  have T : tupAt (.ref l) H = some [a, b] := by unfold tupAt; dsimp only; rw [h]
  unfold itemop
  dsimp only
  rw [if_pos (by decide), if_pos (by decide), L, T]
  exact ⟨rfl, rfl⟩
theorem getall {c : Cx} {o : HO} {H : MH} {name : Str} (A : o.At H) (hn : asc name = true) (hs : okTxt true (low name) = true) :
    ∃ H', h_all_f c [.ref o.l, .str name] [] H = some (.ref H.n, H') ∧ Kp H H' ∧ H.n < H'.n ∧ H'.get H.n = some (.list ((o.rows.filter fun r => streq (low r.k) (low name)).map fun r => .str r.v)) := by
  have e1 : asgS (haCV c) (setv 1) ⟨[some (.ref o.l), some (.str name)], H⟩ = some (.next, ⟨[some (.ref o.l), some (.str (low name))], H⟩) := by
    have ec : haCV c ⟨[some (.ref o.l), some (.str name)], H⟩ = some (.str (low name), H) := by
      show (if hasNo 275 (Str.ofString "_convert_string_type") (.ref o.l) H = true then _ else none) = _
      rw [if_pos (A.hasNo A.no1)]
      show Option.bind (Option.bind (lowerF [.str name] [] H) _) _ = _
      rw [lower_eq hn]
      exact conv (b := true) hs
    unfold asgS
    rw [ec]; rfl
  obtain ⟨H', e2, k, h1, h2⟩ := compD_list (cap := [none, none, some 1]) (t := haT) (di := haI) (f := setv 1) (ti := haTi c) (de := haDe c) (P := fun vs => ∃ u w, vs = [u, w, some (.str (low name))]) (H0 := H) (H1 := H) (l := o.hl) (xs := o.rows) (φ := fun r => .ref r.a) (q := fun r => streq (low r.k) (low name)) (g := fun r => .str r.v)
    (vs := [some (.ref o.l), some (.str (low name))])
    (by
      show Option.bind (attrOf 275 (Str.mk #[95, 104, 101, 97, 100, 101, 114, 115]) (.ref o.l) H) _ = _
      rw [A.heads, Option.bind_some]
      unfold iterOf
      dsimp only
      rw [A.hg]; rfl) .refl (by rfl) ⟨_, _, rfl⟩
    (fun r hr vs H1 ⟨u, w, hvs⟩ k1 => by
      subst hvs
      have g1 := (k1.2 _ (A.row r hr).2.2).trans (A.row r hr).1
      obtain ⟨i0, i1⟩ := item_tup (c := c) g1
      refine ⟨[u, some (.ref r.a), some (.str (low name))], H1, rfl, ⟨_, _, rfl⟩, ?_, .refl, fun uq1 => ⟨H1, i1, .refl⟩⟩
      have es : seq2 (fun st => getv st 1) (fun st => some (MV.int 0, st.H)) (itemop c.G) ⟨[u, some (.ref r.a), some (.str (low name))], H1⟩ = some (.str r.k, H1) := i0
      unfold haTi cmp2
      dsimp only
      rw [es, Option.bind_some]
      dsimp only
      rw [if_pos (by rfl)]
      show Option.bind (lowerF [.str r.k] [] H1) _ = _
      rw [lower_eq (A.row r hr).2.1]; rfl)
    A.hg A.lt.2.2 (by have := A.len; omega)
  refine ⟨H', ?_, k, h1, h2⟩
  show Option.bind (h_all_d c ⟨[some (.ref o.l), some (.str name)], H⟩) retOf = _
  rw [h_all_eq, seq_step e1]
  have er : retS (compD [none, none, some 1] haT haI (setv 1) (haTi c) (emitD (haDe c))) ⟨[some (.ref o.l), some (.str (low name))], H⟩ = some (.ret (.ref H.n), ⟨[some (.ref o.l), some (.str (low name))], H'⟩) := by
    unfold retS
    rw [e2]; rfl
  unfold seqS
  rw [er]; rfl
end Q
end Mini.L2

open PySem PySem.W PySem.Calls PyProof.Rows
set_option maxRecDepth 100000
set_option maxHeartbeats 4000000
namespace Mini.L2
noncomputable def h_add_O : {o : Obj // lookO (Mini.hd2.heap_1 params0) 272 = some o} := ⟨_, rfl⟩
noncomputable def h_add_o : Obj := h_add_O.1
noncomputable def h_add_fd : FuncData := fdOf h_add_o
noncomputable def h_add_body : List Stmt := bodyOf h_add_fd
noncomputable def h_add_params : List Str := [Str.ofString "self", Str.ofString "_name", Str.ofString "_value", Str.ofString "_params"]
noncomputable def h_add_sx : Sx := ⟨h_add_fd.scope, [Str.ofString "self", Str.ofString "_name", Str.ofString "_value", Str.ofString "_params", Str.ofString "parts", Str.ofString "k", Str.ofString "v"], [], h_add_fd.code, h_add_fd.qualname ++ Str.ofString ".<locals>."⟩
noncomputable def h_add_CO : {o : Obj // lookO (Mini.hd2.heap_1 params0) 271 = some o} := ⟨_, rfl⟩
noncomputable def h_add_co : Obj := h_add_CO.1
noncomputable def h_add_ca : Nat := 271
noncomputable def h_add_m : Nat := 3
theorem h_add_ok (c : Cx) : FnOk c.G 272 h_add_fd h_add_body h_add_sx h_add_params :=
  ⟨⟨h_add_o, by kernel_rfl, by kernel_rfl⟩, ⟨h_add_ca, h_add_co, _, _, by kernel_rfl, by kernel_rfl, rfl, rfl⟩, by kernel_rfl, by kernel_rfl, by kernel_rfl, by kernel_rfl, by kernel_rfl, by kernel_rfl, by kernel_rfl, by kernel_rfl,
    by decide +kernel, by decide +kernel, by decide +kernel, by decide +kernel, by kernel_rfl, by kernel_rfl, by kernel_rfl, by decide +kernel⟩
noncomputable def h_add_bnd : List MV → List (Str × MV) → Option (List MV)
  | [s, n, v], [] => some [s, n, v]
  | _, _ => none
theorem h_add_bind (c : Cx) : BindD c.G h_add_fd h_add_params (fun xs ks H => (h_add_bnd xs ks).map fun r => (r ++ [.ref H.n], H.push (.emp H.n))) := bind_peekA fun v kv e => by
  unfold h_add_bnd at e
  split at e
  · cases e; cases kv
    cases v with | cons h0 v => ?_
    cases v with | cons h1 v => ?_
    cases v with | cons h2 v => ?_
    cases v
    exact ⟨[_, _, _], _, fun S => by rfl, fun D => by rfl, rfl, (.cons h0 (.cons h1 (.cons h2 .nil)))⟩
  · cases e
noncomputable def h_add_D (c : Cx) : {d : St → Option (Fl × St) // DenSs c.G 28 h_add_sx h_add_body d} := ⟨_, by
  refine' dss_cons ?_ ?_
  refine' ds_assign ?_ ?_ (fun uq1 uq2 => rfl) (fun uq1 => rfl) (fun uq1 => rfl)
  refine' den_list ?_
  exact (@dens_nil _ _ _)
  exact (@asg_local _ _ _ _ _ 4 (by kernel_rfl) (by kernel_rfl))
  refine' dss_cons ?_ ?_
  refine' ds_if ?_ ?_ ?_
  refine' denB_cmp opB_isNot ?_ ?_ (by decide) (by rfl)
  exact (@den_local _ _ _ _ _ 2 (by kernel_rfl) (by kernel_rfl) (by kernel_rfl))
  exact (@den_none _ _ _ _ _)
  refine' dss_cons ?_ ?_
  refine' ds_assign ?_ ?_ (fun uq1 uq2 => rfl) (fun uq1 => rfl) (fun uq1 => rfl)
  refine' den_meth (fun uq1 => rfl) ?_ (getM_inst (C := 275) (f := 176) (by kernel_rfl) (by kernel_rfl) (by kernel_rfl)) ?_ ?_ ?_ (fun uq1 uq2 => rfl) (fun uq1 uq2 => rfl) ?_
  exact (@den_local _ _ _ _ _ 0 (by kernel_rfl) (by kernel_rfl) (by kernel_rfl))
  exact (@keeps_K' _ _ (by kernel_rfl))
  refine' dens_cons ?_ ?_ (fun uq1 => rfl)
  exact (@den_local _ _ _ _ _ 2 (by kernel_rfl) (by kernel_rfl) (by kernel_rfl))
  exact (@dens_nil _ _ _)
  refine' dks_consW ⟨#[110, 97, 109, 101]⟩ (by kernel_rfl) ?_ ?_
  exact (@den_bool _ _ _ _ _ _)
  exact (@dks_nil _ _ _)
  exact (@FnDen.le _ _ _ _ _ (Mini.L2.fd_176 _) (by decide))
  exact (@asg_local _ _ _ _ _ 2 (by kernel_rfl) (by kernel_rfl))
  refine' dss_cons ?_ ?_
  refine' ds_expr ?_ (fun uq1 => rfl)
  refine' den_meth (fun uq1 => rfl) ?_ (getM_list slot_list_append (by rfl)) ?_ ?_ ?_ (fun uq1 uq2 => rfl) (fun uq1 uq2 => rfl) ?_
  exact (@den_local _ _ _ _ _ 4 (by kernel_rfl) (by kernel_rfl) (by kernel_rfl))
  exact (@keeps_builtin _ _)
  refine' dens_cons ?_ ?_ (fun uq1 => rfl)
  exact (@den_local _ _ _ _ _ 2 (by kernel_rfl) (by kernel_rfl) (by kernel_rfl))
  exact (@dens_nil _ _ _)
  exact (@dks_nil _ _ _)
  exact (@den_append _ _)
  exact (@dss_nil _ _ _)
  exact (@dss_nil _ _ _)
  refine' dss_cons ?_ ?_
  refine' ds_items0 3 ?_ (fun uq1 => rfl) (fun uq1 uq2 => rfl)
  exact (@den_local _ _ _ _ _ 3 (by kernel_rfl) (by kernel_rfl) (by kernel_rfl))
  refine' dss_cons ?_ ?_
  refine' ds_expr ?_ (fun uq1 => rfl)
  refine' den_meth (fun uq1 => rfl) ?_ (getM_list slot_list_append (by rfl)) ?_ ?_ ?_ (fun uq1 uq2 => rfl) (fun uq1 uq2 => rfl) ?_
  refine' den_attrW (C := 275) (a := none) ⟨#[95, 104, 101, 97, 100, 101, 114, 115]⟩ (by kernel_rfl) ?_ (fun uq1 => rfl) (fun uq1 uq2 => rfl) (by kernel_rfl) (by kernel_rfl) (by kernel_rfl) (by kernel_rfl)
  exact (@den_local _ _ _ _ _ 0 (by kernel_rfl) (by kernel_rfl) (by kernel_rfl))
  exact (@keeps_builtin _ _)
  refine' dens_cons ?_ ?_ (fun uq1 => rfl)
  refine' den_tuple ?_
  refine' dens_cons ?_ ?_ (fun uq1 => rfl)
  refine' den_meth (fun uq1 => rfl) ?_ (getM_inst (C := 275) (f := 176) (by kernel_rfl) (by kernel_rfl) (by kernel_rfl)) ?_ ?_ ?_ (fun uq1 uq2 => rfl) (fun uq1 uq2 => rfl) ?_
  exact (@den_local _ _ _ _ _ 0 (by kernel_rfl) (by kernel_rfl) (by kernel_rfl))
  exact (@keeps_K' _ _ (by kernel_rfl))
  refine' dens_cons ?_ ?_ (fun uq1 => rfl)
  exact (@den_local _ _ _ _ _ 1 (by kernel_rfl) (by kernel_rfl) (by kernel_rfl))
  exact (@dens_nil _ _ _)
  refine' dks_consW ⟨#[110, 97, 109, 101]⟩ (by kernel_rfl) ?_ ?_
  exact (@den_bool _ _ _ _ _ _)
  exact (@dks_nil _ _ _)
  exact (@FnDen.le _ _ _ _ _ (Mini.L2.fd_176 _) (by decide))
  refine' dens_cons ?_ ?_ (fun uq1 => rfl)
  refine' den_meth (fun uq1 => rfl) ?_ (getM_str PySem.F.slot_str_join (by rfl)) ?_ ?_ ?_ (fun uq1 uq2 => rfl) (fun uq1 uq2 => rfl) ?_
  exact (@den_strW _ _ _ _ ⟨#[59, 32]⟩ (by kernel_rfl) _ _)
  exact (@keeps_builtin _ _)
  refine' dens_cons ?_ ?_ (fun uq1 => rfl)
  exact (@den_local _ _ _ _ _ 4 (by kernel_rfl) (by kernel_rfl) (by kernel_rfl))
  exact (@dens_nil _ _ _)
  exact (@dks_nil _ _ _)
  exact (@den_joinW _ _)
  exact (@dens_nil _ _ _)
  exact (@dens_nil _ _ _)
  exact (@dks_nil _ _ _)
  exact (@den_append _ _)
  exact (@dss_nil _ _ _)⟩
noncomputable def h_add_d (c : Cx) : St → Option (Fl × St) := (h_add_D c).1
theorem h_add_den (c : Cx) : DenSs c.G 28 h_add_sx h_add_body (h_add_d c) := (h_add_D c).2
noncomputable def h_add_f (c : Cx) : List MV → List (Str × MV) → MH → Option (MV × MH) := fnD (fun xs ks H => (h_add_bnd xs ks).map fun r => (r ++ [.ref H.n], H.push (.emp H.n))) h_add_m (h_add_d c)
theorem h_add_code (c : Cx) : FnC c.G 29 (.ref 272) (h_add_f c) := fn_code h_add_m (h_add_ok c) (h_add_bind c) (h_add_den c)
theorem fd_272 (c : Cx) : FnDen c.G 29 (.ref 272) (h_add_f c) := FnC.den (h_add_code c)
end Mini.L2

open PySem PySem.W PySem.Calls PyProof.Rows
set_option maxRecDepth 100000
set_option maxHeartbeats 4000000
namespace Mini.L2

noncomputable def lamx : Str := Str.ofString "size"
noncomputable def lam0_sx (code : Value) : Sx := ⟨lam0.scope, [Str.ofString "size", Str.ofString "bands"], [], code, lam0.qual ++ Str.ofString ".<locals>."⟩
theorem lam0_ok : LamOk lam0 lamx := ⟨fun uq1 uq2 uq3 uq4 uq5 => by rfl, by kernel_rfl, by kernel_rfl, by kernel_rfl, by decide +kernel, by kernel_rfl, by kernel_rfl, fun y h => by
  have key : ∀ y ∈ lam0.scope.names.map (·.1), lam0.scope.names.lookup y = some .free → y = lam0.cell := by decide +kernel
  exact key y (List.mem_map.mpr ⟨_, PySem.mem_of_lookup h, rfl⟩) h⟩
noncomputable def lam0_D (c : Cx) : {d : St → Option (MV × MH) // ∀ code, DenE c.G 30 (lam0_sx code) lam0.body d} := ⟨_, fun code => by
  refine' den_call (fv := (PySem.Value.ref 284)) ?_ ?_ ?_ ?_ (fun uq1 uq2 => rfl) (fun uq1 uq2 => rfl) ?_
  exact (@den_glob _ _ _ _ _ ((PySem.Value.ref 284)) (by kernel_rfl) (by kernel_rfl) (by kernel_rfl))
  exact (@keeps_K' _ _ (by kernel_rfl))
  refine' dens_cons ?_ ?_ (fun uq1 => rfl)
  exact (@den_cell _ _ _ _ _ 1 (by kernel_rfl) (Or.inr (by kernel_rfl)) (by kernel_rfl) (by kernel_rfl))
  refine' dens_cons ?_ ?_ (fun uq1 => rfl)
  exact (@den_local _ _ _ _ _ 0 (by kernel_rfl) (by kernel_rfl) (by kernel_rfl))
  exact (@dens_nil _ _ _)
  exact (@dks_nil _ _ _)
  exact (@FnDen.le _ _ _ _ _ (Mini.L2.fd_284 _) (by decide))⟩
noncomputable def lam0_d (c : Cx) : St → Option (MV × MH) := (lam0_D c).1
theorem lam0_den (c : Cx) (code : Value) : DenE c.G 30 (lam0_sx code) lam0.body (lam0_d c) := (lam0_D c).2 code
theorem fd_lam (c : Cx) : LamDen c.G 31 0 (fun l v H => lam0_d c ⟨[some v, some (.ref l)], H⟩) := lam_den (x := lamx) lam0_ok (fun code => lam0_den c code)
noncomputable def bisect_leftK_D (c : Cx) : {d : St → Option (Fl × St) // DenSs c.G 36 bisect_left_sx bisect_left_body d} := ⟨_, by
  refine' dss_cons ?_ ?_
  refine' ds_if ?_ ?_ ?_
  refine' denB_cmp opB_lt ?_ ?_ (by decide) (by rfl)
  exact (@den_local _ _ _ _ _ 2 (by kernel_rfl) (by kernel_rfl) (by kernel_rfl))
  exact (@den_int _ _ _ _ _ _)
  refine' dss_cons ?_ ?_
  exact (@ds_never _ _ _ _)
  exact (@dss_nil _ _ _)
  exact (@dss_nil _ _ _)
  refine' dss_cons ?_ ?_
  refine' ds_if ?_ ?_ ?_
  refine' denB_isNone 3 (by kernel_rfl) (by kernel_rfl) (by kernel_rfl)
  refine' dss_cons ?_ ?_
  refine' ds_assign ?_ ?_ (fun uq1 uq2 => rfl) (fun uq1 => rfl) (fun uq1 => rfl)
  refine' den_call (fv := (PySem.Value.builtin "len")) ?_ ?_ ?_ ?_ (fun uq1 uq2 => rfl) (fun uq1 uq2 => rfl) ?_
  exact (@den_builtin _ _ _ _ _ ((PySem.Value.builtin "len")) (by kernel_rfl) (by kernel_rfl) (by kernel_rfl) (by decide +kernel) (by kernel_rfl))
  exact (@keeps_builtin _ _)
  refine' dens_cons ?_ ?_ (fun uq1 => rfl)
  exact (@den_local _ _ _ _ _ 0 (by kernel_rfl) (by kernel_rfl) (by kernel_rfl))
  exact (@dens_nil _ _ _)
  exact (@dks_nil _ _ _)
  exact (@den_lenS _ _)
  exact (@asg_local _ _ _ _ _ 3 (by kernel_rfl) (by kernel_rfl))
  exact (@dss_nil _ _ _)
  exact (@dss_nil _ _ _)
  refine' dss_cons ?_ ?_
  refine' ds_if ?_ ?_ ?_
  refine' denB_isNone 4 (by kernel_rfl) (by kernel_rfl) (by kernel_rfl)
  refine' dss_cons ?_ ?_
  refine' ds_while 64 ?_ ?_
  refine' denB_cmp opB_lt ?_ ?_ (by decide) (by rfl)
  exact (@den_local _ _ _ _ _ 2 (by kernel_rfl) (by kernel_rfl) (by kernel_rfl))
  exact (@den_local _ _ _ _ _ 3 (by kernel_rfl) (by kernel_rfl) (by kernel_rfl))
  refine' dss_cons ?_ ?_
  refine' ds_assign ?_ ?_ (fun uq1 uq2 => rfl) (fun uq1 => rfl) (fun uq1 => rfl)
  refine' den_bin fdivop_ok ?_ ?_
  refine' den_bin addop_ok ?_ ?_
  exact (@den_local _ _ _ _ _ 2 (by kernel_rfl) (by kernel_rfl) (by kernel_rfl))
  exact (@den_local _ _ _ _ _ 3 (by kernel_rfl) (by kernel_rfl) (by kernel_rfl))
  exact (@den_int _ _ _ _ _ _)
  exact (@asg_local _ _ _ _ _ 5 (by kernel_rfl) (by kernel_rfl))
  refine' dss_cons ?_ ?_
  refine' ds_if ?_ ?_ ?_
  refine' denB_cmp opB_lt ?_ ?_ (by decide) (by rfl)
  refine' den_index ?_ ?_ (fun uq1 uq2 => rfl)
  exact (@den_local _ _ _ _ _ 0 (by kernel_rfl) (by kernel_rfl) (by kernel_rfl))
  exact (@den_local _ _ _ _ _ 5 (by kernel_rfl) (by kernel_rfl) (by kernel_rfl))
  exact (@den_local _ _ _ _ _ 1 (by kernel_rfl) (by kernel_rfl) (by kernel_rfl))
  refine' dss_cons ?_ ?_
  refine' ds_assign ?_ ?_ (fun uq1 uq2 => rfl) (fun uq1 => rfl) (fun uq1 => rfl)
  refine' den_bin addop_ok ?_ ?_
  exact (@den_local _ _ _ _ _ 5 (by kernel_rfl) (by kernel_rfl) (by kernel_rfl))
  exact (@den_int _ _ _ _ _ _)
  exact (@asg_local _ _ _ _ _ 2 (by kernel_rfl) (by kernel_rfl))
  exact (@dss_nil _ _ _)
  refine' dss_cons ?_ ?_
  refine' ds_assign ?_ ?_ (fun uq1 uq2 => rfl) (fun uq1 => rfl) (fun uq1 => rfl)
  exact (@den_local _ _ _ _ _ 5 (by kernel_rfl) (by kernel_rfl) (by kernel_rfl))
  exact (@asg_local _ _ _ _ _ 3 (by kernel_rfl) (by kernel_rfl))
  exact (@dss_nil _ _ _)
  exact (@dss_nil _ _ _)
  exact (@dss_nil _ _ _)
  refine' dss_cons ?_ ?_
  refine' ds_while 64 ?_ ?_
  refine' denB_cmp opB_lt ?_ ?_ (by decide) (by rfl)
  exact (@den_local _ _ _ _ _ 2 (by kernel_rfl) (by kernel_rfl) (by kernel_rfl))
  exact (@den_local _ _ _ _ _ 3 (by kernel_rfl) (by kernel_rfl) (by kernel_rfl))
  refine' dss_cons ?_ ?_
  refine' ds_assign ?_ ?_ (fun uq1 uq2 => rfl) (fun uq1 => rfl) (fun uq1 => rfl)
  refine' den_bin fdivop_ok ?_ ?_
  refine' den_bin addop_ok ?_ ?_
  exact (@den_local _ _ _ _ _ 2 (by kernel_rfl) (by kernel_rfl) (by kernel_rfl))
  exact (@den_local _ _ _ _ _ 3 (by kernel_rfl) (by kernel_rfl) (by kernel_rfl))
  exact (@den_int _ _ _ _ _ _)
  exact (@asg_local _ _ _ _ _ 5 (by kernel_rfl) (by kernel_rfl))
  refine' dss_cons ?_ ?_
  refine' ds_if ?_ ?_ ?_
  refine' denB_cmp opB_lt ?_ ?_ (by decide) (by rfl)
  refine' den_callclo 4 (by kernel_rfl) (by kernel_rfl) (by kernel_rfl) ?_ (fun uq1 uq2 => rfl) (LamDen.le (Mini.L2.fd_lam _) (by decide))
  refine' dens_cons ?_ ?_ (fun uq1 => rfl)
  refine' den_index ?_ ?_ (fun uq1 uq2 => rfl)
  exact (@den_local _ _ _ _ _ 0 (by kernel_rfl) (by kernel_rfl) (by kernel_rfl))
  exact (@den_local _ _ _ _ _ 5 (by kernel_rfl) (by kernel_rfl) (by kernel_rfl))
  exact (@dens_nil _ _ _)
  exact (@den_local _ _ _ _ _ 1 (by kernel_rfl) (by kernel_rfl) (by kernel_rfl))
  refine' dss_cons ?_ ?_
  refine' ds_assign ?_ ?_ (fun uq1 uq2 => rfl) (fun uq1 => rfl) (fun uq1 => rfl)
  refine' den_bin addop_ok ?_ ?_
  exact (@den_local _ _ _ _ _ 5 (by kernel_rfl) (by kernel_rfl) (by kernel_rfl))
  exact (@den_int _ _ _ _ _ _)
  exact (@asg_local _ _ _ _ _ 2 (by kernel_rfl) (by kernel_rfl))
  exact (@dss_nil _ _ _)
  refine' dss_cons ?_ ?_
  refine' ds_assign ?_ ?_ (fun uq1 uq2 => rfl) (fun uq1 => rfl) (fun uq1 => rfl)
  exact (@den_local _ _ _ _ _ 5 (by kernel_rfl) (by kernel_rfl) (by kernel_rfl))
  exact (@asg_local _ _ _ _ _ 3 (by kernel_rfl) (by kernel_rfl))
  exact (@dss_nil _ _ _)
  exact (@dss_nil _ _ _)
  exact (@dss_nil _ _ _)
  refine' dss_cons ?_ ?_
  refine' ds_ret ?_
  exact (@den_local _ _ _ _ _ 2 (by kernel_rfl) (by kernel_rfl) (by kernel_rfl))
  exact (@dss_nil _ _ _)⟩
noncomputable def bisect_leftK_d (c : Cx) : St → Option (Fl × St) := (bisect_leftK_D c).1
theorem bisect_leftK_den (c : Cx) : DenSs c.G 36 bisect_left_sx bisect_left_body (bisect_leftK_d c) := (bisect_leftK_D c).2
noncomputable def bisect_leftK_bnd : List MV → Option (List MV)
  | [a, x] => some [a, x, .int 0, .val .none]
  | _ => none
theorem bisect_leftK_bind (c : Cx) {ρ : Nat → Addr} {n : Nat} {xs : List MV} {vs : List Value} {bs : List MV} (v : VRs ρ n xs vs) (e : bisect_leftK_bnd xs = some bs) (fv : Value) :
    ∃ vals, (∀ S, peek c.G.K S (bindArgs bisect_left_fd ⟨vs, [(Str.ofString "key", fv)]⟩) = some (bisect_left_params.zip (vals ++ [fv]))) ∧ (vals ++ [fv]).length = bisect_left_params.length ∧ VRs ρ n bs vals := by
  unfold bisect_leftK_bnd at e
  split at e
  · cases e
    cases v with | cons h1 v => ?_
    cases v with | cons h2 v => ?_
    cases v
    refine ⟨[_, _, _, _], fun S => by rfl, rfl, .cons h1 (.cons h2 (.cons ?_ (.cons ?_ .nil)))⟩
    all_goals first | rfl | exact ⟨_, rfl⟩
  · cases e
theorem keycall (c : Cx) {sx : Sx} {args : List Expr} {ds : St → Option (List MV × MH)} {p pos kp lpos : Pos} {lparams : Arguments} {lbody : Expr} {lscope : Scope} (i : Nat)
    (hn : DenE c.G 60 sx (.Name (Str.ofString "bisect_left") p) (fun st => some (.val (.ref 65), st.H))) (ha : DenEs c.G 60 sx args ds) (hpl : ∀ env pos, (backTo pos (starEach args env)).any (·.1) = false) (Y : LamAt c.G sx 0 lparams lbody lscope i c0 t0) :
    DenE c.G 60 sx (.Call (.Name (Str.ofString "bisect_left") p) args [⟨some (Str.ofString "key"), .Lambda lparams lbody lscope lpos, kp⟩] pos) (callKeyD ds 0 lam0.qual lpos.line lpos.col i bisect_leftK_bnd bisect_left_m (bisect_leftK_d c)) :=
  den_callKey (G := c.G) (k := 59) (c := 0) bisect_left_m hn (keeps_K' (by kernel_rfl)) ha hpl Y (bisect_left_ok c) (DenSs.le (bisect_leftK_den c) (by decide)) (by decide +kernel) (fun v e fv => bisect_leftK_bind c v e fv)

noncomputable def law_D (c : Cx) : {d : St → Option (Fl × St) // DenSs c.G 60 law_sx law_body d} := ⟨_, by
  refine' dss_cons ?_ ?_
  refine' ds_assign ?_ ?_ (fun uq1 uq2 => rfl) (fun uq1 => rfl) (fun uq1 => rfl)
  refine' den_slice ?_ ?_ ?_
  refine' den_bin addop_ok ?_ ?_
  refine' den_slice ?_ ?_ ?_
  exact (@den_local _ _ _ _ _ 0 (by kernel_rfl) (by kernel_rfl) (by kernel_rfl))
  exact (@denp_none _ _ _)
  refine' denp_some ?_
  exact (@den_int _ _ _ _ _ _)
  refine' den_slice ?_ ?_ ?_
  refine' den_list ?_
  refine' dens_cons ?_ ?_ (fun uq1 => rfl)
  exact (@den_int _ _ _ _ _ _)
  refine' dens_cons ?_ ?_ (fun uq1 => rfl)
  exact (@den_int _ _ _ _ _ _)
  refine' dens_cons ?_ ?_ (fun uq1 => rfl)
  exact (@den_int _ _ _ _ _ _)
  refine' dens_cons ?_ ?_ (fun uq1 => rfl)
  exact (@den_int _ _ _ _ _ _)
  refine' dens_cons ?_ ?_ (fun uq1 => rfl)
  exact (@den_int _ _ _ _ _ _)
  exact (@dens_nil _ _ _)
  refine' denp_some ?_
  refine' den_call (fv := (PySem.Value.builtin "len")) ?_ ?_ ?_ ?_ (fun uq1 uq2 => rfl) (fun uq1 uq2 => rfl) ?_
  exact (@den_builtin _ _ _ _ _ ((PySem.Value.builtin "len")) (by kernel_rfl) (by kernel_rfl) (by kernel_rfl) (by decide +kernel) (by kernel_rfl))
  exact (@keeps_builtin _ _)
  refine' dens_cons ?_ ?_ (fun uq1 => rfl)
  exact (@den_local _ _ _ _ _ 0 (by kernel_rfl) (by kernel_rfl) (by kernel_rfl))
  exact (@dens_nil _ _ _)
  exact (@dks_nil _ _ _)
  exact (@den_lenS _ _)
  exact (@denp_none _ _ _)
  exact (@denp_none _ _ _)
  refine' denp_some ?_
  refine' den_ifexp ?_ ?_ ?_
  refine' denB_cmp opB_gt ?_ ?_ (by decide) (by rfl)
  refine' den_call (fv := (PySem.Value.builtin "len")) ?_ ?_ ?_ ?_ (fun uq1 uq2 => rfl) (fun uq1 uq2 => rfl) ?_
  exact (@den_builtin _ _ _ _ _ ((PySem.Value.builtin "len")) (by kernel_rfl) (by kernel_rfl) (by kernel_rfl) (by decide +kernel) (by kernel_rfl))
  exact (@keeps_builtin _ _)
  refine' dens_cons ?_ ?_ (fun uq1 => rfl)
  exact (@den_local _ _ _ _ _ 0 (by kernel_rfl) (by kernel_rfl) (by kernel_rfl))
  exact (@dens_nil _ _ _)
  exact (@dks_nil _ _ _)
  exact (@den_lenS _ _)
  exact (@den_int _ _ _ _ _ _)
  exact (@den_int _ _ _ _ _ _)
  exact (@den_int _ _ _ _ _ _)
  exact (@asg_local _ _ _ _ _ 1 (by kernel_rfl) (by kernel_rfl))
  refine' dss_cons ?_ ?_
  refine' ds_assign_comp (cap := [none, none, none]) 2 (by kernel_rfl) (by kernel_rfl) (fun env h => (swaps_scope (env' := dummyEnv _) h).trans (by kernel_rfl)) ?_ ?_ (fun uq1 uq2 => rfl) ?_
  exact ⟨by rfl, by decide +kernel, by decide +kernel, by decide +kernel, by decide +kernel, capChk_ok (by kernel_rfl)⟩
  refine' den_enum (by kernel_rfl) (by kernel_rfl) ?_ (fun uq1 uq2 => rfl)
  refine' dens_cons ?_ ?_ (fun uq1 => rfl)
  exact (@den_local _ _ _ _ _ 1 (by kernel_rfl) (by kernel_rfl) (by kernel_rfl))
  exact (@dens_nil _ _ _)
  refine' loop_j rfl (by intro g' h; first | (cases h; done) | (cases h; rfl)) ?_ ?_ ?_
  refine' asg_tuple (n := 2) ?_ (fun uq1 => rfl) (fun uq1 => rfl)
  refine' asgs_cons ?_ ?_ (fun uq1 => rfl)
  exact (@asg_local _ _ _ _ _ 1 (by kernel_rfl) (by kernel_rfl))
  refine' asgs_cons ?_ ?_ (fun uq1 => rfl)
  exact (@asg_local _ _ _ _ _ 2 (by kernel_rfl) (by kernel_rfl))
  exact (@asgs_nil _ _ _)
  exact (@ifs_nil _ _ _)
  refine' body_emit rfl ?_
  refine' den_tuple ?_
  refine' dens_cons ?_ ?_ (fun uq1 => rfl)
  refine' den_bin modop_ok ?_ ?_
  refine' den_bin addop_ok ?_ ?_
  exact (@den_local _ _ _ _ _ 2 (by kernel_rfl) (by kernel_rfl) (by kernel_rfl))
  exact (@den_local _ _ _ _ _ 1 (by kernel_rfl) (by kernel_rfl) (by kernel_rfl))
  exact (@den_int _ _ _ _ _ _)
  refine' dens_cons ?_ ?_ (fun uq1 => rfl)
  refine' den_bin modop_ok ?_ ?_
  refine' den_bin fdivop_ok ?_ ?_
  exact (@den_local _ _ _ _ _ 2 (by kernel_rfl) (by kernel_rfl) (by kernel_rfl))
  exact (@den_int _ _ _ _ _ _)
  exact (@den_int _ _ _ _ _ _)
  refine' dens_cons ?_ ?_ (fun uq1 => rfl)
  refine' den_bin modop_ok ?_ ?_
  refine' den_bin fdivop_ok ?_ ?_
  exact (@den_local _ _ _ _ _ 2 (by kernel_rfl) (by kernel_rfl) (by kernel_rfl))
  exact (@den_int _ _ _ _ _ _)
  exact (@den_int _ _ _ _ _ _)
  exact (@dens_nil _ _ _)
  refine' dss_cons ?_ ?_
  refine' ds_assign ?_ ?_ (fun uq1 uq2 => rfl) (fun uq1 => rfl) (fun uq1 => rfl)
  refine' den_call (fv := (PySem.Value.ref 275)) ?_ ?_ ?_ ?_ (fun uq1 uq2 => rfl) (fun uq1 uq2 => rfl) ?_
  exact (@den_glob _ _ _ _ _ ((PySem.Value.ref 275)) (by kernel_rfl) (by kernel_rfl) (by kernel_rfl))
  exact (@keeps_K' _ _ (by kernel_rfl))
  exact (@dens_nil _ _ _)
  exact (@dks_nil _ _ _)
  exact (@FnDen.le _ _ _ _ _ (Mini.L2.fd_275 _) (by decide))
  exact (@asg_cell _ _ _ _ _ 3 (by kernel_rfl) (by decide +kernel))
  refine' dss_cons ?_ ?_
  refine' ds_for ?_ ?_ ?_ (fun uq1 uq2 => rfl)
  refine' den_iter ?_
  exact (@den_local _ _ _ _ _ 2 (by kernel_rfl) (by kernel_rfl) (by kernel_rfl))
  refine' asg_tuple (n := 3) ?_ (fun uq1 => rfl) (fun uq1 => rfl)
  refine' asgs_cons ?_ ?_ (fun uq1 => rfl)
  exact (@asg_local _ _ _ _ _ 4 (by kernel_rfl) (by kernel_rfl))
  refine' asgs_cons ?_ ?_ (fun uq1 => rfl)
  exact (@asg_local _ _ _ _ _ 5 (by kernel_rfl) (by kernel_rfl))
  refine' asgs_cons ?_ ?_ (fun uq1 => rfl)
  exact (@asg_local _ _ _ _ _ 6 (by kernel_rfl) (by kernel_rfl))
  exact (@asgs_nil _ _ _)
  refine' dss_cons ?_ ?_
  refine' ds_expr ?_ (fun uq1 => rfl)
  refine' den_meth (fun uq1 => rfl) ?_ (getM_inst (C := 275) (f := 272) (by kernel_rfl) (by kernel_rfl) (by kernel_rfl)) ?_ ?_ ?_ (fun uq1 uq2 => rfl) (fun uq1 uq2 => rfl) ?_
  exact (@den_cell _ _ _ _ _ 3 (by kernel_rfl) (Or.inl (by kernel_rfl)) (by kernel_rfl) (by kernel_rfl))
  exact (@keeps_K' _ _ (by kernel_rfl))
  refine' dens_cons ?_ ?_ (fun uq1 => rfl)
  refine' den_call (fv := (PySem.Value.builtin "chr")) ?_ ?_ ?_ ?_ (fun uq1 uq2 => rfl) (fun uq1 uq2 => rfl) ?_
  exact (@den_builtin _ _ _ _ _ ((PySem.Value.builtin "chr")) (by kernel_rfl) (by kernel_rfl) (by kernel_rfl) (by decide +kernel) (by kernel_rfl))
  exact (@keeps_builtin _ _)
  refine' dens_cons ?_ ?_ (fun uq1 => rfl)
  refine' den_bin addop_ok ?_ ?_
  refine' den_index ?_ ?_ (fun uq1 uq2 => rfl)
  refine' den_list ?_
  refine' dens_cons ?_ ?_ (fun uq1 => rfl)
  exact (@den_int _ _ _ _ _ _)
  refine' dens_cons ?_ ?_ (fun uq1 => rfl)
  exact (@den_int _ _ _ _ _ _)
  exact (@dens_nil _ _ _)
  exact (@den_local _ _ _ _ _ 6 (by kernel_rfl) (by kernel_rfl) (by kernel_rfl))
  exact (@den_local _ _ _ _ _ 4 (by kernel_rfl) (by kernel_rfl) (by kernel_rfl))
  exact (@dens_nil _ _ _)
  exact (@dks_nil _ _ _)
  exact (@den_chr _ _)
  refine' dens_cons ?_ ?_ (fun uq1 => rfl)
  refine' den_bin addop_ok ?_ ?_
  refine' den_bin mulop_ok ?_ ?_
  exact (@den_strW _ _ _ _ ⟨#[9]⟩ (by kernel_rfl) _ _)
  exact (@den_local _ _ _ _ _ 4 (by kernel_rfl) (by kernel_rfl) (by kernel_rfl))
  refine' den_bin mulop_ok ?_ ?_
  exact (@den_strW _ _ _ _ ⟨#[32]⟩ (by kernel_rfl) _ _)
  exact (@den_local _ _ _ _ _ 5 (by kernel_rfl) (by kernel_rfl) (by kernel_rfl))
  exact (@dens_nil _ _ _)
  exact (@dks_nil _ _ _)
  exact (@FnDen.le _ _ _ _ _ (Mini.L2.fd_272 _) (by decide))
  exact (@dss_nil _ _ _)
  refine' dss_cons ?_ ?_
  refine' ds_assign ?_ ?_ (fun env h => (sole_scope (env' := dummyEnv _) h).trans (by kernel_rfl)) (fun uq1 => rfl) (fun uq1 => rfl)
  refine' den_comp (cap := [none, none, some 3]) ?_ ?_ (fun uq1 uq2 => rfl) ?_
  exact ⟨by rfl, by decide +kernel, by decide +kernel, by decide +kernel, by decide +kernel, capChk_ok (by kernel_rfl)⟩
  refine' den_iter ?_
  exact (@den_strW _ _ _ _ ⟨#[97, 66, 99]⟩ (by kernel_rfl) _ _)
  refine' loop_j rfl (by intro g' h; first | (cases h; done) | (cases h; rfl)) ?_ ?_ ?_
  exact (@asg_local _ _ _ _ _ 1 (by kernel_rfl) (by kernel_rfl))
  exact (@ifs_nil _ _ _)
  refine' body_emit rfl ?_
  refine' den_comp (cap := [none, none, none]) ?_ ?_ (fun uq1 uq2 => rfl) ?_
  exact ⟨by rfl, by decide +kernel, by decide +kernel, by decide +kernel, by decide +kernel, capChk_ok (by kernel_rfl)⟩
  refine' den_iter ?_
  refine' den_meth (fun uq1 => rfl) ?_ (getM_inst (C := 275) (f := 214) (by kernel_rfl) (by kernel_rfl) (by kernel_rfl)) ?_ ?_ ?_ (fun uq1 uq2 => rfl) (fun uq1 uq2 => rfl) ?_
  exact (@den_cell _ _ _ _ _ 2 (by kernel_rfl) (Or.inl (by kernel_rfl)) (by kernel_rfl) (by kernel_rfl))
  exact (@keeps_K' _ _ (by kernel_rfl))
  refine' dens_cons ?_ ?_ (fun uq1 => rfl)
  exact (@den_local _ _ _ _ _ 1 (by kernel_rfl) (by kernel_rfl) (by kernel_rfl))
  exact (@dens_nil _ _ _)
  exact (@dks_nil _ _ _)
  exact (@FnDen.le _ _ _ _ _ (Mini.L2.fd_214 _) (by decide))
  refine' loop_j rfl (by intro g' h; first | (cases h; done) | (cases h; rfl)) ?_ ?_ ?_
  exact (@asg_local _ _ _ _ _ 1 (by kernel_rfl) (by kernel_rfl))
  exact (@ifs_nil _ _ _)
  refine' body_emit rfl ?_
  refine' den_call (fv := (PySem.Value.ref 127)) ?_ ?_ ?_ ?_ (fun uq1 uq2 => rfl) (fun uq1 uq2 => rfl) ?_
  exact (@den_glob _ _ _ _ _ ((PySem.Value.ref 127)) (by kernel_rfl) (by kernel_rfl) (by kernel_rfl))
  exact (@keeps_K' _ _ (by kernel_rfl))
  refine' dens_cons ?_ ?_ (fun uq1 => rfl)
  exact (@den_local _ _ _ _ _ 1 (by kernel_rfl) (by kernel_rfl) (by kernel_rfl))
  exact (@dens_nil _ _ _)
  exact (@dks_nil _ _ _)
  exact (@FnDen.le _ _ _ _ _ (Mini.L2.fd_127 _) (by decide))
  exact (@asg_cell _ _ _ _ _ 14 (by kernel_rfl) (by decide +kernel))
  refine' dss_cons ?_ ?_
  refine' ds_assign ?_ ?_ (fun uq1 uq2 => rfl) (fun uq1 => rfl) (fun uq1 => rfl)
  refine' den_list ?_
  exact (@dens_nil _ _ _)
  exact (@asg_local _ _ _ _ _ 7 (by kernel_rfl) (by kernel_rfl))
  refine' dss_cons ?_ ?_
  refine' ds_for ?_ ?_ ?_ (fun uq1 uq2 => rfl)
  refine' den_iter ?_
  exact (@den_local _ _ _ _ _ 2 (by kernel_rfl) (by kernel_rfl) (by kernel_rfl))
  refine' asg_tuple (n := 3) ?_ (fun uq1 => rfl) (fun uq1 => rfl)
  refine' asgs_cons ?_ ?_ (fun uq1 => rfl)
  exact (@asg_local _ _ _ _ _ 8 (by kernel_rfl) (by kernel_rfl))
  refine' asgs_cons ?_ ?_ (fun uq1 => rfl)
  exact (@asg_local _ _ _ _ _ 5 (by kernel_rfl) (by kernel_rfl))
  refine' asgs_cons ?_ ?_ (fun uq1 => rfl)
  exact (@asg_local _ _ _ _ _ 6 (by kernel_rfl) (by kernel_rfl))
  exact (@asgs_nil _ _ _)
  refine' dss_cons ?_ ?_
  refine' ds_for ?_ ?_ ?_ (fun uq1 uq2 => rfl)
  refine' den_iter ?_
  exact (@den_local _ _ _ _ _ 2 (by kernel_rfl) (by kernel_rfl) (by kernel_rfl))
  refine' asg_tuple (n := 3) ?_ (fun uq1 => rfl) (fun uq1 => rfl)
  refine' asgs_cons ?_ ?_ (fun uq1 => rfl)
  exact (@asg_local _ _ _ _ _ 4 (by kernel_rfl) (by kernel_rfl))
  refine' asgs_cons ?_ ?_ (fun uq1 => rfl)
  exact (@asg_local _ _ _ _ _ 9 (by kernel_rfl) (by kernel_rfl))
  refine' asgs_cons ?_ ?_ (fun uq1 => rfl)
  exact (@asg_local _ _ _ _ _ 10 (by kernel_rfl) (by kernel_rfl))
  exact (@asgs_nil _ _ _)
  refine' dss_cons ?_ ?_
  refine' ds_if ?_ ?_ ?_
  refine' denB_cmp opB_lt ?_ ?_ (by decide) (by rfl)
  exact (@den_local _ _ _ _ _ 8 (by kernel_rfl) (by kernel_rfl) (by kernel_rfl))
  exact (@den_local _ _ _ _ _ 4 (by kernel_rfl) (by kernel_rfl) (by kernel_rfl))
  refine' dss_cons ?_ ?_
  refine' ds_expr ?_ (fun uq1 => rfl)
  refine' den_meth (fun uq1 => rfl) ?_ (getM_list slot_list_append (by rfl)) ?_ ?_ ?_ (fun uq1 uq2 => rfl) (fun uq1 uq2 => rfl) ?_
  exact (@den_local _ _ _ _ _ 7 (by kernel_rfl) (by kernel_rfl) (by kernel_rfl))
  exact (@keeps_builtin _ _)
  refine' dens_cons ?_ ?_ (fun uq1 => rfl)
  refine' den_call (fv := (PySem.Value.builtin "max")) ?_ ?_ ?_ ?_ (fun uq1 uq2 => rfl) (fun uq1 uq2 => rfl) ?_
  exact (@den_builtin _ _ _ _ _ ((PySem.Value.builtin "max")) (by kernel_rfl) (by kernel_rfl) (by kernel_rfl) (by decide +kernel) (by kernel_rfl))
  exact (@keeps_builtin _ _)
  refine' dens_cons ?_ ?_ (fun uq1 => rfl)
  exact (@den_int _ _ _ _ _ _)
  refine' dens_cons ?_ ?_ (fun uq1 => rfl)
  refine' den_bin addop_ok ?_ ?_
  refine' den_bin fdivop_ok ?_ ?_
  refine' den_bin subop_ok ?_ ?_
  exact (@den_local _ _ _ _ _ 5 (by kernel_rfl) (by kernel_rfl) (by kernel_rfl))
  exact (@den_local _ _ _ _ _ 9 (by kernel_rfl) (by kernel_rfl) (by kernel_rfl))
  refine' den_bin subop_ok ?_ ?_
  exact (@den_local _ _ _ _ _ 4 (by kernel_rfl) (by kernel_rfl) (by kernel_rfl))
  exact (@den_local _ _ _ _ _ 8 (by kernel_rfl) (by kernel_rfl) (by kernel_rfl))
  exact (@den_int _ _ _ _ _ _)
  exact (@dens_nil _ _ _)
  exact (@dks_nil _ _ _)
  exact (@den_max _ _)
  exact (@dens_nil _ _ _)
  exact (@dks_nil _ _ _)
  exact (@den_append _ _)
  exact (@dss_nil _ _ _)
  exact (@dss_nil _ _ _)
  exact (@dss_nil _ _ _)
  exact (@dss_nil _ _ _)
  refine' dss_cons ?_ ?_
  refine' ds_expr ?_ (fun uq1 => rfl)
  refine' den_meth (fun uq1 => rfl) ?_ (getM_list PySem.F.slot_list_sort (by rfl)) ?_ ?_ ?_ (fun uq1 uq2 => rfl) (fun uq1 uq2 => rfl) ?_
  exact (@den_local _ _ _ _ _ 7 (by kernel_rfl) (by kernel_rfl) (by kernel_rfl))
  exact (@keeps_builtin _ _)
  exact (@dens_nil _ _ _)
  exact (@dks_nil _ _ _)
  exact (@den_sortI _ _)
  refine' dss_cons ?_ ?_
  refine' ds_assign ?_ ?_ (fun uq1 uq2 => rfl) (fun uq1 => rfl) (fun uq1 => rfl)
  refine' den_call (fv := (PySem.Value.type "list")) ?_ ?_ ?_ ?_ (fun uq1 uq2 => rfl) (fun uq1 uq2 => rfl) ?_
  exact (@den_builtin _ _ _ _ _ ((PySem.Value.type "list")) (by kernel_rfl) (by kernel_rfl) (by kernel_rfl) (by decide +kernel) (by kernel_rfl))
  exact (@keeps_type _ _)
  refine' dens_cons ?_ ?_ (fun uq1 => rfl)
  refine' den_call (fv := (PySem.Value.type "range")) ?_ ?_ ?_ ?_ (fun uq1 uq2 => rfl) (fun uq1 uq2 => rfl) ?_
  exact (@den_builtin _ _ _ _ _ ((PySem.Value.type "range")) (by kernel_rfl) (by kernel_rfl) (by kernel_rfl) (by decide +kernel) (by kernel_rfl))
  exact (@keeps_type _ _)
  refine' dens_cons ?_ ?_ (fun uq1 => rfl)
  exact (@den_int _ _ _ _ _ _)
  refine' dens_cons ?_ ?_ (fun uq1 => rfl)
  exact (@den_int _ _ _ _ _ _)
  exact (@dens_nil _ _ _)
  exact (@dks_nil _ _ _)
  exact (@den_range _ _)
  exact (@dens_nil _ _ _)
  exact (@dks_nil _ _ _)
  exact (@den_listR _ _)
  exact (@asg_cell _ _ _ _ _ 11 (by kernel_rfl) (by decide +kernel))
  refine' dss_cons ?_ ?_
  refine' ds_assign_comp (cap := [none, none, none, some 14, some 11]) 12 (by kernel_rfl) (by kernel_rfl) (fun env h => (swaps_scope (env' := dummyEnv _) h).trans (by kernel_rfl)) ?_ ?_ (fun uq1 uq2 => rfl) ?_
  exact ⟨by rfl, by decide +kernel, by decide +kernel, by decide +kernel, by decide +kernel, capChk_ok (by kernel_rfl)⟩
  refine' den_iter ?_
  refine' den_call (fv := (PySem.Value.type "range")) ?_ ?_ ?_ ?_ (fun uq1 uq2 => rfl) (fun uq1 uq2 => rfl) ?_
  exact (@den_builtin _ _ _ _ _ ((PySem.Value.type "range")) (by kernel_rfl) (by kernel_rfl) (by kernel_rfl) (by decide +kernel) (by kernel_rfl))
  exact (@keeps_type _ _)
  refine' dens_cons ?_ ?_ (fun uq1 => rfl)
  refine' den_call (fv := (PySem.Value.builtin "len")) ?_ ?_ ?_ ?_ (fun uq1 uq2 => rfl) (fun uq1 uq2 => rfl) ?_
  exact (@den_builtin _ _ _ _ _ ((PySem.Value.builtin "len")) (by kernel_rfl) (by kernel_rfl) (by kernel_rfl) (by decide +kernel) (by kernel_rfl))
  exact (@keeps_builtin _ _)
  refine' dens_cons ?_ ?_ (fun uq1 => rfl)
  exact (@den_local _ _ _ _ _ 7 (by kernel_rfl) (by kernel_rfl) (by kernel_rfl))
  exact (@dens_nil _ _ _)
  exact (@dks_nil _ _ _)
  exact (@den_lenS _ _)
  exact (@dens_nil _ _ _)
  exact (@dks_nil _ _ _)
  exact (@den_range _ _)
  refine' loop_j rfl (by intro g' h; first | (cases h; done) | (cases h; rfl)) ?_ ?_ ?_
  exact (@asg_local _ _ _ _ _ 1 (by kernel_rfl) (by kernel_rfl))
  exact (@ifs_nil _ _ _)
  refine' body_emit rfl ?_
  refine' den_bin addop_ok ?_ ?_
  exact (@den_int _ _ _ _ _ _)
  refine' Mini.L2.keycall _ 3 ?_ ?_ (fun uq1 uq2 => rfl) ?_
  exact (@den_glob _ _ _ _ _ ((PySem.Value.ref 65)) (by kernel_rfl) (by kernel_rfl) (by kernel_rfl))
  refine' dens_cons ?_ ?_ (fun uq1 => rfl)
  exact (@den_cell _ _ _ _ _ 4 (by kernel_rfl) (Or.inl (by kernel_rfl)) (by kernel_rfl) (by kernel_rfl))
  refine' dens_cons ?_ ?_ (fun uq1 => rfl)
  refine' den_bin addop_ok ?_ ?_
  exact (@den_local _ _ _ _ _ 1 (by kernel_rfl) (by kernel_rfl) (by kernel_rfl))
  exact (@den_int _ _ _ _ _ _)
  exact (@dens_nil _ _ _)
  exact ⟨by kernel_rfl, by kernel_rfl, Mini.L2.Cx.hd _, by kernel_rfl, by kernel_rfl, by kernel_rfl, by kernel_rfl, by kernel_rfl, by kernel_rfl, (by first | exact Or.inl (by kernel_rfl) | exact Or.inr (by kernel_rfl)), fun uq1 => by rfl, fun env cc h => closure_one (by kernel_rfl) h⟩
  refine' dss_cons ?_ ?_
  refine' ds_assign_comp (cap := [none, none, none, none, none, some 14]) 13 (by kernel_rfl) (by kernel_rfl) (fun env h => (swaps_scope (env' := dummyEnv _) h).trans (by kernel_rfl)) ?_ ?_ (fun uq1 uq2 => rfl) ?_
  exact ⟨by rfl, by decide +kernel, by decide +kernel, by decide +kernel, by decide +kernel, capChk_ok (by kernel_rfl)⟩
  refine' den_iter ?_
  refine' den_call (fv := (PySem.Value.type "range")) ?_ ?_ ?_ ?_ (fun uq1 uq2 => rfl) (fun uq1 uq2 => rfl) ?_
  exact (@den_builtin _ _ _ _ _ ((PySem.Value.type "range")) (by kernel_rfl) (by kernel_rfl) (by kernel_rfl) (by decide +kernel) (by kernel_rfl))
  exact (@keeps_type _ _)
  refine' dens_cons ?_ ?_ (fun uq1 => rfl)
  exact (@den_int _ _ _ _ _ _)
  exact (@dens_nil _ _ _)
  exact (@dks_nil _ _ _)
  exact (@den_range _ _)
  refine' loop_j rfl (by intro g' h; first | (cases h; done) | (cases h; rfl)) ?_ ?_ ?_
  exact (@asg_local _ _ _ _ _ 1 (by kernel_rfl) (by kernel_rfl))
  exact (@ifs_nil _ _ _)
  refine' body_nest rfl ?_ (fun uq1 uq2 => rfl) ?_
  refine' den_iter ?_
  refine' den_index ?_ ?_ (fun uq1 uq2 => rfl)
  exact (@den_cell _ _ _ _ _ 5 (by kernel_rfl) (Or.inl (by kernel_rfl)) (by kernel_rfl) (by kernel_rfl))
  exact (@den_local _ _ _ _ _ 1 (by kernel_rfl) (by kernel_rfl) (by kernel_rfl))
  refine' loop_j rfl (by intro g' h; first | (cases h; done) | (cases h; rfl)) ?_ ?_ ?_
  exact (@asg_local _ _ _ _ _ 2 (by kernel_rfl) (by kernel_rfl))
  exact (@ifs_nil _ _ _)
  refine' body_nest rfl ?_ (fun uq1 uq2 => rfl) ?_
  refine' den_iter ?_
  refine' den_slice ?_ ?_ ?_
  exact (@den_cell _ _ _ _ _ 5 (by kernel_rfl) (Or.inl (by kernel_rfl)) (by kernel_rfl) (by kernel_rfl))
  refine' denp_some ?_
  refine' den_bin addop_ok ?_ ?_
  exact (@den_local _ _ _ _ _ 1 (by kernel_rfl) (by kernel_rfl) (by kernel_rfl))
  exact (@den_int _ _ _ _ _ _)
  exact (@denp_none _ _ _)
  refine' loop_j rfl (by intro g' h; first | (cases h; done) | (cases h; rfl)) ?_ ?_ ?_
  exact (@asg_local _ _ _ _ _ 3 (by kernel_rfl) (by kernel_rfl))
  exact (@ifs_nil _ _ _)
  refine' body_nest rfl ?_ (fun uq1 uq2 => rfl) ?_
  refine' den_iter ?_
  exact (@den_local _ _ _ _ _ 3 (by kernel_rfl) (by kernel_rfl) (by kernel_rfl))
  refine' loop_j rfl (by intro g' h; first | (cases h; done) | (cases h; rfl)) ?_ ?_ ?_
  exact (@asg_local _ _ _ _ _ 4 (by kernel_rfl) (by kernel_rfl))
  refine' ifs_one ?_
  refine' denB_val ?_ (fun uq1 => rfl)
  refine' den_meth (fun uq1 => rfl) ?_ (getM_inst (C := 127) (f := 117) (by kernel_rfl) (by kernel_rfl) (by kernel_rfl)) ?_ ?_ ?_ (fun uq1 uq2 => rfl) (fun uq1 uq2 => rfl) ?_
  exact (@den_local _ _ _ _ _ 2 (by kernel_rfl) (by kernel_rfl) (by kernel_rfl))
  exact (@keeps_K' _ _ (by kernel_rfl))
  refine' dens_cons ?_ ?_ (fun uq1 => rfl)
  exact (@den_local _ _ _ _ _ 4 (by kernel_rfl) (by kernel_rfl) (by kernel_rfl))
  exact (@dens_nil _ _ _)
  exact (@dks_nil _ _ _)
  exact (@FnDen.le _ _ _ _ _ (Mini.L2.fd_117 _) (by decide))
  refine' body_emit rfl ?_
  exact (@den_int _ _ _ _ _ _)
  refine' dss_cons ?_ ?_
  refine' ds_ret ?_
  refine' den_and2 ?_ ?_
  refine' den_cmp opB_eq ?_ ?_ (by decide) (by rfl)
  refine' den_call (fv := (PySem.Value.type "str")) ?_ ?_ ?_ ?_ (fun uq1 uq2 => rfl) (fun uq1 uq2 => rfl) ?_
  exact (@den_builtin _ _ _ _ _ ((PySem.Value.type "str")) (by kernel_rfl) (by kernel_rfl) (by kernel_rfl) (by decide +kernel) (by kernel_rfl))
  exact (@keeps_type _ _)
  refine' dens_cons ?_ ?_ (fun uq1 => rfl)
  exact (@den_local _ _ _ _ _ 12 (by kernel_rfl) (by kernel_rfl) (by kernel_rfl))
  exact (@dens_nil _ _ _)
  exact (@dks_nil _ _ _)
  exact (@den_strN _ _ (by decide))
  refine' den_call (fv := (PySem.Value.type "str")) ?_ ?_ ?_ ?_ (fun uq1 uq2 => rfl) (fun uq1 uq2 => rfl) ?_
  exact (@den_builtin _ _ _ _ _ ((PySem.Value.type "str")) (by kernel_rfl) (by kernel_rfl) (by kernel_rfl) (by decide +kernel) (by kernel_rfl))
  exact (@keeps_type _ _)
  refine' dens_cons ?_ ?_ (fun uq1 => rfl)
  exact (@den_local _ _ _ _ _ 7 (by kernel_rfl) (by kernel_rfl) (by kernel_rfl))
  exact (@dens_nil _ _ _)
  exact (@dks_nil _ _ _)
  exact (@den_strN _ _ (by decide))
  refine' den_cmp opB_eq ?_ ?_ (by decide) (by rfl)
  refine' den_call (fv := (PySem.Value.builtin "len")) ?_ ?_ ?_ ?_ (fun uq1 uq2 => rfl) (fun uq1 uq2 => rfl) ?_
  exact (@den_builtin _ _ _ _ _ ((PySem.Value.builtin "len")) (by kernel_rfl) (by kernel_rfl) (by kernel_rfl) (by decide +kernel) (by kernel_rfl))
  exact (@keeps_builtin _ _)
  refine' dens_cons ?_ ?_ (fun uq1 => rfl)
  exact (@den_local _ _ _ _ _ 13 (by kernel_rfl) (by kernel_rfl) (by kernel_rfl))
  exact (@dens_nil _ _ _)
  exact (@dks_nil _ _ _)
  exact (@den_lenS _ _)
  refine' den_meth (fun uq1 => rfl) ?_ (getM_list PySem.F.slot_list_count (by rfl)) ?_ ?_ ?_ (fun uq1 uq2 => rfl) (fun uq1 uq2 => rfl) ?_
  exact (@den_local _ _ _ _ _ 12 (by kernel_rfl) (by kernel_rfl) (by kernel_rfl))
  exact (@keeps_builtin _ _)
  refine' dens_cons ?_ ?_ (fun uq1 => rfl)
  exact (@den_int _ _ _ _ _ _)
  exact (@dens_nil _ _ _)
  exact (@dks_nil _ _ _)
  exact (@den_countI _ _)
  exact (@dss_nil _ _ _)⟩
noncomputable def law_d (c : Cx) : St → Option (Fl × St) := (law_D c).1
theorem law_den (c : Cx) : DenSs c.G 60 law_sx law_body (law_d c) := (law_D c).2
end Mini.L2

open PySem PySem.W PySem.Calls PyProof.Rows
set_option maxRecDepth 100000
set_option maxHeartbeats 4000000
namespace Mini.L2
noncomputable section Q
noncomputable def haddX (c : Cx) : St → Option (Fl × St) := fun st => seqS (fun st => asgS (fun st => (some ([], st.H)).bind fun p => if p.fst.length ≤ 100000 then some (MV.ref p.snd.n, p.snd.push (MO.list p.fst)) else none) (setv 4) st) (fun st => seqS (fun st => ifS (fun st => cmp2 (fun st => getv st 2) (fun st => some (MV.val Value.none, st.H)) (fun x y x_1 => Option.map (fun x => !x) (isop x y)) st) (fun st => seqS (fun st => asgS (fun st => (getv st 0).bind fun r => if hasNo 275 (Str.ofString "_convert_string_type") r.fst r.snd = true then ((getv (St.mk (st.vs) (r.snd)) 2).bind fun p => (some ([], (St.mk ((St.mk (st.vs) (r.snd)).vs) (p.snd)).H)).bind fun q => some (p.fst :: q.fst, q.snd)).bind fun p => ((some (bv false, (St.mk (st.vs) (p.snd)).H)).bind fun p_1 => (some ([], (St.mk ((St.mk (st.vs) (p.snd)).vs) (p_1.snd)).H)).bind fun q => some (((Str.mk #[110, 97, 109, 101]), p_1.fst) :: q.fst, q.snd)).bind fun q => h_conv_f c (r.fst :: p.fst) q.fst q.snd else none) (setv 2) st) (fun st => seqS (fun st => exprS (fun st => (getv st 4).bind fun r => if isListM r.fst r.snd = true then ((getv (St.mk (st.vs) (r.snd)) 2).bind fun p => (some ([], (St.mk ((St.mk (st.vs) (r.snd)).vs) (p.snd)).H)).bind fun q => some (p.fst :: q.fst, q.snd)).bind fun p => (some ([], (St.mk (st.vs) (p.snd)).H)).bind fun q => appendF (r.fst :: p.fst) q.fst q.snd else none) st) nilS st) st) nilS st) (fun st => seqS (items0 3) (fun st => seqS (fun st => exprS (fun st => ((getv st 0).bind fun p => attrOf 275 (Str.mk #[95, 104, 101, 97, 100, 101, 114, 115]) p.fst p.snd).bind fun r => if isListM r.fst r.snd = true then (((((getv (St.mk (st.vs) (r.snd)) 0).bind fun r_1 => if hasNo 275 (Str.ofString "_convert_string_type") r_1.fst r_1.snd = true then ((getv (St.mk ((St.mk (st.vs) (r.snd)).vs) (r_1.snd)) 1).bind fun p => (some ([], (St.mk ((St.mk ((St.mk (st.vs) (r.snd)).vs) (r_1.snd)).vs) (p.snd)).H)).bind fun q => some (p.fst :: q.fst, q.snd)).bind fun p => ((some (bv true, (St.mk ((St.mk (st.vs) (r.snd)).vs) (p.snd)).H)).bind fun p_1 => (some ([], (St.mk ((St.mk ((St.mk (st.vs) (r.snd)).vs) (p.snd)).vs) (p_1.snd)).H)).bind fun q => some (((Str.mk #[110, 97, 109, 101]), p_1.fst) :: q.fst, q.snd)).bind fun q => h_conv_f c (r_1.fst :: p.fst) q.fst q.snd else none).bind fun p => (((some (MV.str (Str.mk #[59, 32]), (St.mk ((St.mk (st.vs) (r.snd)).vs) (p.snd)).H)).bind fun r_1 => if isStrM r_1.fst r_1.snd = true then ((getv (St.mk ((St.mk ((St.mk (st.vs) (r.snd)).vs) (p.snd)).vs) (r_1.snd)) 4).bind fun p_1 => (some ([], (St.mk ((St.mk ((St.mk ((St.mk (st.vs) (r.snd)).vs) (p.snd)).vs) (r_1.snd)).vs) (p_1.snd)).H)).bind fun q => some (p_1.fst :: q.fst, q.snd)).bind fun p_1 => (some ([], (St.mk ((St.mk ((St.mk (st.vs) (r.snd)).vs) (p.snd)).vs) (p_1.snd)).H)).bind fun q => joinW (r_1.fst :: p_1.fst) q.fst q.snd else none).bind fun p_1 => (some ([], (St.mk ((St.mk ((St.mk (st.vs) (r.snd)).vs) (p.snd)).vs) (p_1.snd)).H)).bind fun q => some (p_1.fst :: q.fst, q.snd)).bind fun q => some (p.fst :: q.fst, q.snd)).bind fun p => if p.fst.length ≤ 100000 then some (MV.ref p.snd.n, p.snd.push (MO.tup p.fst)) else none).bind fun p => (some ([], (St.mk ((St.mk (st.vs) (r.snd)).vs) (p.snd)).H)).bind fun q => some (p.fst :: q.fst, q.snd)).bind fun p => (some ([], (St.mk (st.vs) (p.snd)).H)).bind fun q => appendF (r.fst :: p.fst) q.fst q.snd else none) st) nilS st) st) st) st
theorem h_add_eq (c : Cx) : h_add_d c = haddX c := by kernel_rfl
theorem append_eq {l : Nat} {xs : List MV} {H : MH} {v : MV} (h : H.get l = some (.list xs)) (hl : xs.length ≤ 1000) : appendF [.ref l, v] [] H = some (.val .none, H.set l (.list (xs ++ [v]))) := by
  unfold appendF
  simp only [h]
  exact if_pos (by omega)
theorem joinW_one {l : Nat} {v sep : Str} {H : MH} (h : H.get l = some (.list [.str v])) (hs : sep.length ≤ 10) (hv : v.cps.size ≤ 1000) : joinW [.str sep, .ref l] [] H = some (.str v, H) := by
  have e : (⟨v.cps.toList.toArray⟩ : Str) = v := by obtain ⟨⟨x⟩⟩ := v; rfl
  unfold joinW
  simp only [h, strsOf, Option.map_some, Option.bind_some, List.map_cons, List.map_nil, joinL, e]
  have h1 : v.cps.toList.length ≤ 100000 := by simpa using (by omega : v.cps.size ≤ 100000)
  have h2 : ([v].toArray.foldl (fun x y => x + y.length + sep.length) 0) ≤ 100000 := by
    show 0 + v.length + sep.length ≤ 100000
    have : v.length = v.cps.size := rfl
    omega
  exact if_pos ⟨h1, h2⟩
noncomputable def addH (o : HO) (n v : Str) (H : MH) : MH := ((((H.push (.emp H.n)).push (.list [])).set (H.n + 1) (.list [.str v])).push (.tup [.str n, .str v])).set o.hl (.list ((o.rows.map fun r => .ref r.a) ++ [.ref (H.n + 2)]))
theorem addh {c : Cx} {o : HO} {H : MH} {n v : Str} (A : o.At H) (hn : okTxt true n = true) (hv : okTxt false v = true) (hz : v.cps.size ≤ 1000) :
    h_add_f c [.ref o.l, .str n, .str v] [] H = some (.val .none, addH o n v H) := by
  let H2 : MH := (H.push (.emp H.n)).push (.list [])
  let H3 : MH := H2.set (H.n + 1) (.list [.str v])
  let H4 : MH := H3.push (.tup [.str n, .str v])
  have k2 : Kp H H2 := Kp.push.trans Kp.push
  have k3 : Kp H H3 := k2.set (Nat.le_succ _)
  have k4 : Kp H H4 := k3.trans Kp.push
  have A2 := A.kp k2
  have A3 := A.kp k3
  have A4 := A.kp k4
  have n2 := A2.hasNo A2.no1
  have n3 := A3.hasNo A3.no1
  have at3 := A3.heads
  have g2 : H2.get (H.n + 1) = some (.list []) := get_push_self
  have p2 : appendF [.ref (H.n + 1), .str v] [] H2 = some (.val .none, H3) := append_eq g2 (by decide)
  have g3 : H3.get (H.n + 1) = some (.list [.str v]) := get_set_self g2
  have em : H3.get H.n = some (.emp H.n) := by
    rw [get_set_ne (by omega)]
    exact (Kp.push.2 _ (Nat.lt_succ_self _)).trans get_push_self
  have j3 : joinW [.str (Str.mk #[59, 32]), .ref (H.n + 1)] [] H3 = some (.str v, H3) := joinW_one g3 (by decide) hz
  have c2 : h_conv_f c [.ref o.l, .str v] [(⟨#[110, 97, 109, 101]⟩, bv false)] H2 = some (.str v, H2) := conv hv
  have c3 : h_conv_f c [.ref o.l, .str n] [(⟨#[110, 97, 109, 101]⟩, bv true)] H3 = some (.str n, H3) := conv hn
  have l2 : isListM (.ref (H.n + 1)) H2 = true := by unfold isListM; simp only [g2]
  have l3 : isListM (.ref o.hl) H3 = true := by unfold isListM; simp only [A3.hg]
  have p4 : appendF [.ref o.hl, .ref H3.n] [] (H3.push (.tup [.str n, .str v])) = some (.val .none, addH o n v H) := append_eq A4.hg (by rw [List.length_map]; have := A.len; omega)
  have is1 : isop (.str v) (.val .none) = some false := rfl
  have e1 : asgS (fun st => (some (([] : List MV), st.H)).bind fun p => if p.1.length ≤ 100000 then some (MV.ref p.2.n, p.2.push (MO.list p.1)) else none) (setv 4) ⟨[some (.ref o.l), some (.str n), some (.str v), some (.ref H.n), none, none, none], H.push (.emp H.n)⟩ = some (.next, ⟨[some (.ref o.l), some (.str n), some (.str v), some (.ref H.n), some (.ref (H.n + 1)), none, none], H2⟩) := by rfl
  have e3 : items0 3 ⟨[some (.ref o.l), some (.str n), some (.str v), some (.ref H.n), some (.ref (H.n + 1)), none, none], H3⟩ = some (.next, ⟨[some (.ref o.l), some (.str n), some (.str v), some (.ref H.n), some (.ref (H.n + 1)), none, none], H3⟩) := by
    unfold items0
    show (if H3.get H.n = some (.emp H.n) then _ else _) = _
    rw [if_pos em]
  show Option.bind (h_add_d c ⟨[some (.ref o.l), some (.str n), some (.str v), some (.ref H.n), none, none, none], H.push (.emp H.n)⟩) retOf = _
  rw [h_add_eq]
  unfold haddX
  rw [seq_step e1]
  simp [seqS, ifS, cmp2, getv, nthV_eq, is1, asgS, n2, c2, setv_eq, exprS, l2, p2, nilS, e3, at3, l3, n3, c3, j3, p4, retOf, isStrM]
end Q
end Mini.L2

open PySem PySem.W PySem.Calls PyProof.Rows
set_option maxRecDepth 100000
set_option maxHeartbeats 4000000
namespace Mini.L2
noncomputable section Q
theorem gcH_kp {H H' : MH} (k : Kp H H') : Kp H (gcH H.n H') := by
  refine ⟨k.1, fun l hl => ?_⟩
  rw [gcH_get, if_pos hl]
  cases h : H'.get l with
  | some o => rw [← k.2 l hl, h]; rfl
  | none =>
    cases hc : getL (codeAt H') l with
    | some o => rw [code_sub hc] at h; cases h
    | none => rw [← k.2 l hl, h]; rfl
theorem ahead_f_ok {c : Cx} {lb : Nat} {bs : List (Nat × List WO)} {z : Int} {H : MH} (B : Bands H lb bs) (hz : 1 ≤ z ∧ z ≤ 1000) :
    ∃ H', ahead_f c [.ref lb, .int z] [] H = some (.int (ahF z (bs.map (·.2)) ([], 0)).2, H') ∧ Kp H H' := by
  obtain ⟨st', e, k⟩ := ahead_d_ok (c := c) B hz
  refine ⟨gcH H.n st'.H, ?_, gcH_kp k⟩
  show Option.map _ (Option.bind (ahead_d c ⟨[some (.ref lb), some (.int z), none, none, none, none, none], H⟩) retOf) = _
  rw [e]; rfl
theorem lam_eq (c : Cx) (z : Int) (lb : Nat) (H : MH) : lam0_d c ⟨[some (.int z), some (.ref lb)], H⟩ = ahead_f c [.ref lb, .int z] [] H := by kernel_rfl
end Q
end Mini.L2

open PySem PySem.W PySem.Calls PyProof.Rows
set_option maxRecDepth 100000
set_option maxHeartbeats 4000000
namespace Mini.L2
noncomputable section Q
noncomputable abbrev stK (l : Nat) (x lo hi : Int) (key : MV) (m : Option MV) (H : MH) : St := ⟨[some (.ref l), some (.int x), some (.int lo), some (.int hi), some key, m], H⟩
theorem bcond_eqK (l : Nat) (x lo hi : Int) (key : MV) (m : Option MV) (H : MH) : bcond (stK l x lo hi key m H) = some (decide (lo < hi), H) := by rfl
theorem loopH {b : St → Option (Fl × St)} {p : Int → Prop} [DecidablePred p] {l : Nat} {x : Int} {key : MV} {H0 : MH} {g : Nat → Int} {len : Nat}
    (hb : ∀ (lo hi mid : Nat) (m : Option MV) (H : MH), Kp H0 H → mid < len → (lo + hi) / 2 = mid → ∃ H', b (stK l x lo hi key m H) = some (.next, if p (g mid) then stK l x ((mid + 1 : Nat) : Int) hi key (some (.int mid)) H' else stK l x lo mid key (some (.int mid)) H') ∧ Kp H H')
    (mono : ∀ i j, i ≤ j → j < len → p (g j) → p (g i)) :
    ∀ (n lo hi : Nat) (m : Option MV) (H : MH), Kp H0 H → hi < n + lo → lo ≤ hi → hi ≤ len → (∀ i, i < lo → p (g i)) → (∀ i, hi ≤ i → i < len → ¬ p (g i)) →
      ∃ (r : Nat) (m' : Option MV) (H' : MH), whileD bcond b n (stK l x lo hi key m H) = some (.next, stK l x r r key m' H') ∧ Kp H0 H' ∧ r ≤ len ∧ (∀ i, i < r → p (g i)) ∧ (∀ i, r ≤ i → i < len → ¬ p (g i)) := by
  intro n
  induction n with
  | zero => intro lo hi m H k h1 h2; omega
  | succ n ih =>
    intro lo hi m H k h1 h2 h3 h4 h5
    by_cases hlt : lo < hi
    · have hm : (lo + hi) / 2 < len := by omega
      obtain ⟨H', e, k'⟩ := hb lo hi _ m H k hm rfl
      have step : whileD bcond b (n + 1) (stK l x lo hi key m H) = whileD bcond b n (if p (g ((lo + hi) / 2)) then stK l x (((lo + hi) / 2 + 1 : Nat) : Int) hi key (some (.int ((lo + hi) / 2 : Nat))) H' else stK l x lo ((lo + hi) / 2 : Nat) key (some (.int ((lo + hi) / 2 : Nat))) H') := by
        show Option.bind (bcond (stK l x lo hi key m H)) _ = _
        rw [bcond_eqK, decide_eq_true (by omega)]
        show Option.bind (b (stK l x lo hi key m H)) _ = _
        rw [e]; rfl
      rw [step]
      by_cases hp : p (g ((lo + hi) / 2))
      · rw [if_pos hp]
        exact ih _ _ _ _ (k.trans k') (by omega) (by omega) h3 (fun i hi' => mono i _ (by omega) hm hp) h5
      · rw [if_neg hp]
        exact ih _ _ _ _ (k.trans k') (by omega) (by omega) (by omega) h4 fun i h6 h7 h8 => hp (mono _ i h6 h7 h8)
    · have : lo = hi := by omega
      subst this
      refine ⟨lo, m, H, ?_, k, h3, h4, h5⟩
      show Option.bind (bcond (stK l x lo lo key m H)) _ = _
      rw [bcond_eqK, decide_eq_false (by omega)]; rfl
end Q
end Mini.L2

open PySem PySem.W PySem.Calls PyProof.Rows
set_option maxRecDepth 100000
set_option maxHeartbeats 4000000
namespace Mini.L2
noncomputable section Q
noncomputable def keyE (c : Cx) : St → Option (MV × MH) := callClo 0 (c.G.lams 0).qual 4 (a1 (seq2 (fun st => getv st 0) (fun st => getv st 5) (itemop c.G))) (fun l v H => lam0_d c ⟨[some v, some (.ref l)], H⟩)
noncomputable def bbodyK (c : Cx) : St → Option (Fl × St) := seqS (asgS (seq2 (seq2 (fun st => getv st 2) (fun st => getv st 3) addop) (fun st => some (.int 2, st.H)) fdivop) (setv 5)) (seqS (ifS (cmp2 (keyE c) (fun st => getv st 1) (fun x y uq1 => ltop x y)) (seqS (asgS (seq2 (fun st => getv st 5) (fun st => some (.int 1, st.H)) addop) (setv 2)) nilS) (seqS (asgS (fun st => getv st 5) (setv 3)) nilS)) nilS)
theorem bisk_d (c : Cx) : ∃ D4, bisect_leftK_d c = seqS bD1 (seqS (bD2 c) (seqS (ifS (isNone 4) D4 (seqS (whileD bcond (bbodyK c) 64) nilS)) bD5)) := ⟨_, rfl⟩
theorem bbodyK_eq (c : Cx) (l lb lc : Nat) (x lo hi mid y : Int) (m : Option MV) (H H' : MH) (hm : (lo + hi).fdiv 2 = mid) (h : keyE c (stK l x lo hi (.clo 0 lb lc) (some (.int mid)) H) = some (.int y, H')) :
    bbodyK c (stK l x lo hi (.clo 0 lb lc) m H) = some (.next, if y < x then stK l x (mid + 1) hi (.clo 0 lb lc) (some (.int mid)) H' else stK l x lo mid (.clo 0 lb lc) (some (.int mid)) H') := by
  have e1 : asgS (seq2 (seq2 (fun st => getv st 2) (fun st => getv st 3) addop) (fun st => some (.int 2, st.H)) fdivop) (setv 5) (stK l x lo hi (.clo 0 lb lc) m H) = some (.next, stK l x lo hi (.clo 0 lb lc) (some (.int mid)) H) := by
    rw [← hm]; rfl
  have e2 : cmp2 (keyE c) (fun st => getv st 1) (fun x y uq1 => ltop x y) (stK l x lo hi (.clo 0 lb lc) (some (.int mid)) H) = some (decide (y < x), H') := by
    unfold cmp2
    rw [h]; rfl
  unfold bbodyK seqS
  rw [e1]
  show Option.bind (ifS _ _ _ (stK l x lo hi (.clo 0 lb lc) (some (.int mid)) H)) _ = _
  unfold ifS
  rw [e2]
  by_cases hy : y < x
  · rw [if_pos hy, decide_eq_true hy]; rfl
  · rw [if_neg hy, decide_eq_false hy]; rfl
theorem keyE_eq {c : Cx} {l lb lc : Nat} {x lo hi : Int} {i : Nat} {ns : List Int} {bs : List (Nat × List WO)} {H : MH} (B : Bands H lb bs) (hl : H.get l = some (.list (ns.map .int))) (hi' : i < ns.length) (hn : ns.length ≤ 60) (hc : H.get lc = some (.code (c.G.lams 0).qual)) (hz : 1 ≤ ns.getD i 0 ∧ ns.getD i 0 ≤ 1000) :
    ∃ H', keyE c (stK l x lo hi (.clo 0 lb lc) (some (.int i)) H) = some (.int (ahF (ns.getD i 0) (bs.map (·.2)) ([], 0)).2, H') ∧ Kp H H' := by
  obtain ⟨H', e, k⟩ := ahead_f_ok (c := c) B hz
  refine ⟨H', ?_, k⟩
  have ei : a1 (seq2 (fun st => getv st 0) (fun st => getv st 5) (itemop c.G)) (stK l x lo hi (.clo 0 lb lc) (some (.int i)) H) = some ([.int (ns.getD i 0)], H) := by
    have es : seq2 (fun st => getv st 0) (fun st => getv st 5) (itemop c.G) (stK l x lo hi (.clo 0 lb lc) (some (.int i)) H) = some (.int (ns.getD i 0), H) := by
      have q := item_ints (c := c) hl hi' hn
      have s0 : getv (stK l x lo hi (.clo 0 lb lc) (some (.int i)) H) 0 = some (.ref l, H) := by rfl
      have s5 : getv (stK l x lo hi (.clo 0 lb lc) (some (.int i)) H) 5 = some (.int i, H) := by rfl
      unfold seq2
      dsimp only
      rw [s0, Option.bind_some]
      show Option.bind (getv (stK l x lo hi (.clo 0 lb lc) (some (.int i)) H) 5) _ = _
      rw [s5, Option.bind_some]
      exact q
    unfold a1
    rw [es, Option.bind_some]; rfl
  unfold keyE callClo
  show Option.bind (a1 (seq2 (fun st => getv st 0) (fun st => getv st 5) (itemop c.G)) (stK l x lo hi (.clo 0 lb lc) (some (.int i)) H)) _ = _
  rw [ei, Option.bind_some]
  dsimp only
  rw [if_pos ⟨rfl, hc⟩, lam_eq]
  exact e
end Q
end Mini.L2

open PySem PySem.W PySem.Calls PyProof.Rows
set_option maxRecDepth 100000
set_option maxHeartbeats 4000000
namespace Mini.L2
noncomputable section Q
theorem Bands.kp {H H' : MH} {lb : Nat} {bs : List (Nat × List WO)} (B : Bands H lb bs) (k : Kp H H') : Bands H' lb bs :=
  ⟨(k.2 _ B.lt).trans B.hb, Nat.lt_of_lt_of_le B.lt k.1, fun p hp => ⟨Nat.lt_of_lt_of_le (B.each p hp).1 k.1, (k.2 _ (B.each p hp).1).trans (B.each p hp).2.1, (B.each p hp).2.2.1, fun o ho => ⟨((B.each p hp).2.2.2 o ho).1.kp ((B.each p hp).2.2.2 o ho).2 k, ((B.each p hp).2.2.2 o ho).2.kp k⟩⟩, B.len⟩
noncomputable def cnt (bs : List (Nat × List WO)) (z : Int) : Int := (ahF z (bs.map (·.2)) ([], 0)).2
theorem biskl {c : Cx} {l lb lc : Nat} {x : Int} {ns : List Int} {bs : List (Nat × List WO)} {H : MH} (B : Bands H lb bs) (hl : H.get l = some (.list (ns.map .int))) (hl0 : l < H.n) (hn : ns.length ≤ 60) (hc : H.get lc = some (.code (c.G.lams 0).qual)) (hc0 : lc < H.n)
    (hz : ∀ i, i < ns.length → 1 ≤ ns.getD i 0 ∧ ns.getD i 0 ≤ 1000) (mono : ∀ i j, i ≤ j → j < ns.length → cnt bs (ns.getD i 0) ≤ cnt bs (ns.getD j 0)) :
    ∃ (r : Nat) (st' : St), bisect_leftK_d c ⟨[some (.ref l), some (.int x), some (.int 0), some (.val .none), some (.clo 0 lb lc), none], H⟩ = some (.ret (.int r), st') ∧ Kp H st'.H ∧ r ≤ ns.length ∧ (∀ i, i < r → cnt bs (ns.getD i 0) < x) ∧ ∀ i, r ≤ i → i < ns.length → ¬ cnt bs (ns.getD i 0) < x := by
  obtain ⟨D4, hd⟩ := bisk_d c
  obtain ⟨r, m', H', hw, k, h1, h2, h3⟩ := loopH (b := bbodyK c) (p := fun y => y < x) (l := l) (x := x) (key := .clo 0 lb lc) (H0 := H) (g := fun i => cnt bs (ns.getD i 0)) (len := ns.length)
    (fun lo hi mid m H1 k1 hm hmid => by
      obtain ⟨H2, e, k2⟩ := keyE_eq (c := c) (x := x) (lo := lo) (hi := hi) (i := mid) (ns := ns) (B.kp k1) ((k1.2 _ hl0).trans hl) hm hn ((k1.2 _ hc0).trans hc) (hz mid hm)
      exact ⟨H2, bbodyK_eq c l lb lc x lo hi mid _ m H1 H2 (fdiv_two lo hi mid hmid) e, k2⟩)
    (fun i j hij hj h => Int.lt_of_le_of_lt (mono i j hij hj) h) 64 0 ns.length none H .refl (by omega) (Nat.zero_le _) (Nat.le_refl _) (fun i hi => absurd hi (Nat.not_lt_zero _)) fun i hi hi' => by omega
  refine ⟨r, stK l x r r (.clo 0 lb lc) m' H', ?_, k, h1, h2, h3⟩
  have e2 : bD2 c ⟨[some (.ref l), some (.int x), some (.int 0), some (.val .none), some (.clo 0 lb lc), none], H⟩ = some (.next, stK l x ((0 : Nat) : Int) ns.length (.clo 0 lb lc) none H) := by
    have el : bLen c ⟨[some (.ref l), some (.int x), some (.int 0), some (.val .none), some (.clo 0 lb lc), none], H⟩ = some (.int ns.length, H) := by
      show Option.bind (some ([MV.ref l], H)) (fun p => (some (([] : List (Str × MV)), H)).bind fun q => lenS c.G [MV.ref l] [] H) = _
      rw [Option.bind_some, Option.bind_some, len_list hl (by rw [List.length_map]; omega), List.length_map]
    show (ifS (isNone 3) (seqS (asgS (bLen c) (setv 3)) nilS) nilS ⟨[some (.ref l), some (.int x), some (.int 0), some (.val .none), some (.clo 0 lb lc), none], H⟩) = _
    unfold ifS
    show Option.bind (some (true, H)) _ = _
    rw [Option.bind_some, if_pos rfl]
    show seqS (asgS (bLen c) (setv 3)) nilS ⟨[some (.ref l), some (.int x), some (.int 0), some (.val .none), some (.clo 0 lb lc), none], H⟩ = _
    unfold seqS asgS
    rw [el]; rfl
  rw [hd]
  show Option.bind (bD1 ⟨[some (.ref l), some (.int x), some (.int 0), some (.val .none), some (.clo 0 lb lc), none], H⟩) _ = _
  have e1 : bD1 ⟨[some (.ref l), some (.int x), some (.int 0), some (.val .none), some (.clo 0 lb lc), none], H⟩ = some (.next, ⟨[some (.ref l), some (.int x), some (.int 0), some (.val .none), some (.clo 0 lb lc), none], H⟩) := by rfl
  rw [e1, Option.bind_some]
  show Option.bind (bD2 c ⟨[some (.ref l), some (.int x), some (.int 0), some (.val .none), some (.clo 0 lb lc), none], H⟩) _ = _
  rw [e2, Option.bind_some]
  show Option.bind (ifS (isNone 4) D4 (seqS (whileD bcond (bbodyK c) 64) nilS) (stK l x ((0 : Nat) : Int) ns.length (.clo 0 lb lc) none H)) _ = _
  have e3 : ifS (isNone 4) D4 (seqS (whileD bcond (bbodyK c) 64) nilS) (stK l x ((0 : Nat) : Int) ns.length (.clo 0 lb lc) none H) = some (.next, stK l x r r (.clo 0 lb lc) m' H') := by
    unfold ifS
    show Option.bind (some (false, H)) _ = _
    rw [Option.bind_some, if_neg Bool.false_ne_true]
    show Option.bind (whileD bcond (bbodyK c) 64 (stK l x ((0 : Nat) : Int) ns.length (.clo 0 lb lc) none H)) _ = _
    rw [hw]; rfl
  rw [e3]; rfl
end Q
end Mini.L2

open PySem PySem.W PySem.Calls PyProof.Rows
set_option maxRecDepth 100000
set_option maxHeartbeats 4000000
namespace Mini.L2
noncomputable section Q
set_option genSizeOf false in
set_option genInjectivity false in
structure Dr where
  t : Nat
  b : Nat
  g : Nat
noncomputable def Dr.ok (d : Dr) : Prop := d.t ≤ 2 ∧ d.b ≤ 6 ∧ d.g ≤ 1
noncomputable def pv (x y : Dr) : Int := max 1 (((x.b : Int) - y.b).fdiv ((y.t : Int) - x.t) + 1)
noncomputable def plain (D : List Dr) : List Int := D.flatMap fun x => (D.filter fun y => decide (x.t < y.t)).map fun y => pv x y
theorem pv_le {x y : Dr} {z : Int} (h : x.t < y.t) (hz : 1 ≤ z) : pv x y ≤ z ↔ (x.b : Int) + z * x.t < y.b + z * y.t := by
  unfold pv
  have hd : (0 : Int) < (y.t : Int) - x.t := by omega
  have hf : ((x.b : Int) - y.b).fdiv ((y.t : Int) - x.t) = ((x.b : Int) - y.b) / ((y.t : Int) - x.t) := Int.fdiv_eq_ediv_of_nonneg _ (by omega)
  rw [hf]
  have hlt : ((x.b : Int) - y.b) / ((y.t : Int) - x.t) < z ↔ (x.b : Int) - y.b < z * ((y.t : Int) - x.t) := Int.ediv_lt_iff_lt_mul hd
  rw [Int.mul_sub] at hlt
  constructor
  · intro hm
    have := hlt.mp (by omega)
    omega
  · intro hm
    have := hlt.mpr (by omega)
    omega
theorem pv_rng {x y : Dr} (hx : x.ok) (hy : y.ok) (h : x.t < y.t) : 1 ≤ pv x y ∧ pv x y ≤ 7 := by
  obtain ⟨h1, h2, _⟩ := hx
  obtain ⟨h3, h4, _⟩ := hy
  refine ⟨Int.le_max_left .., ?_⟩
  rw [pv_le h (by decide)]
  omega
theorem countP_add3 {α : Type} {p a b c : α → Bool} : ∀ {l : List α}, (∀ x ∈ l, (if p x then 1 else 0) = (if a x then 1 else 0) + (if b x then 1 else 0) + (if c x then 1 else 0)) → l.countP p = l.countP a + l.countP b + l.countP c
  | [], _ => rfl
  | x :: r, h => by
    have h1 := h x (List.mem_cons_self ..)
    have h2 := countP_add3 (l := r) fun y hy => h y (List.mem_cons_of_mem _ hy)
    simp only [List.countP_cons]
    omega
theorem sum_add3 {α : Type} {p a b c : α → Nat} : ∀ {l : List α}, (∀ x ∈ l, p x = a x + b x + c x) → (l.map p).sum = (l.map a).sum + (l.map b).sum + (l.map c).sum
  | [], _ => rfl
  | x :: r, h => by
    have h1 := h x (List.mem_cons_self ..)
    have h2 := sum_add3 (l := r) fun y hy => h y (List.mem_cons_of_mem _ hy)
    simp only [List.map_cons, List.sum_cons]
    omega
theorem sum_filter {α : Type} {q : α → Bool} {f : α → Nat} : ∀ l : List α, ((l.filter q).map f).sum = (l.map fun x => if q x then f x else 0).sum
  | [] => rfl
  | x :: r => by
    have ih := sum_filter (q := q) (f := f) r
    by_cases h : q x = true
    · rw [List.filter_cons_of_pos h]; simp only [List.map_cons, List.sum_cons, ih, if_pos h]
    · rw [List.filter_cons_of_neg h]; simp only [List.map_cons, List.sum_cons, ih, if_neg h]; omega
theorem swap_count {α β : Type} {A : α → β → Bool} {E : List β} : ∀ D : List α, (E.map fun y => D.countP fun x => A x y).sum = (D.map fun x => E.countP fun y => A x y).sum
  | [] => by
    show (E.map fun uq1 => 0).sum = 0
    induction E with
    | nil => rfl
    | cons _ _ ih => simpa using ih
  | x :: r => by
    have ih := swap_count (A := A) (E := E) r
    rw [List.map_cons, List.sum_cons, ← ih]
    clear ih
    induction E with
    | nil => rfl
    | cons y e ih =>
      simp only [List.map_cons, List.sum_cons, List.countP_cons]
      simp only [List.countP_cons] at ih
      omega
noncomputable def cz (z : Int) (d : Dr) : Int := d.b + z * d.t
noncomputable def prs (D : List Dr) (z : Int) (i j : Nat) : Nat := (D.map fun y => D.countP fun x => decide (cz z x < cz z y) && (decide (x.t = i) && decide (y.t = j))).sum
noncomputable def all3 (D : List Dr) (z : Int) : Nat := (D.map fun y => D.countP fun x => decide (cz z x < cz z y) && decide (x.t < y.t)).sum
theorem all3_eq {D : List Dr} (h : ∀ d ∈ D, d.ok) (z : Int) : all3 D z = prs D z 0 1 + prs D z 0 2 + prs D z 1 2 := by
  unfold all3 prs
  refine sum_add3 fun y hy => countP_add3 fun x hx => ?_
  have h1 := (h x hx).1
  have h2 := (h y hy).1
  have hx3 : x.t = 0 ∨ x.t = 1 ∨ x.t = 2 := by omega
  have hy3 : y.t = 0 ∨ y.t = 1 ∨ y.t = 2 := by omega
  rcases hx3 with e | e | e <;> rcases hy3 with f | f | f <;> rw [e, f] <;> by_cases hz : cz z x < cz z y <;> simp [hz]
theorem plain_count {D : List Dr} {z : Int} (hz : 1 ≤ z) : (plain D).countP (fun p => decide (p ≤ z)) = all3 D z := by
  unfold plain all3
  rw [List.countP_flatMap, swap_count]
  congr 1
  refine List.map_congr_left fun x hx => ?_
  show ((D.filter fun y => decide (x.t < y.t)).map fun y => pv x y).countP _ = _
  rw [List.countP_map, List.countP_filter]
  refine List.countP_congr fun y hy => ?_
  simp only [Function.comp_apply, Bool.and_eq_true, decide_eq_true_eq]
  constructor
  · rintro ⟨h1, h2⟩; exact ⟨(pv_le h2 hz).mp h1, h2⟩
  · rintro ⟨h1, h2⟩; exact ⟨(pv_le h2 hz).mpr h1, h2⟩
theorem plain_rng {D : List Dr} (h : ∀ d ∈ D, d.ok) : ∀ p ∈ plain D, 1 ≤ p ∧ p ≤ 7 := by
  intro p hp
  unfold plain at hp
  obtain ⟨x, hx, hp⟩ := List.mem_flatMap.mp hp
  obtain ⟨y, hy, rfl⟩ := List.mem_map.mp hp
  have hy := List.mem_filter.mp hy
  exact pv_rng (h x hx) (h y hy.1) (by simpa using hy.2)
theorem foldl_perm : ∀ (cs row : List Int), (cs.foldl (fun r x => insS x r) row).Perm (row ++ cs)
  | [], row => by rw [List.append_nil]; exact .refl _
  | x :: cs, row => by
    refine (foldl_perm cs (insS x row)).trans (((insS_perm x row).append_right cs).trans ?_)
    exact List.perm_middle.symm
theorem cntR_perm {r r' : List Int} (h : r.Perm r') (cs : List Int) : cntR r cs = cntR r' cs := by
  unfold cntR
  congr 1
  refine List.map_congr_left fun x uq1 => ?_
  rw [h.countP_eq]
theorem sum_cast : ∀ l : List Nat, (l.map fun n => ((n : Nat) : Int)).sum = ((l.sum : Nat) : Int)
  | [] => rfl
  | a :: r => by rw [List.map_cons, List.sum_cons, List.sum_cons, sum_cast r]; omega
theorem cntR_append (r r' cs : List Int) : cntR (r ++ r') cs = cntR r cs + cntR r' cs := by
  unfold cntR
  induction cs with
  | nil => rfl
  | cons x cs ih =>
    simp only [List.map_cons, List.sum_cons, List.countP_append] at ih ⊢
    omega
noncomputable def BandOf (D : List Dr) (i : Nat) (ws : List WO) : Prop := ws.map (fun o => (o.t, o.b)) = (D.filter fun d => decide (d.t = i)).map fun d => ((d.t : Int), (d.b : Int))
theorem BandOf.cols {D : List Dr} {i : Nat} {ws : List WO} (h : BandOf D i ws) (z : Int) : Mini.L2.cols z ws = (D.filter fun d => decide (d.t = i)).map (cz z) := by
  have : Mini.L2.cols z ws = (ws.map (fun o => (o.t, o.b))).map fun p => p.2 + z * p.1 := by unfold Mini.L2.cols; rw [List.map_map]; rfl
  rw [this, h, List.map_map]; rfl
theorem cntR_prs (D : List Dr) (z : Int) (i j : Nat) : cntR ((D.filter fun d => decide (d.t = i)).map (cz z)) ((D.filter fun d => decide (d.t = j)).map (cz z)) = (prs D z i j : Int) := by
  unfold cntR prs
  have e : (((D.filter fun d => decide (d.t = j)).map (cz z)).map fun x => (((((D.filter fun d => decide (d.t = i)).map (cz z)).countP fun y => decide (y < x)) : Nat) : Int)) = (((D.filter fun d => decide (d.t = j)).map fun y => D.countP fun x => decide (cz z x < cz z y) && decide (x.t = i)).map fun n => ((n : Nat) : Int)) := by
    rw [List.map_map, List.map_map]
    refine List.map_congr_left fun y uq1 => ?_
    simp only [Function.comp_apply]
    rw [List.countP_map, List.countP_filter]; rfl
  rw [e, sum_cast, sum_filter]
  congr 2
  refine List.map_congr_left fun y uq1 => ?_
  by_cases hy : y.t = j
  · simp [hy]
  · simp [hy]
theorem cnt_eq {D : List Dr} (h : ∀ d ∈ D, d.ok) {bs : List (Nat × List WO)} {W0 W1 W2 : List WO} (hb : bs.map (·.2) = [W0, W1, W2]) (h0 : BandOf D 0 W0) (h1 : BandOf D 1 W1) (h2 : BandOf D 2 W2) {z : Int} (hz : 1 ≤ z) :
    cnt bs z = ((plain D).countP (fun p => decide (p ≤ z)) : Nat) := by
  rw [plain_count hz, all3_eq h]
  unfold cnt
  rw [hb]
  show ((0 + cntR [] (cols z W0)) + cntR ((cols z W0).foldl (fun r x => insS x r) []) (cols z W1)) + cntR ((cols z W1).foldl (fun r x => insS x r) ((cols z W0).foldl (fun r x => insS x r) [])) (cols z W2) = _
  have p0 := foldl_perm (cols z W0) []
  rw [List.nil_append] at p0
  have p1 := (foldl_perm (cols z W1) ((cols z W0).foldl (fun r x => insS x r) [])).trans (p0.append_right _)
  rw [cntR_perm p0, cntR_perm p1, cntR_append, h0.cols, h1.cols, h2.cols, cntR_prs, cntR_prs, cntR_prs]
  have : cntR [] ((D.filter fun d => decide (d.t = 0)).map (cz z)) = 0 := by
    unfold cntR
    generalize (D.filter fun d => decide (d.t = 0)).map (cz z) = l
    induction l with
    | nil => rfl
    | cons a r ih => rw [List.map_cons, List.sum_cons, ih]; rfl
  omega
theorem kth {Q : List Int} (hs : Q.Pairwise (· ≤ ·)) {k : Nat} (hk : k < Q.length) (z : Int) : ((Q.countP (fun p => decide (p ≤ z)) : Nat) : Int) < (k : Int) + 1 ↔ z < Q[k] := by
  have hsp := List.take_append_drop k Q
  have hd : Q.drop k = Q[k] :: Q.drop (k + 1) := List.drop_eq_getElem_cons hk
  have hc : Q.countP (fun p => decide (p ≤ z)) = (Q.take k).countP (fun p => decide (p ≤ z)) + (Q.drop k).countP (fun p => decide (p ≤ z)) := by
    rw [← List.countP_append, hsp]
  have htl : (Q.take k).length = k := by rw [List.length_take]; omega
  constructor
  · intro hlt
    apply Int.lt_of_not_ge
    intro hle
    have h1 : (Q.take k).countP (fun p => decide (p ≤ z)) = (Q.take k).length := by
      rw [List.countP_eq_length]
      intro p hp
      rw [← hsp] at hs
      have := (List.pairwise_append.mp hs).2.2 p hp Q[k] (by rw [hd]; exact List.mem_cons_self ..)
      simp only [decide_eq_true_eq]; omega
    have h2 : 1 ≤ (Q.drop k).countP (fun p => decide (p ≤ z)) := by
      rw [hd, List.countP_cons_of_pos (by simpa using hle)]; omega
    omega
  · intro hlt
    have h1 : (Q.drop k).countP (fun p => decide (p ≤ z)) = 0 := by
      rw [List.countP_eq_zero]
      intro p hp
      rw [hd] at hp
      simp only [decide_eq_true_eq]
      rcases List.mem_cons.mp hp with rfl | hp
      · omega
      · rw [← hsp] at hs
        have h3 := (List.pairwise_append.mp hs).2.1
        rw [hd] at h3
        have := (List.pairwise_cons.mp h3).1 p hp
        omega
    have h2 := List.countP_le_length (p := fun p => decide (p ≤ z)) (l := Q.take k)
    omega
theorem told_eq {D : List Dr} (h : ∀ d ∈ D, d.ok) {g : Int → Int} (hg : ∀ z, 1 ≤ z → g z = ((plain D).countP (fun p => decide (p ≤ z)) : Nat)) {k : Nat} (hk : k < (sortI (plain D)).length) {r : Nat} (hr : r ≤ 7)
    (h1 : ∀ i : Nat, i < r → g ((i : Int) + 1) < (k : Int) + 1) (h2 : ∀ i : Nat, r ≤ i → i < 7 → ¬ g ((i : Int) + 1) < (k : Int) + 1) : (1 : Int) + r = (sortI (plain D))[k] := by
  have hq : ∀ z, 1 ≤ z → (g z < (k : Int) + 1 ↔ z < (sortI (plain D))[k]) := fun z hz => by
    rw [hg z hz, ← (sortI_perm (plain D)).countP_eq]
    exact kth (sortI_sorted _) hk z
  have hm := plain_rng h _ ((sortI_perm (plain D)).mem_iff.mp (List.getElem_mem hk))
  have a : (r : Int) < (sortI (plain D))[k] := by
    cases r with
    | zero => omega
    | succ r => have := (hq _ (by omega)).mp (h1 r (Nat.lt_succ_self _)); omega
  have b : (sortI (plain D))[k] ≤ (r : Int) + 1 := by
    by_cases h7 : r = 7
    · subst h7; omega
    · have := (not_congr (hq _ (by omega))).mp (h2 r (Nat.le_refl _) (by omega)); omega
  omega
theorem ones {D : List Dr} (h : ∀ d ∈ D, d.ok) : (sortI (plain D)).count 1 = all3 D 1 := by
  rw [← plain_count (by decide), (sortI_perm (plain D)).count_eq]
  unfold List.count
  refine List.countP_congr fun p hp => ?_
  have := plain_rng h p hp
  simp only [decide_eq_true_eq, beq_iff_eq]
  omega
end Q
end Mini.L2

open PySem PySem.W PySem.Calls PyProof.Rows
set_option maxRecDepth 100000
set_option maxHeartbeats 4000000
namespace Mini.L2
noncomputable section Q
noncomputable abbrev DE := St → Option (MV × MH)
noncomputable abbrev DEs := St → Option (List MV × MH)
noncomputable def gv (i : Nat) : DE := fun st => getv st i
noncomputable def kI (i : Int) : DE := fun st => some (.int i, st.H)
noncomputable def kS (x : Str) : DE := fun st => some (.str x, st.H)
noncomputable def kN : DE := fun st => some (.val .none, st.H)
noncomputable def consD (d : DE) (ds : DEs) : DEs := fun st => (d st).bind fun p => (ds (St.mk st.vs p.2)).bind fun q => some (p.1 :: q.1, q.2)
noncomputable def slD (c : Cx) (dx dl du : DE) : DE := fun st => (dx st).bind fun x => (dl (St.mk st.vs x.2)).bind fun l => (du (St.mk st.vs l.2)).bind fun u => sliceop c.G x.1 l.1 u.1 u.2
noncomputable def lstD (ds : DEs) : DE := fun st => (ds st).bind fun p => if p.1.length ≤ 100000 then some (MV.ref p.2.n, p.2.push (MO.list p.1)) else none
noncomputable def tupD (ds : DEs) : DE := fun st => (ds st).bind fun p => if p.1.length ≤ 100000 then some (MV.ref p.2.n, p.2.push (MO.tup p.1)) else none
noncomputable def itD (d : DE) : St → Option (Src × MH) := fun st => (d st).bind fun p => Option.map (fun src => (src, p.2)) (iterOf p.1 p.2)
noncomputable def mth (C : Nat) (name : Str) (i : Nat) (ds : DEs) (f : List MV → List (Str × MV) → MH → Option (MV × MH)) : DE := fun st => (getv st i).bind fun r => if hasNo C name r.1 r.2 = true then (ds (St.mk st.vs r.2)).bind fun p => (some (([] : List (Str × MV)), (St.mk st.vs p.2).H)).bind fun q => f (r.1 :: p.1) q.1 q.2 else none
noncomputable def lmth (i : Nat) (ds : DEs) (f : List MV → List (Str × MV) → MH → Option (MV × MH)) : DE := fun st => (getv st i).bind fun r => if isListM r.1 r.2 = true then (ds (St.mk st.vs r.2)).bind fun p => (some (([] : List (Str × MV)), (St.mk st.vs p.2).H)).bind fun q => f (r.1 :: p.1) q.1 q.2 else none
noncomputable def lenD (c : Cx) (i : Nat) : DE := callF (a1 (gv i)) (lenS c.G)
noncomputable def ifD (b : St → Option (Bool × MH)) (d d' : DE) : DE := fun st => (b st).bind fun p => if p.1 = true then d (St.mk st.vs p.2) else d' (St.mk st.vs p.2)
noncomputable def nm (x : String) (p : Pos) : Expr := Expr.Name (Str.ofString x) p
noncomputable def ps (l a b : Nat) : Pos := Pos.mk l a l b
noncomputable def lw1 (c : Cx) : St → Option (Fl × St) := asgS (slD c (seq2 (slD c (gv 0) kN (kI 5)) (slD c (lstD (consD (kI 18) (consD (kI 21) (consD (kI 10) (consD (kI 2) (a1 (kI 6))))))) (lenD c 0) kN) addop) kN (ifD (cmp2 (lenD c 0) (kI 3) (fun x y uq1 => ltop y x)) (kI 5) (kI 4))) (setv 1)
noncomputable def enumD : St → Option (Src × MH) := fun st => (a1 (gv 1) st).bind fun p => match p.1 with
  | [.ref l] => match p.2.get l with
    | some (.list _) => some (.enum l 0, p.2)
    | _ => none
  | _ => none
noncomputable def de2 : DE := tupD (consD (seq2 (seq2 (gv 2) (gv 1) addop) (kI 3) modop) (consD (seq2 (seq2 (gv 2) (kI 3) fdivop) (kI 7) modop) (a1 (seq2 (seq2 (gv 2) (kI 21) fdivop) (kI 2) modop))))
noncomputable def lt2 : Expr := Expr.Tuple [nm "k" (ps 216 56 57), nm "v" (ps 216 59 60)] 0 (ps 216 56 60)
noncomputable def lw2 : St → Option (Fl × St) := asgCompS (compD [none, none, none] lt2 enumD (asgTup 2 (asgCons (setv 1) (asgCons (setv 2) asgNil))) tt (emitD de2)) 2
noncomputable def lw3 (c : Cx) : St → Option (Fl × St) := asgS (callF nilL (clsF 275 (h_init_f c))) (setv 3)
noncomputable def lt4 : Expr := Expr.Tuple [nm "tabs" (ps 218 8 12), nm "blanks" (ps 218 14 20), nm "great" (ps 218 22 27)] 0 (ps 218 8 27)
noncomputable def addA (c : Cx) : DEs := consD (callF (a1 (seq2 (seq2 (lstD (consD (kI 97) (a1 (kI 65)))) (gv 6) (itemop c.G)) (gv 4) addop)) chrF) (a1 (seq2 (seq2 (kS ⟨#[9]⟩) (gv 4) mulop) (seq2 (kS ⟨#[32]⟩) (gv 5) mulop) addop))
noncomputable def lw4b (c : Cx) : St → Option (Fl × St) := seqS (exprS (mth 275 (Str.ofString "add_header") 3 (addA c) (h_add_f c))) nilS
noncomputable def asg3 (i j k : Nat) : MV → St → Option St := asgTup 3 (asgCons (setv i) (asgCons (setv j) (asgCons (setv k) asgNil)))
noncomputable def lw4 (c : Cx) : St → Option (Fl × St) := forS lt4 (iter_ 2) (asg3 4 5 6) (lw4b c)
noncomputable def lt5a : Expr := nm "letter" (ps 220 70 76)
noncomputable def lt5b : Expr := nm "lead" (ps 220 35 39)
noncomputable def wsD (c : Cx) : DE := compD [none, none, none] lt5b (itD (mth 275 (Str.ofString "get_all") 2 (a1 (gv 1)) (h_all_f c))) (setv 1) tt (emitD (callF (a1 (gv 1)) (clsF 127 (w_init_f c))))
noncomputable def lw5 (c : Cx) : St → Option (Fl × St) := asgS (compD [none, none, some 3] lt5a (itD (kS ⟨#[97, 66, 99]⟩)) (setv 1) tt (emitD (wsD c))) (setv 14)
noncomputable def lw6 : St → Option (Fl × St) := asgS (lstD nilL) (setv 7)
noncomputable def lt7a : Expr := Expr.Tuple [nm "few" (ps 222 8 11), nm "blanks" (ps 222 13 19), nm "great" (ps 222 21 26)] 0 (ps 222 8 26)
noncomputable def lt7b : Expr := Expr.Tuple [nm "tabs" (ps 223 12 16), nm "fewer" (ps 223 18 23), nm "other" (ps 223 25 30)] 0 (ps 223 12 30)
noncomputable def appE : DE := lmth 7 (a1 (callF (consD (kI 1) (a1 (seq2 (seq2 (seq2 (gv 5) (gv 9) subop) (seq2 (gv 4) (gv 8) subop) fdivop) (kI 1) addop))) maxF)) appendF
noncomputable def lw7c : St → Option (Fl × St) := seqS (ifS (cmp2 (gv 8) (gv 4) (fun x y uq1 => ltop x y)) (seqS (exprS appE) nilS) nilS) nilS
noncomputable def lw7b : St → Option (Fl × St) := seqS (forS lt7b (iter_ 2) (asg3 4 9 10) lw7c) nilS
noncomputable def lw7 : St → Option (Fl × St) := forS lt7a (iter_ 2) (asg3 8 5 6) lw7b
noncomputable def lw8 : St → Option (Fl × St) := exprS (lmth 7 nilL sortF)
noncomputable def lw9 : St → Option (Fl × St) := asgS (callF (a1 (callF (consD (kI 1) (a1 (kI 8))) rangeF)) listRF) (setv 11)
noncomputable def lt10 : Expr := nm "k" (ps 228 88 89)
noncomputable def keyD (c : Cx) : DE := callKeyD (consD (gv 4) (a1 (seq2 (gv 1) (kI 1) addop))) 0 lam0.qual 228 46 3 bisect_leftK_bnd bisect_left_m (bisect_leftK_d c)
noncomputable def lw10 (c : Cx) : St → Option (Fl × St) := asgCompS (compD [none, none, none, some 14, some 11] lt10 (itD (callF (a1 (lenD c 7)) rangeF)) (setv 1) tt (emitD (seq2 (kI 1) (keyD c) addop))) 12
noncomputable def lessB (c : Cx) : St → Option (Bool × MH) := fun st => (mth 127 (Str.ofString "less") 2 (a1 (gv 4)) (w_less_f c) st).bind fun p => Option.map (fun c => (c, p.2)) (truth p.1 p.2)
noncomputable def lt11a : Expr := nm "k" (ps 229 20 21)
noncomputable def lt11b : Expr := nm "lead" (ps 229 38 42)
noncomputable def lt11c : Expr := nm "band" (ps 229 59 63)
noncomputable def lt11d : Expr := nm "other" (ps 229 85 90)
noncomputable def lw11d (c : Cx) : Nat → St → Option St := nestD lt11d (iter_ 3) (setv 4) (lessB c) (emitD (kI 1))
noncomputable def lw11c (c : Cx) : Nat → St → Option St := nestD lt11c (itD (slD c (gv 5) (seq2 (gv 1) (kI 1) addop) kN)) (setv 3) tt (lw11d c)
noncomputable def lw11b (c : Cx) : Nat → St → Option St := nestD lt11b (itD (seq2 (gv 5) (gv 1) (itemop c.G))) (setv 2) tt (lw11c c)
noncomputable def lw11 (c : Cx) : St → Option (Fl × St) := asgCompS (compD [none, none, none, none, none, some 14] lt11a (itD (callF (a1 (kI 2)) rangeF)) (setv 1) tt (lw11b c)) 13
noncomputable def lw12 (c : Cx) : St → Option (Fl × St) := seqS (retS (fun st => (Option.map (fun p => (bv p.1, p.2)) (cmp2 (callF (a1 (gv 12)) strN) (callF (a1 (gv 7)) strN) eqop st)).bind fun p => (truth p.1 p.2).bind fun b => if b = true then Option.map (fun p => (bv p.1, p.2)) (cmp2 (lenD c 13) (lmth 12 (a1 (kI 1)) countF) eqop (St.mk st.vs p.2)) else some p)) nilS
theorem law_eq (c : Cx) : law_d c = seqS (lw1 c) (seqS lw2 (seqS (lw3 c) (seqS (lw4 c) (seqS (lw5 c) (seqS lw6 (seqS lw7 (seqS lw8 (seqS lw9 (seqS (lw10 c) (seqS (lw11 c) (lw12 c))))))))))) := by kernel_rfl
end Q
end Mini.L2

open PySem PySem.W PySem.Calls PyProof.Rows
set_option maxRecDepth 100000
set_option maxHeartbeats 4000000
namespace Mini.L2
noncomputable section Q
theorem listAt_ref {c : Cx} {l : Nat} {xs : List MV} {H : MH} (h : H.get l = some (.list xs)) : listAt c.G (.ref l) H = some xs := by
  unfold listAt; dsimp only; rw [h]
theorem slD_ok {c : Cx} {dx dl du : DE} {st : St} {H1 : MH} {x lo hi : MV} {xs : List MV} {pl ph : Option Int} (e1 : dx st = some (x, H1)) (e2 : dl (St.mk st.vs H1) = some (lo, H1)) (e3 : du (St.mk st.vs H1) = some (hi, H1))
    (e4 : listAt c.G x H1 = some xs) (e5 : partOf lo = some pl) (e6 : partOf hi = some ph) (e7 : xs.length ≤ 100000) :
    slD c dx dl du st = some (.ref H1.n, H1.push (.list ((xs.drop (kms_lo pl xs.length)).take (kms_hi ph xs.length - kms_lo pl xs.length)))) := by
  unfold slD
  rw [e1, Option.bind_some]
  dsimp only
  rw [e2, Option.bind_some]
  dsimp only
  rw [e3, Option.bind_some]
  dsimp only
  unfold sliceop
  rw [e4, Option.bind_some, e5, Option.bind_some, e6, Option.bind_some, if_pos e7]
theorem small_of {i : Int} (h : -1000 ≤ i ∧ i ≤ 1000) : small i = true := by
  unfold small
  simp only [Bool.and_eq_true, decide_eq_true_eq]
  omega
theorem part_int {i : Int} (h : -1000 ≤ i ∧ i ≤ 1000) : partOf (.int i) = some (some i) := by
  unfold partOf
  dsimp only
  rw [if_pos (small_of h)]
theorem len5 (n : Nat) : min (min 5 n - 0) (n - 0) + min (5 - min n 5) (5 - min n 5) = 5 := by
  rw [Nat.min_self, Nat.sub_zero, Nat.sub_zero]
  rcases Nat.le_total n 5 with h | h
  · rw [Nat.min_eq_right h, Nat.min_eq_left h, Nat.min_self]; exact Nat.add_sub_cancel' h
  · rw [Nat.min_eq_left h, Nat.min_eq_right h, Nat.min_eq_left h]
theorem nat_rng {m : Nat} (h : m ≤ 63) : -1000 ≤ (m : Int) ∧ (m : Int) ≤ 1000 := ⟨by omega, by omega⟩
theorem gt3 (n : Nat) : decide ((3 : Int) < n) = decide (3 < n) := by
  by_cases h : 3 < n
  · rw [decide_eq_true h, decide_eq_true (by omega)]
  · rw [decide_eq_false h, decide_eq_false (by omega)]
theorem lw1_ok {c : Cx} {sc : Addr} {ns : List Int} (hs : c.lists sc = some ns) (hlen : ns.length ≤ 63) {r : List (Option MV)} {H : MH} :
    ∃ (N : List Int) (l : Nat) (H' : MH), lw1 c ⟨some (.val (.ref sc)) :: none :: r, H⟩ = some (.next, ⟨some (.val (.ref sc)) :: some (.ref l) :: r, H'⟩) ∧ Kp H H' ∧ l < H'.n ∧ H'.get l = some (.list (N.map .int)) ∧ (N.length = 4 ∨ N.length = 5) := by
  have hL : ∀ H, listAt c.G (.val (.ref sc)) H = some (ns.map .int) := fun H => by
    show (c.lists sc).map _ = _
    rw [hs]; rfl
  have len : ∀ H, lenD c 0 ⟨some (.val (.ref sc)) :: none :: r, H⟩ = some (.int ns.length, H) := fun H => by
    show lenS c.G [.val (.ref sc)] [] H = _
    unfold lenS
    dsimp only
    rw [hL]
    dsimp only
    rw [if_pos (by rw [List.length_map]; exact Nat.le_trans hlen (by decide)), List.length_map]
  let vs := some (MV.val (.ref sc)) :: none :: r
  let L1 := ((ns.map MV.int).drop (kms_lo none (ns.map MV.int).length)).take (kms_hi (some 5) (ns.map MV.int).length - kms_lo none (ns.map MV.int).length)
  let D0 : List Int := [18, 21, 10, 2, 6]
  let H1 := H.push (.list L1)
  let H2 := H1.push (.list (D0.map MV.int))
  let L2 := ((D0.map MV.int).drop (kms_lo (some (ns.length : Int)) (D0.map MV.int).length)).take (kms_hi none (D0.map MV.int).length - kms_lo (some (ns.length : Int)) (D0.map MV.int).length)
  let H3 := H2.push (.list L2)
  let H4 := H3.push (.list (L1 ++ L2))
  have s1 : slD c (gv 0) kN (kI 5) ⟨vs, H⟩ = some (.ref H.n, H1) := slD_ok (st := ⟨vs, H⟩) (by rfl) (by rfl) (by rfl) (hL H) (by rfl) (part_int (by decide)) (by rw [List.length_map]; exact Nat.le_trans hlen (by decide))
  have s2 : slD c (lstD (consD (kI 18) (consD (kI 21) (consD (kI 10) (consD (kI 2) (a1 (kI 6))))))) (lenD c 0) kN ⟨vs, H1⟩ = some (.ref H2.n, H3) := slD_ok (st := ⟨vs, H1⟩) (x := .ref H1.n) (xs := D0.map MV.int) (by rfl) (len H2) (by rfl) (listAt_ref get_push_self) (part_int (nat_rng hlen)) (by rfl) (by decide)
  have hA : L1 = (((ns.drop (kms_lo none ns.length)).take (kms_hi (some 5) ns.length - kms_lo none ns.length))).map MV.int := by
    show List.take _ (List.drop _ _) = _
    rw [List.length_map, List.map_take, List.map_drop]
  have hB : L2 = (((D0.drop (kms_lo (some (ns.length : Int)) D0.length)).take (kms_hi none D0.length - kms_lo (some (ns.length : Int)) D0.length))).map MV.int := by
    show List.take _ (List.drop _ _) = _
    rw [List.length_map, List.map_take, List.map_drop]
  have a1l : L1.length ≤ 5 := by
    rw [hA, List.length_map, List.length_take]
    unfold kms_hi
    dsimp only
    rw [if_neg (by decide)]
    exact Nat.le_trans (Nat.min_le_left ..) (Nat.le_trans (Nat.sub_le ..) (Nat.min_le_left ..))
  have a2l : L2.length ≤ 5 := by
    rw [hB, List.length_map, List.length_take]
    exact Nat.le_trans (Nat.min_le_left ..) (Nat.sub_le ..)
  have g1 : H3.get H.n = some (.list L1) := ((Kp.push.trans Kp.push).2 _ (Nat.lt_succ_self _)).trans get_push_self
  have g2 : H3.get H2.n = some (.list L2) := get_push_self
  have s3 : seq2 (slD c (gv 0) kN (kI 5)) (slD c (lstD (consD (kI 18) (consD (kI 21) (consD (kI 10) (consD (kI 2) (a1 (kI 6))))))) (lenD c 0) kN) addop ⟨vs, H⟩ = some (.ref H3.n, H4) := by
    unfold seq2
    rw [s1, Option.bind_some]
    dsimp only
    rw [s2, Option.bind_some]
    dsimp only
    unfold addop
    dsimp only
    rw [g1, g2]
    dsimp only
    rw [if_pos (Nat.le_trans (Nat.add_le_add a1l a2l) (by decide))]
  have s4 : ifD (cmp2 (lenD c 0) (kI 3) (fun x y uq1 => ltop y x)) (kI 5) (kI 4) ⟨vs, H4⟩ = some (.int (if 3 < ns.length then 5 else 4), H4) := by
    have : cmp2 (lenD c 0) (kI 3) (fun x y uq1 => ltop y x) ⟨vs, H4⟩ = some (decide ((3 : Int) < ns.length), H4) := by
      unfold cmp2
      rw [len, Option.bind_some]
      rfl
    unfold ifD
    rw [this, Option.bind_some, gt3]
    by_cases h : 3 < ns.length
    · rw [if_pos h, decide_eq_true h]; rfl
    · rw [if_neg h, decide_eq_false h]; rfl
  have hz : -1000 ≤ (if 3 < ns.length then (5 : Int) else 4) ∧ (if 3 < ns.length then (5 : Int) else 4) ≤ 1000 := by split <;> exact ⟨by decide, by decide⟩
  have s5 := slD_ok (c := c) (dx := seq2 (slD c (gv 0) kN (kI 5)) (slD c (lstD (consD (kI 18) (consD (kI 21) (consD (kI 10) (consD (kI 2) (a1 (kI 6))))))) (lenD c 0) kN) addop) (dl := kN) (du := ifD (cmp2 (lenD c 0) (kI 3) (fun x y uq1 => ltop y x)) (kI 5) (kI 4)) (st := ⟨vs, H⟩) (pl := none) (ph := some (if 3 < ns.length then 5 else 4)) s3 (by rfl) s4 (listAt_ref (c := c) (H := H4) get_push_self) (by rfl) (part_int hz) (by rw [List.length_append]; exact Nat.le_trans (Nat.add_le_add a1l a2l) (by decide))
  have hC : L1 ++ L2 = (((ns.drop (kms_lo none ns.length)).take (kms_hi (some 5) ns.length - kms_lo none ns.length)) ++ ((D0.drop (kms_lo (some (ns.length : Int)) D0.length)).take (kms_hi none D0.length - kms_lo (some (ns.length : Int)) D0.length))).map MV.int := by
    rw [List.map_append, hA, hB]
  have hlen5 : (L1 ++ L2).length = 5 := by
    rw [hC, List.length_map, List.length_append, List.length_take, List.length_take, List.length_drop, List.length_drop]
    have : D0.length = 5 := rfl
    rw [this]
    unfold kms_hi kms_lo
    dsimp only
    rw [if_neg (by decide), if_neg (Int.not_lt.mpr (Int.natCast_nonneg _))]
    have : (ns.length : Int).toNat = ns.length := Int.toNat_natCast _
    rw [this]
    have : (5 : Int).toNat = 5 := rfl
    rw [this]
    exact len5 _
  rw [hlen5, hC] at s5
  let N := (((((ns.drop (kms_lo none ns.length)).take (kms_hi (some 5) ns.length - kms_lo none ns.length)) ++ ((D0.drop (kms_lo (some (ns.length : Int)) D0.length)).take (kms_hi none D0.length - kms_lo (some (ns.length : Int)) D0.length))).drop (kms_lo none 5)).take (kms_hi (some (if 3 < ns.length then 5 else 4)) 5 - kms_lo none 5))
  let Hf := H4.push (.list (N.map MV.int))
  refine ⟨N, H4.n, Hf, ?_, ((Kp.push.trans Kp.push).trans (Kp.push.trans Kp.push)).trans Kp.push, Nat.lt_succ_self _, get_push_self, ?_⟩
  · rw [← List.map_drop, ← List.map_take] at s5
    unfold lw1 asgS
    rw [s5]; rfl
  · rw [hC, List.length_map] at hlen5
    show (List.take _ (List.drop _ _)).length = 4 ∨ _
    rw [List.length_take, List.length_drop, hlen5]
    unfold kms_lo kms_hi
    dsimp only
    split <;> simp
end Q
end Mini.L2

open PySem PySem.W PySem.Calls PyProof.Rows
set_option maxRecDepth 100000
set_option maxHeartbeats 4000000
namespace Mini.L2
noncomputable section Q
set_option genSizeOf false in
set_option genInjectivity false in
structure DrawnAt (H : MH) (l : Nat) (ds : List (Nat × Dr)) : Prop where
  hl : H.get l = some (.list (ds.map fun p => .ref p.1))
  lt : l < H.n
  each : ∀ p ∈ ds, p.1 < H.n ∧ H.get p.1 = some (.tup [.int p.2.t, .int p.2.b, .int p.2.g]) ∧ p.2.ok
  len : ds.length ≤ 5
theorem DrawnAt.kp {H H' : MH} {l : Nat} {ds : List (Nat × Dr)} (A : DrawnAt H l ds) (k : Kp H H') : DrawnAt H' l ds :=
  ⟨(k.2 _ A.lt).trans A.hl, Nat.lt_of_lt_of_le A.lt k.1, fun p hp => ⟨Nat.lt_of_lt_of_le (A.each p hp).1 k.1, (k.2 _ (A.each p hp).1).trans (A.each p hp).2.1, (A.each p hp).2.2⟩, A.len⟩
theorem asgTup_ok {n : Nat} {fs : List MV → St → Option St} {l : Nat} {xs : List MV} {vs : List (Option MV)} {H : MH} (h : H.get l = some (.tup xs)) (hn : xs.length = n) : asgTup n fs (.ref l) ⟨vs, H⟩ = fs xs ⟨vs, H⟩ := by
  unfold asgTup
  have t : tupAt (.ref l) H = some xs := by unfold tupAt; dsimp only; rw [h]
  rw [t, Option.bind_some, if_pos hn]
theorem fmod_nat {a m : Int} (hm : 0 < m) : ∃ n : Nat, a.fmod m = (n : Int) ∧ (n : Int) < m := by
  have h0 := Int.fmod_nonneg_of_pos a hm
  have h1 := Int.fmod_lt_of_pos a hm
  exact ⟨(a.fmod m).toNat, by omega, by omega⟩
theorem de2_ok (i v : Int) (a : Option MV) (H : MH) : ∃ d : Dr, d.ok ∧ de2 ⟨[a, some (.int i), some (.int v)], H⟩ = some (.ref H.n, H.push (.tup [.int d.t, .int d.b, .int d.g])) := by
  obtain ⟨t, e1, h1⟩ := fmod_nat (a := v + i) (m := 3) (by decide)
  obtain ⟨b, e2, h2⟩ := fmod_nat (a := v.fdiv 3) (m := 7) (by decide)
  obtain ⟨g, e3, h3⟩ := fmod_nat (a := v.fdiv 21) (m := 2) (by decide)
  refine ⟨⟨t, b, g⟩, ⟨by show t ≤ 2; omega, by show b ≤ 6; omega, by show g ≤ 1; omega⟩, ?_⟩
  show _ = some (MV.ref H.n, H.push (.tup [.int (t : Int), .int (b : Int), .int (g : Int)]))
  rw [← e1, ← e2, ← e3]
  rfl
theorem lw2_ok {x y : Option MV} {l : Nat} {N : List Int} {r : List (Option MV)} {H : MH} (hl : H.get l = some (.list (N.map .int))) (hl0 : l < H.n) (hN : N.length = 4 ∨ N.length = 5) :
    ∃ (ds : List (Nat × Dr)) (H' : MH), lw2 ⟨x :: some (.ref l) :: y :: r, H⟩ = some (.next, ⟨x :: some (.ref l) :: some (.ref H.n) :: r, H'⟩) ∧ Kp H H' ∧ DrawnAt H' H.n ds := by
  have hN5 : N.length ≤ 5 := hN.elim (fun e => by rw [e]; decide) fun e => by rw [e]; decide
  obtain ⟨st', e, a, b, cc, ds, H', rfl, k, hn, hg, he, hlen⟩ := compFor_gen (f := asgTup 2 (asgCons (setv 1) (asgCons (setv 2) asgNil))) (ti := tt) (body := emitD de2 H.n) (S := fun i => .enum l i) (n := N.length)
    (R := fun i st => ∃ a b cc, ∃ (ds : List (Nat × Dr)) (H' : MH), st = ⟨[a, b, cc], H'⟩ ∧ Kp H H' ∧ H.n < H'.n ∧ H'.get H.n = some (.list (ds.map fun p => .ref p.1)) ∧ (∀ p ∈ ds, p.1 < H'.n ∧ H.n < p.1 ∧ H'.get p.1 = some (.tup [.int p.2.t, .int p.2.b, .int p.2.g]) ∧ p.2.ok) ∧ ds.length = i)
    (fun st ⟨a, b, cc, ds, H', e, k, uq1, uq2, uq3, uq4⟩ => by
      subst e
      unfold Src.next
      simp only [(k.2 l hl0).trans hl, List.length_map, List.getElem?_eq_none (show (N.map MV.int).length ≤ N.length by rw [List.length_map]; exact Nat.le_refl _)])
    (fun i hi st ⟨a, b, cc, ds, H', e, k, hn, hg, he, hlen⟩ => by
      subst e
      have hgl : H'.get l = some (.list (N.map .int)) := (k.2 l hl0).trans hl
      let H1 := H'.push (.tup [.int i, .int N[i]])
      obtain ⟨d, hd, e2⟩ := de2_ok i N[i] a H1
      let H2 := H1.push (.tup [.int d.t, .int d.b, .int d.g])
      have k2 : Kp H' H2 := Kp.push.trans Kp.push
      have g2 : H2.get H.n = some (.list (ds.map fun p => .ref p.1)) := (k2.2 _ hn).trans hg
      have gd : H2.get H1.n = some (.tup [.int d.t, .int d.b, .int d.g]) := get_push_self
      have hne : ∀ q, H.n < q → (H2.set H.n (.list ((ds.map fun p => .ref p.1) ++ [.ref H1.n]))).get q = H2.get q := fun q hq => get_set_ne (Nat.ne_of_gt hq)
      have n1 : H1.n = H'.n + 1 := rfl
      have n2 : H2.n = H'.n + 1 + 1 := rfl
      refine ⟨.ref H'.n, H1, ⟨[a, some (.int i), some (.int N[i])], H1⟩, true, H1, ⟨[a, some (.int i), some (.int N[i])], H2.set H.n (.list ((ds.map fun p => .ref p.1) ++ [.ref H1.n]))⟩, ?_, ?_, rfl, ?_, a, some (.int i), some (.int N[i]), ds ++ [(H1.n, d)], _, rfl, ?_, ?_, ?_, ?_, ?_⟩
      · unfold Src.next
        simp only [hgl, List.getElem?_map, List.getElem?_eq_getElem hi, Option.map_some]
        rfl
      · exact (asgTup_ok (n := 2) (H := H1) (xs := [.int i, .int N[i]]) get_push_self rfl).trans rfl
      · rw [if_pos rfl]
        unfold emitD
        rw [e2, Option.bind_some]
        dsimp only
        rw [appTo_eq g2 (by rw [List.length_map, hlen]; exact big5 (lt_small hi hN5))]; rfl
      · exact (k.trans k2).set (Nat.le_refl _)
      · exact Nat.lt_of_lt_of_le hn k2.1
      · rw [get_set_self g2, List.map_append]; rfl
      · intro p hp
        rcases List.mem_append.mp hp with hp | hp
        · obtain ⟨p1, p2, p3, p4⟩ := he p hp
          refine ⟨?_, p2, ?_, p4⟩
          · exact Nat.lt_of_lt_of_le p1 k2.1
          · rw [hne _ p2, k2.2 _ p1]; exact p3
        · rw [List.mem_singleton.mp hp]
          refine ⟨?_, ?_, ?_, hd⟩
          · exact Nat.lt_succ_self _
          · exact Nat.lt_succ_of_lt hn
          · show (H2.set _ _).get H1.n = _
            rw [hne H1.n (Nat.lt_succ_of_lt hn)]; exact gd
      · rw [List.length_append, hlen]; rfl)
    N.length 0 ⟨[none, none, none], H.push (.list [])⟩ rfl (Nat.zero_le _) ⟨none, none, none, [], _, rfl, Kp.push, Nat.lt_succ_self _, get_push_self, fun p hp => (by cases hp), rfl⟩
  refine ⟨ds, H', ?_, k, hg, hn, fun p hp => ⟨(he p hp).1, (he p hp).2.2⟩, by rw [hlen]; exact hN5⟩
  have ed : enumD ⟨x :: some (.ref l) :: y :: r, H⟩ = some (.enum l 0, H) := by
    unfold enumD
    show Option.bind (some ([MV.ref l], H)) _ = _
    rw [Option.bind_some]
    dsimp only
    rw [hl]
  have hf : (Src.enum l 0).fuel H = N.length + 1 := by unfold Src.fuel; simp only [hl, List.length_map]; rfl
  unfold lw2 asgCompS compD
  rw [ed, Option.bind_some]
  dsimp only
  rw [if_pos (by rfl), hf]
  have ec : capV [none, none, none] (x :: some (.ref l) :: y :: r) = [none, none, none] := rfl
  rw [ec]
  show Option.map _ (Option.map _ (compFor _ tt (emitD de2 H.n) (N.length + 1) (.enum l 0) ⟨[none, none, none], H.push (.list [])⟩)) = _
  rw [e]; rfl
end Q
end Mini.L2

open PySem PySem.W PySem.Calls PyProof.Rows
set_option maxRecDepth 100000
set_option maxHeartbeats 4000000
namespace Mini.L2
noncomputable section Q
noncomputable def nHd : Str := ⟨#[95, 104, 101, 97, 100, 101, 114, 115]⟩
noncomputable def hiA : DE := ifD (cmp2 (gv 1) kN (fun x y uq1 => Option.map (fun x => !x) (isop x y))) (gv 1) (lstD nilL)
noncomputable def hiB : St → Option (Bool × MH) := cmp2 (callF (a1 (gv 1)) typeF) (fun st => some (MV.val (Value.type "list"), st.H)) (fun x y uq1 => Option.map (fun x => !x) (isop x y))
noncomputable def hiS : MV → St → Option St := fun v st => (getv st 0).bind fun p => Option.map (fun H => St.mk st.vs H) (attrSet 275 nHd p.1 v p.2)
noncomputable def hiD : St → Option (Bool × MH) := fun st => (some (bv true, st.H)).bind fun p => Option.map (fun c => (c, p.2)) (truth p.1 p.2)
theorem hinit_eq (c : Cx) : ∃ C T F B, h_init_d c = seqS (asgS hiA (setv 1)) (seqS (ifS hiB C nilS) (seqS (asgS (gv 1) hiS) (seqS (ifS hiD (seqS (forS T (iter_ 1) F B) nilS) nilS) nilS))) := ⟨_, _, _, _, rfl⟩
theorem headers_ok (c : Cx) (H : MH) : ∃ (o : HO) (H' : MH), clsF 275 (h_init_f c) [] [] H = some (.ref o.l, H') ∧ Kp H H' ∧ o.At H' ∧ o.rows = [] ∧ H.n ≤ o.hl := by
  obtain ⟨C, T, F, B, hd⟩ := hinit_eq c
  let me := H.n + 1
  let H1 : MH := (H.push (.ns [])).push (.inst 275 H.n)
  let H2 : MH := H1.push (.list [])
  let H3 : MH := H2.set H.n (.ns [(nHd, .ref H1.n)])
  have g1 : H2.get me = some (.inst 275 H.n) := (Kp.push.2 _ (Nat.lt_succ_self _)).trans get_push_self
  have g2 : H2.get H.n = some (.ns []) := ((Kp.push.trans Kp.push).2 _ (Nat.lt_succ_self _)).trans get_push_self
  have g3 : H2.get H1.n = some (.list []) := get_push_self
  have n1 : H1.n = H.n + 1 + 1 := rfl
  have h1 : H3.get me = some (.inst 275 H.n) := by rw [get_set_ne (show me ≠ H.n from Nat.succ_ne_self _)]; exact g1
  have h2 : H3.get H.n = some (.ns [(nHd, .ref H1.n)]) := get_set_self g2
  have h3 : H3.get H1.n = some (.list []) := by rw [get_set_ne (show H1.n ≠ H.n from Nat.ne_of_gt (Nat.lt_succ_of_lt (Nat.lt_succ_self _)))]; exact g3
  have e1 : asgS hiA (setv 1) ⟨[some (.ref me), some (.val .none), none, none], H1⟩ = some (.next, ⟨[some (.ref me), some (.ref H1.n), none, none], H2⟩) := by rfl
  have ty : typeF [.ref H1.n] [] H2 = some (.val (.type "list"), H2) := by
    unfold typeF; simp only [g3]
  have is1 : isop (.val (.type "list")) (.val (.type "list")) = some true := by kernel_rfl
  have e2 : ifS hiB C nilS ⟨[some (.ref me), some (.ref H1.n), none, none], H2⟩ = some (.next, ⟨[some (.ref me), some (.ref H1.n), none, none], H2⟩) := by
    have : hiB ⟨[some (.ref me), some (.ref H1.n), none, none], H2⟩ = some (false, H2) := by
      show Option.bind (typeF [.ref H1.n] [] H2) _ = _
      rw [ty, Option.bind_some]
      dsimp only
      rw [Option.bind_some]
      dsimp only
      rw [is1]; rfl
    unfold ifS
    rw [this]; rfl
  have e3 : asgS (gv 1) hiS ⟨[some (.ref me), some (.ref H1.n), none, none], H2⟩ = some (.next, ⟨[some (.ref me), some (.ref H1.n), none, none], H3⟩) := by
    have : attrSet 275 nHd (.ref me) (.ref H1.n) H2 = some H3 := by
      unfold attrSet
      dsimp only
      rw [g1]
      dsimp only
      rw [if_pos rfl, g2]
      dsimp only
      rw [if_pos (by decide)]; rfl
    show Option.map _ (Option.map _ (attrSet 275 nHd (.ref me) (.ref H1.n) H2)) = _
    rw [this]; rfl
  have e4 : ifS hiD (seqS (forS T (iter_ 1) F B) nilS) nilS ⟨[some (.ref me), some (.ref H1.n), none, none], H3⟩ = some (.next, ⟨[some (.ref me), some (.ref H1.n), none, none], H3⟩) := by
    have ef : forS T (iter_ 1) F B ⟨[some (.ref me), some (.ref H1.n), none, none], H3⟩ = some (.next, ⟨[some (.ref me), some (.ref H1.n), none, none], H3⟩) := by
      obtain ⟨st', e, r⟩ := forS_list (t := T) (di := iter_ 1) (f := F) (d := B) (st := ⟨[some (.ref me), some (.ref H1.n), none, none], H3⟩) (st1 := ⟨[some (.ref me), some (.ref H1.n), none, none], H3⟩) (l := H1.n) (xs := []) (R := fun uq1 st => st = ⟨[some (.ref me), some (.ref H1.n), none, none], H3⟩)
        (iter_list rfl h3) rfl (by rfl) (fun i st e => by subst e; exact h3) rfl (fun i hi => absurd hi (Nat.not_lt_zero _))
      rw [e, r]
    have : hiD ⟨[some (.ref me), some (.ref H1.n), none, none], H3⟩ = some (true, H3) := by rfl
    unfold ifS
    rw [this, Option.bind_some, if_pos rfl]
    show seqS (forS T (iter_ 1) F B) nilS ⟨[some (.ref me), some (.ref H1.n), none, none], H3⟩ = _
    rw [seq_step ef]; rfl
  have ed : h_init_d c ⟨[some (.ref me), some (.val .none), none, none], H1⟩ = some (.next, ⟨[some (.ref me), some (.ref H1.n), none, none], H3⟩) := by
    rw [hd, seq_step e1, seq_step e2, seq_step e3, seq_step e4]; rfl
  refine ⟨⟨me, H.n, H1.n, [(nHd, .ref H1.n)], []⟩, H3, ?_, ((Kp.push.trans Kp.push).trans Kp.push).set (Nat.le_refl _), ⟨h1, h2, ?_, by kernel_rfl, by kernel_rfl, by kernel_rfl, h3, (fun r hr => by cases hr), ⟨?_, ?_, ?_⟩, Nat.zero_le _⟩, rfl, ?_⟩
  · show Option.bind (Option.bind (h_init_d c ⟨[some (.ref me), some (.val .none), none, none], H1⟩) retOf) _ = _
    rw [ed]; rfl
  · show getS [(nHd, MV.ref H1.n)] nHd = _
    rfl
  · exact Nat.lt_succ_of_lt (Nat.lt_succ_self _)
  · exact Nat.lt_succ_of_lt (Nat.lt_succ_of_lt (Nat.lt_succ_self _))
  · exact Nat.lt_succ_self _
  · exact Nat.le_succ_of_le (Nat.le_succ _)
theorem addH_at {o : HO} {H : MH} {n v : Str} (A : o.At H) (hn : asc n = true) (hlen : o.rows.length < 100) :
    HO.At ⟨o.l, o.d, o.hl, o.es, o.rows ++ [⟨H.n + 2, n, v⟩]⟩ (addH o n v H) ∧ ∀ H0, Kp H0 H → H0.n ≤ o.hl → Kp H0 (addH o n v H) := by
  let H4 : MH := (((H.push (.emp H.n)).push (.list [])).set (H.n + 1) (.list [.str v])).push (.tup [.str n, .str v])
  have k4 : Kp H H4 := ((Kp.push.trans Kp.push).set (Nat.le_succ _)).trans Kp.push
  have A4 := A.kp k4
  have hs : addH o n v H = H4.set o.hl (.list ((o.rows.map fun r => .ref r.a) ++ [.ref (H.n + 2)])) := rfl
  have n4 : H4.n = H.n + 2 + 1 := rfl
  have ne1 : o.l ≠ o.hl := fun e => by have := A.hl'; rw [e, A.hg] at this; cases this
  have ne2 : o.d ≠ o.hl := fun e => by have := A.hd; rw [e, A.hg] at this; cases this
  have ne3 : ∀ r ∈ o.rows, r.a ≠ o.hl := fun r hr e => by have := (A.row r hr).1; rw [e, A.hg] at this; cases this
  rw [hs]
  refine ⟨⟨?_, ?_, A.hh, A.no1, A.no2, A.no3, ?_, ?_, ?_, ?_⟩, fun H0 k h => (k.trans k4).set h⟩
  · rw [get_set_ne ne1]; exact A4.hl'
  · rw [get_set_ne ne2]; exact A4.hd
  · rw [get_set_self A4.hg, List.map_append]; rfl
  · intro r hr
    rcases List.mem_append.mp hr with hr | hr
    · rw [get_set_ne (ne3 r hr)]
      exact A4.row r hr
    · rw [List.mem_singleton.mp hr]
      refine ⟨?_, hn, ?_⟩
      · show (H4.set o.hl _).get (H.n + 2) = _
        rw [get_set_ne (show H.n + 2 ≠ o.hl from Nat.ne_of_gt (Nat.lt_succ_of_lt (Nat.lt_succ_of_lt A.lt.2.2)))]
        exact get_push_self
      · exact Nat.lt_succ_self _
  · exact A4.lt
  · show (o.rows ++ _).length ≤ 100
    rw [List.length_append, List.length_singleton]; exact hlen
theorem le1_or : ∀ {g : Nat}, g ≤ 1 → g = 0 ∨ g = 1
  | 0, _ => .inl rfl
  | 1, _ => .inr rfl
theorem le2_or : ∀ {g : Nat}, g ≤ 2 → g = 0 ∨ g = 1 ∨ g = 2
  | 0, _ => .inl rfl
  | 1, _ => .inr (.inl rfl)
  | 2, _ => .inr (.inr rfl)
theorem le6_or (b : Nat) (h : b ≤ 6) : b = 0 ∨ b = 1 ∨ b = 2 ∨ b = 3 ∨ b = 4 ∨ b = 5 ∨ b = 6 := (by decide : ∀ b < 7, b = 0 ∨ b = 1 ∨ b = 2 ∨ b = 3 ∨ b = 4 ∨ b = 5 ∨ b = 6) b (Nat.lt_succ_of_le h)
theorem consD_ok {d : DE} {ds : DEs} {st : St} {v : MV} {w : List MV} {H1 H2 : MH} (e1 : d st = some (v, H1)) (e2 : ds (St.mk st.vs H1) = some (w, H2)) : consD d ds st = some (v :: w, H2) := by
  unfold consD
  rw [e1, Option.bind_some]
  dsimp only
  rw [e2]; rfl
theorem a1_ok {d : DE} {st : St} {v : MV} {H1 : MH} (e1 : d st = some (v, H1)) : a1 d st = some ([v], H1) := by
  unfold a1
  rw [e1]; rfl
theorem callF_ok {ds : DEs} {f : List MV → List (Str × MV) → MH → Option (MV × MH)} {st : St} {w : List MV} {H1 : MH} (e1 : ds st = some (w, H1)) : callF ds f st = f w [] H1 := by
  unfold callF
  rw [e1]; rfl
noncomputable def ltrs : List Int := [97, 65]
noncomputable def keyT (t g : Nat) : Str := ⟨#[(if g = 0 then 97 else 65) + t]⟩
theorem addA_ok {c : Cx} {x0 x1 x2 x3 : Option MV} {t b g : Nat} {r : List (Option MV)} {H : MH} (ht : t ≤ 2) (hb : b ≤ 6) (hg : g ≤ 1) :
    addA c ⟨x0 :: x1 :: x2 :: x3 :: some (.int t) :: some (.int b) :: some (.int g) :: r, H⟩ = some ([.str (keyT t g), .str (leadT t b)], H.push (.list [.int 97, .int 65])) := by
  have e1 : callF (a1 (seq2 (seq2 (lstD (consD (kI 97) (a1 (kI 65)))) (gv 6) (itemop c.G)) (gv 4) addop)) chrF ⟨x0 :: x1 :: x2 :: x3 :: some (.int t) :: some (.int b) :: some (.int g) :: r, H⟩ = some (.str (keyT t g), H.push (.list [.int 97, .int 65])) := by
    have gi : (H.push (.list [.int 97, .int 65])).get H.n = some (.list (ltrs.map .int)) := get_push_self
    have it := item_ints (c := c) (i := g) gi (Nat.lt_succ_of_le hg) (by decide)
    have es : seq2 (lstD (consD (kI 97) (a1 (kI 65)))) (gv 6) (itemop c.G) ⟨x0 :: x1 :: x2 :: x3 :: some (.int t) :: some (.int b) :: some (.int g) :: r, H⟩ = some (.int (ltrs.getD g 0), H.push (.list [.int 97, .int 65])) := by
      have s0 : lstD (consD (kI 97) (a1 (kI 65))) ⟨x0 :: x1 :: x2 :: x3 :: some (.int t) :: some (.int b) :: some (.int g) :: r, H⟩ = some (.ref H.n, H.push (.list [.int 97, .int 65])) := by rfl
      have s6 : gv 6 ⟨x0 :: x1 :: x2 :: x3 :: some (.int t) :: some (.int b) :: some (.int g) :: r, H.push (.list [.int 97, .int 65])⟩ = some (.int g, H.push (.list [.int 97, .int 65])) := by rfl
      unfold seq2
      rw [s0, Option.bind_some]
      dsimp only
      rw [s6, Option.bind_some]
      exact it
    rw [callF_ok (a1_ok (v := .int (ltrs.getD g 0 + t)) (H1 := H.push (.list [.int 97, .int 65])) (by unfold seq2 at es ⊢; rw [es]; rfl))]
    have hg2 := le1_or hg
    have ht2 := le2_or ht
    rcases hg2 with rfl | rfl <;> rcases ht2 with rfl | rfl | rfl <;> rfl
  have e2 : ∀ H, seq2 (seq2 (kS ⟨#[9]⟩) (gv 4) mulop) (seq2 (kS ⟨#[32]⟩) (gv 5) mulop) addop ⟨x0 :: x1 :: x2 :: x3 :: some (.int t) :: some (.int b) :: some (.int g) :: r, H⟩ = some (.str (leadT t b), H) := fun H => by
    have ht2 := le2_or ht
    have hb2 := le6_or b hb
    rcases ht2 with rfl | rfl | rfl <;> rcases hb2 with rfl | rfl | rfl | rfl | rfl | rfl | rfl <;> kernel_rfl
  exact consD_ok e1 (a1_ok (e2 _))
theorem key_ok {t g : Nat} (ht : t ≤ 2) (hg : g ≤ 1) : okTxt true (keyT t g) = true ∧ asc (keyT t g) = true ∧ low (keyT t g) = ⟨#[97 + t]⟩ := by
  have hg2 := le1_or hg
  have ht2 := le2_or ht
  rcases hg2 with rfl | rfl <;> rcases ht2 with rfl | rfl | rfl <;> exact ⟨by decide +kernel, by decide +kernel, by kernel_rfl⟩
theorem lead_ok {t b : Nat} (ht : t ≤ 2) (hb : b ≤ 6) : okTxt false (leadT t b) = true ∧ (leadT t b).cps.size ≤ 1000 := by
  have key : ∀ t < 3, ∀ b < 7, okTxt false (leadT t b) = true ∧ (leadT t b).cps.size ≤ 1000 := by decide +kernel
  exact key t (Nat.lt_succ_of_le ht) b (Nat.lt_succ_of_le hb)
end Q
end Mini.L2

open PySem PySem.W PySem.Calls PyProof.Rows
set_option maxRecDepth 100000
set_option maxHeartbeats 4000000
namespace Mini.L2
noncomputable section Q
theorem mth_ok {C i : Nat} {name : Str} {ds : DEs} {f : List MV → List (Str × MV) → MH → Option (MV × MH)} {st : St} {v : MV} {w : List MV} {H1 : MH} (e1 : getv st i = some (v, st.H)) (e2 : hasNo C name v st.H = true) (e3 : ds st = some (w, H1)) :
    mth C name i ds f st = f (v :: w) [] H1 := by
  unfold mth
  rw [e1, Option.bind_some]
  dsimp only
  rw [if_pos e2, e3]; rfl
theorem lw3_ok (c : Cx) {x0 x1 x2 y : Option MV} {r : List (Option MV)} (H : MH) : ∃ (o : HO) (H' : MH), lw3 c ⟨x0 :: x1 :: x2 :: y :: r, H⟩ = some (.next, ⟨x0 :: x1 :: x2 :: some (.ref o.l) :: r, H'⟩) ∧ Kp H H' ∧ o.At H' ∧ o.rows = [] ∧ H.n ≤ o.hl := by
  obtain ⟨o, H', e, k, A, hr, hh⟩ := headers_ok c H
  refine ⟨o, H', ?_, k, A, hr, hh⟩
  unfold lw3 asgS
  rw [callF_ok (ds := nilL) (w := []) (H1 := H) rfl, e]; rfl
noncomputable def kv (d : Dr) : Str × Str := (keyT d.t d.g, leadT d.t d.b)
theorem asg3_ok {i j k p : Nat} {d : Dr} {vs : List (Option MV)} {H : MH} (h : H.get p = some (.tup [.int d.t, .int d.b, .int d.g])) :
    asg3 i j k (.ref p) ⟨vs, H⟩ = some ⟨setN (setN (setN vs i (some (.int d.t))) j (some (.int d.b))) k (some (.int d.g)), H⟩ := by
  unfold asg3
  exact (asgTup_ok (n := 3) h rfl).trans rfl
theorem lw4_ok {c : Cx} {o : HO} {ld : Nat} {ds : List (Nat × Dr)} {H0 H : MH} {x0 x1 a0 b0 g0 : Option MV} {r : List (Option MV)} (k : Kp H0 H) (A : o.At H) (hr : o.rows = []) (hh : H0.n ≤ o.hl) (D : DrawnAt H0 ld ds) :
    ∃ (a b g : Option MV) (o' : HO) (H' : MH), lw4 c ⟨x0 :: x1 :: some (.ref ld) :: some (.ref o.l) :: a0 :: b0 :: g0 :: r, H⟩ = some (.next, ⟨x0 :: x1 :: some (.ref ld) :: some (.ref o.l) :: a :: b :: g :: r, H'⟩) ∧ Kp H0 H' ∧ o'.At H' ∧ o'.l = o.l ∧ o'.rows.map (fun r => (r.k, r.v)) = ds.map fun p => kv p.2 := by
  obtain ⟨st', e, a, b, g, o', H', rfl, k', A', hl, hh', hrows⟩ := forS_list (t := lt4) (di := iter_ 2) (f := asg3 4 5 6) (d := lw4b c) (st := ⟨x0 :: x1 :: some (.ref ld) :: some (.ref o.l) :: a0 :: b0 :: g0 :: r, H⟩) (st1 := ⟨x0 :: x1 :: some (.ref ld) :: some (.ref o.l) :: a0 :: b0 :: g0 :: r, H⟩) (l := ld) (xs := ds.map fun p => .ref p.1)
    (R := fun i st => ∃ (a b g : Option MV) (o' : HO) (H' : MH), st = ⟨x0 :: x1 :: some (.ref ld) :: some (.ref o.l) :: a :: b :: g :: r, H'⟩ ∧ Kp H0 H' ∧ o'.At H' ∧ o'.l = o.l ∧ H0.n ≤ o'.hl ∧ o'.rows.map (fun r => (r.k, r.v)) = (ds.take i).map fun p => kv p.2)
    (iter_list rfl ((k.2 _ D.lt).trans D.hl)) rfl (by rfl) (fun i st ⟨uq1, uq2, uq3, uq4, H', e, k, uq5⟩ => by rw [e]; exact (k.2 _ D.lt).trans D.hl)
    ⟨a0, b0, g0, o, H, rfl, k, A, rfl, hh, by rw [hr]; rfl⟩
    (fun i hi st ⟨a, b, g, o', H', e, k', A', hl, hh', hrows⟩ => by
      subst e
      rw [List.length_map] at hi
      have hd := D.kp k'
      obtain ⟨d1, d2, d3⟩ := hd.each ds[i] (List.getElem_mem hi)
      have hlen : o'.rows.length = i := by
        have := congrArg List.length hrows
        rw [List.length_map, List.length_map, List.length_take] at this
        exact len_take this hi
      have hDl := D.len
      have ha : addA c ⟨x0 :: x1 :: some (.ref ld) :: some (.ref o.l) :: some (.int ds[i].2.t) :: some (.int ds[i].2.b) :: some (.int ds[i].2.g) :: r, H'⟩ = some ([.str (keyT ds[i].2.t ds[i].2.g), .str (leadT ds[i].2.t ds[i].2.b)], H'.push (.list [.int 97, .int 65])) := addA_ok d3.1 d3.2.1 d3.2.2
      have A1 := A'.kp (Kp.push (H := H') (o := .list [.int 97, .int 65]))
      obtain ⟨k1, k2, k3⟩ := key_ok d3.1 d3.2.2
      obtain ⟨l1, l2⟩ := lead_ok d3.1 d3.2.1
      have hadd := addh (c := c) A1 k1 l1 l2
      obtain ⟨A2, kp2⟩ := addH_at (v := leadT ds[i].2.t ds[i].2.b) A1 k2 (by rw [hlen]; exact Nat.lt_trans (Nat.lt_of_lt_of_le hi hDl) (by decide))
      have hno : hasNo 275 (Str.ofString "add_header") (.ref o.l) H' = true := by rw [← hl]; exact A'.hasNo A'.no3
      have em : mth 275 (Str.ofString "add_header") 3 (addA c) (h_add_f c) ⟨x0 :: x1 :: some (.ref ld) :: some (.ref o.l) :: some (.int ds[i].2.t) :: some (.int ds[i].2.b) :: some (.int ds[i].2.g) :: r, H'⟩ = some (.val .none, addH o' (keyT ds[i].2.t ds[i].2.g) (leadT ds[i].2.t ds[i].2.b) (H'.push (.list [.int 97, .int 65]))) := by
        rw [mth_ok (st := ⟨x0 :: x1 :: some (.ref ld) :: some (.ref o.l) :: some (.int ds[i].2.t) :: some (.int ds[i].2.b) :: some (.int ds[i].2.g) :: r, H'⟩) (by rfl) hno ha, ← hl]
        exact hadd
      refine ⟨⟨x0 :: x1 :: some (.ref ld) :: some (.ref o.l) :: some (.int ds[i].2.t) :: some (.int ds[i].2.b) :: some (.int ds[i].2.g) :: r, addH o' (keyT ds[i].2.t ds[i].2.g) (leadT ds[i].2.t ds[i].2.b) (H'.push (.list [.int 97, .int 65]))⟩, ?_, _, _, _, _, _, rfl, kp2 H0 (k'.trans Kp.push) hh', A2, hl, hh', ?_⟩
      · rw [List.getElem_map, asg3_ok d2, Option.bind_some]
        show seqS (exprS _) nilS ⟨x0 :: x1 :: some (.ref ld) :: some (.ref o.l) :: some (.int ds[i].2.t) :: some (.int ds[i].2.b) :: some (.int ds[i].2.g) :: r, H'⟩ = _
        unfold seqS exprS
        rw [em]; rfl
      · rw [List.map_append, hrows, List.take_succ_eq_append_getElem hi, List.map_append]; rfl)
  rw [List.length_map, List.take_length] at hrows
  exact ⟨a, b, g, o', H', e, k', A', hl, hrows⟩
theorem filter_rows {nm : Str} {j : Nat} : ∀ {rows : List Row} {D : List Dr}, rows.map (fun r => (r.k, r.v)) = D.map kv → (∀ d ∈ D, streq (low (keyT d.t d.g)) nm = decide (d.t = j)) →
    (rows.filter fun r => streq (low r.k) nm).map (fun r => MV.str r.v) = (D.filter fun d => decide (d.t = j)).map fun d => MV.str (leadT d.t d.b)
  | [], [], _, _ => rfl
  | [], _ :: _, e, _ => by cases e
  | _ :: _, [], e, _ => by cases e
  | r :: rows, d :: D, e, h => by
    rw [List.map_cons, List.map_cons] at e
    obtain ⟨e1, e2⟩ := List.cons.inj e
    obtain ⟨ek, ev⟩ := Prod.mk.inj e1
    have ih := filter_rows e2 fun d' hd' => h d' (List.mem_cons_of_mem _ hd')
    have hd := h d (List.mem_cons_self ..)
    rw [← ek] at hd
    by_cases hj : d.t = j
    · rw [List.filter_cons_of_pos (by rw [hd]; simpa using hj), List.filter_cons_of_pos (by simpa using hj), List.map_cons, List.map_cons, ih, ev]
    · rw [List.filter_cons_of_neg (by rw [hd]; simpa using hj), List.filter_cons_of_neg (by simpa using hj), ih]
theorem WO.At.set {o : WO} {H : MH} {la : Nat} {xs ys : List MV} (A : o.At H) (h : H.get la = some (.list xs)) : o.At (H.set la (.list ys)) := by
  have n1 : o.l ≠ la := fun e => by have := A.hl; rw [e, h] at this; cases this
  have n2 : o.d ≠ la := fun e => by have := A.hd; rw [e, h] at this; cases this
  have n3 : o.tp ≠ la := fun e => by have := A.htp; rw [e, h] at this; cases this
  have n4 : o.ct ≠ la := fun e => by have := A.hct; rw [e, h] at this; cases this
  exact ⟨by rw [get_set_ne n1]; exact A.hl, by rw [get_set_ne n2]; exact A.hd, A.hn, A.ht, A.hs, A.hq, by rw [get_set_ne n3]; exact A.htp, by rw [get_set_ne n4]; exact A.hct, A.hlen, A.no1, A.no2, A.rt, A.rb⟩
theorem ws_ok {c : Cx} {o : HO} {H : MH} {a : Option MV} {name : Str} {D : List Dr} (A : o.At H) (hn : asc name = true) (hs : okTxt true (low name) = true) (hD : ∀ d ∈ D, d.ok) (hl : D.length ≤ 5)
    (hf : (o.rows.filter fun r => streq (low r.k) (low name)).map (fun r => MV.str r.v) = D.map fun d => MV.str (leadT d.t d.b)) :
    ∃ (l : Nat) (ws : List WO) (H' : MH), wsD c ⟨[a, some (.str name), some (.ref o.l)], H⟩ = some (.ref l, H') ∧ Kp H H' ∧ H.n ≤ l ∧ l < H'.n ∧ H'.get l = some (.list (ws.map fun o => .ref o.l)) ∧ (∀ w ∈ ws, w.At H' ∧ w.In H'.n) ∧ ws.map (fun o => (o.t, o.b)) = D.map fun d => ((d.t : Int), (d.b : Int)) := by
  obtain ⟨H1, e1, k1, n1, g1⟩ := getall (c := c) A hn hs
  rw [hf] at g1
  obtain ⟨st', e, a', b, cc, ws, H', rfl, k, hn', hg, he, hw⟩ := compFor_gen (f := setv 1) (ti := tt) (body := emitD (callF (a1 (gv 1)) (clsF 127 (w_init_f c))) H1.n) (S := fun i => .list H.n i) (n := D.length)
    (R := fun i st => ∃ (a b cc : Option MV) (ws : List WO) (H' : MH), st = ⟨[a, b, cc], H'⟩ ∧ Kp H1 H' ∧ H1.n < H'.n ∧ H'.get H1.n = some (.list (ws.map fun o => .ref o.l)) ∧ (∀ w ∈ ws, w.At H' ∧ w.In H'.n) ∧ ws.map (fun o => (o.t, o.b)) = (D.take i).map fun d => ((d.t : Int), (d.b : Int)))
    (fun st ⟨a, b, cc, ws, H', e, k, uq1⟩ => by
      subst e
      rw [next_list ((k.2 _ n1).trans g1), List.getElem?_eq_none (by rw [List.length_map]; exact Nat.le_refl _)])
    (fun i hi st ⟨a, b, cc, ws, H', e, k, hn', hg, he, hw⟩ => by
      subst e
      have hd := hD D[i] (List.getElem_mem hi)
      obtain ⟨w, H2, e2, k2, A2, I2, wt, wb⟩ := wi_ok c hd.1 hd.2.1 H'
      have hlen : ws.length = i := by
        have := congrArg List.length hw
        rw [List.length_map, List.length_map, List.length_take] at this
        exact len_take this hi
      have g2 : H2.get H1.n = some (.list (ws.map fun o => .ref o.l)) := (k2.2 _ hn').trans hg
      refine ⟨.str (leadT D[i].t D[i].b), H', ⟨[a, some (.str (leadT D[i].t D[i].b)), cc], H'⟩, true, H', ⟨[a, some (.str (leadT D[i].t D[i].b)), cc], H2.set H1.n (.list ((ws.map fun o => .ref o.l) ++ [.ref w.l]))⟩, ?_, rfl, rfl, ?_, _, _, _, ws ++ [w], _, rfl, (k.trans k2).set (Nat.le_refl _), Nat.lt_of_lt_of_le hn' k2.1, ?_, ?_, ?_⟩
      · rw [next_list ((k.2 _ n1).trans g1), List.getElem?_map, List.getElem?_eq_getElem hi]; rfl
      · rw [if_pos rfl]
        unfold emitD
        rw [callF_ok (a1_ok (v := .str (leadT D[i].t D[i].b)) (H1 := H') rfl), e2, Option.bind_some]
        dsimp only
        rw [appTo_eq g2 (by rw [List.length_map, hlen]; exact big5 (lt_small hi hl))]; rfl
      · rw [get_set_self g2, List.map_append]; rfl
      · intro x hx
        rcases List.mem_append.mp hx with hx | hx
        · have i2 : x.In H2.n := (he x hx).2.kp k2
          exact ⟨((he x hx).1.kp (he x hx).2 k2).set g2, i2⟩
        · rw [List.mem_singleton.mp hx]
          exact ⟨A2.set g2, I2⟩
      · rw [List.map_append, hw, List.take_succ_eq_append_getElem hi, List.map_append]
        simp only [List.map_cons, List.map_nil, wt, wb])
    D.length 0 ⟨[none, none, none], H1.push (.list [])⟩ rfl (Nat.zero_le _) ⟨none, none, none, [], _, rfl, Kp.push, Nat.lt_succ_self _, get_push_self, fun w hw => (by cases hw), rfl⟩
  rw [List.take_length] at hw
  refine ⟨H1.n, ws, H', ?_, k1.trans k, k1.1, hn', hg, he, hw⟩
  have ei : itD (mth 275 (Str.ofString "get_all") 2 (a1 (gv 1)) (h_all_f c)) ⟨[a, some (.str name), some (.ref o.l)], H⟩ = some (.list H.n 0, H1) := by
    unfold itD
    rw [mth_ok (st := ⟨[a, some (.str name), some (.ref o.l)], H⟩) (v := .ref o.l) (w := [.str name]) (H1 := H) (by rfl) (A.hasNo A.no2) (by rfl), e1, Option.bind_some]
    dsimp only
    unfold iterOf
    dsimp only
    rw [g1]; rfl
  have hfu : (Src.list H.n 0).fuel H1 = D.length + 1 := by unfold Src.fuel; simp only [g1, List.length_map]; rfl
  unfold wsD compD
  rw [ei, Option.bind_some]
  dsimp only
  rw [if_pos (by rfl), hfu]
  show Option.map _ (compFor _ tt (emitD (callF (a1 (gv 1)) (clsF 127 (w_init_f c))) H1.n) (D.length + 1) (.list H.n 0) ⟨[none, none, none], H1.push (.list [])⟩) = _
  rw [e]; rfl
end Q
end Mini.L2

open PySem PySem.W PySem.Calls PyProof.Rows
set_option maxRecDepth 100000
set_option maxHeartbeats 4000000
namespace Mini.L2
noncomputable section Q
noncomputable def ltr3 : Str := ⟨#[97, 66, 99]⟩
noncomputable def ltr (i : Nat) : Str := ⟨#[[97, 66, 99].getD i 0]⟩
theorem ltr_ok : ∀ i < 3, asc (ltr i) = true ∧ okTxt true (low (ltr i)) = true ∧ ltr3.cps[i]? = some ([97, 66, 99].getD i 0) ∧ ∀ t < 3, streq ⟨#[97 + t]⟩ (low (ltr i)) = decide (t = i) := by decide +kernel
theorem lw5_ok {c : Cx} {o : HO} {H : MH} {D : List Dr} {x0 x1 x2 x4 x5 x6 x7 x8 x9 x10 x11 x12 x13 y : Option MV} (A : o.At H) (hD : ∀ d ∈ D, d.ok) (hl : D.length ≤ 5) (hr : o.rows.map (fun r => (r.k, r.v)) = D.map kv) :
    ∃ (lb : Nat) (bs : List (Nat × List WO)) (H' : MH), lw5 c ⟨[x0, x1, x2, some (.ref o.l), x4, x5, x6, x7, x8, x9, x10, x11, x12, x13, y], H⟩ = some (.next, ⟨[x0, x1, x2, some (.ref o.l), x4, x5, x6, x7, x8, x9, x10, x11, x12, x13, some (.ref lb)], H'⟩) ∧ Kp H H' ∧ Bands H' lb bs ∧ bs.length = 3 ∧ ∀ j (h : j < bs.length), BandOf D j bs[j].2 := by
  obtain ⟨st', e, a', b, bs, H', rfl, k, hn', hg, hlen, he, hb⟩ := compFor_gen (f := setv 1) (ti := tt) (body := emitD (wsD c) H.n) (S := fun i => .str ltr3 i) (n := 3)
    (R := fun i st => ∃ (a b : Option MV) (bs : List (Nat × List WO)) (H' : MH), st = ⟨[a, b, some (.ref o.l)], H'⟩ ∧ Kp H H' ∧ H.n < H'.n ∧ H'.get H.n = some (.list (bs.map fun p => .ref p.1)) ∧ bs.length = i ∧ (∀ p ∈ bs, p.1 < H'.n ∧ H.n < p.1 ∧ H'.get p.1 = some (.list (p.2.map fun o => .ref o.l)) ∧ p.2.length ≤ 10 ∧ ∀ w ∈ p.2, w.At H' ∧ w.In H'.n) ∧ ∀ j (h : j < bs.length), BandOf D j bs[j].2)
    (fun st uq1 => by unfold Src.next; rfl)
    (fun i hi st ⟨a, b, bs, H', e, k, hn', hg, hlen, he, hb⟩ => by
      subst e
      obtain ⟨l1, l2, l3, l4⟩ := ltr_ok i hi
      have hf := filter_rows (j := i) (nm := low (ltr i)) hr fun d hd => by
        rw [(key_ok (hD d hd).1 (hD d hd).2.2).2.2]
        exact l4 d.t (Nat.lt_succ_of_le (hD d hd).1)
      obtain ⟨l, ws, H2, e2, k2, n2, n3, g2, w2, t2⟩ := ws_ok (c := c) (a := a) (name := ltr i) (D := D.filter fun d => decide (d.t = i)) (A.kp k) l1 l2 (fun d hd => hD d (List.mem_filter.mp hd).1) (Nat.le_trans (List.length_filter_le ..) hl) hf
      have hwl : ws.length ≤ 5 := by
        have := congrArg List.length t2
        rw [List.length_map, List.length_map] at this
        rw [this]
        exact Nat.le_trans (List.length_filter_le ..) hl
      have gl : H2.get H.n = some (.list (bs.map fun p => .ref p.1)) := (k2.2 _ hn').trans hg
      refine ⟨.str (ltr i), H', ⟨[a, some (.str (ltr i)), some (.ref o.l)], H'⟩, true, H', ⟨[a, some (.str (ltr i)), some (.ref o.l)], H2.set H.n (.list ((bs.map fun p => .ref p.1) ++ [.ref l]))⟩, ?_, rfl, rfl, ?_, _, _, bs ++ [(l, ws)], _, rfl, (k.trans k2).set (Nat.le_refl _), Nat.lt_of_lt_of_le hn' k2.1, ?_, ?_, ?_, ?_⟩
      · exact next_str l3
      · rw [if_pos rfl]
        unfold emitD
        rw [e2, Option.bind_some]
        dsimp only
        rw [appTo_eq gl (by rw [List.length_map, hlen]; exact big5 (lt_small hi (by decide)))]; rfl
      · rw [get_set_self gl, List.map_append]; rfl
      · rw [List.length_append, hlen]; rfl
      · intro p hp
        have n2' : (H2.set H.n (.list ((bs.map fun p => .ref p.1) ++ [.ref l]))).n = H2.n := rfl
        rw [n2']
        rcases List.mem_append.mp hp with hp | hp
        · obtain ⟨p1, p2, p3, p4, p5⟩ := he p hp
          refine ⟨Nat.lt_of_lt_of_le p1 k2.1, p2, ?_, p4, fun w hw => ⟨((p5 w hw).1.kp (p5 w hw).2 k2).set gl, (p5 w hw).2.kp k2⟩⟩
          rw [get_set_ne (Nat.ne_of_gt p2), k2.2 _ p1]; exact p3
        · rw [List.mem_singleton.mp hp]
          refine ⟨n3, Nat.lt_of_lt_of_le hn' n2, ?_, Nat.le_trans hwl (by decide), fun w hw => ⟨(w2 w hw).1.set gl, (w2 w hw).2⟩⟩
          show (H2.set H.n _).get l = _
          rw [get_set_ne (Nat.ne_of_gt (Nat.lt_of_lt_of_le hn' n2))]; exact g2
      · intro j h
        rw [List.length_append, List.length_singleton] at h
        by_cases hj : j < bs.length
        · rw [List.getElem_append_left hj]; exact hb j hj
        · have : j = i := (Nat.le_antisymm (Nat.le_of_lt_succ h) (Nat.not_lt.mp hj)).trans hlen
          subst this
          rw [List.getElem_append_right (Nat.le_of_eq hlen)]
          simp only [hlen, Nat.sub_self, List.getElem_cons_zero]
          exact t2)
    3 0 ⟨[none, none, some (.ref o.l)], H.push (.list [])⟩ rfl (Nat.zero_le _) ⟨none, none, [], _, rfl, Kp.push, Nat.lt_succ_self _, get_push_self, rfl, fun p hp => (by cases hp), fun j h => absurd h (Nat.not_lt_zero _)⟩
  refine ⟨H.n, bs, H', ?_, k, ⟨hg, hn', fun p hp => ⟨(he p hp).1, (he p hp).2.2⟩, by rw [hlen]; decide⟩, hlen, hb⟩
  have ec : compD [none, none, some 3] lt5a (itD (kS ⟨#[97, 66, 99]⟩)) (setv 1) tt (emitD (wsD c)) ⟨[x0, x1, x2, some (.ref o.l), x4, x5, x6, x7, x8, x9, x10, x11, x12, x13, y], H⟩ = some (.ref H.n, H') := by
    have ei : itD (kS ⟨#[97, 66, 99]⟩) ⟨[x0, x1, x2, some (.ref o.l), x4, x5, x6, x7, x8, x9, x10, x11, x12, x13, y], H⟩ = some (.str ltr3 0, H) := by
      have ha : ltr3.cps.all (· < 128) = true := by decide +kernel
      show Option.map _ (iterOf (.str ltr3) H) = _
      unfold iterOf
      dsimp only
      rw [if_pos ha]; rfl
    unfold compD
    rw [ei, Option.bind_some]
    dsimp only
    rw [if_pos (by rfl)]
    show Option.map _ (compFor _ tt (emitD (wsD c) H.n) (3 + 1) (.str ltr3 0) ⟨[none, none, some (.ref o.l)], H.push (.list [])⟩) = _
    rw [e]; rfl
  unfold lw5 asgS
  rw [ec]; rfl
theorem max_eq (a b : Int) (H : MH) : maxF [.int a, .int b] [] H = some (.int (max a b), H) := by
  unfold maxF
  dsimp only
  rw [Int.max_def]
  by_cases h : b > a
  · rw [if_pos h, if_pos (Int.le_of_lt h)]
  · rw [if_neg h]
    by_cases h2 : a ≤ b
    · rw [if_pos h2, Int.le_antisymm h2 (Int.not_lt.mp h)]
    · rw [if_neg h2]
theorem dif_ok {a b : Nat} (h : a < b) (hb : b ≤ 2) : ((b : Int) - a) ≠ 0 ∧ small ((b : Int) - a) = true := ⟨by omega, small_of (by omega)⟩
theorem lmth_ok {i : Nat} {ds : DEs} {f : List MV → List (Str × MV) → MH → Option (MV × MH)} {st : St} {l : Nat} {xs : List MV} {w : List MV} {H1 : MH} (e1 : getv st i = some (.ref l, st.H)) (e2 : st.H.get l = some (.list xs)) (e3 : ds st = some (w, H1)) :
    lmth i ds f st = f (.ref l :: w) [] H1 := by
  have il : isListM (.ref l) st.H = true := by unfold isListM; simp only [e2]
  unfold lmth
  rw [e1, Option.bind_some]
  dsimp only
  rw [if_pos il, e3]; rfl
noncomputable def inr (x : Dr) (D : List Dr) : List Int := (D.filter fun y => decide (x.t < y.t)).map fun y => pv x y
theorem plain_len : ∀ (D E : List Dr), (D.flatMap fun x => inr x E).length ≤ D.length * E.length
  | [], _ => by simp
  | x :: D, E => by
    have ih := plain_len D E
    have h1 : (inr x E).length ≤ E.length := by unfold inr; rw [List.length_map]; exact List.length_filter_le ..
    rw [List.flatMap_cons, List.length_append, List.length_cons, Nat.succ_mul]
    omega
theorem lw7b_ok {ld lp : Nat} {ds : List (Nat × Dr)} {x : Dr} {acc : List Int} {H0 H : MH} {x0 x1 x3 x4 x6 x9 x10 x11 x12 x13 x14 : Option MV} (k : Kp H0 H) (D : DrawnAt H0 ld ds) (hx : x.ok) (hp : H0.n ≤ lp) (hg : H.get lp = some (.list (acc.map .int))) (hacc : acc.length ≤ 100) :
    ∃ (y4 y9 y10 : Option MV) (H' : MH), lw7b ⟨[x0, x1, some (.ref ld), x3, x4, some (.int x.b), x6, some (.ref lp), some (.int x.t), x9, x10, x11, x12, x13, x14], H⟩ = some (.next, ⟨[x0, x1, some (.ref ld), x3, y4, some (.int x.b), x6, some (.ref lp), some (.int x.t), y9, y10, x11, x12, x13, x14], H'⟩) ∧ Kp H0 H' ∧ H'.get lp = some (.list ((acc ++ inr x (ds.map (·.2))).map .int)) ∧ H.n ≤ H'.n := by
  obtain ⟨st', e, y4, y9, y10, H', rfl, k', hg', hn'⟩ := forS_list (t := lt7b) (di := iter_ 2) (f := asg3 4 9 10) (d := lw7c) (st := ⟨[x0, x1, some (.ref ld), x3, x4, some (.int x.b), x6, some (.ref lp), some (.int x.t), x9, x10, x11, x12, x13, x14], H⟩) (st1 := ⟨[x0, x1, some (.ref ld), x3, x4, some (.int x.b), x6, some (.ref lp), some (.int x.t), x9, x10, x11, x12, x13, x14], H⟩) (l := ld) (xs := ds.map fun p => .ref p.1)
    (R := fun i st => ∃ (y4 y9 y10 : Option MV) (H' : MH), st = ⟨[x0, x1, some (.ref ld), x3, y4, some (.int x.b), x6, some (.ref lp), some (.int x.t), y9, y10, x11, x12, x13, x14], H'⟩ ∧ Kp H0 H' ∧ H'.get lp = some (.list ((acc ++ inr x ((ds.take i).map (·.2))).map .int)) ∧ H.n ≤ H'.n)
    (iter_list rfl ((k.2 _ D.lt).trans D.hl)) rfl (by rfl) (fun i st ⟨uq1, uq2, uq3, H', e, k, uq4⟩ => by rw [e]; exact (k.2 _ D.lt).trans D.hl)
    ⟨x4, x9, x10, H, rfl, k, by show H.get lp = some (.list ((acc ++ []).map .int)); rw [List.append_nil]; exact hg, Nat.le_refl _⟩
    (fun i hi st ⟨y4, y9, y10, H', e, k', hg', hn'⟩ => by
      subst e
      rw [List.length_map] at hi
      obtain ⟨d1, d2, d3⟩ := (D.kp k').each ds[i] (List.getElem_mem hi)
      have hDl := D.len
      have hin : ∀ E : List Dr, (inr x E).length ≤ E.length := fun E => by unfold inr; rw [List.length_map]; exact List.length_filter_le ..
      have hil := hin ((ds.take i).map (·.2))
      rw [List.length_map, List.length_take] at hil
      have hti : inr x ((ds.take (i + 1)).map (·.2)) = inr x ((ds.take i).map (·.2)) ++ (if x.t < ds[i].2.t then [pv x ds[i].2] else []) := by
        unfold inr
        rw [List.take_succ_eq_append_getElem hi, List.map_append, List.filter_append, List.map_append]
        congr 1
        by_cases h : x.t < ds[i].2.t
        · rw [if_pos h]; simp [h]
        · rw [if_neg h]; simp [h]
      rw [List.getElem_map, asg3_ok d2, Option.bind_some]
      show ∃ st', lw7c ⟨[x0, x1, some (.ref ld), x3, some (.int ds[i].2.t), some (.int x.b), x6, some (.ref lp), some (.int x.t), some (.int ds[i].2.b), some (.int ds[i].2.g), x11, x12, x13, x14], H'⟩ = some (.next, st') ∧ _
      have ec : cmp2 (gv 8) (gv 4) (fun x y uq1 => ltop x y) ⟨[x0, x1, some (.ref ld), x3, some (.int ds[i].2.t), some (.int x.b), x6, some (.ref lp), some (.int x.t), some (.int ds[i].2.b), some (.int ds[i].2.g), x11, x12, x13, x14], H'⟩ = some (decide ((x.t : Int) < ds[i].2.t), H') := by rfl
      by_cases h : x.t < ds[i].2.t
      · have hd0 : ((ds[i].2.t : Int) - x.t) ≠ 0 ∧ small ((ds[i].2.t : Int) - x.t) = true := by
          exact dif_ok h d3.1
        have hfd : fdivop (.int ((x.b : Int) - ds[i].2.b)) (.int ((ds[i].2.t : Int) - x.t)) H' = some (.int (((x.b : Int) - ds[i].2.b).fdiv ((ds[i].2.t : Int) - x.t)), H') := by
          unfold fdivop
          dsimp only
          rw [if_pos hd0]
        have es : seq2 (seq2 (seq2 (gv 5) (gv 9) subop) (seq2 (gv 4) (gv 8) subop) fdivop) (kI 1) addop ⟨[x0, x1, some (.ref ld), x3, some (.int ds[i].2.t), some (.int x.b), x6, some (.ref lp), some (.int x.t), some (.int ds[i].2.b), some (.int ds[i].2.g), x11, x12, x13, x14], H'⟩ = some (.int (((x.b : Int) - ds[i].2.b).fdiv ((ds[i].2.t : Int) - x.t) + 1), H') := by
          show Option.bind (fdivop (.int ((x.b : Int) - ds[i].2.b)) (.int ((ds[i].2.t : Int) - x.t)) H') _ = _
          rw [hfd]; rfl
        have em : callF (consD (kI 1) (a1 (seq2 (seq2 (seq2 (gv 5) (gv 9) subop) (seq2 (gv 4) (gv 8) subop) fdivop) (kI 1) addop))) maxF ⟨[x0, x1, some (.ref ld), x3, some (.int ds[i].2.t), some (.int x.b), x6, some (.ref lp), some (.int x.t), some (.int ds[i].2.b), some (.int ds[i].2.g), x11, x12, x13, x14], H'⟩ = some (.int (pv x ds[i].2), H') := by
          rw [callF_ok (consD_ok (v := .int 1) (H1 := H') (by rfl) (a1_ok es)), max_eq]; rfl
        have ea : appE ⟨[x0, x1, some (.ref ld), x3, some (.int ds[i].2.t), some (.int x.b), x6, some (.ref lp), some (.int x.t), some (.int ds[i].2.b), some (.int ds[i].2.g), x11, x12, x13, x14], H'⟩ = some (.val .none, H'.set lp (.list (((acc ++ inr x ((ds.take i).map (·.2))).map .int) ++ [.int (pv x ds[i].2)]))) := by
          unfold appE
          rw [lmth_ok (l := lp) (by rfl) hg' (a1_ok em), append_eq hg' (by rw [List.length_map, List.length_append]; exact Nat.le_trans (Nat.add_le_add hacc (Nat.le_trans hil (Nat.le_trans (Nat.min_le_right ..) hDl))) (by decide))]
        refine ⟨⟨[x0, x1, some (.ref ld), x3, some (.int ds[i].2.t), some (.int x.b), x6, some (.ref lp), some (.int x.t), some (.int ds[i].2.b), some (.int ds[i].2.g), x11, x12, x13, x14], H'.set lp (.list (((acc ++ inr x ((ds.take i).map (·.2))).map .int) ++ [.int (pv x ds[i].2)]))⟩, ?_, _, _, _, _, rfl, k'.set hp, ?_, hn'⟩
        · unfold lw7c
          have e1 : ifS (cmp2 (gv 8) (gv 4) (fun x y uq1 => ltop x y)) (seqS (exprS appE) nilS) nilS ⟨[x0, x1, some (.ref ld), x3, some (.int ds[i].2.t), some (.int x.b), x6, some (.ref lp), some (.int x.t), some (.int ds[i].2.b), some (.int ds[i].2.g), x11, x12, x13, x14], H'⟩ = some (.next, ⟨[x0, x1, some (.ref ld), x3, some (.int ds[i].2.t), some (.int x.b), x6, some (.ref lp), some (.int x.t), some (.int ds[i].2.b), some (.int ds[i].2.g), x11, x12, x13, x14], H'.set lp (.list (((acc ++ inr x ((ds.take i).map (·.2))).map .int) ++ [.int (pv x ds[i].2)]))⟩) := by
            unfold ifS
            rw [ec, Option.bind_some]
            dsimp only
            rw [decide_eq_true (Int.ofNat_lt.mpr h), if_pos rfl]
            unfold seqS exprS
            rw [ea]; rfl
          rw [seq_step e1]; rfl
        · rw [get_set_self hg', hti, if_pos h, ← List.append_assoc]; simp only [List.map_append, List.map_cons, List.map_nil]
      · refine ⟨⟨[x0, x1, some (.ref ld), x3, some (.int ds[i].2.t), some (.int x.b), x6, some (.ref lp), some (.int x.t), some (.int ds[i].2.b), some (.int ds[i].2.g), x11, x12, x13, x14], H'⟩, ?_, _, _, _, _, rfl, k', ?_, hn'⟩
        · unfold lw7c
          have e1 : ifS (cmp2 (gv 8) (gv 4) (fun x y uq1 => ltop x y)) (seqS (exprS appE) nilS) nilS ⟨[x0, x1, some (.ref ld), x3, some (.int ds[i].2.t), some (.int x.b), x6, some (.ref lp), some (.int x.t), some (.int ds[i].2.b), some (.int ds[i].2.g), x11, x12, x13, x14], H'⟩ = some (.next, ⟨[x0, x1, some (.ref ld), x3, some (.int ds[i].2.t), some (.int x.b), x6, some (.ref lp), some (.int x.t), some (.int ds[i].2.b), some (.int ds[i].2.g), x11, x12, x13, x14], H'⟩) := by
            unfold ifS
            rw [ec, Option.bind_some]
            dsimp only
            rw [decide_eq_false (fun q => h (Int.ofNat_lt.mp q)), if_neg Bool.false_ne_true]; rfl
          rw [seq_step e1]; rfl
        · rw [hti, if_neg h, List.append_nil]; exact hg')
  rw [List.length_map, List.take_length] at hg'
  refine ⟨y4, y9, y10, H', ?_, k', hg', hn'⟩
  unfold lw7b
  rw [seq_step e]; rfl
end Q
end Mini.L2

open PySem PySem.W PySem.Calls PyProof.Rows
set_option maxRecDepth 100000
set_option maxHeartbeats 4000000
namespace Mini.L2
noncomputable section Q
theorem plain_inr (D : List Dr) : plain D = D.flatMap fun x => inr x D := rfl
theorem lw7_ok {ld lp : Nat} {ds : List (Nat × Dr)} {H0 H : MH} {x0 x1 x3 x4 x5 x6 x8 x9 x10 x11 x12 x13 x14 : Option MV} (k : Kp H0 H) (D : DrawnAt H0 ld ds) (hp : H0.n ≤ lp) (hg : H.get lp = some (.list [])) :
    ∃ (y4 y5 y6 y8 y9 y10 : Option MV) (H' : MH), lw7 ⟨[x0, x1, some (.ref ld), x3, x4, x5, x6, some (.ref lp), x8, x9, x10, x11, x12, x13, x14], H⟩ = some (.next, ⟨[x0, x1, some (.ref ld), x3, y4, y5, y6, some (.ref lp), y8, y9, y10, x11, x12, x13, x14], H'⟩) ∧ Kp H0 H' ∧ H'.get lp = some (.list ((plain (ds.map (·.2))).map .int)) ∧ H.n ≤ H'.n := by
  obtain ⟨st', e, y4, y5, y6, y8, y9, y10, H', rfl, k', hg', hn'⟩ := forS_list (t := lt7a) (di := iter_ 2) (f := asg3 8 5 6) (d := lw7b) (st := ⟨[x0, x1, some (.ref ld), x3, x4, x5, x6, some (.ref lp), x8, x9, x10, x11, x12, x13, x14], H⟩) (st1 := ⟨[x0, x1, some (.ref ld), x3, x4, x5, x6, some (.ref lp), x8, x9, x10, x11, x12, x13, x14], H⟩) (l := ld) (xs := ds.map fun p => .ref p.1)
    (R := fun i st => ∃ (y4 y5 y6 y8 y9 y10 : Option MV) (H' : MH), st = ⟨[x0, x1, some (.ref ld), x3, y4, y5, y6, some (.ref lp), y8, y9, y10, x11, x12, x13, x14], H'⟩ ∧ Kp H0 H' ∧ H'.get lp = some (.list (((ds.take i).map (·.2)).flatMap (fun x => inr x (ds.map (·.2))) |>.map .int)) ∧ H.n ≤ H'.n)
    (iter_list rfl ((k.2 _ D.lt).trans D.hl)) rfl (by rfl) (fun i st ⟨uq1, uq2, uq3, uq4, uq5, uq6, H', e, k, uq7⟩ => by rw [e]; exact (k.2 _ D.lt).trans D.hl)
    ⟨x4, x5, x6, x8, x9, x10, H, rfl, k, hg, Nat.le_refl _⟩
    (fun i hi st ⟨y4, y5, y6, y8, y9, y10, H', e, k', hg', hn'⟩ => by
      subst e
      rw [List.length_map] at hi
      obtain ⟨d1, d2, d3⟩ := (D.kp k').each ds[i] (List.getElem_mem hi)
      have hDl := D.len
      have hlen := plain_len ((ds.take i).map (·.2)) (ds.map (·.2))
      rw [List.length_map, List.length_map, List.length_take] at hlen
      have hm : min i ds.length * ds.length ≤ 5 * 5 := Nat.mul_le_mul (Nat.le_trans (Nat.min_le_right ..) hDl) hDl
      obtain ⟨z4, z9, z10, H2, e2, k2, g2, n2⟩ := lw7b_ok (x0 := x0) (x1 := x1) (x3 := x3) (x4 := y4) (x6 := some (.int ds[i].2.g)) (x9 := y9) (x10 := y10) (x11 := x11) (x12 := x12) (x13 := x13) (x14 := x14) k' D d3 hp hg' (Nat.le_trans hlen (Nat.le_trans hm (by decide)))
      refine ⟨⟨[x0, x1, some (.ref ld), x3, z4, some (.int ds[i].2.b), some (.int ds[i].2.g), some (.ref lp), some (.int ds[i].2.t), z9, z10, x11, x12, x13, x14], H2⟩, ?_, z4, some (.int ds[i].2.b), some (.int ds[i].2.g), some (.int ds[i].2.t), z9, z10, H2, rfl, k2, ?_, Nat.le_trans hn' n2⟩
      · rw [List.getElem_map, asg3_ok d2, Option.bind_some]
        exact e2
      · rw [g2, List.take_succ_eq_append_getElem hi]
        simp only [List.map_append, List.flatMap_append, List.map_cons, List.map_nil, List.flatMap_cons, List.flatMap_nil, List.append_nil])
  rw [List.length_map, List.take_length] at hg'
  exact ⟨y4, y5, y6, y8, y9, y10, H', e, k', hg', hn'⟩
theorem lw8_ok {lp : Nat} {ns : List Int} {H : MH} {x0 x1 x2 x3 x4 x5 x6 : Option MV} {r : List (Option MV)} (hg : H.get lp = some (.list (ns.map .int))) (hl : ns.length < 64) :
    lw8 ⟨x0 :: x1 :: x2 :: x3 :: x4 :: x5 :: x6 :: some (.ref lp) :: r, H⟩ = some (.next, ⟨x0 :: x1 :: x2 :: x3 :: x4 :: x5 :: x6 :: some (.ref lp) :: r, H.set lp (.list ((sortI ns).map .int))⟩) := by
  have es : sortF [.ref lp] [] H = some (.val .none, H.set lp (.list ((sortI ns).map .int))) := by
    unfold sortF
    simp only [hg]
    rw [if_pos (by rw [List.length_map]; exact hl), intsOf_map]; rfl
  unfold lw8 exprS
  rw [lmth_ok (l := lp) (w := []) (H1 := H) (by rfl) hg (by rfl), es]; rfl
noncomputable def sizes7 : List Int := [1, 2, 3, 4, 5, 6, 7]
theorem lw9_ok {H : MH} {x0 x1 x2 x3 x4 x5 x6 x7 x8 x9 x10 y : Option MV} {r : List (Option MV)} :
    ∃ (l : Nat) (H' : MH), lw9 ⟨x0 :: x1 :: x2 :: x3 :: x4 :: x5 :: x6 :: x7 :: x8 :: x9 :: x10 :: y :: r, H⟩ = some (.next, ⟨x0 :: x1 :: x2 :: x3 :: x4 :: x5 :: x6 :: x7 :: x8 :: x9 :: x10 :: some (.ref l) :: r, H'⟩) ∧ Kp H H' ∧ l < H'.n ∧ H'.get l = some (.list (sizes7.map .int)) := by
  have g1 : (H.push (.range 1 8)).get H.n = some (.range 1 8) := get_push_self
  have er : callF (consD (kI 1) (a1 (kI 8))) rangeF ⟨x0 :: x1 :: x2 :: x3 :: x4 :: x5 :: x6 :: x7 :: x8 :: x9 :: x10 :: y :: r, H⟩ = some (.ref H.n, H.push (.range 1 8)) := by
    rw [callF_ok (w := [.int 1, .int 8]) (H1 := H) (by rfl)]
    unfold rangeF
    dsimp only
    rw [if_pos (by decide)]
  have el : listRF [.ref H.n] [] (H.push (.range 1 8)) = some (.ref (H.n + 1), (H.push (.range 1 8)).push (.list (sizes7.map .int))) := by
    unfold listRF
    simp only [g1]
    rw [if_pos (by decide)]; rfl
  refine ⟨H.n + 1, (H.push (.range 1 8)).push (.list (sizes7.map .int)), ?_, Kp.push.trans Kp.push, Nat.lt_succ_self _, get_push_self⟩
  unfold lw9 asgS
  rw [callF_ok (a1_ok er), el]; rfl
noncomputable def Kq (H H' : MH) : Prop := H.n ≤ H'.n ∧ ∀ l, l ≠ 0 → l < H.n → H'.get l = H.get l
theorem Kp.kq {H H' : MH} (k : Kp H H') : Kq H H' := ⟨k.1, fun l uq1 h => k.2 l h⟩
theorem Kq.refl {H : MH} : Kq H H := ⟨Nat.le_refl _, fun uq1 uq2 uq3 => rfl⟩
theorem Kq.trans {H H' H'' : MH} (a : Kq H H') (b : Kq H' H'') : Kq H H'' := ⟨Nat.le_trans a.1 b.1, fun l n h => (b.2 l n (Nat.lt_of_lt_of_le h a.1)).trans (a.2 l n h)⟩
theorem Kq.set {H H' : MH} {l : Nat} {o : MO} (a : Kq H H') (h : H.n ≤ l) : Kq H (H'.set l o) := ⟨a.1, fun k n hk => by rw [MH.get_set, if_neg (by omega)]; exact a.2 k n hk⟩
theorem Kq.set0 {H H' : MH} {o : MO} (a : Kq H H') : Kq H (H'.set 0 o) := ⟨a.1, fun k n hk => by rw [MH.get_set, if_neg n]; exact a.2 k n hk⟩
theorem WO.At.kq {o : WO} {H H' : MH} {t : Option (Nat × Nat × Nat)} (A : o.At H) (i : o.In H.n) (h : H.get 0 = some (.tab t)) (k : Kq H H') : o.At H' := by
  have n1 : o.l ≠ 0 := fun e => by have := A.hl; rw [e, h] at this; cases this
  have n2 : o.d ≠ 0 := fun e => by have := A.hd; rw [e, h] at this; cases this
  have n3 : o.tp ≠ 0 := fun e => by have := A.htp; rw [e, h] at this; cases this
  have n4 : o.ct ≠ 0 := fun e => by have := A.hct; rw [e, h] at this; cases this
  exact ⟨(k.2 _ n1 i.1).trans A.hl, (k.2 _ n2 i.2.1).trans A.hd, A.hn, A.ht, A.hs, A.hq, (k.2 _ n3 i.2.2.1).trans A.htp, (k.2 _ n4 i.2.2.2).trans A.hct, A.hlen, A.no1, A.no2, A.rt, A.rb⟩
theorem list_ne0 {H : MH} {t : Option (Nat × Nat × Nat)} {l : Nat} {xs : List MV} (h : H.get 0 = some (.tab t)) (g : H.get l = some (.list xs)) : l ≠ 0 := fun e => by rw [e, h] at g; cases g
theorem Bands.kq {H H' : MH} {lb : Nat} {bs : List (Nat × List WO)} {t : Option (Nat × Nat × Nat)} (B : Bands H lb bs) (h : H.get 0 = some (.tab t)) (k : Kq H H') : Bands H' lb bs :=
  ⟨(k.2 _ (list_ne0 h B.hb) B.lt).trans B.hb, Nat.lt_of_lt_of_le B.lt k.1, fun p hp => ⟨Nat.lt_of_lt_of_le (B.each p hp).1 k.1, (k.2 _ (list_ne0 h (B.each p hp).2.1) (B.each p hp).1).trans (B.each p hp).2.1, (B.each p hp).2.2.1, fun o ho => ⟨((B.each p hp).2.2.2 o ho).1.kq ((B.each p hp).2.2.2 o ho).2 h k,
    ⟨Nat.lt_of_lt_of_le ((B.each p hp).2.2.2 o ho).2.1 k.1, Nat.lt_of_lt_of_le ((B.each p hp).2.2.2 o ho).2.2.1 k.1, Nat.lt_of_lt_of_le ((B.each p hp).2.2.2 o ho).2.2.2.1 k.1, Nat.lt_of_lt_of_le ((B.each p hp).2.2.2 o ho).2.2.2.2 k.1⟩⟩⟩, B.len⟩
noncomputable def TabOk (H : MH) : Prop := H.get 0 = some (.tab none) ∨ ∃ lc, H.get 0 = some (.tab (some (lc, 228, 46))) ∧ lc < H.n ∧ H.get lc = some (.code lam0.qual)
theorem TabOk.tab {H : MH} (h : TabOk H) : ∃ t, H.get 0 = some (.tab t) := h.elim (fun e => ⟨_, e⟩) fun ⟨uq1, e, uq2⟩ => ⟨_, e⟩
theorem TabOk.kp {H H' : MH} (h : TabOk H) (h0 : 0 < H.n) (k : Kp H H') : TabOk H' := h.elim (fun e => .inl ((k.2 0 h0).trans e)) fun ⟨lc, e, h1, h2⟩ => .inr ⟨lc, (k.2 0 h0).trans e, Nat.lt_of_lt_of_le h1 k.1, (k.2 _ h1).trans h2⟩
theorem TabOk.set {H : MH} {la : Nat} {xs ys : List MV} (h : TabOk H) (g : H.get la = some (.list xs)) : TabOk (H.set la (.list ys)) := by
  rcases h with e | ⟨lc, e, h1, h2⟩
  · exact .inl (by rw [get_set_ne (Ne.symm (list_ne0 e g))]; exact e)
  · have : lc ≠ la := fun q => by rw [q, g] at h2; cases h2
    exact .inr ⟨lc, by rw [get_set_ne (Ne.symm (list_ne0 e g))]; exact e, h1, by rw [get_set_ne this]; exact h2⟩
theorem mk_ok {vs : List (Option MV)} {lb : Nat} {H : MH} (hv : vs[3]? = some (some (.ref lb))) (h : TabOk H) (h0 : 0 < H.n) :
    ∃ (lc : Nat) (H' : MH), mkClo 0 lam0.qual 228 46 3 vs H = some (.clo 0 lb lc, H') ∧ Kq H H' ∧ lc < H'.n ∧ H'.get lc = some (.code lam0.qual) ∧ TabOk H' := by
  rcases h with e | ⟨lc, e, h1, h2⟩
  · have g : ((H.push (.code lam0.qual)).set 0 (.tab (some (H.n, 228, 46)))).get H.n = some (.code lam0.qual) := by rw [get_set_ne (by omega)]; exact get_push_self
    refine ⟨H.n, (H.push (.code lam0.qual)).set 0 (.tab (some (H.n, 228, 46))), ?_, (Kp.kq Kp.push).set0, Nat.lt_succ_self _, g, .inr ⟨H.n, ?_, Nat.lt_succ_self _, g⟩⟩
    · unfold mkClo
      simp only [hv, e]
    · exact get_set_self ((Kp.push.2 0 h0).trans e)
  · refine ⟨lc, H, ?_, .refl, h1, h2, .inr ⟨lc, e, h1, h2⟩⟩
    unfold mkClo
    simp [hv, e, h2]
end Q
end Mini.L2

open PySem PySem.W PySem.Calls PyProof.Rows
set_option maxRecDepth 100000
set_option maxHeartbeats 4000000
namespace Mini.L2
noncomputable section Q
theorem sz_rng {j : Nat} (h : j < 7) : 1 ≤ (j : Int) + 1 ∧ (j : Int) + 1 ≤ 1000 := ⟨by omega, by omega⟩
theorem one_le (j : Nat) : (1 : Int) ≤ (j : Int) + 1 := by omega
theorem le_step {p : Int} {j l : Nat} (h : j ≤ l) (hp : p ≤ (j : Int) + 1) : p ≤ (l : Int) + 1 := by omega
theorem it_rng {m : Nat} (h : m ≤ 60) : (-1000000 : Int) ≤ 0 ∧ (0 : Int) ≤ 1000000 ∧ -1000000 ≤ (m : Int) ∧ (m : Int) ≤ 1000000 := ⟨by decide, by decide, by omega, by omega⟩
theorem sizes_get : ∀ i < 7, sizes7.getD i 0 = (i : Int) + 1 := by decide
theorem lw10_ok {c : Cx} {lb ls lp : Nat} {bs : List (Nat × List WO)} {D : List Dr} {H : MH} {x0 x1 x2 x3 x4 x5 x6 x8 x9 x10 y x13 : Option MV} (B : Bands H lb bs) (hD : ∀ d ∈ D, d.ok) (hcnt : ∀ z, 1 ≤ z → cnt bs z = ((plain D).countP (fun p => decide (p ≤ z)) : Nat)) (T : TabOk H)
    (gs : H.get ls = some (.list (sizes7.map .int))) (hls : ls < H.n) (gp : H.get lp = some (.list ((sortI (plain D)).map .int))) (hlen : (sortI (plain D)).length ≤ 60) :
    ∃ (lt : Nat) (H' : MH), lw10 c ⟨[x0, x1, x2, x3, x4, x5, x6, some (.ref lp), x8, x9, x10, some (.ref ls), y, x13, some (.ref lb)], H⟩ = some (.next, ⟨[x0, x1, x2, x3, x4, x5, x6, some (.ref lp), x8, x9, x10, some (.ref ls), some (.ref lt), x13, some (.ref lb)], H'⟩) ∧ Kq H H' ∧ lt < H'.n ∧ H'.get lt = some (.list ((sortI (plain D)).map .int)) ∧ TabOk H' := by
  let m := (sortI (plain D)).length
  let H1 := H.push (.range 0 m)
  have h0 : 0 < H.n := Nat.lt_of_le_of_lt (Nat.zero_le _) hls
  obtain ⟨t0, ht0⟩ := T.tab
  have T1 : TabOk H1 := T.kp h0 Kp.push
  have ht1 : H1.get 0 = some (.tab t0) := (Kp.push.2 0 h0).trans ht0
  have B1 : Bands H1 lb bs := B.kp Kp.push
  have gs1 : H1.get ls = some (.list (sizes7.map .int)) := (Kp.push.2 _ hls).trans gs
  have hls1 : ls < H1.n := Nat.lt_succ_of_lt hls
  obtain ⟨st', e, a', b, cc, H', rfl, k, hn', T', hg⟩ := compFor_gen (f := setv 1) (ti := tt) (body := emitD (seq2 (kI 1) (keyD c) addop) H1.n) (S := fun i => .range (i : Int) (m - i)) (n := m)
    (R := fun i st => ∃ (a b cc : Option MV) (H' : MH), st = ⟨[a, b, cc, some (.ref lb), some (.ref ls)], H'⟩ ∧ Kq H1 H' ∧ H1.n < H'.n ∧ TabOk H' ∧ H'.get H1.n = some (.list (((sortI (plain D)).take i).map .int)))
    (fun st uq1 => by
      show (Src.range (m : Int) (m - m)).next _ = _
      rw [Nat.sub_self]; rfl)
    (fun i hi st ⟨a, b, cc, H', e, k, hn', T', hg⟩ => by
      subst e
      have h0' : 0 < H'.n := Nat.lt_of_le_of_lt (Nat.zero_le _) hn'
      obtain ⟨lc, H2, e2, k2, n2, g2, T2⟩ := mk_ok (vs := [a, some (.int i), cc, some (.ref lb), some (.ref ls)]) (lb := lb) rfl T' h0'
      have k12 := k.trans k2
      have B2 : Bands H2 lb bs := B1.kq ht1 k12
      have gs2 : H2.get ls = some (.list (sizes7.map .int)) := (k12.2 _ (list_ne0 ht1 gs1) hls1).trans gs1
      obtain ⟨r, st3, e3, k3, r1, r2, r3⟩ := biskl (c := c) (x := (i : Int) + 1) (lc := lc) B2 gs2 (Nat.lt_of_lt_of_le hls1 k12.1) (by decide) g2 n2
        (fun j hj => by rw [sizes_get j hj]; exact sz_rng hj)
        (fun j l hjl hl => by
          have hl7 : l < 7 := hl
          rw [sizes_get j (Nat.lt_of_le_of_lt hjl hl7), sizes_get l hl7, hcnt _ (one_le _), hcnt _ (one_le _)]
          exact Int.ofNat_le.mpr (List.countP_mono_left (l := plain D) (p := fun p => decide (p ≤ (j : Int) + 1)) (q := fun p => decide (p ≤ (l : Int) + 1)) (fun p uq1 h => decide_eq_true (le_step hjl (of_decide_eq_true h)))))
      have hq := told_eq hD hcnt (k := i) hi (r := r) r1 (fun j hj => by have := r2 j hj; rwa [sizes_get j (Nat.lt_of_lt_of_le hj r1)] at this) (fun j h1 h2 => by have := r3 j h1 h2; rwa [sizes_get j h2] at this)
      have ek : keyD c ⟨[a, some (.int i), cc, some (.ref lb), some (.ref ls)], H'⟩ = some (.int r, st3.H) := by
        have ec : consD (gv 4) (a1 (seq2 (gv 1) (kI 1) addop)) ⟨[a, some (.int i), cc, some (.ref lb), some (.ref ls)], H'⟩ = some ([.ref ls, .int ((i : Int) + 1)], H') := by rfl
        unfold keyD callKeyD
        rw [ec, Option.bind_some]
        dsimp only
        rw [e2, Option.bind_some]
        show Option.bind (bisect_leftK_d c ⟨[some (.ref ls), some (.int ((i : Int) + 1)), some (.int 0), some (.val .none), some (.clo 0 lb lc), none], H2⟩) retOf = _
        rw [e3]; rfl
      have g3 : st3.H.get H1.n = some (.list (((sortI (plain D)).take i).map .int)) := by
        rw [k3.2 _ (Nat.lt_of_lt_of_le hn' k2.1), k2.2 _ (list_ne0 (T'.tab).choose_spec hg) hn']; exact hg
      refine ⟨.int i, H', ⟨[a, some (.int i), cc, some (.ref lb), some (.ref ls)], H'⟩, true, H', ⟨[a, some (.int i), cc, some (.ref lb), some (.ref ls)], st3.H.set H1.n (.list ((((sortI (plain D)).take i).map .int) ++ [.int (1 + (r : Int))]))⟩, ?_, rfl, rfl, ?_, _, _, _, _, rfl, (k12.trans (Kp.kq k3)).set (Nat.le_refl _), ?_, ?_, ?_⟩
      · show (Src.range (i : Int) (m - i)).next _ = some (some (_, Src.range ((i + 1 : Nat) : Int) (m - (i + 1)), _))
        rw [sub_step hi]
        rfl
      · rw [if_pos rfl]
        have ea : seq2 (kI 1) (keyD c) addop ⟨[a, some (.int i), cc, some (.ref lb), some (.ref ls)], H'⟩ = some (.int (1 + (r : Int)), st3.H) := by
          show Option.bind (keyD c ⟨[a, some (.int i), cc, some (.ref lb), some (.ref ls)], H'⟩) _ = _
          rw [ek]; rfl
        unfold emitD
        rw [ea, Option.bind_some]
        dsimp only
        rw [appTo_eq g3 (by rw [List.length_map, List.length_take]; exact Nat.le_trans (Nat.min_le_right ..) (Nat.le_trans hlen (by decide)))]; rfl
      · exact Nat.lt_of_lt_of_le hn' (Nat.le_trans k2.1 k3.1)
      · exact (T2.kp (Nat.lt_of_lt_of_le h0' k2.1) k3).set g3
      · rw [get_set_self g3, List.take_succ_eq_append_getElem hi, List.map_append, hq]; rfl)
    m 0 ⟨[none, none, none, some (.ref lb), some (.ref ls)], H1.push (.list [])⟩ rfl (Nat.zero_le _) ⟨none, none, none, _, rfl, Kp.kq Kp.push, Nat.lt_succ_self _, T1.kp (Nat.succ_pos _) Kp.push, get_push_self⟩
  rw [List.take_length] at hg
  refine ⟨H1.n, H', ?_, (Kp.kq Kp.push).trans k, hn', hg, T'⟩
  have ei : itD (callF (a1 (lenD c 7)) rangeF) ⟨[x0, x1, x2, x3, x4, x5, x6, some (.ref lp), x8, x9, x10, some (.ref ls), y, x13, some (.ref lb)], H⟩ = some (.range 0 m, H1) := by
    have el : lenD c 7 ⟨[x0, x1, x2, x3, x4, x5, x6, some (.ref lp), x8, x9, x10, some (.ref ls), y, x13, some (.ref lb)], H⟩ = some (.int m, H) := by
      unfold lenD
      rw [callF_ok (a1_ok (v := .ref lp) (H1 := H) (by rfl)), len_list gp (by rw [List.length_map]; exact Nat.le_trans hlen (by decide)), List.length_map]
    have er : rangeF [.int m] [] H = some (.ref H.n, H1) := by
      unfold rangeF
      dsimp only
      rw [if_pos (small_of (nat_rng (Nat.le_trans hlen (by decide))))]
    have gr : H1.get H.n = some (.range 0 m) := get_push_self
    unfold itD
    rw [callF_ok (a1_ok el), er, Option.bind_some]
    dsimp only
    unfold iterOf
    dsimp only
    rw [gr]
    dsimp only
    rw [if_pos (it_rng hlen)]
    show some (Src.range 0 ((m : Int) - 0).toNat, H1) = _
    rw [Int.sub_zero, Int.toNat_natCast]
  unfold lw10 asgCompS compD
  rw [ei, Option.bind_some]
  dsimp only
  rw [if_pos (by rfl)]
  show Option.map _ (Option.map _ (compFor _ tt (emitD (seq2 (kI 1) (keyD c) addop) H1.n) (m + 1) (.range ((0 : Nat) : Int) (m - 0)) ⟨[none, none, none, some (.ref lb), some (.ref ls)], H1.push (.list [])⟩)) = _
  rw [e]; rfl
end Q
end Mini.L2

open PySem PySem.W PySem.Calls PyProof.Rows
set_option maxRecDepth 100000
set_option maxHeartbeats 4000000
namespace Mini.L2
noncomputable section Q
noncomputable def Kx (la : Nat) (H H' : MH) : Prop := H.n ≤ H'.n ∧ ∀ l, l ≠ la → l < H.n → H'.get l = H.get l
theorem Kx.refl {la : Nat} {H : MH} : Kx la H H := ⟨Nat.le_refl _, fun uq1 uq2 uq3 => rfl⟩
theorem Kx.trans {la : Nat} {H H' H'' : MH} (a : Kx la H H') (b : Kx la H' H'') : Kx la H H'' := ⟨Nat.le_trans a.1 b.1, fun l n h => (b.2 l n (Nat.lt_of_lt_of_le h a.1)).trans (a.2 l n h)⟩
theorem Kx.of {la : Nat} {H H' : MH} (k : Kp H H') : Kx la H H' := ⟨k.1, fun l uq1 h => k.2 l h⟩
theorem Kx.set {la : Nat} {H H' : MH} {o : MO} (a : Kx la H H') : Kx la H (H'.set la o) := ⟨a.1, fun k n hk => by rw [MH.get_set, if_neg n]; exact a.2 k n hk⟩
theorem kpx {la : Nat} {B H H' : MH} (a : Kp B H) (b : Kx la H H') (h : B.n ≤ la) : Kp B H' := ⟨Nat.le_trans a.1 b.1, fun l hl => (b.2 l (Nat.ne_of_lt (Nat.lt_of_lt_of_le hl h)) (Nat.lt_of_lt_of_le hl a.1)).trans (a.2 l hl)⟩
noncomputable def onesL (m : Nat) : MO := .list (List.replicate m (.int 1))
theorem sum_take {α : Type} {κ : α → Nat} (xs : List α) (i : Nat) (h : i < xs.length) : ((xs.take (i + 1)).map κ).sum = ((xs.take i).map κ).sum + κ xs[i] ∧ ((xs.take (i + 1)).map κ).sum ≤ (xs.map κ).sum := by
  constructor
  · rw [List.take_succ_eq_append_getElem h, List.map_append, List.sum_append]; simp
  · conv => rhs; rw [← List.take_append_drop (i + 1) xs, List.map_append, List.sum_append]
    omega
theorem ones_loop {f : MV → St → Option St} {ti : St → Option (Bool × MH)} {body : St → Option St} {α : Type} {xs : List α} {κ : α → Nat} {S : Nat → Src} {P : List (Option MV) → Prop} {la : Nat} {H0 : MH}
    (hend : ∀ H, Kx la H0 H → (S xs.length).next H = some none)
    (step : ∀ i (h : i < xs.length) vs H m, P vs → Kx la H0 H → la < H.n → H.get la = some (onesL m) → m + κ xs[i] ≤ 1000 →
      ∃ v st1 q H1 vs' H', (S i).next H = some (some (v, S (i + 1), H)) ∧ f v ⟨vs, H⟩ = some st1 ∧ ti st1 = some (q, H1) ∧ (if q = true then body ⟨st1.vs, H1⟩ else some ⟨st1.vs, H1⟩) = some ⟨vs', H'⟩ ∧ P vs' ∧ Kx la H H' ∧ H'.get la = some (onesL (m + κ xs[i])))
    {vs : List (Option MV)} {m : Nat} (p : P vs) (hla : la < H0.n) (hg : H0.get la = some (onesL m)) (hm : m + (xs.map κ).sum ≤ 1000) :
    ∃ vs' H', compFor f ti body (xs.length + 1) (S 0) ⟨vs, H0⟩ = some ⟨vs', H'⟩ ∧ P vs' ∧ Kx la H0 H' ∧ H'.get la = some (onesL (m + (xs.map κ).sum)) := by
  obtain ⟨st', e, vs', H', rfl, p', k', _, g'⟩ := compFor_gen (f := f) (ti := ti) (body := body) (S := S) (n := xs.length)
    (R := fun i st => ∃ vs H, st = ⟨vs, H⟩ ∧ P vs ∧ Kx la H0 H ∧ la < H.n ∧ H.get la = some (onesL (m + ((xs.take i).map κ).sum)))
    (fun st ⟨vs, H, e, uq1, k, uq2, uq3⟩ => by subst e; exact hend H k)
    (fun i hi st ⟨vs, H, e, p, k, hn, g⟩ => by
      subst e
      obtain ⟨s1, s2⟩ := sum_take (κ := κ) xs i hi
      obtain ⟨v, st1, q, H1, vs', H', e1, e2, e3, e4, p', k', g'⟩ := step i hi vs H _ p k hn g (by rw [Nat.add_assoc, ← s1]; exact Nat.le_trans (Nat.add_le_add_left s2 m) hm)
      refine ⟨v, H, st1, q, H1, ⟨vs', H'⟩, e1, e2, e3, e4, vs', H', rfl, p', k.trans k', Nat.lt_of_lt_of_le hn k'.1, ?_⟩
      rw [g', s1, Nat.add_assoc])
    xs.length 0 ⟨vs, H0⟩ rfl (Nat.zero_le _) ⟨vs, H0, rfl, p, .refl, hla, by simpa using hg⟩
  rw [List.take_length] at g'
  exact ⟨vs', H', e, p', k', g'⟩
theorem next_end {l : Nat} {xs : List MV} {H : MH} {i : Nat} (h : H.get l = some (.list xs)) (hi : xs.length ≤ i) : (Src.list l i).next H = some none := by
  rw [next_list h, List.getElem?_eq_none hi]
theorem next_at {α : Type} {l : Nat} {xs : List α} {φ : α → MV} {H : MH} {i : Nat} (h : H.get l = some (.list (xs.map φ))) (hi : i < xs.length) : (Src.list l i).next H = some (some (φ xs[i], .list l (i + 1), H)) := by
  rw [next_list h, List.getElem?_map, List.getElem?_eq_getElem hi]; rfl
theorem fuel_list {l : Nat} {xs : List MV} {H : MH} (h : H.get l = some (.list xs)) : (Src.list l 0).fuel H = xs.length + 1 := by unfold Src.fuel; simp only [h]; rfl
noncomputable def lt1 (x y : WO) : Bool := decide (x.t + x.b < y.t + y.b)
noncomputable def k1 (x y : WO) : Nat := if lt1 x y then 1 else 0
theorem less_b {c : Cx} {x y : WO} {H : MH} {x0 x1 x3 x5 : Option MV} (X : x.At H) (Y : y.At H) (ht : x.t ≤ y.t) : lessB c ⟨[x0, x1, some (.ref x.l), x3, some (.ref y.l), x5], H⟩ = some (lt1 x y, H) := by
  unfold lessB
  rw [mth_ok (st := ⟨[x0, x1, some (.ref x.l), x3, some (.ref y.l), x5], H⟩) (v := .ref x.l) (w := [.ref y.l]) (H1 := H) (by rfl) (X.hasNo X.no2) (by rfl), less X Y ht]; rfl
theorem lw11d_ok {c : Cx} {la band m : Nat} {B H0 : MH} {x : WO} {ws : List WO} {x0 x1 x4 x5 : Option MV} (kB : Kp B H0) (hB : B.n ≤ la) (X : x.At B ∧ x.In B.n) (W : ∀ y ∈ ws, (y.At B ∧ y.In B.n) ∧ x.t ≤ y.t) (hb : B.get band = some (.list (ws.map fun o => .ref o.l))) (hbn : band < B.n)
    (hla : la < H0.n) (hg : H0.get la = some (onesL m)) (hm : m + (ws.map (k1 x)).sum ≤ 1000) :
    ∃ (x4' : Option MV) (H' : MH), lw11d c la ⟨[x0, x1, some (.ref x.l), some (.ref band), x4, x5], H0⟩ = some ⟨[x0, x1, some (.ref x.l), some (.ref band), x4', x5], H'⟩ ∧ Kx la H0 H' ∧ H'.get la = some (onesL (m + (ws.map (k1 x)).sum)) := by
  obtain ⟨vs', H', e, ⟨x4', rfl⟩, k, g⟩ := ones_loop (f := setv 4) (ti := lessB c) (body := emitD (kI 1) la) (xs := ws) (κ := k1 x) (S := fun i => .list band i) (P := fun vs => ∃ x4, vs = [x0, x1, some (.ref x.l), some (.ref band), x4, x5]) (la := la) (H0 := H0)
    (fun H k => next_end (((kpx kB k hB).2 _ hbn).trans hb) (by rw [List.length_map]; exact Nat.le_refl _))
    (fun i hi vs H m ⟨x4, e⟩ k hn g hm => by
      subst e
      obtain ⟨⟨Y, Yi⟩, ht⟩ := W ws[i] (List.getElem_mem hi)
      have kH := kpx kB k hB
      have el := less_b (c := c) (x0 := x0) (x1 := x1) (x3 := some (.ref band)) (x5 := x5) (X.1.kp X.2 kH) (Y.kp Yi kH) ht
      by_cases hl : lt1 x ws[i] = true
      · have hk : k1 x ws[i] = 1 := by unfold k1; rw [if_pos hl]
        rw [hl] at el
        refine ⟨_, ⟨[x0, x1, some (.ref x.l), some (.ref band), some (.ref ws[i].l), x5], H⟩, true, H, [x0, x1, some (.ref x.l), some (.ref band), some (.ref ws[i].l), x5], H.set la (onesL (m + 1)), next_at ((kH.2 _ hbn).trans hb) hi, rfl, el, ?_, ⟨_, rfl⟩, (Kx.refl).set, ?_⟩
        · rw [if_pos rfl]
          show Option.map _ (appTo la (.int 1) H) = _
          rw [appTo_eq g (by rw [List.length_replicate]; exact big3 (Nat.le_trans (Nat.le_add_right ..) hm))]
          show some _ = some _
          congr 3
          unfold onesL
          rw [List.replicate_succ']
        · rw [hk]; exact get_set_self g
      · have hk : k1 x ws[i] = 0 := by unfold k1; rw [if_neg hl]
        have hl : lt1 x ws[i] = false := by simpa using hl
        rw [hl] at el
        refine ⟨_, ⟨[x0, x1, some (.ref x.l), some (.ref band), some (.ref ws[i].l), x5], H⟩, false, H, [x0, x1, some (.ref x.l), some (.ref band), some (.ref ws[i].l), x5], H, next_at ((kH.2 _ hbn).trans hb) hi, rfl, el, ?_, ⟨_, rfl⟩, .refl, ?_⟩
        · rw [if_neg Bool.false_ne_true]
        · rw [hk]; exact g)
    ⟨x4, rfl⟩ hla hg hm
  refine ⟨x4', H', ?_, k, g⟩
  have hb0 := (kB.2 _ hbn).trans hb
  unfold lw11d nestD
  rw [iter_list rfl hb0, Option.bind_some]
  dsimp only
  rw [if_pos (by rfl), fuel_list hb0, List.length_map]
  exact e
theorem sl_tail {α : Type} (xs : List α) (kk : Nat) : (xs.drop (kms_lo (some ((kk : Int) + 1)) xs.length)).take (kms_hi none xs.length - kms_lo (some ((kk : Int) + 1)) xs.length) = xs.drop (kk + 1) := by
  unfold kms_lo kms_hi
  dsimp only
  rw [if_neg (by omega), show ((kk : Int) + 1).toNat = kk + 1 by omega]
  by_cases h : kk + 1 ≤ xs.length
  · rw [Nat.min_eq_left h, List.take_of_length_le (by rw [List.length_drop]; exact Nat.le_refl _)]
  · rw [Nat.min_eq_right (by omega), List.drop_eq_nil_of_le (Nat.le_refl _), List.drop_eq_nil_of_le (by omega), List.take_nil]
theorem kk_rng {kk : Nat} (h : kk ≤ 3) : -1000 ≤ (kk : Int) + 1 ∧ (kk : Int) + 1 ≤ 1000 := ⟨by omega, by omega⟩
theorem ix_rng {kk : Nat} (h : kk ≤ 3) : 0 ≤ (kk : Int) ∧ (kk : Int) < 2 ^ 62 := ⟨by omega, by omega⟩
noncomputable def kC (x : WO) (bs : List (Nat × List WO)) : Nat := (bs.map fun p => (p.2.map (k1 x)).sum).sum
theorem lw11c_ok {c : Cx} {la lb m kk : Nat} {B H0 : MH} {x : WO} {bs : List (Nat × List WO)} {x0 x3 x4 : Option MV} (kB : Kp B H0) (hB : B.n ≤ la) (X : x.At B ∧ x.In B.n) (hbs : Bands B lb bs) (hk : kk ≤ 3) (W : ∀ p ∈ bs.drop (kk + 1), ∀ y ∈ p.2, x.t ≤ y.t)
    (hla : la < H0.n) (hg : H0.get la = some (onesL m)) (hm : m + kC x (bs.drop (kk + 1)) ≤ 1000) :
    ∃ (x3' x4' : Option MV) (H' : MH), lw11c c la ⟨[x0, some (.int kk), some (.ref x.l), x3, x4, some (.ref lb)], H0⟩ = some ⟨[x0, some (.int kk), some (.ref x.l), x3', x4', some (.ref lb)], H'⟩ ∧ Kx la H0 H' ∧ H'.get la = some (onesL (m + kC x (bs.drop (kk + 1)))) := by
  let H1 := H0.push (.list ((bs.drop (kk + 1)).map fun p => .ref p.1))
  have k01 : Kp H0 H1 := Kp.push
  have hgl : H0.get lb = some (.list (bs.map fun p => .ref p.1)) := (kB.2 _ hbs.lt).trans hbs.hb
  have es : slD c (gv 5) (seq2 (gv 1) (kI 1) addop) kN ⟨[x0, some (.int kk), some (.ref x.l), x3, x4, some (.ref lb)], H0⟩ = some (.ref H0.n, H1) := by
    have hlen := hbs.len
    have q := slD_ok (c := c) (dx := gv 5) (dl := seq2 (gv 1) (kI 1) addop) (du := kN) (st := ⟨[x0, some (.int kk), some (.ref x.l), x3, x4, some (.ref lb)], H0⟩) (H1 := H0) (x := .ref lb) (lo := .int ((kk : Int) + 1)) (hi := .val .none) (xs := bs.map fun p => .ref p.1) (pl := some ((kk : Int) + 1)) (ph := none) (by rfl) (by rfl) (by rfl) (listAt_ref hgl) (part_int (kk_rng hk)) (by rfl) (by rw [List.length_map]; exact big5 hlen)
    rw [q, sl_tail, ← List.map_drop]
  have g1 : H1.get H0.n = some (.list ((bs.drop (kk + 1)).map fun p => .ref p.1)) := get_push_self
  have hne : H0.n ≠ la := Nat.ne_of_gt hla
  obtain ⟨vs', H', e, ⟨x3', x4', rfl⟩, k, g⟩ := ones_loop (f := setv 3) (ti := tt) (body := lw11d c la) (xs := bs.drop (kk + 1)) (κ := fun p => (p.2.map (k1 x)).sum) (S := fun i => .list H0.n i) (P := fun vs => ∃ x3 x4, vs = [x0, some (.int kk), some (.ref x.l), x3, x4, some (.ref lb)]) (la := la) (H0 := H1)
    (fun H k => next_end ((k.2 _ hne (Nat.lt_succ_self _)).trans g1) (by rw [List.length_map]; exact Nat.le_refl _))
    (fun i hi vs H m ⟨x3, x4, e⟩ k hn g hm => by
      subst e
      have hmem : (bs.drop (kk + 1))[i] ∈ bs := List.mem_of_mem_drop (List.getElem_mem hi)
      obtain ⟨b1, b2, b3, b4⟩ := hbs.each _ hmem
      have kH := kpx (kB.trans k01) k hB
      obtain ⟨x4', H', e2, k2, g2⟩ := lw11d_ok (c := c) (x0 := x0) (x1 := some (.int kk)) (x4 := x4) (x5 := some (.ref lb)) kH hB X (fun y hy => ⟨b4 y hy, W _ (List.getElem_mem hi) y hy⟩) b2 b1 hn g hm
      exact ⟨_, ⟨[x0, some (.int kk), some (.ref x.l), some (.ref (bs.drop (kk + 1))[i].1), x4, some (.ref lb)], H⟩, true, H, _, H', next_at ((k.2 _ hne (Nat.lt_succ_self _)).trans g1) hi, rfl, rfl, by rw [if_pos rfl]; exact e2, ⟨_, _, rfl⟩, k2, g2⟩)
    ⟨x3, x4, rfl⟩ (Nat.lt_succ_of_lt hla) ((k01.2 _ hla).trans hg) hm
  refine ⟨x3', x4', H', ?_, (Kx.of k01).trans k, g⟩
  have ei : itD (slD c (gv 5) (seq2 (gv 1) (kI 1) addop) kN) ⟨[x0, some (.int kk), some (.ref x.l), x3, x4, some (.ref lb)], H0⟩ = some (.list H0.n 0, H1) := by
    unfold itD
    rw [es, Option.bind_some]
    dsimp only
    unfold iterOf
    dsimp only
    rw [g1]; rfl
  unfold lw11c nestD
  rw [ei, Option.bind_some]
  dsimp only
  rw [if_pos (by rfl), fuel_list g1, List.length_map]
  exact e
noncomputable def kB (bs : List (Nat × List WO)) (kk : Nat) (ws : List WO) : Nat := (ws.map fun x => kC x (bs.drop (kk + 1))).sum
theorem lw11b_ok {c : Cx} {la lb m kk : Nat} {B H0 : MH} {bs : List (Nat × List WO)} {x0 x2 x3 x4 : Option MV} (kB' : Kp B H0) (hB : B.n ≤ la) (hbs : Bands B lb bs) (hk : kk < bs.length) (W : ∀ x ∈ bs[kk].2, ∀ p ∈ bs.drop (kk + 1), ∀ y ∈ p.2, x.t ≤ y.t)
    (hla : la < H0.n) (hg : H0.get la = some (onesL m)) (hm : m + kB bs kk bs[kk].2 ≤ 1000) (hk3 : kk ≤ 3) :
    ∃ (x2' x3' x4' : Option MV) (H' : MH), lw11b c la ⟨[x0, some (.int kk), x2, x3, x4, some (.ref lb)], H0⟩ = some ⟨[x0, some (.int kk), x2', x3', x4', some (.ref lb)], H'⟩ ∧ Kx la H0 H' ∧ H'.get la = some (onesL (m + kB bs kk bs[kk].2)) := by
  have hgl : H0.get lb = some (.list (bs.map fun p => .ref p.1)) := (kB'.2 _ hbs.lt).trans hbs.hb
  obtain ⟨b1, b2, b3, b4⟩ := hbs.each bs[kk] (List.getElem_mem hk)
  have hb0 := (kB'.2 _ b1).trans b2
  obtain ⟨vs', H', e, ⟨x2', x3', x4', rfl⟩, k, g⟩ := ones_loop (f := setv 2) (ti := tt) (body := lw11c c la) (xs := bs[kk].2) (κ := fun x => kC x (bs.drop (kk + 1))) (S := fun i => .list bs[kk].1 i) (P := fun vs => ∃ x2 x3 x4, vs = [x0, some (.int kk), x2, x3, x4, some (.ref lb)]) (la := la) (H0 := H0)
    (fun H k => next_end (((kpx kB' k hB).2 _ b1).trans b2) (by rw [List.length_map]; exact Nat.le_refl _))
    (fun i hi vs H m ⟨x2, x3, x4, e⟩ k hn g hm => by
      subst e
      have kH := kpx kB' k hB
      have hx := b4 bs[kk].2[i] (List.getElem_mem hi)
      obtain ⟨x3', x4', H', e2, k2, g2⟩ := lw11c_ok (c := c) (x0 := x0) (x3 := x3) (x4 := x4) (kk := kk) kH hB hx hbs hk3 (W _ (List.getElem_mem hi)) hn g hm
      exact ⟨_, ⟨[x0, some (.int kk), some (.ref bs[kk].2[i].l), x3, x4, some (.ref lb)], H⟩, true, H, _, H', next_at ((kH.2 _ b1).trans b2) hi, rfl, rfl, by rw [if_pos rfl]; exact e2, ⟨_, _, _, rfl⟩, k2, g2⟩)
    ⟨x2, x3, x4, rfl⟩ hla hg hm
  refine ⟨x2', x3', x4', H', ?_, k, g⟩
  have ei : itD (seq2 (gv 5) (gv 1) (itemop c.G)) ⟨[x0, some (.int kk), x2, x3, x4, some (.ref lb)], H0⟩ = some (.list bs[kk].1 0, H0) := by
    have it : itemop c.G (.ref lb) (.int kk) H0 = some (.ref bs[kk].1, H0) := by
      unfold itemop
      dsimp only
      rw [if_pos (ix_rng hk3), listAt_ref hgl]
      show Option.map _ ((bs.map fun p => MV.ref p.1)[((kk : Nat) : Int).toNat]?) = _
      rw [Int.toNat_natCast, List.getElem?_map, List.getElem?_eq_getElem hk]; rfl
    have s5 : gv 5 ⟨[x0, some (.int kk), x2, x3, x4, some (.ref lb)], H0⟩ = some (.ref lb, H0) := by rfl
    have s1 : gv 1 ⟨[x0, some (.int kk), x2, x3, x4, some (.ref lb)], H0⟩ = some (.int kk, H0) := by rfl
    unfold itD seq2
    dsimp only
    rw [s5, Option.bind_some]
    dsimp only
    rw [s1, Option.bind_some]
    dsimp only
    rw [it, Option.bind_some]
    dsimp only
    unfold iterOf
    dsimp only
    rw [hb0]; rfl
  unfold lw11b nestD
  rw [ei, Option.bind_some]
  dsimp only
  rw [if_pos (by rfl), fuel_list hb0, List.length_map]
  exact e
end Q
end Mini.L2

open PySem PySem.W PySem.Calls PyProof.Rows
set_option maxRecDepth 100000
set_option maxHeartbeats 4000000
namespace Mini.L2
noncomputable section Q
theorem BandOf.t {D : List Dr} {i : Nat} {ws : List WO} (h : BandOf D i ws) : ∀ x ∈ ws, x.t = (i : Int) := fun x hx => by
  have : (x.t, x.b) ∈ ws.map (fun o => (o.t, o.b)) := List.mem_map.mpr ⟨x, hx, rfl⟩
  rw [h] at this
  obtain ⟨d, hd, e⟩ := List.mem_map.mp this
  have := (List.mem_filter.mp hd).2
  simp only [decide_eq_true_eq] at this
  have := (Prod.mk.inj e).1
  omega
theorem sum_ite {α : Type} {q : α → Bool} : ∀ l : List α, (l.map fun y => if q y then 1 else 0).sum = l.countP q
  | [] => rfl
  | x :: r => by
    rw [List.map_cons, List.sum_cons, sum_ite r, List.countP_cons]
    omega
noncomputable def pr2 (ws vs : List WO) : Nat := (ws.map fun x => (vs.map (k1 x)).sum).sum
theorem pr2_eq {D : List Dr} {i j : Nat} {ws vs : List WO} (h : BandOf D i ws) (h' : BandOf D j vs) : pr2 ws vs = prs D 1 i j := by
  have e1 : pr2 ws vs = ((ws.map fun o => (o.t, o.b)).map fun p => (vs.map fun o => (o.t, o.b)).countP fun q => decide (p.1 + p.2 < q.1 + q.2)).sum := by
    unfold pr2
    rw [List.map_map]
    congr 1
    refine List.map_congr_left fun x uq1 => ?_
    show (vs.map fun y => if lt1 x y then 1 else 0).sum = _
    rw [sum_ite, Function.comp_apply, List.countP_map]; rfl
  rw [e1, h, h', List.map_map, sum_filter]
  unfold prs
  rw [swap_count]
  congr 1
  refine List.map_congr_left fun x uq1 => ?_
  simp only [Function.comp_apply]
  rw [List.countP_map, List.countP_filter]
  by_cases hx : x.t = i
  · rw [if_pos (by simpa using hx)]
    refine List.countP_congr fun y uq1 => ?_
    simp only [Function.comp_apply, Bool.and_eq_true, decide_eq_true_eq]
    have hc : ∀ d : Dr, cz 1 d = (d.t : Int) + d.b := fun d => by show (d.b : Int) + 1 * d.t = _; omega
    rw [hc, hc]
    constructor
    · rintro ⟨a, b⟩; exact ⟨a, hx, b⟩
    · rintro ⟨a, _, b⟩; exact ⟨a, b⟩
  · rw [if_neg (by simpa using hx)]
    refine (List.countP_eq_zero.mpr fun y uq1 => ?_).symm
    simp [hx]
theorem sum_add2 {α : Type} {a b : α → Nat} : ∀ l : List α, (l.map fun x => a x + b x).sum = (l.map a).sum + (l.map b).sum
  | [] => rfl
  | x :: r => by
    have := sum_add2 (a := a) (b := b) r
    simp only [List.map_cons, List.sum_cons]
    omega
theorem kB_all {D : List Dr} (hD : ∀ d ∈ D, d.ok) {p0 p1 p2 : Nat × List WO} (h0 : BandOf D 0 p0.2) (h1 : BandOf D 1 p1.2) (h2 : BandOf D 2 p2.2) : kB [p0, p1, p2] 0 p0.2 + kB [p0, p1, p2] 1 p1.2 = all3 D 1 := by
  rw [all3_eq hD, ← pr2_eq h0 h1, ← pr2_eq h0 h2, ← pr2_eq h1 h2]
  have e0 : kB [p0, p1, p2] 0 p0.2 = pr2 p0.2 p1.2 + pr2 p0.2 p2.2 := by
    show (p0.2.map fun x => (p1.2.map (k1 x)).sum + ((p2.2.map (k1 x)).sum + 0)).sum = _
    simp only [Nat.add_zero]
    exact sum_add2 _
  have e1 : kB [p0, p1, p2] 1 p1.2 = pr2 p1.2 p2.2 := by
    show (p1.2.map fun x => (p2.2.map (k1 x)).sum + 0).sum = _
    simp only [Nat.add_zero]; rfl
  omega
theorem lw11_ok {c : Cx} {lb : Nat} {p0 p1 p2 : Nat × List WO} {D : List Dr} {H : MH} {x0 x1 x2 x3 x4 x5 x6 x7 x8 x9 x10 x11 x12 y : Option MV} (B : Bands H lb [p0, p1, p2]) (hD : ∀ d ∈ D, d.ok) (h0 : BandOf D 0 p0.2) (h1 : BandOf D 1 p1.2) (h2 : BandOf D 2 p2.2) (hm : all3 D 1 ≤ 1000) :
    ∃ (la : Nat) (H' : MH), lw11 c ⟨[x0, x1, x2, x3, x4, x5, x6, x7, x8, x9, x10, x11, x12, y, some (.ref lb)], H⟩ = some (.next, ⟨[x0, x1, x2, x3, x4, x5, x6, x7, x8, x9, x10, x11, x12, some (.ref la), some (.ref lb)], H'⟩) ∧ Kp H H' ∧ H'.get la = some (onesL (all3 D 1)) := by
  let H1 := H.push (.range 0 2)
  let H2 := H1.push (.list [])
  have k1' : Kp H H1 := Kp.push
  have k2 : Kp H H2 := k1'.trans Kp.push
  have hB : H.n ≤ H1.n := k1'.1
  have hsum : ((List.range 2).map fun k => kB [p0, p1, p2] k ([p0, p1, p2].getD k p0).2).sum = all3 D 1 := by
    rw [← kB_all hD h0 h1 h2]
    show kB [p0, p1, p2] 0 p0.2 + (kB [p0, p1, p2] 1 p1.2 + 0) = _
    omega
  obtain ⟨vs', H', e, ⟨y1, y2, y3, y4, rfl⟩, k, g⟩ := ones_loop (f := setv 1) (ti := tt) (body := lw11b c H1.n) (xs := List.range 2) (κ := fun k => kB [p0, p1, p2] k ([p0, p1, p2].getD k p0).2) (S := fun i => .range (i : Int) (2 - i)) (P := fun vs => ∃ x1 x2 x3 x4, vs = [none, x1, x2, x3, x4, some (.ref lb)]) (la := H1.n) (H0 := H2)
    (fun H k => by rw [List.length_range]; rfl)
    (fun i hi vs Hc m ⟨x1, x2, x3, x4, e⟩ k hn g hm => by
      subst e
      rw [List.length_range] at hi
      have kH := kpx k2 k hB
      rw [List.getElem_range] at hm ⊢
      have hi' : i < [p0, p1, p2].length := Nat.lt_trans hi (by decide : 2 < 3)
      have hgd : [p0, p1, p2].getD i p0 = [p0, p1, p2][i] := by rw [List.getD_eq_getElem?_getD, List.getElem?_eq_getElem hi']; rfl
      simp only [hgd] at hm ⊢
      have hW : ∀ x ∈ [p0, p1, p2][i].2, ∀ p ∈ [p0, p1, p2].drop (i + 1), ∀ y ∈ p.2, x.t ≤ y.t := by
        have hi2 := le1_or (Nat.le_of_lt_succ hi)
        rcases hi2 with rfl | rfl
        · intro x hx p hp y hy
          have tx := h0.t x hx
          have hp : p = p1 ∨ p = p2 := by simpa using hp
          rcases hp with rfl | rfl
          · rw [tx, h1.t y hy]; decide
          · rw [tx, h2.t y hy]; decide
        · intro x hx p hp y hy
          have tx := h1.t x hx
          have hp : p = p2 := by simpa using hp
          subst hp
          rw [tx, h2.t y hy]; decide
      obtain ⟨z2, z3, z4, H', e2, k3, g2⟩ := lw11b_ok (c := c) (x0 := none) (x2 := x2) (x3 := x3) (x4 := x4) kH hB B hi' hW hn g hm (Nat.le_of_lt (Nat.lt_trans hi (by decide)))
      refine ⟨.int i, ⟨[none, some (.int i), x2, x3, x4, some (.ref lb)], Hc⟩, true, Hc, _, H', ?_, rfl, rfl, by rw [if_pos rfl]; exact e2, ⟨_, _, _, _, rfl⟩, k3, g2⟩
      show (Src.range (i : Int) (2 - i)).next _ = some (some (_, Src.range ((i + 1 : Nat) : Int) (2 - (i + 1)), _))
      rw [sub_step hi]
      rfl)
    (vs := [none, none, none, none, none, some (.ref lb)]) (m := 0) ⟨none, none, none, none, rfl⟩ (Nat.lt_succ_self _) get_push_self (by rw [hsum, Nat.zero_add]; exact hm)
  rw [hsum, Nat.zero_add] at g
  refine ⟨H1.n, H', ?_, kpx k2 k hB, g⟩
  have ei : itD (callF (a1 (kI 2)) rangeF) ⟨[x0, x1, x2, x3, x4, x5, x6, x7, x8, x9, x10, x11, x12, y, some (.ref lb)], H⟩ = some (.range 0 2, H1) := by
    have er : rangeF [.int 2] [] H = some (.ref H.n, H1) := by
      unfold rangeF
      dsimp only
      rw [if_pos (by decide)]
    have gr : H1.get H.n = some (.range 0 2) := get_push_self
    unfold itD
    rw [callF_ok (w := [.int 2]) (H1 := H) (by rfl), er, Option.bind_some]
    dsimp only
    unfold iterOf
    dsimp only
    rw [gr]; rfl
  unfold lw11 asgCompS compD
  rw [ei, Option.bind_some]
  dsimp only
  rw [if_pos (by rfl)]
  show Option.map _ (Option.map _ (compFor _ tt (lw11b c H1.n) ((List.range 2).length + 1) (.range ((0 : Nat) : Int) (2 - 0)) ⟨[none, none, none, none, none, some (.ref lb)], H2⟩)) = _
  rw [e]; rfl
theorem lw12_ok {c : Cx} {lt lp la m : Nat} {Q : List Int} {H : MH} {x0 x1 x2 x3 x4 x5 x6 x8 x9 x10 x11 x14 : Option MV} (gt : H.get lt = some (.list (Q.map .int))) (gp : H.get lp = some (.list (Q.map .int))) (ga : H.get la = some (onesL m)) (hm : Q.count 1 = m) (hl : Q.length ≤ 60) (hd : Q.all digB = true) :
    ∃ st', lw12 c ⟨[x0, x1, x2, x3, x4, x5, x6, some (.ref lp), x8, x9, x10, x11, some (.ref lt), some (.ref la), x14], H⟩ = some (.ret (.val (.bool true)), st') ∧ st'.H = H := by
  have sn : ∀ l, H.get l = some (.list (Q.map .int)) → strN [.ref l] [] H = some (.str (PyData.list (Q.map .int)).shown, H) := fun l g => by
    unfold strN
    simp only [g, intsOf_map, Option.bind_some]
    rw [if_pos ⟨Nat.le_trans hl (by decide), hd⟩]
  have e1 : cmp2 (callF (a1 (gv 12)) strN) (callF (a1 (gv 7)) strN) eqop ⟨[x0, x1, x2, x3, x4, x5, x6, some (.ref lp), x8, x9, x10, x11, some (.ref lt), some (.ref la), x14], H⟩ = some (true, H) := by
    have q : streq (PyData.list (Q.map .int)).shown (PyData.list (Q.map .int)).shown = true := by rw [streq_eq]; exact beq_self_eq_true _
    unfold cmp2
    rw [callF_ok (w := [.ref lt]) (H1 := H) (by rfl), sn lt gt, Option.bind_some]
    dsimp only
    rw [callF_ok (w := [.ref lp]) (H1 := H) (by rfl), sn lp gp, Option.bind_some]
    show Option.map _ (some (streq _ _)) = _
    rw [q]; rfl
  have ml : m ≤ 60 := by rw [← hm]; exact Nat.le_trans List.count_le_length hl
  have e2 : cmp2 (lenD c 13) (lmth 12 (a1 (kI 1)) countF) eqop ⟨[x0, x1, x2, x3, x4, x5, x6, some (.ref lp), x8, x9, x10, x11, some (.ref lt), some (.ref la), x14], H⟩ = some (true, H) := by
    have el : lenD c 13 ⟨[x0, x1, x2, x3, x4, x5, x6, some (.ref lp), x8, x9, x10, x11, some (.ref lt), some (.ref la), x14], H⟩ = some (.int m, H) := by
      unfold lenD
      rw [callF_ok (w := [.ref la]) (H1 := H) (by rfl), len_list ga (by rw [List.length_replicate]; exact Nat.le_trans ml (by decide)), List.length_replicate]
    have ec : countF [.ref lt, .int 1] [] H = some (.int m, H) := by
      unfold countF
      simp only [gt, intsOf_map, Option.map_some, hm]
    unfold cmp2
    rw [el, Option.bind_some]
    dsimp only
    rw [lmth_ok (l := lt) (w := [.int 1]) (H1 := H) (by rfl) gt (by rfl), ec, Option.bind_some]
    show Option.map _ (some ((m : Int) == m)) = _
    rw [beq_self_eq_true]; rfl
  refine ⟨⟨[x0, x1, x2, x3, x4, x5, x6, some (.ref lp), x8, x9, x10, x11, some (.ref lt), some (.ref la), x14], H⟩, ?_, rfl⟩
  unfold lw12 seqS retS
  dsimp only
  rw [e1]
  show Option.bind (Option.map _ (Option.map _ (cmp2 (lenD c 13) (lmth 12 (a1 (kI 1)) countF) eqop ⟨[x0, x1, x2, x3, x4, x5, x6, some (.ref lp), x8, x9, x10, x11, some (.ref lt), some (.ref la), x14], H⟩))) _ = _
  rw [e2]; rfl
end Q
end Mini.L2

open PySem PySem.W PySem.Calls PyProof.Rows
set_option maxRecDepth 100000
set_option maxHeartbeats 4000000
namespace Mini.L2
noncomputable section Q
noncomputable def v0s (a : Addr) : List (Option MV) := some (.val (.ref a)) :: List.replicate 14 none
theorem law_true (c : Cx) (sc : Addr) (ns : List Int) (hs : c.lists sc = some ns) (hlen : ns.length ≤ 63) : ∃ (st' : St) (t : Option (Nat × Nat × Nat)), law_d c ⟨v0s sc, H00⟩ = some (.ret (.val (.bool true)), st') ∧ st'.H.get 0 = some (.tab t) := by
  have t0 : H00.get 0 = some (.tab none) := rfl
  obtain ⟨N, l1, H1, e1, k1, n1, g1, hN⟩ := lw1_ok (r := [none, none, none, none, none, none, none, none, none, none, none, none, none]) (H := H00) hs hlen
  obtain ⟨ds, H2, e2, k2, D2⟩ := lw2_ok (x := some (.val (.ref sc))) (y := none) (r := [none, none, none, none, none, none, none, none, none, none, none, none]) g1 n1 hN
  obtain ⟨o, H3, e3, k3, A3, r3, h3⟩ := lw3_ok c (x0 := some (.val (.ref sc))) (x1 := some (.ref l1)) (x2 := some (.ref H1.n)) (y := none) (r := [none, none, none, none, none, none, none, none, none, none, none]) H2
  obtain ⟨a, b, g, o', H4, e4, k4, A4, l4, r4⟩ := lw4_ok (c := c) (x0 := some (.val (.ref sc))) (x1 := some (.ref l1)) (a0 := none) (b0 := none) (g0 := none) (r := [none, none, none, none, none, none, none, none]) k3 A3 r3 h3 D2
  have hD : ∀ d ∈ ds.map (·.2), d.ok := fun d hd => by
    obtain ⟨p, hp, rfl⟩ := List.mem_map.mp hd
    exact (D2.each p hp).2.2
  have hDl : (ds.map (·.2)).length ≤ 5 := by rw [List.length_map]; exact D2.len
  have r4' : o'.rows.map (fun r => (r.k, r.v)) = (ds.map (·.2)).map kv := by rw [r4, List.map_map]; rfl
  obtain ⟨lb, bs, H5, e5, k5, B5, lbs, hb⟩ := lw5_ok (c := c) (x0 := some (.val (.ref sc))) (x1 := some (.ref l1)) (x2 := some (.ref H1.n)) (x4 := a) (x5 := b) (x6 := g) (x7 := none) (x8 := none) (x9 := none) (x10 := none) (x11 := none) (x12 := none) (x13 := none) (y := none) A4 hD hDl r4'
  rw [l4] at e5
  match bs, lbs with
  | [p0, p1, p2], _ => ?_
  have b0 : BandOf (ds.map (·.2)) 0 p0.2 := hb 0 (by show 0 < 3; decide)
  have b1 : BandOf (ds.map (·.2)) 1 p1.2 := hb 1 (by show 1 < 3; decide)
  have b2 : BandOf (ds.map (·.2)) 2 p2.2 := hb 2 (by show 2 < 3; decide)
  have hcnt : ∀ z, 1 ≤ z → cnt [p0, p1, p2] z = ((plain (ds.map (·.2))).countP (fun p => decide (p ≤ z)) : Nat) := fun z hz => cnt_eq hD rfl b0 b1 b2 hz
  let H6 : MH := H5.push (.list [])
  have e6 : lw6 ⟨[some (.val (.ref sc)), some (.ref l1), some (.ref H1.n), some (.ref o.l), a, b, g, none, none, none, none, none, none, none, some (.ref lb)], H5⟩ = some (.next, ⟨[some (.val (.ref sc)), some (.ref l1), some (.ref H1.n), some (.ref o.l), a, b, g, some (.ref H5.n), none, none, none, none, none, none, some (.ref lb)], H6⟩) := by rfl
  have k25 : Kp H2 H5 := k4.trans k5
  obtain ⟨y4, y5, y6, y8, y9, y10, H7, e7, k7, g7, n7⟩ := lw7_ok (x0 := some (.val (.ref sc))) (x1 := some (.ref l1)) (x3 := some (.ref o.l)) (x4 := a) (x5 := b) (x6 := g) (x8 := none) (x9 := none) (x10 := none) (x11 := none) (x12 := none) (x13 := none) (x14 := some (.ref lb)) (H0 := H5) (H := H6) (lp := H5.n) Kp.push (D2.kp k25) (Nat.le_refl _) get_push_self
  have hpl : (plain (ds.map (·.2))).length ≤ 25 := by
    have := plain_len (ds.map (·.2)) (ds.map (·.2))
    rw [← plain_inr] at this
    exact Nat.le_trans this (Nat.mul_le_mul hDl hDl)
  have hql : (sortI (plain (ds.map (·.2)))).length ≤ 25 := by rw [(sortI_perm _).length_eq]; exact hpl
  have e8 := lw8_ok (x0 := some (.val (.ref sc))) (x1 := some (.ref l1)) (x2 := some (.ref H1.n)) (x3 := some (.ref o.l)) (x4 := y4) (x5 := y5) (x6 := y6) (r := [y8, y9, y10, none, none, none, some (.ref lb)]) g7 (Nat.lt_of_le_of_lt hpl (by decide))
  let H8 : MH := H7.set H5.n (.list ((sortI (plain (ds.map (·.2)))).map .int))
  have k58 : Kp H5 H8 := k7.set (Nat.le_refl _)
  have g8 : H8.get H5.n = some (.list ((sortI (plain (ds.map (·.2)))).map .int)) := get_set_self g7
  have n8 : H5.n < H8.n := by
    exact n7
  obtain ⟨ls, H9, e9, k9, n9, g9⟩ := lw9_ok (H := H8) (x0 := some (.val (.ref sc))) (x1 := some (.ref l1)) (x2 := some (.ref H1.n)) (x3 := some (.ref o.l)) (x4 := y4) (x5 := y5) (x6 := y6) (x7 := some (.ref H5.n)) (x8 := y8) (x9 := y9) (x10 := y10) (y := none) (r := [none, none, some (.ref lb)])
  have k59 : Kp H5 H9 := k58.trans k9
  have k09 : Kp H00 H9 := (k1.trans k2).trans (k25.trans k59)
  have t9 : H9.get 0 = some (.tab none) := (k09.2 0 (by decide)).trans t0
  have gp9 : H9.get H5.n = some (.list ((sortI (plain (ds.map (·.2)))).map .int)) := (k9.2 _ n8).trans g8
  have np9 : H5.n < H9.n := Nat.lt_of_lt_of_le n8 k9.1
  have B9 := B5.kp k59
  obtain ⟨lt, H10, e10, k10, n10, g10, T10⟩ := lw10_ok (c := c) (x0 := some (.val (.ref sc))) (x1 := some (.ref l1)) (x2 := some (.ref H1.n)) (x3 := some (.ref o.l)) (x4 := y4) (x5 := y5) (x6 := y6) (x8 := y8) (x9 := y9) (x10 := y10) (y := none) (x13 := none) B9 hD hcnt (.inl t9) g9 n9 gp9 (Nat.le_trans hql (by decide))
  have hone := ones hD
  have hall : all3 (ds.map (·.2)) 1 ≤ 25 := by rw [← hone]; exact Nat.le_trans List.count_le_length hql
  obtain ⟨la, H11, e11, k11, g11⟩ := lw11_ok (c := c) (x0 := some (.val (.ref sc))) (x1 := some (.ref l1)) (x2 := some (.ref H1.n)) (x3 := some (.ref o.l)) (x4 := y4) (x5 := y5) (x6 := y6) (x7 := some (.ref H5.n)) (x8 := y8) (x9 := y9) (x10 := y10) (x11 := some (.ref ls)) (x12 := some (.ref lt)) (y := none) (B9.kq t9 k10) hD b0 b1 b2 (Nat.le_trans hall (by decide))
  have gp10 : H10.get H5.n = some (.list ((sortI (plain (ds.map (·.2)))).map .int)) := (k10.2 _ (list_ne0 t9 gp9) np9).trans gp9
  have np10 : H5.n < H10.n := Nat.lt_of_lt_of_le np9 k10.1
  obtain ⟨st', e12, h12⟩ := lw12_ok (c := c) (x0 := some (.val (.ref sc))) (x1 := some (.ref l1)) (x2 := some (.ref H1.n)) (x3 := some (.ref o.l)) (x4 := y4) (x5 := y5) (x6 := y6) (x8 := y8) (x9 := y9) (x10 := y10) (x11 := some (.ref ls)) (x14 := some (.ref lb)) ((k11.2 _ n10).trans g10) ((k11.2 _ np10).trans gp10) g11 hone (Nat.le_trans hql (by decide)) (List.all_eq_true.mpr fun p hp => by
    have := plain_rng hD p ((sortI_perm _).mem_iff.mp hp)
    unfold digB
    simp only [Bool.and_eq_true, decide_eq_true_eq]
    omega)
  obtain ⟨t, ht⟩ := T10.tab
  have z10 : 0 < H10.n := Nat.lt_of_le_of_lt (Nat.zero_le _) n10
  refine ⟨st', t, ?_, by rw [h12]; exact (k11.2 0 z10).trans ht⟩
  rw [law_eq]
  show seqS (lw1 c) _ ⟨some (.val (.ref sc)) :: none :: [none, none, none, none, none, none, none, none, none, none, none, none, none], H00⟩ = _
  rw [seq_step e1, seq_step e2, seq_step e3, seq_step e4, seq_step e5, seq_step e6, seq_step e7, seq_step e8, seq_step e9, seq_step e10, seq_step e11]
  exact e12
end Q
end Mini.L2

open PySem PySem.W PySem.Calls PyProof.Rows
set_option maxRecDepth 100000
set_option maxHeartbeats 8000000
namespace Mini.L2
theorem slots0 (a : Addr) {m : Str → Option Value} (hm : m (Str.ofString "script") = some (.ref a)) (P : Addr) : ∀ (i : Nat) (x : Str) (v : MV), law_sx.slots[i]? = some x → (v0s a)[i]? = some (some v) → law_sx.kindOf x = some .local ∧ ∃ w, m x = some w ∧ vr (fun uq1 => P) 1 v w := by
  intro i x v h1 h2
  match i with
  | 0 =>
    cases h1
    cases h2
    exact ⟨by kernel_rfl, _, hm, rfl⟩
  | i + 1 =>
    have h2 : (List.replicate 14 (none : Option MV))[i]? = some (some v) := h2
    rw [List.getElem?_replicate] at h2
    split at h2 <;> cases h2
noncomputable def cellsL (L : Addr) : List (Str × Addr) := [(Str.ofString "bands", L + 1 + 1 + 1), (Str.ofString "sizes", L + 1 + 1), (Str.ofString "table", L + 1)]
theorem addr3 (L : Nat) : L + 1 + 1 + 1 ≠ L + 1 + 1 ∧ L + 1 + 1 + 1 ≠ L + 1 ∧ L + 1 + 1 ≠ L + 1 := by omega
theorem fin {prog : Program} {w : World} {h₀ : Heap} {p : Program} {loose : List Str} {mean : ExcName → Option Value} {mg mb : Str → Option Value} {a : Addr} {vs : List Value} {ns : List Int} {s : Shared} {L : Addr} {ob1 ob2 ob3 : Obj} {v1 v2 v3 : Option Value} {m : Str → Option Value} {body : List Stmt} {A : Around} {env : Env} {Q : Flow → Shared → Prop} {E : Value → Shared → Prop}
    (X : (K2 w.params).In h₀) (T : Top p loose mean mg mb h₀) (hd : CodeHd h₀ c0 t0) (hL : h₀.IsList a vs.toArray) (hI : IntsAre vs ns) (hlen : ns.length ≤ 63) (F : Fr h₀ L s.heap m) (N : News h₀ L s.heap [(L + 1 + 1 + 1, ob3), (L + 1 + 1, ob2), (L + 1, ob1), (t0, tabObj #[])]) (hob3 : ob3.data = .cell v3) (hob2 : ob2.data = .cell v2) (hob1 : ob1.data = .cell v1)
    (hb : body = law_body) (B : Bud A 60) (hm : m (Str.ofString "script") = some (.ref a)) (hl : env.locals = L) (hc : env.cells = cellsL L) (S1 : env.scope = law_sx.scope) (S2 : env.globals = mainGlobals) (S3 : env.builtins = builtinsNs) (S5 : env.qual = law_sx.qual) (S6 : env.code = law_sx.code)
    (q : ∀ h' tk' m', Fr h₀ L h' m' → GrownAt t0 h' → Q (.ret (.bool true)) { s with heap := h', toks := tk' }) : wpAny (model prog w) A (execs body env) Q E s := by
  subst hb
  have ne1 : (Str.ofString "sizes" == Str.ofString "bands") = false := by decide +kernel
  have ne2 : (Str.ofString "table" == Str.ofString "bands") = false := by decide +kernel
  have ne3 : (Str.ofString "table" == Str.ofString "sizes") = false := by decide +kernel
  have lk : ∀ x c, env.cells.lookup x = some c → (x = Str.ofString "bands" ∧ c = L + 1 + 1 + 1) ∨ (x = Str.ofString "sizes" ∧ c = L + 1 + 1) ∨ (x = Str.ofString "table" ∧ c = L + 1) := fun x c e => by
    rw [hc] at e
    unfold cellsL at e
    rw [List.lookup_cons] at e
    split at e
    · rename_i h; cases e; exact .inl ⟨beq_iff_eq.mp h, rfl⟩
    · rw [List.lookup_cons] at e
      split at e
      · rename_i h; cases e; exact .inr (.inl ⟨beq_iff_eq.mp h, rfl⟩)
      · rw [List.lookup_cons] at e
        split at e
        · rename_i h; cases e; exact .inr (.inr ⟨beq_iff_eq.mp h, rfl⟩)
        · cases e
  let c : Cx := ⟨prog, w, h₀, p, loose, mean, mg, mb, X, T, hd, fun b => if b = a then some ns else none, fun b ms e => by
    split at e
    · rename_i h; cases e; exact ⟨vs, h ▸ hL, hI⟩
    · cases e⟩
  obtain ⟨st, t, e1, e2⟩ := law_true c a ns (if_pos rfl) hlen
  refine run_fin (G := c.G) (P := t0) (law_den c) ?_ B F N (by simp) hl rfl ?_ (slots0 a hm t0) e1 e2 (fun uq1 uq2 uq3 h => h) q
  · exact {
      scope := S1
      kind := by kernel_rfl
      glo := S2
      bui := S3
      ownk := by decide +kernel
      owninj := fun x y c hx hy h1 h2 => by
        rcases lk x c h1 with ⟨rfl, rfl⟩ | ⟨rfl, rfl⟩ | ⟨rfl, rfl⟩ <;> rcases lk y _ h2 with ⟨rfl, h⟩ | ⟨rfl, h⟩ | ⟨rfl, h⟩ <;> first | rfl | exact absurd h (addr3 L).1 | exact absurd h (addr3 L).2.1 | exact absurd h (addr3 L).2.2 | exact absurd h.symm (addr3 L).1 | exact absurd h.symm (addr3 L).2.1 | exact absurd h.symm (addr3 L).2.2
      nd := by decide +kernel
      code := .inr S6
      qual := S5
      has := fun x h => by
        have key : ∀ p ∈ law_sx.scope.names, p.2 = .cell ∨ p.2 = .free → p.1 = Str.ofString "bands" ∨ p.1 = Str.ofString "sizes" ∨ p.1 = Str.ofString "table" := by decide +kernel
        have hx : x = Str.ofString "bands" ∨ x = Str.ofString "sizes" ∨ x = Str.ofString "table" := by
          rcases h with h | h
          · exact key _ (PySem.mem_of_lookup h) (.inl rfl)
          · exact key _ (PySem.mem_of_lookup h) (.inr rfl)
        rw [hc]
        unfold cellsL
        rcases hx with rfl | rfl | rfl
        · exact ⟨_, by rw [List.lookup_cons, beq_self_eq_true]⟩
        · exact ⟨_, by rw [List.lookup_cons, ne1]; dsimp only; rw [List.lookup_cons, beq_self_eq_true]⟩
        · exact ⟨_, by rw [List.lookup_cons, ne2]; dsimp only; rw [List.lookup_cons, ne3]; dsimp only; rw [List.lookup_cons, beq_self_eq_true]⟩ }
  · intro x c e
    rcases lk x c e with ⟨rfl, rfl⟩ | ⟨rfl, rfl⟩ | ⟨rfl, rfl⟩
    · exact ⟨by decide +kernel, ob3, v3, by simp, hob3⟩
    · exact ⟨by decide +kernel, ob2, v2, by simp, hob2⟩
    · exact ⟨by decide +kernel, ob1, v1, by simp, hob1⟩
theorem budA (env : Env) : Bud (callerA.deeper env) 60 := ⟨rfl, rfl, by show callerA.depth + 1 + 60 < recursionLimit; decide +kernel, by show callerA.units + 3 + 8 * 60 < cLine; decide +kernel⟩
theorem hold : PySem.Challenge.rw_pg0324_02.Holds := by
  w_on
  refine holds_law wsaid fun said' => ?_
  refine holds_both (q := vw) (loose := lo) (Xt := xt) (XP := XL vw []) (Yf := Hook.obs (kmHook hd2.heap_1 asL asL_ok [286])) (Ya := Hook.val (kmHook hd2.heap_1 asL asL_ok [286])) (YP := Hook.says (kmHook hd2.heap_1 asL asL_ok [286])) (N := 3552) (Hook.of (kmHook hd2.heap_1 asL asL_ok [286])) (Hook.keeps (kmHook hd2.heap_1 asL asL_ok [286])) (fun s e => xl_of s (Bool.and_eq_true_iff.mp e).1) XL.keeps (by rfl) (by rfl) (by rfl) (fun s e => recFacts_of (Bool.and_eq_true_iff.mp e).2) (by rfl) (by first | assumption | decide +kernel) (by decide +kernel) ⟨rfl, rfl, rfl, rfl, rfl, by decide +kernel⟩ ?hw ⟨hl, ?hc⟩
  case hw => w_witness2
  case hc =>
    w_strict (k_go0
              refine fin (by assumption) (by assumption) (by assumption) (by assumption) (by assumption) (by omega) (by assumption) (by assumption) (by assumption) (by assumption) (by assumption) (by kernel_rfl) (budA _) (by kernel_rfl) (by kernel_rfl) (by kernel_rfl) (by kernel_rfl) (by kernel_rfl) (by kernel_rfl) (by kernel_rfl) (by kernel_rfl) (fun h' tk' m' F G => ⟨goodW_bool F (by assumption) (raisesW_false (by wrow_none_raised)) (by wrow_post), G, trivial⟩))
end Mini.L2

set_option maxRecDepth 100000 in
set_option maxHeartbeats 8000000 in
theorem PySem.Challenge.cw_pg0324_02_holds : PySem.Challenge.rw_pg0324_02.Holds := by
  exact Mini.L2.hold
