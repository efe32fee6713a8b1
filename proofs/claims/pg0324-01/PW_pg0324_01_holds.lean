import PyProof.Rows.All
import Wide.All
import OpenK.AllK
import Wide.FinOn
import PySem.Challenge.RW_pg0324_01
set_option Elab.async false
open PySem PySem.W PySem.Calls PyProof.Rows
namespace Mini
noncomputable section Q

/-! mini values, mini heap -/
inductive MV where
  | int (i : Int)
  | str (s : Str)
  | ref (l : Nat)
  | val (v : Value)
  | clo (c l lc : Nat)
  deriving DecidableEq

inductive MO where
  | list (xs : List MV)
  | tup (xs : List MV)
  | inst (C : Addr) (d : Nat)
  | ns (es : List (Str × MV))
  | range (lo hi : Int)
  | tab (t : Option (Nat × Nat × Nat))
  | code (q : Str)
  | emp
  deriving DecidableEq

structure MH where
  n : Nat
  os : List (Nat × MO)

def setL (os : List (Nat × MO)) (l : Nat) (o' : MO) : List (Nat × MO) := @List.rec (Nat × MO) (fun _ => List (Nat × MO)) [] (fun p r ih => @Bool.rec (fun _ => List (Nat × MO)) (p :: ih) ((p.1, o') :: r) (Nat.beq p.1 l)) os
def getL (os : List (Nat × MO)) (l : Nat) : Option MO := @List.rec (Nat × MO) (fun _ => Option MO) none (fun p _ ih => @Bool.rec (fun _ => Option MO) ih (some p.2) (Nat.beq p.1 l)) os
theorem setL_cons (k : Nat) (o : MO) (r : List (Nat × MO)) (l : Nat) (o' : MO) : setL ((k, o) :: r) l o' = if k = l then (k, o') :: r else (k, o) :: setL r l o' := by
  show @Bool.rec (fun _ => List (Nat × MO)) ((k, o) :: setL r l o') ((k, o') :: r) (Nat.beq k l) = _
  cases h : Nat.beq k l with
  | true => rw [if_pos (Nat.eq_of_beq_eq_true h)]
  | false => rw [if_neg (Nat.ne_of_beq_eq_false h)]
theorem getL_cons (k : Nat) (o : MO) (r : List (Nat × MO)) (l : Nat) : getL ((k, o) :: r) l = if l = k then some o else getL r l := by
  show @Bool.rec (fun _ => Option MO) (getL r l) (some o) (Nat.beq k l) = _
  cases h : Nat.beq k l with
  | true => rw [if_pos (Nat.eq_of_beq_eq_true h).symm]
  | false => rw [if_neg (Ne.symm (Nat.ne_of_beq_eq_false h))]
theorem getL_eq (os : List (Nat × MO)) (l : Nat) : getL os l = os.lookup l := by
  induction os with
  | nil => rfl
  | cons p r ih =>
    obtain ⟨k, o⟩ := p
    rw [getL_cons, ih]
    by_cases hk : l = k
    · subst hk; simp
    · have : (l == k) = false := by simpa using hk
      rw [if_neg hk]; simp only [List.lookup_cons, this]
namespace MH
def get (H : MH) (l : Nat) : Option MO := getL H.os l
def set (H : MH) (l : Nat) (o : MO) : MH := ⟨H.n, setL H.os l o⟩
def push (H : MH) (o : MO) : MH := ⟨H.n + 1, (H.n, o) :: H.os⟩
theorem getL_setL (os : List (Nat × MO)) (l k : Nat) (o : MO) : getL (setL os l o) k = if k = l then (getL os k).map (fun _ => o) else getL os k := by
  induction os with
  | nil => show none = _; simp [getL]
  | cons p r ih =>
    obtain ⟨j, x⟩ := p
    rw [setL_cons]
    by_cases hj : j = l
    · subst hj
      rw [if_pos rfl, getL_cons, getL_cons]
      by_cases hk : k = j
      · subst hk; simp
      · simp [hk]
    · rw [if_neg hj, getL_cons, getL_cons, ih]
      by_cases hk : k = j
      · subst hk; simp [hj]
      · simp [hk]
theorem get_set (H : MH) (l k : Nat) (o : MO) : (H.set l o).get k = if k = l then (H.get k).map (fun _ => o) else H.get k := getL_setL H.os l k o
theorem get_push (H : MH) (k : Nat) (o : MO) : (H.push o).get k = if k = H.n then some o else H.get k := getL_cons ..
@[simp] theorem n_set (H : MH) (l : Nat) (o : MO) : (H.set l o).n = H.n := rfl
@[simp] theorem n_push (H : MH) (o : MO) : (H.push o).n = H.n + 1 := rfl
end MH

/-! texts -/
def leq (xs : List Nat) : List Nat → Bool := @List.rec Nat (fun _ => List Nat → Bool) (fun ys => @List.rec Nat (fun _ => Bool) true (fun _ _ _ => false) ys) (fun a _ ih ys => @List.rec Nat (fun _ => Bool) false (fun b r _ => @Bool.rec (fun _ => Bool) false (ih r) (Nat.beq a b)) ys) xs
theorem leq_iff : ∀ xs ys : List Nat, leq xs ys = true ↔ xs = ys
  | [], [] => ⟨fun _ => rfl, fun _ => rfl⟩
  | [], _ :: _ => Iff.intro (fun h => by cases h) (fun h => by cases h)
  | _ :: _, [] => Iff.intro (fun h => by cases h) (fun h => by cases h)
  | a :: r, b :: q => by
    show @Bool.rec (fun _ => Bool) false (leq r q) (Nat.beq a b) = true ↔ _
    cases h : Nat.beq a b with
    | true => rw [Nat.eq_of_beq_eq_true h]; simp [leq_iff r q]
    | false => simp [Nat.ne_of_beq_eq_false h]
def streq (a b : Str) : Bool := leq a.cps.toList b.cps.toList
theorem streq_eq (a b : Str) : streq a b = (a == b) := by
  rw [Bool.eq_iff_iff, beq_iff_eq]
  unfold streq
  rw [leq_iff]
  exact ⟨fun h => by obtain ⟨⟨x⟩⟩ := a; obtain ⟨⟨y⟩⟩ := b; cases h; rfl, fun h => h ▸ rfl⟩
def getS {α : Type} (es : List (Str × α)) (x : Str) : Option α := @List.rec (Str × α) (fun _ => Option α) none (fun p _ ih => @Bool.rec (fun _ => Option α) ih (some p.2) (streq x p.1)) es
theorem getS_eq {α : Type} (es : List (Str × α)) (x : Str) : getS es x = es.lookup x := by
  induction es with
  | nil => rfl
  | cons p r ih =>
    obtain ⟨k, v⟩ := p
    show @Bool.rec (fun _ => Option α) (getS r x) (some v) (streq x k) = _
    rw [ih, streq_eq, List.lookup_cons]
    cases x == k <;> rfl

/-! representation -/
def vr (ρ : Nat → Addr) (n : Nat) : MV → Value → Prop
  | .int i, v => ∃ t, v = .int i t
  | .str s, v => ∃ t, v = .str s t
  | .ref l, v => l < n ∧ v = .ref (ρ l)
  | .val x, v => v = x
  | .clo .., _ => False

inductive VRs (ρ : Nat → Addr) (n : Nat) : List MV → List Value → Prop
  | nil : VRs ρ n [] []
  | cons {x v xs vs} : vr ρ n x v → VRs ρ n xs vs → VRs ρ n (x :: xs) (v :: vs)

inductive ESl (ρ : Nat → Addr) (n : Nat) : List (Str × MV) → List DictEntry → Prop
  | nil : ESl ρ n [] []
  | cons {x m e xs es t} : e.key = .str x t → vr ρ n m e.val → ESl ρ n xs es → ESl ρ n ((x, m) :: xs) (e :: es)
/-- what a dict of names holds -/
def ESs (ρ : Nat → Addr) (n : Nat) (es : List (Str × MV)) (ds : Array DictEntry) : Prop :=
  StrKeys ds ∧ ∀ x, (es.lookup x = none → nsFind ds x = none) ∧ ∀ m, es.lookup x = some m → ∃ v, nsFind ds x = some v ∧ vr ρ n m v

abbrev tupOf (its : Array Value) (n : Nat) : Obj := { cls := .type "tuple", data := .seq its n }

def orep (P : Params) (ρ : Nat → Addr) (n : Nat) : MO → Obj → Prop
  | .list xs, o => ∃ vs ep, o = listOf (List.toArray vs) ep ∧ VRs ρ n xs vs
  | .tup xs, o => ∃ vs ep, o = tupOf (List.toArray vs) ep ∧ VRs ρ n xs vs
  | .inst C d, o => d < n ∧ o = instObj C (ρ d)
  | .ns es, o => ∃ ds k, o = dictOf ds k ∧ ESl ρ n es ds
  | .emp, o => o = emptyDict
  | .range lo hi, o => ∃ t u v, o = { cls := .type "range", data := .fields #[.int lo t, .int hi u, .int 1 v] }
  | .tab none, o => o = tabObj #[]
  | .tab (some (lc, ln, cl)), o => lc < n ∧ o = tabObj #[rawInt ln, rawInt cl, .ref (ρ lc)]
  | .code q, o => ∃ vs t, o.data = .fields vs ∧ vs[1]? = some (.str q t)

theorem vr_mono {ρ ρ' : Nat → Addr} {n n' : Nat} (hn : n ≤ n') (ha : ∀ l, l < n → ρ' l = ρ l) {m : MV} {v : Value} (h : vr ρ n m v) : vr ρ' n' m v := by
  cases m with
  | ref l => exact ⟨Nat.lt_of_lt_of_le h.1 hn, by rw [ha l h.1]; exact h.2⟩
  | _ => exact h
theorem VRs.mono {ρ ρ' : Nat → Addr} {n n' : Nat} (hn : n ≤ n') (ha : ∀ l, l < n → ρ' l = ρ l) {ms : List MV} {vs : List Value} (h : VRs ρ n ms vs) : VRs ρ' n' ms vs := by
  induction h with
  | nil => exact .nil
  | cons h _ ih => exact .cons (vr_mono hn ha h) ih
theorem ESl.mono {ρ ρ' : Nat → Addr} {n n' : Nat} (hn : n ≤ n') (ha : ∀ l, l < n → ρ' l = ρ l) {ms : List (Str × MV)} {vs : List DictEntry} (h : ESl ρ n ms vs) : ESl ρ' n' ms vs := by
  induction h with
  | nil => exact .nil
  | cons k h _ ih => exact .cons k (vr_mono hn ha h) ih
theorem ESl.keys {ρ : Nat → Addr} {n : Nat} {ms : List (Str × MV)} {vs : List DictEntry} (h : ESl ρ n ms vs) : ∀ e ∈ vs, ∃ n t, e.key = .str n t := by
  induction h with
  | nil => intro e he; cases he
  | cons k h _ ih =>
    intro e he
    cases he with
    | head => exact ⟨_, _, k⟩
    | tail _ he => exact ih e he
theorem ESl.find {ρ : Nat → Addr} {n : Nat} {ms : List (Str × MV)} {vs : List DictEntry} (h : ESl ρ n ms vs) (x : Str) :
    (ms.lookup x = none → vs.find? (·.key.isStr x) = none) ∧ ∀ m, ms.lookup x = some m → ∃ e, vs.find? (·.key.isStr x) = some e ∧ vr ρ n m e.val := by
  induction h with
  | nil => exact ⟨fun _ => rfl, fun m e => by cases e⟩
  | @cons y m e xs es t k h _ ih =>
    have hk : e.key.isStr x = (y == x) := by rw [k]; rfl
    by_cases hx : y = x
    · subst hx
      have h1 : e.key.isStr y = true := by rw [hk]; simp
      refine ⟨fun q => by simp at q, fun m' q => ?_⟩
      simp only [List.lookup_cons, beq_self_eq_true, Option.some.injEq] at q
      subst q
      exact ⟨e, by rw [List.find?_cons, h1], h⟩
    · have h1 : e.key.isStr x = false := by rw [hk]; simpa using hx
      have h2 : (x == y) = false := by simpa using fun q : x = y => hx q.symm
      rw [List.find?_cons, h1, List.lookup_cons, h2]
      exact ih
theorem ESl.ess {ρ : Nat → Addr} {n : Nat} {ms : List (Str × MV)} {vs : List DictEntry} (h : ESl ρ n ms vs) : ESs ρ n ms vs.toArray := by
  refine ⟨fun e he => h.keys e (by simpa using he), fun x => ⟨fun q => ?_, fun m q => ?_⟩⟩
  · unfold nsFind findBy; rw [List.find?_toArray, (h.find x).1 q]; rfl
  · obtain ⟨e, a, b⟩ := (h.find x).2 m q
    exact ⟨e.val, by unfold nsFind findBy; rw [List.find?_toArray, a]; rfl, b⟩
def putE : List (Str × MV) → Str → MV → List (Str × MV)
  | [], x, m => [(x, m)]
  | (y, k) :: r, x, m => if y = x then (y, m) :: r else (y, k) :: putE r x m
theorem ESl.put {ρ : Nat → Addr} {n : Nat} {ms : List (Str × MV)} {vs : List DictEntry} (h : ESl ρ n ms vs) {x : Str} {m : MV} {v : Value} {hs : Int} {t : Tok} (hv : vr ρ n m v) : ESl ρ n (putE ms x m) (putL x hs (.str x t) v vs) := by
  induction h with
  | nil => exact .cons rfl hv .nil
  | @cons y m' e xs es t' k h r ih =>
    have hk : e.key.isStr x = (y == x) := by rw [k]; rfl
    unfold putE putL
    by_cases hx : y = x
    · rw [if_pos hx, hk, show (y == x) = true by simpa using hx]
      exact .cons k hv r
    · rw [if_neg hx, hk, show (y == x) = false by simpa using hx]
      exact .cons k h ih
theorem ESl.length {ρ : Nat → Addr} {n : Nat} {ms : List (Str × MV)} {vs : List DictEntry} (h : ESl ρ n ms vs) : vs.length = ms.length := by
  induction h with
  | nil => rfl
  | cons _ _ _ ih => simp [ih]
theorem orep_mono {P : Params} {ρ ρ' : Nat → Addr} {n n' : Nat} (hn : n ≤ n') (ha : ∀ l, l < n → ρ' l = ρ l) {m : MO} {o : Obj} (h : orep P ρ n m o) : orep P ρ' n' m o := by
  cases m with
  | list xs => obtain ⟨vs, ep, e, h⟩ := h; exact ⟨vs, ep, e, h.mono hn ha⟩
  | tup xs => obtain ⟨vs, ep, e, h⟩ := h; exact ⟨vs, ep, e, h.mono hn ha⟩
  | inst C d => exact ⟨Nat.lt_of_lt_of_le h.1 hn, by rw [ha d h.1]; exact h.2⟩
  | ns es => obtain ⟨vs, ep, e, h⟩ := h; exact ⟨vs, ep, e, h.mono hn ha⟩
  | range lo hi => exact h
  | tab lc =>
    cases lc with
    | none => exact h
    | some t => obtain ⟨lc, ln, cl⟩ := t; obtain ⟨a, b⟩ := h; exact ⟨Nat.lt_of_lt_of_le a hn, by rw [ha lc a]; exact b⟩
  | code q => exact h
  | emp => exact h

theorem orep_live {P : Params} {ρ : Nat → Addr} {n : Nat} {m : MO} {o : Obj} (h : orep P ρ n m o) : o.isFreed = false := by
  cases m with
  | list xs => obtain ⟨vs, ep, rfl, _⟩ := h; rfl
  | tup xs => obtain ⟨vs, ep, rfl, _⟩ := h; rfl
  | inst C d => obtain ⟨_, rfl⟩ := h; rfl
  | ns es => obtain ⟨vs, ep, rfl, _⟩ := h; rfl
  | range lo hi => obtain ⟨t, u, v, rfl⟩ := h; rfl
  | tab lc =>
    cases lc with
    | none => cases h; rfl
    | some t => obtain ⟨lc, ln, cl⟩ := t; obtain ⟨a, rfl⟩ := h; rfl
  | code q => obtain ⟨vs, t, e, _⟩ := h; exact Obj.isFreed_of_fields e
  | emp => cases h; rfl

def Owned (ρ : Nat → Addr) (H : MH) (b : Addr) : Prop := ∃ l o, H.get l = some o ∧ ρ l = b

structure Rep (P : Params) (ρ : Nat → Addr) (H : MH) (h : Heap) : Prop where
  at_ : ∀ l o, H.get l = some o → ∃ ob, h.get? (ρ l) = some ob ∧ orep P ρ H.n o ob
  inj : ∀ l l' o o', H.get l = some o → H.get l' = some o' → ρ l = ρ l' → l = l'
  lt : ∀ l o, H.get l = some o → l < H.n

/-- what happened between two states -/
structure Aft (ρ ρ' : Nat → Addr) (H H' : MH) (s s' : Shared) (ex : Addr → Prop) : Prop where
  agree : ∀ l, l < H.n → ρ' l = ρ l
  le : H.n ≤ H'.n
  keep : ∀ b o, s.heap.get? b = some o → ¬ Owned ρ H b → ¬ ex b → s'.heap.get? b = some o
  rest : s' = { s with heap := s'.heap, toks := s'.toks }
  own : ∀ b, Owned ρ' H' b → Owned ρ H b ∨ s.heap.get? b = none
  live : ∀ b o, ex b → s.heap.get? b = some o → ∃ o', s'.heap.get? b = some o'
  stay : ∀ l o, H.get l = some o → ∃ o', H'.get l = some o'

def NoEx : Addr → Prop := fun _ => False

theorem Aft.refl {ρ : Nat → Addr} {H : MH} {s : Shared} {ex : Addr → Prop} : Aft ρ ρ H H s s ex :=
  ⟨fun _ _ => rfl, Nat.le_refl _, fun _ _ e _ _ => e, rfl, fun _ h => .inl h, fun _ o _ e => ⟨o, e⟩, fun _ o e => ⟨o, e⟩⟩

theorem Aft.trans {ρ ρ' ρ'' : Nat → Addr} {H H' H'' : MH} {s s' s'' : Shared} {ex : Addr → Prop} (a : Aft ρ ρ' H H' s s' ex) (b : Aft ρ' ρ'' H' H'' s' s'' ex) : Aft ρ ρ'' H H'' s s'' ex where
  agree := fun l hl => (b.agree l (Nat.lt_of_lt_of_le hl a.le)).trans (a.agree l hl)
  le := Nat.le_trans a.le b.le
  keep := fun c o e n x => b.keep c o (a.keep c o e n x) (fun q => (a.own c q).elim n fun q => by rw [e] at q; cases q) x
  rest := by rw [b.rest, a.rest]
  own := fun c q => (b.own c q).elim (fun q => a.own c q) fun q => by
    classical
    by_cases hc : Owned ρ H c
    · exact .inl hc
    · refine .inr ?_
      cases e : s.heap.get? c with
      | none => rfl
      | some o =>
        by_cases hx : ex c
        · obtain ⟨o', e'⟩ := a.live c o hx e
          rw [q] at e'; cases e'
        · have := a.keep c o e hc hx
          rw [q] at this; cases this
  live := fun c o x e => let ⟨o', e'⟩ := a.live c o x e; b.live c o' x e'
  stay := fun l o e => let ⟨o', e'⟩ := a.stay l o e; b.stay l o' e'

theorem Aft.mono {ρ ρ' : Nat → Addr} {H H' : MH} {s s' : Shared} {ex ex' : Addr → Prop} (a : Aft ρ ρ' H H' s s' ex) (h : ∀ b, ex b → ex' b) (hl : ∀ b o, ex' b → s.heap.get? b = some o → ¬ ex b → ∃ o', s'.heap.get? b = some o') : Aft ρ ρ' H H' s s' ex' :=
  { a with
    keep := fun b o e n x => a.keep b o e n fun q => x (h b q)
    live := fun b o x e => by
      classical
      by_cases hx : ex b
      · exact a.live b o hx e
      · exact hl b o x e hx }
end Q
end Mini

open PySem PySem.W PySem.Calls PyProof.Rows
namespace Mini
noncomputable section Q

structure Lam where
  name : Str
  qual : Str
  params : Arguments
  body : Expr
  scope : Scope
  cell : Str

structure Gl where
  prog : Program
  w : World
  K : Frag
  h₀ : Heap
  p : Program
  loose : List Str
  mean : ExcName → Option Value
  mg : Str → Option Value
  mb : Str → Option Value
  lams : Nat → Lam
  X : K.In h₀
  T : Top p loose mean mg mb h₀
  tab : Option Addr
  lists : Addr → Option (List Int)
  listsOk : ∀ a ns, lists a = some ns → ∃ vs : List Value, h₀.IsList a vs.toArray ∧ IntsAre vs ns

abbrev Gl.M (G : Gl) : Model := model G.prog G.w
abbrev Gl.P (G : Gl) : Params := G.w.params

structure Bud (A : Around) (k : Nat) : Prop where
  h : A.handled = none
  g : A.guards = some []
  d : A.depth + k < recursionLimit
  u : A.units + 8 * k < cLine
theorem Bud.le {A : Around} {k k' : Nat} (b : Bud A k) (h : k' ≤ k) : Bud A k' := ⟨b.h, b.g, by have := b.d; omega, by have := b.u; omega⟩
theorem Bud.in1 {A : Around} {k : Nat} (b : Bud A (k + 1)) : Bud A.in1 k := ⟨b.h, b.g, by have := b.d; show A.depth + k < _; omega, by have := b.u; show A.units + 1 + 8 * k < _; omega⟩
theorem Bud.deeper {A : Around} {k : Nat} {env : Env} (b : Bud A (k + 1)) : Bud (A.deeper env) k := ⟨b.h, b.g, by have := b.d; show A.depth + 1 + k < _; omega, by have := b.u; show A.units + 3 + 8 * k < _; omega⟩

structure Sx where
  scope : Scope
  slots : List Str
  own : List Str
  code : Value
  qual : Str
abbrev Sx.kindOf (sx : Sx) (x : Str) : Option NameKind := sx.scope.names.lookup x

structure St where
  vs : List (Option MV)
  H : MH

def Mine (env : Env) (sx : Sx) (b : Addr) : Prop := b = env.locals ∨ ∃ x ∈ sx.own, env.cells.lookup x = some b

/-- a lambda of one captured name, at v -/
def CloAt (G : Gl) (h : Heap) (free : Addr → Prop) (ρ : Nat → Addr) (n c l lc : Nat) (v : Value) : Prop :=
  l < n ∧ lc < n ∧ ∃ f cc pm ct oc, v = .ref f ∧ free f ∧ free cc ∧
    h.get? f = some { cls := .type "function", data := .func (kla_fn (G.lams c).name (G.lams c).qual (G.lams c).params (G.lams c).body (G.lams c).scope [((G.lams c).cell, cc)] pm (.ref (ρ lc)) ct) } ∧
    h.get? cc = some oc ∧ oc.data = .cell (some (.ref (ρ l)))

def vra (G : Gl) (h : Heap) (free : Addr → Prop) (ρ : Nat → Addr) (n : Nat) : MV → Value → Prop
  | .clo c l lc, v => CloAt G h free ρ n c l lc v
  | m, v => vr ρ n m v

theorem vra_of_vr {G : Gl} {h : Heap} {free : Addr → Prop} {ρ : Nat → Addr} {n : Nat} {m : MV} {v : Value} (x : vr ρ n m v) : vra G h free ρ n m v := by
  cases m <;> first | exact x | exact x.elim
theorem vr_of_vra {G : Gl} {h : Heap} {free : Addr → Prop} {ρ : Nat → Addr} {n : Nat} {m : MV} {v : Value} (x : vra G h free ρ n m v) (hm : ∀ c l lc, m ≠ .clo c l lc) : vr ρ n m v := by
  cases m <;> first | exact x | exact absurd rfl (hm _ _ _)
theorem vra_mono {G : Gl} {h h' : Heap} {free free' : Addr → Prop} {ρ ρ' : Nat → Addr} {n n' : Nat} (hn : n ≤ n') (ha : ∀ l, l < n → ρ' l = ρ l) (hf : ∀ b o, h.get? b = some o → free b → free' b ∧ h'.get? b = some o) {m : MV} {v : Value}
    (x : vra G h free ρ n m v) : vra G h' free' ρ' n' m v := by
  cases m with
  | clo c l lc =>
    obtain ⟨h1, h2, f, cc, pm, ct, oc, e, ff, fc, h3, h4, h5⟩ := x
    exact ⟨Nat.lt_of_lt_of_le h1 hn, Nat.lt_of_lt_of_le h2 hn, f, cc, pm, ct, oc, e, (hf _ _ h3 ff).1, (hf _ _ h4 fc).1, by rw [ha lc h2]; exact (hf _ _ h3 ff).2, (hf _ _ h4 fc).2, by rw [ha l h1]; exact h5⟩
  | int i => exact x
  | str i => exact x
  | val i => exact x
  | ref l => exact vr_mono (m := .ref l) hn ha x

/-- static facts of a block -/
structure Fst (G : Gl) (env : Env) (sx : Sx) : Prop where
  scope : env.scope = sx.scope
  kind : sx.scope.kind = .function
  glo : env.globals = mainGlobals
  bui : env.builtins = builtinsNs
  ownk : ∀ x ∈ sx.own, sx.kindOf x = some .cell
  owninj : ∀ x y c, x ∈ sx.own → y ∈ sx.own → env.cells.lookup x = some c → env.cells.lookup y = some c → x = y
  nd : sx.slots.Nodup
  code : sx.code = .none ∨ env.code = sx.code
  qual : env.qual = sx.qual
  has : ∀ x, sx.kindOf x = some .cell ∨ sx.kindOf x = some .free → ∃ c, env.cells.lookup x = some c

structure Bas (G : Gl) (ρ : Nat → Addr) (H : MH) (s : Shared) : Prop where
  base : ∀ b o, G.h₀.get? b = some o → s.heap.get? b = some o ∧ ¬ Owned ρ H b
  rep : Rep G.P ρ H s.heap
  tab : ∀ P, G.tab = some P → ρ 0 = P ∧ 0 < H.n

structure InF (G : Gl) (env : Env) (sx : Sx) (ρ : Nat → Addr) (st : St) (s : Shared) : Prop where
  bas : Bas G ρ st.H s
  basem : ∀ b o, G.h₀.get? b = some o → ¬ Mine env sx b
  off : ∀ b, Owned ρ st.H b → ¬ Mine env sx b
  cells : ∀ x c, env.cells.lookup x = some c → (∃ v, s.heap.IsCell c v) ∧ ¬ Owned ρ st.H c ∧ c ≠ env.locals ∧ (x ∉ sx.own → ¬ Mine env sx c)
  ns : ∃ m, s.heap.Ns env.locals m ∧ ∀ (i : Nat) (x : Str) (v : MV), sx.slots[i]? = some x → sx.kindOf x = some .local → st.vs[i]? = some (some v) →
    ∃ w, m x = some w ∧ vra G s.heap (fun b => ¬ Owned ρ st.H b ∧ ¬ Mine env sx b) ρ st.H.n v w
  cel : ∀ (i : Nat) (x : Str) (v : MV), sx.slots[i]? = some x → (sx.kindOf x = some .cell ∨ sx.kindOf x = some .free) → st.vs[i]? = some (some v) →
    ∃ c w, env.cells.lookup x = some c ∧ s.heap.IsCell c (some w) ∧ vr ρ st.H.n v w

theorem not_owned_after {ρ ρ' : Nat → Addr} {H H' : MH} {s s' : Shared} {ex : Addr → Prop} (a : Aft ρ ρ' H H' s s' ex) {b : Addr} {o : Obj} (hb : s.heap.get? b = some o) (n : ¬ Owned ρ H b) : ¬ Owned ρ' H' b :=
  fun q => (a.own b q).elim n fun q => by rw [hb] at q; cases q

theorem Bas.after {G : Gl} {ρ ρ' : Nat → Addr} {H H' : MH} {s s' : Shared} {ex : Addr → Prop} (B : Bas G ρ H s) (a : Aft ρ ρ' H H' s s' ex) (hex : ∀ b o, G.h₀.get? b = some o → ¬ ex b) (r : Rep G.P ρ' H' s'.heap) : Bas G ρ' H' s' where
  base := fun b o e => ⟨a.keep b o (B.base b o e).1 (B.base b o e).2 (hex b o e), not_owned_after a (B.base b o e).1 (B.base b o e).2⟩
  rep := r
  tab := fun P e => ⟨(a.agree 0 (B.tab P e).2).trans (B.tab P e).1, Nat.lt_of_lt_of_le (B.tab P e).2 a.le⟩
theorem Bas.on {G : Gl} {ρ ρ' : Nat → Addr} {H H' : MH} {s s' : Shared} (B : Bas G ρ H s) (a : Aft ρ ρ' H H' s s' NoEx) (r : Rep G.P ρ' H' s'.heap) : Bas G ρ' H' s' := B.after a (fun _ _ _ h => h) r

theorem isCell_at {h h' : Heap} {c : Addr} {v : Option Value} (x : h.IsCell c v) (k : ∀ o, h.get? c = some o → h'.get? c = some o) : h'.IsCell c v := let ⟨o, ho, hd⟩ := x; ⟨o, k o ho, hd⟩

theorem InF.after {G : Gl} {env : Env} {sx : Sx} {ρ ρ' : Nat → Addr} {vs : List (Option MV)} {H H' : MH} {s s' : Shared} (I : InF G env sx ρ ⟨vs, H⟩ s) (a : Aft ρ ρ' H H' s s' NoEx) (r : Rep G.P ρ' H' s'.heap) : InF G env sx ρ' ⟨vs, H'⟩ s' where
  bas := I.bas.on a r
  basem := I.basem
  off := fun b q => (a.own b q).elim (fun q => I.off b q) fun q m => by
    rcases m with rfl | ⟨x, _, hc⟩
    · obtain ⟨m, ⟨_, _, _, ho, _⟩, _⟩ := I.ns; rw [ho] at q; cases q
    · obtain ⟨⟨v, _, ho, _⟩, _⟩ := I.cells x b hc; rw [ho] at q; cases q
  cells := fun x c hc => by
    obtain ⟨⟨v, hv⟩, n, e, o⟩ := I.cells x c hc
    exact ⟨⟨v, isCell_at hv fun o' e' => a.keep c o' e' n id⟩, let ⟨_, ho, _⟩ := hv; not_owned_after a ho n, e, o⟩
  ns := by
    obtain ⟨m, hn, hv⟩ := I.ns
    have nl : ¬ Owned ρ H env.locals := fun q => I.off _ q (.inl rfl)
    refine ⟨m, hn.at' (fun o e => a.keep _ o e nl id), fun i x v h1 h2 h3 => ?_⟩
    obtain ⟨w, e, r⟩ := hv i x v h1 h2 h3
    exact ⟨w, e, vra_mono a.le a.agree (fun b o e f => ⟨⟨not_owned_after a e f.1, f.2⟩, a.keep b o e f.1 id⟩) r⟩
  cel := fun i x v h1 h2 h3 => by
    obtain ⟨c, w, e, hv, r⟩ := I.cel i x v h1 h2 h3
    obtain ⟨_, n, _, _⟩ := I.cells x c e
    exact ⟨c, w, e, isCell_at hv fun o' e' => a.keep c o' e' n id, vr_mono a.le a.agree r⟩

/-! the judgement for trees -/
def EvX {α β : Type} (M : Model) (P : Params) (A : Around) (rel : (Nat → Addr) → Nat → β → α → Prop) (t : Sem α) (ρ : Nat → Addr) (H : MH) (s : Shared) (r : β) (H' : MH) : Prop :=
  ∀ Q : α → Shared → Prop, (∀ a s' ρ', Aft ρ ρ' H H' s s' NoEx → Rep P ρ' H' s'.heap → rel ρ' H'.n r a → Q a s') → wpAny M A t Q (fun _ _ => False) s

section
variable {α β γ δ : Type} {M : Model} {P : Params} {A : Around} {rel : (Nat → Addr) → Nat → β → α → Prop} {rel' : (Nat → Addr) → Nat → δ → γ → Prop} {ρ : Nat → Addr} {H H₁ H' : MH} {s : Shared} {r : β} {r' : δ}

theorem EvX.bind {t : Sem α} {f : α → Sem γ} (h : EvX M P A rel t ρ H s r H₁)
    (k : ∀ a s₁ ρ₁, Aft ρ ρ₁ H H₁ s s₁ NoEx → Rep P ρ₁ H₁ s₁.heap → rel ρ₁ H₁.n r a → EvX M P A rel' (f a) ρ₁ H₁ s₁ r' H') : EvX M P A rel' (t >>= f) ρ H s r' H' :=
  fun Q q => wpAny_bind (h _ fun a s₁ ρ₁ a₁ r₁ v₁ => k a s₁ ρ₁ a₁ r₁ v₁ Q fun b s₂ ρ₂ a₂ r₂ v₂ => q b s₂ ρ₂ (a₁.trans a₂) r₂ v₂)
theorem EvX.pure {a : α} (R : Rep P ρ H s.heap) (h : rel ρ H.n r a) : EvX M P A rel (Pure.pure a) ρ H s r H := fun _ q => wpAny_pure (q a s ρ .refl R h)
theorem EvX.wp {t : Sem α} (h : EvX M P A rel t ρ H s r H') {Q : α → Shared → Prop} {E : Value → Shared → Prop} (k : ∀ a s' ρ', Aft ρ ρ' H H' s s' NoEx → Rep P ρ' H' s'.heap → rel ρ' H'.n r a → Q a s') : wpAny M A t Q E s :=
  wpAny_mono (h Q k) (fun _ _ x => x) (fun _ _ x => x.elim)
theorem EvX.weaken {t : Sem α} {rel₂ : (Nat → Addr) → Nat → δ → α → Prop} (h : EvX M P A rel t ρ H s r H') (k : ∀ ρ' a, rel ρ' H'.n r a → rel₂ ρ' H'.n r' a) : EvX M P A rel₂ t ρ H s r' H' :=
  fun Q q => h Q fun a s' ρ' x y z => q a s' ρ' x y (k ρ' a z)
end

/-- a state that differs in tokens alone -/
theorem Aft.toks {ρ : Nat → Addr} {H : MH} {s : Shared} {tk : Nat} {ex : Addr → Prop} : Aft ρ ρ H H s { s with toks := tk } ex :=
  ⟨fun _ _ => rfl, Nat.le_refl _, fun _ _ e _ _ => e, rfl, fun _ h => .inl h, fun _ o _ e => ⟨o, e⟩, fun _ o e => ⟨o, e⟩⟩

/-- a fresh object that is not owned, tokens -/
theorem Aft.garbage {ρ : Nat → Addr} {H : MH} {s : Shared} {h' : Heap} {tk : Nat} {ex : Addr → Prop} (k : ∀ b o, s.heap.get? b = some o → h'.get? b = some o) : Aft ρ ρ H H s { s with heap := h', toks := tk } ex :=
  ⟨fun _ _ => rfl, Nat.le_refl _, fun b o e _ _ => k b o e, rfl, fun _ h => .inl h, fun b o _ e => ⟨o, k b o e⟩, fun _ o e => ⟨o, e⟩⟩
theorem Rep.garbage {P : Params} {ρ : Nat → Addr} {H : MH} {h h' : Heap} (R : Rep P ρ H h) (k : ∀ b o, h.get? b = some o → h'.get? b = some o) : Rep P ρ H h' :=
  ⟨fun l o e => let ⟨ob, a, b⟩ := R.at_ l o e; ⟨ob, k _ _ a, b⟩, R.inj, R.lt⟩

def ext (ρ : Nat → Addr) (n : Nat) (a : Addr) : Nat → Addr := fun l => if l = n then a else ρ l
theorem ext_lt {ρ : Nat → Addr} {n : Nat} {a : Addr} : ∀ l, l < n → ext ρ n a l = ρ l := fun l h => if_neg (Nat.ne_of_lt h)
theorem ext_self {ρ : Nat → Addr} {n : Nat} {a : Addr} : ext ρ n a n = a := if_pos rfl

theorem fresh_none {h : Heap} {a : Addr} (ha : h.objs.size ≤ a) : h.get? a = none := by
  cases e : h.get? a with
  | none => rfl
  | some o => exact absurd (Heap.lt_size e) (Nat.not_lt.mpr ha)
/-- a new owned object at a fresh address -/
theorem push_new {P : Params} {ρ : Nat → Addr} {H : MH} {s : Shared} {h' : Heap} {tk : Nat} {a : Addr} {ob : Obj} {o : MO} {ex : Addr → Prop} (R : Rep P ρ H s.heap) (ha : s.heap.get? a = none) (hob : h'.get? a = some ob) (hr : orep P (ext ρ H.n a) (H.n + 1) o ob)
    (k : ∀ b x, s.heap.get? b = some x → h'.get? b = some x) :
    Aft ρ (ext ρ H.n a) H (H.push o) s { s with heap := h', toks := tk } ex ∧ Rep P (ext ρ H.n a) (H.push o) h' := by
  have old : ∀ l x, H.get l = some x → l ≠ H.n ∧ ext ρ H.n a l = ρ l := fun l x e => ⟨Nat.ne_of_lt (R.lt l x e), ext_lt l (R.lt l x e)⟩
  have gt : ∀ l x, (H.push o).get l = some x → (l = H.n ∧ x = o) ∨ (H.get l = some x ∧ l ≠ H.n) := fun l x e => by
    rw [MH.get_push] at e
    by_cases hl : l = H.n
    · rw [if_pos hl] at e; cases e; exact .inl ⟨hl, rfl⟩
    · rw [if_neg hl] at e; exact .inr ⟨e, hl⟩
  refine ⟨⟨ext_lt, Nat.le_succ _, fun b x e _ _ => k b x e, rfl, fun b q => ?_, fun b o _ e => ⟨o, k b o e⟩, fun l x e => ⟨x, by rw [MH.get_push, if_neg (Nat.ne_of_lt (R.lt l x e))]; exact e⟩⟩, ⟨fun l x e => ?_, fun l l' x x' e e' q => ?_, fun l x e => ?_⟩⟩
  · obtain ⟨l, x, e, rfl⟩ := q
    rcases gt l x e with ⟨rfl, _⟩ | ⟨e, hl⟩
    · rw [ext_self]; exact .inr ha
    · exact .inl ⟨l, x, e, ((old l x e).2).symm⟩
  · rcases gt l x e with ⟨rfl, rfl⟩ | ⟨e, hl⟩
    · exact ⟨ob, by rw [ext_self]; exact hob, hr⟩
    · obtain ⟨ob', a1, a2⟩ := R.at_ l x e
      exact ⟨ob', by rw [(old l x e).2]; exact k _ _ a1, orep_mono (Nat.le_succ _) ext_lt a2⟩
  · have lt : ∀ l x, H.get l = some x → ext ρ H.n a l ≠ a := fun l x e => by
      obtain ⟨ob', a1, _⟩ := R.at_ l x e
      rw [(old l x e).2]; intro z; rw [z, ha] at a1; cases a1
    rcases gt l x e with ⟨rfl, h1⟩ | ⟨e1, hl⟩ <;> rcases gt l' x' e' with ⟨rfl, h2⟩ | ⟨e2, hl'⟩
    · rfl
    · rw [ext_self] at q; exact absurd q.symm (lt l' x' e2)
    · rw [ext_self] at q; exact absurd q (lt l x e1)
    · rw [(old l x e1).2, (old l' x' e2).2] at q; exact R.inj l l' x x' e1 e2 q
  · rcases gt l x e with ⟨rfl, _⟩ | ⟨e, _⟩
    · exact Nat.lt_succ_self _
    · exact Nat.lt_succ_of_lt (R.lt l x e)

/-- an owned object changed in place -/
theorem set_own {P : Params} {ρ : Nat → Addr} {H : MH} {s : Shared} {h' : Heap} {tk : Nat} {l : Nat} {ob : Obj} {o o' : MO} {ex : Addr → Prop} (R : Rep P ρ H s.heap) (hl : H.get l = some o) (hob : h'.get? (ρ l) = some ob) (hr : orep P ρ H.n o' ob)
    (k : ∀ b x, b ≠ ρ l → s.heap.get? b = some x → h'.get? b = some x) :
    Aft ρ ρ H (H.set l o') s { s with heap := h', toks := tk } ex ∧ Rep P ρ (H.set l o') h' := by
  have gt : ∀ j x, (H.set l o').get j = some x → (j = l ∧ x = o') ∨ (H.get j = some x ∧ j ≠ l) := fun j x e => by
    rw [MH.get_set] at e
    by_cases hj : j = l
    · rw [if_pos hj, hj, hl] at e; cases e; exact .inl ⟨hj, rfl⟩
    · rw [if_neg hj] at e; exact .inr ⟨e, hj⟩
  have own : ∀ j x, (H.set l o').get j = some x → ∃ y, H.get j = some y := fun j x e => by
    rcases gt j x e with ⟨rfl, _⟩ | ⟨e, _⟩
    · exact ⟨o, hl⟩
    · exact ⟨x, e⟩
  refine ⟨⟨fun _ _ => rfl, Nat.le_refl _, fun b x e n _ => k b x (fun q => n ⟨l, o, hl, q.symm⟩) e, rfl, fun b q => ?_, fun b x _ e => by
    by_cases hb : b = ρ l
    · exact ⟨ob, by rw [hb]; exact hob⟩
    · exact ⟨x, k b x hb e⟩, fun j x e => by
    rw [MH.get_set]
    by_cases hj : j = l
    · subst hj; exact ⟨o', by rw [if_pos rfl, hl]; rfl⟩
    · exact ⟨x, by rw [if_neg hj]; exact e⟩⟩, ⟨fun j x e => ?_, fun j j' x x' e e' q => ?_, fun j x e => ?_⟩⟩
  · obtain ⟨j, x, e, rfl⟩ := q
    obtain ⟨y, e⟩ := own j x e
    exact .inl ⟨j, y, e, rfl⟩
  · rcases gt j x e with ⟨rfl, rfl⟩ | ⟨e, hj⟩
    · exact ⟨ob, hob, hr⟩
    · obtain ⟨ob', a1, a2⟩ := R.at_ j x e
      exact ⟨ob', k _ _ (fun q => hj (R.inj j l x o e hl q)) a1, a2⟩
  · obtain ⟨y, e⟩ := own j x e
    obtain ⟨y', e'⟩ := own j' x' e'
    exact R.inj j j' y y' e e' q
  · obtain ⟨y, e⟩ := own j x e
    exact R.lt j y e
end Q
end Mini

open PySem PySem.W PySem.Calls PyProof.Rows
namespace Mini
noncomputable section Q

/-! ops on mini values -/
def small (a : Int) : Bool := decide (-(2 ^ 62) ≤ a) && decide (a < 2 ^ 62)
def addop : MV → MV → MH → Option (MV × MH)
  | .int a, .int b, H => some (.int (a + b), H)
  | .str a, .str b, H => if a.length + b.length ≤ 100000 then some (.str (a ++ b), H) else none
  | .ref a, .ref b, H => match H.get a, H.get b with
    | some (.list xs), some (.list ys) => if xs.length + ys.length ≤ 100000 then some (.ref H.n, H.push (.list (xs ++ ys))) else none
    | _, _ => none
  | _, _, _ => none
def subop : MV → MV → MH → Option (MV × MH)
  | .int a, .int b, H => some (.int (a - b), H)
  | _, _, _ => none
def fdivop : MV → MV → MH → Option (MV × MH)
  | .int a, .int b, H => if b ≠ 0 ∧ small b = true then some (.int (Int.fdiv a b), H) else none
  | _, _, _ => none
def modop : MV → MV → MH → Option (MV × MH)
  | .int a, .int b, H => if b ≠ 0 then some (.int (Int.fmod a b), H) else none
  | _, _, _ => none
def xorop : MV → MV → MH → Option (MV × MH)
  | .int a, .int b, H => some (.int (Builtin.bitXor a b), H)
  | _, _, _ => none
def mulop : MV → MV → MH → Option (MV × MH)
  | .int a, .int b, H => if small a = true ∧ small b = true then some (.int (a * b), H) else none
  | .str x, .int n, H => if (x.length * n.toNat ≤ 100000 : Bool) && small n then some (.str (Txt.mul x n), H) else none
  | .ref a, .int n, H => match H.get a with
    | some (.list [x]) => if (n.toNat ≤ 100000 : Bool) && small n then some (.ref H.n, H.push (.list (List.replicate n.toNat x))) else none
    | _ => none
  | _, _, _ => none

section
variable {G : Gl} {A : Around} {ρ : Nat → Addr} {H H' : MH} {s : Shared} {x y r : MV} {a b : Value} {k : Nat}

theorem vr_int {n : Nat} {i : Int} {v : Value} (h : vr ρ n (.int i) v) : ∃ t, v = .int i t := h
theorem vr_str {n : Nat} {i : Str} {v : Value} (h : vr ρ n (.str i) v) : ∃ t, v = .str i t := h

theorem EvX.now {M : Model} {P : Params} {β α : Type} {rel : (Nat → Addr) → Nat → β → α → Prop} {t : Sem α} {r : β} (R : Rep P ρ H s.heap)
    (h : ∀ Q : α → Shared → Prop, (∀ a tk, rel ρ H.n r a → Q a { s with toks := tk }) → wpAny M A t Q (fun _ _ => False) s) : EvX M P A rel t ρ H s r H :=
  fun Q q => h Q fun a tk z => q a _ ρ .toks R z

theorem divs_small {a b : Int} (h : small b = true) : Builtin.divisionGoesByPylong a b = false := by
  simp only [small, Bool.and_eq_true, decide_eq_true_eq] at h
  have hb : b.natAbs < 2 ^ 63 := by omega
  have : Nat.log2 b.natAbs < 63 := by
    by_cases h0 : b.natAbs = 0
    · rw [h0]; decide
    · exact (Nat.log2_lt h0).mpr hb
  unfold Builtin.divisionGoesByPylong
  simp only [Bool.and_eq_false_iff, decide_eq_false_iff_not]
  left
  split <;> omega

theorem intMulOk_small {a b : Int} (h : small a = true) : IntMulOk a b := by
  simp only [small, Bool.and_eq_true, decide_eq_true_eq] at h
  exact PySem.IntMulOk.of_left (PySem.intBits_le_64 (by omega) (by omega))

theorem rep_list {P : Params} {h : Heap} {l : Nat} {xs : List MV} (R : Rep P ρ H h) (e : H.get l = some (.list xs)) : ∃ vs n, h.get? (ρ l) = some (listOf (List.toArray vs) n) ∧ VRs ρ H.n xs vs := by
  obtain ⟨ob, h1, vs, n, rfl, h2⟩ := R.at_ l _ e
  exact ⟨vs, n, h1, h2⟩
theorem VRs.length {n : Nat} {xs : List MV} {vs : List Value} (h : VRs ρ n xs vs) : vs.length = xs.length := by
  induction h with
  | nil => rfl
  | cons _ _ ih => simp [ih]
theorem VRs.append {n : Nat} {xs ys : List MV} {vs ws : List Value} (h : VRs ρ n xs vs) (h' : VRs ρ n ys ws) : VRs ρ n (xs ++ ys) (vs ++ ws) := by
  induction h with
  | nil => exact h'
  | cons a _ ih => exact .cons a ih
theorem VRs.take {n : Nat} {xs : List MV} {vs : List Value} (h : VRs ρ n xs vs) : ∀ j, VRs ρ n (xs.take j) (vs.take j) := by
  induction h with
  | nil => intro j; simp; exact .nil
  | cons a _ ih => intro j; cases j with
    | zero => exact .nil
    | succ j => exact .cons a (ih j)
theorem VRs.drop {n : Nat} {xs : List MV} {vs : List Value} (h : VRs ρ n xs vs) : ∀ j, VRs ρ n (xs.drop j) (vs.drop j) := by
  induction h with
  | nil => intro j; simp; exact .nil
  | cons a h ih => intro j; cases j with
    | zero => exact .cons a h
    | succ j => exact ih j
theorem VRs.get {n : Nat} {xs : List MV} {vs : List Value} (h : VRs ρ n xs vs) : ∀ {j : Nat} {x : MV}, xs[j]? = some x → ∃ v, vs[j]? = some v ∧ vr ρ n x v := by
  induction h with
  | nil => intro j x e; simp at e
  | cons a _ ih => intro j x e; cases j with
    | zero => simp at e; subst e; exact ⟨_, by simp, a⟩
    | succ j => simpa using ih (by simpa using e)
theorem VRs.replicate {n : Nat} {x : MV} {v : Value} (h : vr ρ n x v) : ∀ j, VRs ρ n (List.replicate j x) (List.replicate j v)
  | 0 => .nil
  | j + 1 => .cons h (VRs.replicate h j)

theorem EvX.push {M : Model} {P : Params} {t : Sem Value} {o : MO} (R : Rep P ρ H s.heap)
    (h : ∀ Q : Value → Shared → Prop, (∀ ob tk, orep P (ext ρ H.n s.heap.objs.size) (H.n + 1) o ob → Q (.ref s.heap.objs.size) { s with heap := s.heap.push ob, toks := tk }) → wpAny M A t Q (fun _ _ => False) s) :
    EvX M P A vr t ρ H s (.ref H.n) (H.push o) := fun Q q => h Q fun ob tk z => by
  obtain ⟨a, r⟩ := push_new (tk := tk) (ex := NoEx) (h' := s.heap.push ob) R (fresh_none (Nat.le_refl _)) (Heap.get?_push_size _ (orep_live z)) z (fun b x e => Heap.get?_push_of_some _ e)
  exact q _ _ _ a r ⟨Nat.lt_succ_self _, by rw [ext_self]⟩

theorem addop_ok (R : Rep G.P ρ H s.heap) (hx : vr ρ H.n x a) (hy : vr ρ H.n y b) (e : addop x y H = some (r, H')) : EvX G.M G.P A vr (binaryOp .Add a b) ρ H s r H' := by
  unfold addop at e
  split at e
  · obtain ⟨t, rfl⟩ := hx; obtain ⟨u, rfl⟩ := hy; cases e
    exact .now R fun Q q => add_int (q _ _ ⟨_, rfl⟩)
  · obtain ⟨t, rfl⟩ := hx; obtain ⟨u, rfl⟩ := hy
    split at e
    · rename_i hl; cases e
      exact .now R fun Q q => add_str (fun t' tk => q _ tk ⟨_, rfl⟩) (Nat.le_trans hl (by decide))
    · cases e
  · split at e
    · rename_i h1 h2
      split at e
      · rename_i hl; cases e
        obtain ⟨_, rfl⟩ := hx; obtain ⟨_, rfl⟩ := hy
        obtain ⟨vs, n1, g1, v1⟩ := rep_list R h1
        obtain ⟨ws, n2, g2, v2⟩ := rep_list R h2
        refine .push R fun Q q => ?_
        have e' : vs.toArray ++ ws.toArray = (vs ++ ws).toArray := by simp
        refine concat_meets ⟨_, g1, rfl⟩ ⟨_, g2, rfl⟩ noFill_list_add seq_list_add PySem.F.slot_list_add PySem.F.entry_list_add (PySem.F.args_list_add_2 _ _) (list_addW _ _ vs.toArray ws.toArray n1 n2 none none #[] #[]
          (by simp only [List.size_toArray, v1.length, v2.length]; exact Nat.le_trans hl (by decide))) ⟨g1, g2, ?_⟩
        rw [e']
        exact q _ s.toks ⟨vs ++ ws, 0, rfl, (v1.append v2).mono (Nat.le_succ _) ext_lt⟩
      · cases e
    · cases e
  · cases e

theorem subop_ok (R : Rep G.P ρ H s.heap) (hx : vr ρ H.n x a) (hy : vr ρ H.n y b) (e : subop x y H = some (r, H')) : EvX G.M G.P A vr (binaryOp .Sub a b) ρ H s r H' := by
  unfold subop at e
  split at e
  · obtain ⟨t, rfl⟩ := hx; obtain ⟨u, rfl⟩ := hy; cases e
    exact .now R fun Q q => sub_int (q _ _ ⟨_, rfl⟩)
  · cases e
theorem fdivop_ok (R : Rep G.P ρ H s.heap) (hx : vr ρ H.n x a) (hy : vr ρ H.n y b) (e : fdivop x y H = some (r, H')) : EvX G.M G.P A vr (binaryOp .FloorDiv a b) ρ H s r H' := by
  unfold fdivop at e
  split at e
  · obtain ⟨t, rfl⟩ := hx; obtain ⟨u, rfl⟩ := hy
    split at e
    · rename_i hb; cases e
      exact .now R fun Q q => floordiv_int hb.1 (q _ _ ⟨_, rfl⟩) (.inl (divs_small hb.2))
    · cases e
  · cases e
theorem modop_ok (R : Rep G.P ρ H s.heap) (hx : vr ρ H.n x a) (hy : vr ρ H.n y b) (e : modop x y H = some (r, H')) : EvX G.M G.P A vr (binaryOp .Mod a b) ρ H s r H' := by
  unfold modop at e
  split at e
  · obtain ⟨t, rfl⟩ := hx; obtain ⟨u, rfl⟩ := hy
    split at e
    · rename_i hb; cases e
      exact .now R fun Q q => mod_int' hb (q _ _ ⟨_, rfl⟩)
    · cases e
  · cases e
theorem xorop_ok (R : Rep G.P ρ H s.heap) (hx : vr ρ H.n x a) (hy : vr ρ H.n y b) (e : xorop x y H = some (r, H')) : EvX G.M G.P A vr (binaryOp .BitXor a b) ρ H s r H' := by
  unfold xorop at e
  split at e
  · obtain ⟨t, rfl⟩ := hx; obtain ⟨u, rfl⟩ := hy; cases e
    exact .now R fun Q q => xor_int (q _ _ ⟨_, rfl⟩)
  · cases e

theorem mulOk_of {x : Str} {n : Int} (h1 : x.length * n.toNat ≤ 100000) (h2 : small n = true) : MulOk x n := by
  simp only [small, Bool.and_eq_true, decide_eq_true_eq] at h2
  refine ⟨Bool.or_eq_false_iff.mpr ⟨decide_eq_false (by omega), decide_eq_false (by omega)⟩, fun h3 _ => ?_, fun _ _ => ?_⟩
  · have h4 : n.toNat ≥ 1 := by omega
    have h5 : x.length ≤ 100000 := Nat.le_trans (Nat.le_mul_of_pos_right _ h4) h1
    intro h6
    have h7 : (1 : Int) ≤ n := by omega
    have h8 : (x.length : Int) * n ≤ 2 ^ 63 - 1 := by
      have e : (n.toNat : Int) = n := by omega
      have : ((x.length * n.toNat : Nat) : Int) ≤ 100000 := Int.ofNat_le.mpr h1
      rw [Int.natCast_mul, e] at this
      exact Int.le_trans this (by decide)
    have h9 := (Int.le_ediv_iff_mul_le (by omega : (0 : Int) < n)).mpr h8
    exact absurd h6 (Int.not_lt.mpr h9)
  · exact decide_eq_false (Nat.not_lt.mpr (Nat.le_trans h1 (by decide)))

theorem listMul_one (v : Value) (k : Nat) : List.foldl (fun (x1 x2 : Array Value) => x1 ++ x2) #[] (List.replicate k #[v]) = (List.replicate k v).toArray := by
  have : ∀ (k : Nat) (acc : Array Value), List.foldl (fun (x1 x2 : Array Value) => x1 ++ x2) acc (List.replicate k #[v]) = acc ++ (List.replicate k v).toArray := by
    intro k
    induction k with
    | zero => intro acc; simp
    | succ k ih =>
      intro acc
      rw [List.replicate_succ, List.foldl_cons, ih, List.replicate_succ]
      apply Array.toList_inj.mp
      simp
  rw [this]; simp

theorem mul_list_one {Q : Value → Shared → Prop} {E : Value → Shared → Prop} {l : Addr} {v : Value} {n1 : Nat} {n : Int} {u : Tok} (g1 : s.heap.get? l = some (listOf (List.toArray [v]) n1)) (hs : small n = true) (hn : n.toNat ≤ 100000)
    (q : Q (.ref s.heap.objs.size) { s with heap := s.heap.push (listOf (List.toArray (List.replicate n.toNat v)) 0) }) : wpAny G.M A (binaryOp .Mult (.ref l) (.int n u)) Q E s := by
  simp only [small, Bool.and_eq_true, decide_eq_true_eq] at hs
  refine wpAny_binaryOp_repeat_ref (T := "list") (U := "int") (by decide) ⟨_, g1, rfl⟩ (fun s' => typeIs_int s' n u) noFill_list_mul PySem.F.fills_int_mul PySem.F.slot_int_rmul repeat_list PySem.F.slot_int_index.lookup
          (call_meets PySem.F.slot_int_rmul (typeIs_int s n u) PySem.F.entry_int_rmul (PySem.F.args_int_rmul_2 _ _) (int___rmul___int_list n u l [v].toArray n1)
            ⟨g1, rfl, ⟨_, g1, rfl⟩, call_meets PySem.F.slot_list_mul ⟨_, g1, rfl⟩ PySem.F.entry_list_mul (PySem.F.args_list_mul_2 _ _)
              (AutoListH.list___mul___list_int_3 l [v].toArray n1 n u ?_ ?_ ?_)
              ⟨g1, ?_⟩⟩)
  · simp only [Builtin.List.listFitsIndex, Bool.not_eq_true']; simp; omega
  · simp; omega
  · simp [Builtin.List.listTooLong, sizeLine]; omega
  · rw [← listMul_one] at q
    exact q

theorem mulop_ok (R : Rep G.P ρ H s.heap) (hx : vr ρ H.n x a) (hy : vr ρ H.n y b) (e : mulop x y H = some (r, H')) : EvX G.M G.P A vr (binaryOp .Mult a b) ρ H s r H' := by
  unfold mulop at e
  split at e
  · obtain ⟨t, rfl⟩ := hx; obtain ⟨u, rfl⟩ := hy
    split at e
    · rename_i hb; cases e
      exact .now R fun Q q => mul_int (q _ _ ⟨_, rfl⟩) (intMulOk_small hb.1)
    · cases e
  · obtain ⟨t, rfl⟩ := hx; obtain ⟨u, rfl⟩ := hy
    split at e
    · rename_i hb; cases e
      simp only [Bool.and_eq_true, decide_eq_true_eq] at hb
      exact .now R fun Q q => SB.mul (mulOk_of hb.1 hb.2) fun t' k => q _ k ⟨_, rfl⟩
    · cases e
  · split at e
    · rename_i h1
      split at e
      · rename_i hb; cases e
        simp only [Bool.and_eq_true, decide_eq_true_eq] at hb
        obtain ⟨_, rfl⟩ := hx; obtain ⟨u, rfl⟩ := hy
        obtain ⟨vs, n1, g1, v1⟩ := rep_list R h1
        cases v1 with
        | cons hv hn =>
        cases hn
        refine .push R fun Q q => ?_
        refine mul_list_one g1 hb.2 hb.1 (q _ s.toks ⟨_, 0, rfl, (VRs.replicate hv _).mono (Nat.le_succ _) ext_lt⟩)
      · cases e
    · cases e
  · cases e

/-! comparisons -/
def intsOf : List MV → Option (List Int)
  | [] => some []
  | .int i :: r => (intsOf r).map (i :: ·)
  | _ :: _ => none
theorem intsAre_of {n : Nat} {xs : List MV} {vs : List Value} {ns : List Int} (h : VRs ρ n xs vs) (e : intsOf xs = some ns) : IntsAre vs ns := by
  induction h generalizing ns with
  | nil => cases e; exact .nil
  | cons a _ ih =>
    rename_i x v xs vs _
    cases x <;> first | cases e | skip
    rename_i i
    obtain ⟨t, rfl⟩ := a
    simp only [intsOf, Option.map_eq_some_iff] at e
    obtain ⟨ms, e1, rfl⟩ := e
    exact .cons i t (ih e1)

def bv (b : Bool) : MV := .val (.bool b)
def eqop : MV → MV → MH → Option Bool
  | .int a, .int b, _ => some (a == b)
  | .str a, .str b, _ => some (streq a b)
  | .ref a, .ref b, H => match H.get a, H.get b with
    | some (.list xs), some (.list ys) => (intsOf xs).bind fun ns => (intsOf ys).bind fun ms => some (decide (ns = ms))
    | _, _ => none
  | _, _, _ => none
def ltop : MV → MV → Option Bool
  | .int a, .int b => some (decide (a < b))
  | _, _ => none
def leop : MV → MV → Option Bool
  | .int a, .int b => some (decide (a ≤ b))
  | _, _ => none
def isop : MV → MV → Option Bool
  | .val a, .val b => if PySem.plainIs a b then some (a == b) else none
  | .ref _, .val .none => some false
  | .int _, .val .none => some false
  | .str _, .val .none => some false
  | .clo .., .val .none => some false
  | _, _ => none
def inop : MV → MV → MH → Option Bool
  | .int a, .ref b, H => match H.get b with
    | some (.list ys) => (intsOf ys).bind fun ns => some (ns.any (· == a))
    | _ => none
  | _, _, _ => none

theorem isList_of {h : Heap} {a : Addr} {vs : List Value} {n : Nat} (g : h.get? a = some (listOf (List.toArray vs) n)) : h.IsList a vs.toArray := ⟨_, g, rfl, n, rfl⟩

theorem eqop_ok {c : Bool} (B : Bud A 8) (R : Rep G.P ρ H s.heap) (hx : vr ρ H.n x a) (hy : vr ρ H.n y b) (e : eqop x y H = some c) : EvX G.M G.P A vr (compareOp .Eq a b) ρ H s (bv c) H := by
  unfold eqop at e
  split at e
  · obtain ⟨t, rfl⟩ := hx; obtain ⟨u, rfl⟩ := hy; cases e
    exact .now R fun Q q => eq_int (q _ s.toks rfl)
  · obtain ⟨t, rfl⟩ := hx; obtain ⟨u, rfl⟩ := hy; rw [streq_eq] at e; cases e
    exact .now R fun Q q => eq_str (q _ s.toks rfl)
  · split at e
    · rename_i h1 h2
      obtain ⟨ns, e1, e⟩ := Option.bind_eq_some_iff.mp e
      obtain ⟨ms, e2, e⟩ := Option.bind_eq_some_iff.mp e
      cases e
      obtain ⟨_, rfl⟩ := hx; obtain ⟨_, rfl⟩ := hy
      obtain ⟨vs, n1, g1, v1⟩ := rep_list R h1
      obtain ⟨ws, n2, g2, v2⟩ := rep_list R h2
      exact .now R fun Q q => eq_intsK (isList_of g1) (intsAre_of v1 e1) (isList_of g2) (intsAre_of v2 e2) (by have := B.u; omega) (q _ s.toks rfl)
    · cases e
  · cases e
theorem neop_ok {c : Bool} (B : Bud A 8) (R : Rep G.P ρ H s.heap) (hx : vr ρ H.n x a) (hy : vr ρ H.n y b) (e : eqop x y H = some c) : EvX G.M G.P A vr (compareOp .NotEq a b) ρ H s (bv (!c)) H := by
  unfold eqop at e
  split at e
  · obtain ⟨t, rfl⟩ := hx; obtain ⟨u, rfl⟩ := hy; cases e
    exact .now R fun Q q => ne_int (q _ s.toks rfl)
  · obtain ⟨t, rfl⟩ := hx; obtain ⟨u, rfl⟩ := hy; rw [streq_eq] at e; cases e
    exact .now R fun Q q => ne_str (q _ s.toks rfl)
  · split at e
    · rename_i h1 h2
      obtain ⟨ns, e1, e⟩ := Option.bind_eq_some_iff.mp e
      obtain ⟨ms, e2, e⟩ := Option.bind_eq_some_iff.mp e
      cases e
      obtain ⟨_, rfl⟩ := hx; obtain ⟨_, rfl⟩ := hy
      obtain ⟨vs, n1, g1, v1⟩ := rep_list R h1
      obtain ⟨ws, n2, g2, v2⟩ := rep_list R h2
      exact .now R fun Q q => ne_intsK (isList_of g1) (intsAre_of v1 e1) (isList_of g2) (intsAre_of v2 e2) (by have := B.u; omega) (q _ s.toks rfl)
    · cases e
  · cases e
theorem ltop_ok {c : Bool} (R : Rep G.P ρ H s.heap) (hx : vr ρ H.n x a) (hy : vr ρ H.n y b) (e : ltop x y = some c) : EvX G.M G.P A vr (compareOp .Lt a b) ρ H s (bv c) H := by
  unfold ltop at e
  split at e
  · obtain ⟨t, rfl⟩ := hx; obtain ⟨u, rfl⟩ := hy; cases e
    exact .now R fun Q q => lt_int (q _ s.toks rfl)
  · cases e
theorem leop_ok {c : Bool} (R : Rep G.P ρ H s.heap) (hx : vr ρ H.n x a) (hy : vr ρ H.n y b) (e : leop x y = some c) : EvX G.M G.P A vr (compareOp .LtE a b) ρ H s (bv c) H := by
  unfold leop at e
  split at e
  · obtain ⟨t, rfl⟩ := hx; obtain ⟨u, rfl⟩ := hy; cases e
    exact .now R fun Q q => le_int (q _ s.toks rfl)
  · cases e
theorem gtop_ok {c : Bool} (R : Rep G.P ρ H s.heap) (hx : vr ρ H.n x a) (hy : vr ρ H.n y b) (e : ltop y x = some c) : EvX G.M G.P A vr (compareOp .Gt a b) ρ H s (bv c) H := by
  unfold ltop at e
  split at e
  · obtain ⟨t, rfl⟩ := hx; obtain ⟨u, rfl⟩ := hy; cases e
    exact .now R fun Q q => gt_int (q _ s.toks rfl)
  · cases e
theorem geop_ok {c : Bool} (R : Rep G.P ρ H s.heap) (hx : vr ρ H.n x a) (hy : vr ρ H.n y b) (e : leop y x = some c) : EvX G.M G.P A vr (compareOp .GtE a b) ρ H s (bv c) H := by
  unfold leop at e
  split at e
  · obtain ⟨t, rfl⟩ := hx; obtain ⟨u, rfl⟩ := hy; cases e
    exact .now R fun Q q => ge_int (q _ s.toks rfl)
  · cases e
/-- 'is' looks at the values themselves (a closure too) -/
theorem isop_val {h : Heap} {free : Addr → Prop} {n : Nat} {c : Bool} (hx : vra G h free ρ n x a) (hy : vr ρ n y b) (e : isop x y = some c) : PySem.plainIs a b = true ∧ (a == b) = c := by
  unfold isop at e
  split at e
  · cases hx; cases hy
    split at e
    · rename_i h; cases e; exact ⟨h, rfl⟩
    · cases e
  · obtain ⟨_, rfl⟩ := hx; cases hy; cases e; exact ⟨rfl, rfl⟩
  · obtain ⟨_, rfl⟩ := hx; cases hy; cases e; exact ⟨rfl, rfl⟩
  · obtain ⟨_, rfl⟩ := hx; cases hy; cases e; exact ⟨rfl, rfl⟩
  · obtain ⟨_, _, f, cc, pm, ct, oc, rfl, _⟩ := hx; cases hy; cases e; exact ⟨rfl, rfl⟩
  · cases e
theorem inop_ok {c : Bool} (R : Rep G.P ρ H s.heap) (hx : vr ρ H.n x a) (hy : vr ρ H.n y b) (e : inop x y H = some c) : EvX G.M G.P A vr (compareOp .In a b) ρ H s (bv c) H := by
  unfold inop at e
  split at e
  · split at e
    · rename_i h1
      obtain ⟨ns, e1, e⟩ := Option.bind_eq_some_iff.mp e
      cases e
      obtain ⟨t, rfl⟩ := hx; obtain ⟨_, rfl⟩ := hy
      obtain ⟨vs, n1, g1, v1⟩ := rep_list R h1
      exact .now R fun Q q => in_list_ints (isList_of g1) (intsAre_of v1 e1) (q _ s.toks rfl)
    · cases e
  · cases e
theorem notInop_ok {c : Bool} (R : Rep G.P ρ H s.heap) (hx : vr ρ H.n x a) (hy : vr ρ H.n y b) (e : inop x y H = some c) : EvX G.M G.P A vr (compareOp .NotIn a b) ρ H s (bv (!c)) H := by
  unfold inop at e
  split at e
  · split at e
    · rename_i h1
      obtain ⟨ns, e1, e⟩ := Option.bind_eq_some_iff.mp e
      cases e
      obtain ⟨t, rfl⟩ := hx; obtain ⟨_, rfl⟩ := hy
      obtain ⟨vs, n1, g1, v1⟩ := rep_list R h1
      exact .now R fun Q q => notin_list_ints (isList_of g1) (intsAre_of v1 e1) (q _ s.toks rfl)
    · cases e
  · cases e

/-! truth -/
def truth : MV → MH → Option Bool
  | .val (.bool b), _ => some b
  | .val .none, _ => some false
  | .int i, _ => some (i != 0)
  | .ref l, H => match H.get l with
    | some (.list xs) => if xs.length ≤ 100000 then some (!xs.isEmpty) else none
    | _ => none
  | _, _ => none
theorem truth_ok {c : Bool} (R : Rep G.P ρ H s.heap) (hx : vr ρ H.n x a) (e : truth x H = some c) : EvX G.M G.P A (fun _ _ (c : Bool) c' => c' = c) (truthy a) ρ H s c H := by
  unfold truth at e
  split at e
  · cases hx; cases e; exact .now R fun Q q => wpAny_truthy_bool (q _ s.toks rfl)
  · cases hx; cases e; exact .now R fun Q q => truthy_none (q _ s.toks rfl)
  · obtain ⟨t, rfl⟩ := hx; cases e; exact .now R fun Q q => PyProof.Rows.truthy_int (q _ s.toks rfl)
  · split at e
    · rename_i h1
      split at e
      · rename_i hl; cases e
        obtain ⟨_, rfl⟩ := hx
        obtain ⟨vs, n1, g1, v1⟩ := rep_list R h1
        refine .now R fun Q q => wpAny_truthy_list (isList_of g1) (by have := v1.length; simp only [List.size_toArray]; omega) (q _ _ ?_)
        cases v1 <;> simp
      · cases e
    · cases e
  · cases e
end
end Q
end Mini

open PySem PySem.W PySem.Calls PyProof.Rows
namespace Mini
noncomputable section Q

def DenE (G : Gl) (k : Nat) (sx : Sx) (e : Expr) (d : St → Option (MV × MH)) : Prop :=
  ∀ {env : Env} {A : Around} {ρ : Nat → Addr} {st : St} {s : Shared} {v : MV} {H' : MH}, Fst G env sx → Bud A k → InF G env sx ρ st s → d st = some (v, H') → EvX G.M G.P A vr (eval e env) ρ st.H s v H'
def DenB (G : Gl) (k : Nat) (sx : Sx) (e : Expr) (d : St → Option (Bool × MH)) : Prop :=
  ∀ {env : Env} {A : Around} {ρ : Nat → Addr} {st : St} {s : Shared} {v : Bool} {H' : MH}, Fst G env sx → Bud A k → InF G env sx ρ st s → d st = some (v, H') → EvX G.M G.P A (fun _ _ (c : Bool) c' => c' = c) (isTrue e env (eval e env)) ρ st.H s v H'
def DenEs (G : Gl) (k : Nat) (sx : Sx) (es : List Expr) (d : St → Option (List MV × MH)) : Prop :=
  ∀ {env : Env} {A : Around} {ρ : Nat → Addr} {st : St} {s : Shared} {v : List MV} {H' : MH}, Fst G env sx → Bud A k → InF G env sx ρ st s → d st = some (v, H') →
    ∀ pos, EvX G.M G.P A VRs (spliced (backTo pos (starEach es env))) ρ st.H s v H'

theorem DenE.le {G : Gl} {k k' : Nat} {sx : Sx} {e : Expr} {d : St → Option (MV × MH)} (h : DenE G k sx e d) (hk : k ≤ k') : DenE G k' sx e d := fun F B => h F (B.le hk)
theorem DenB.le {G : Gl} {k k' : Nat} {sx : Sx} {e : Expr} {d : St → Option (Bool × MH)} (h : DenB G k sx e d) (hk : k ≤ k') : DenB G k' sx e d := fun F B => h F (B.le hk)

section
variable {G : Gl} {k : Nat} {sx : Sx}

theorem den_int {i : Int} {j : Nat} {pos : Pos} : DenE G k sx (.Constant (.int i) j pos) (fun st => some (.int i, st.H)) := fun _ _ I e => by
  cases e; exact .now I.bas.rep fun Q q => wpAny_Constant_int (q _ _ ⟨_, rfl⟩)
theorem den_str {i : Str} {j : Nat} {pos : Pos} : DenE G k sx (.Constant (.str i) j pos) (fun st => some (.str i, st.H)) := fun _ _ I e => by
  cases e; exact .now I.bas.rep fun Q q => wpAny_Constant_str (q _ _ ⟨_, rfl⟩)
theorem den_none {j : Nat} {pos : Pos} : DenE G k sx (.Constant .none j pos) (fun st => some (.val .none, st.H)) := fun _ _ I e => by
  cases e; exact .now I.bas.rep fun Q q => wpAny_Constant_none (q _ _ rfl)
theorem den_bool {b : Bool} {j : Nat} {pos : Pos} : DenE G k sx (.Constant (.bool b) j pos) (fun st => some (bv b, st.H)) := fun _ _ I e => by
  cases e; exact .now I.bas.rep fun Q q => wpAny_Constant_bool (q _ _ rfl)

def nthV (vs : List (Option MV)) (i : Nat) : Option (Option MV) := @List.rec (Option MV) (fun _ => Nat → Option (Option MV)) (fun _ => none) (fun a _ ih i => @Nat.rec (fun _ => Option (Option MV)) (some a) (fun j _ => ih j) i) vs i
theorem nthV_eq : ∀ (vs : List (Option MV)) (i : Nat), nthV vs i = vs[i]?
  | [], _ => by simp [nthV]
  | a :: r, 0 => rfl
  | a :: r, i + 1 => by rw [List.getElem?_cons_succ]; exact nthV_eq r i
def getv (st : St) (i : Nat) : Option (MV × MH) := match nthV st.vs i with
  | some (some (.clo ..)) => none
  | some (some v) => some (v, st.H)
  | _ => none
theorem getv_some {st : St} {i : Nat} {v : MV} {H' : MH} (e : getv st i = some (v, H')) : st.vs[i]? = some (some v) ∧ H' = st.H ∧ ∀ c l lc, v ≠ .clo c l lc := by
  unfold getv at e
  rw [nthV_eq] at e
  split at e
  · cases e
  · rename_i w hw hn
    cases e
    exact ⟨hn, rfl, hw⟩
  · cases e

theorem den_local {x : Str} {pos : Pos} (i : Nat) (hi : sx.slots[i]? = some x) (hk : sx.kindOf x = some .local) (hd : (x == ("__debug__" : Str)) = false) : DenE G k sx (.Name x pos) (fun st => getv st i) := fun F _ I e => by
  obtain ⟨h1, rfl, h3⟩ := getv_some e
  obtain ⟨m, hn, hv⟩ := I.ns
  obtain ⟨w, hm, r⟩ := hv i x _ hi hk h1
  refine .now I.bas.rep fun Q q => wpAny_Name (wpAny_loadName_local (by rw [F.scope]; exact F.kind) (by show Env.kindOf _ _ = _; unfold Env.kindOf; rw [F.scope]; exact hk) hn hm (q w _ (vr_of_vra r h3))) hd
theorem den_cell {x : Str} {pos : Pos} (i : Nat) (hi : sx.slots[i]? = some x) (hk : sx.kindOf x = some .cell ∨ sx.kindOf x = some .free) (hd : (x == ("__debug__" : Str)) = false) (hc : (x == ("__classdict__" : Str)) = false) : DenE G k sx (.Name x pos) (fun st => getv st i) := fun F _ I e => by
  obtain ⟨h1, rfl, h3⟩ := getv_some e
  obtain ⟨c, w, hl, hv, r⟩ := I.cel i x _ hi hk h1
  refine .now I.bas.rep fun Q q => wpAny_Name ?_ hd
  rcases hk with hk | hk
  · exact wpAny_loadName_cell (by rw [F.scope]; exact F.kind) (by unfold Env.kindOf; rw [F.scope]; exact hk) hl hv (q w _ r)
  · exact wpAny_loadName_free (by rw [F.scope]; exact F.kind) (by unfold Env.kindOf; rw [F.scope]; exact hk) hl hv (q w _ r) hc

theorem Bas.ns {ρ : Nat → Addr} {H : MH} {s : Shared} (B : Bas G ρ H s) {a : Addr} {m : Str → Option Value} (h : G.h₀.Ns a m) : s.heap.Ns a m := h.keeps fun b o e => (B.base b o e).1
theorem Bas.K {ρ : Nat → Addr} {H : MH} {s : Shared} (B : Bas G ρ H s) : G.K.In s.heap := G.X.keeps fun b o e => (B.base b o e).1
theorem Bas.nolimit {ρ : Nat → Addr} {H : MH} {s : Shared} (B : Bas G ρ H s) : s.heap.NoLimit := G.T.nolimit.keeps fun b o e => (B.base b o e).1

theorem den_glob {x : Str} {pos : Pos} {v : Value} (hk : sx.kindOf x = some .globalImplicit) (e' : nsIn G.K mainGlobals x = some (some v)) (hd : (x == ("__debug__" : Str)) = false) : DenE G k sx (.Name x pos) (fun st => some (.val v, st.H)) := fun F _ I e => by
  cases e
  exact .now I.bas.rep fun Q q => Name_function_global (by rw [F.scope]; exact F.kind) (by unfold Env.kindOf; rw [F.scope]; exact hk) (loadGlobal_global (by rw [F.glo]; exact I.bas.ns G.T.g) (mg_of G.X G.T.g e') (q v _ rfl)) hd
theorem den_builtin {x : Str} {pos : Pos} {v : Value} (hk : sx.kindOf x = some .globalImplicit) (e' : nsIn G.K mainGlobals x = some none) (hv : bootBuiltins x = some v) (hn : x ≠ "__name__") (hd : (x == ("__debug__" : Str)) = false) : DenE G k sx (.Name x pos) (fun st => some (.val v, st.H)) := fun F _ I e => by
  cases e
  exact .now I.bas.rep fun Q q => Name_function_global (by rw [F.scope]; exact F.kind) (by unfold Env.kindOf; rw [F.scope]; exact hk)
    (loadGlobal_builtin (by rw [F.glo]; exact I.bas.ns G.T.g) (mg_none_of G.X G.T.g e') (by rw [F.bui]; exact I.bas.ns G.T.b) ((G.T.builtins x hn).trans hv) (q v _ rfl)) hd

abbrev seq2 (d : St → Option (MV × MH)) (d' : St → Option (MV × MH)) (f : MV → MV → MH → Option (MV × MH)) (st : St) : Option (MV × MH) := (d st).bind fun p => (d' ⟨st.vs, p.2⟩).bind fun q => f p.1 q.1 q.2

theorem den_bin {l r : Expr} {op : Operator} {pos : Pos} {dl dr : St → Option (MV × MH)} {f : MV → MV → MH → Option (MV × MH)}
    (ok : ∀ {A : Around} {ρ : Nat → Addr} {H H' : MH} {s : Shared} {x y z : MV} {a b : Value}, Rep G.P ρ H s.heap → vr ρ H.n x a → vr ρ H.n y b → f x y H = some (z, H') → EvX G.M G.P A vr (binaryOp op a b) ρ H s z H')
    (hl : DenE G k sx l dl) (hr : DenE G k sx r dr) : DenE G k sx (.BinOp l op r pos) (seq2 dl dr f) := fun F B I e => by
  obtain ⟨⟨x, H₁⟩, e1, e⟩ := Option.bind_eq_some_iff.mp e
  obtain ⟨⟨y, H₂⟩, e2, e⟩ := Option.bind_eq_some_iff.mp e
  refine fun Q q => wpAny_BinOp (hl F B I e1 _ fun a s₁ ρ₁ a₁ r₁ v₁ => hr F B (I.after a₁ r₁) e2 _ fun b s₂ ρ₂ a₂ r₂ v₂ => ok r₂ (vr_mono a₂.le a₂.agree v₁) v₂ e _ fun c s₃ ρ₃ a₃ r₃ v₃ => q c s₃ ρ₃ ((a₁.trans a₂).trans a₃) r₃ v₃)

/-- a comparison's value -/
def OpB (G : Gl) (op : CmpOp) (f : MV → MV → MH → Option Bool) : Prop :=
  ∀ {A : Around} {ρ : Nat → Addr} {H : MH} {s : Shared} {x y : MV} {a b : Value} {c : Bool}, Bud A 8 → Rep G.P ρ H s.heap → vr ρ H.n x a → vr ρ H.n y b → f x y H = some c → EvX G.M G.P A vr (compareOp op a b) ρ H s (bv c) H
theorem opB_eq : OpB G .Eq eqop := fun B R hx hy e => eqop_ok B R hx hy e
theorem opB_ne : OpB G .NotEq (fun x y H => (eqop x y H).map (!·)) := fun B R hx hy e => by
  obtain ⟨c, e1, rfl⟩ := Option.map_eq_some_iff.mp e
  exact neop_ok B R hx hy e1
theorem opB_lt : OpB G .Lt (fun x y _ => ltop x y) := fun _ R hx hy e => ltop_ok R hx hy e
theorem opB_le : OpB G .LtE (fun x y _ => leop x y) := fun _ R hx hy e => leop_ok R hx hy e
theorem opB_gt : OpB G .Gt (fun x y _ => ltop y x) := fun _ R hx hy e => gtop_ok R hx hy e
theorem opB_ge : OpB G .GtE (fun x y _ => leop y x) := fun _ R hx hy e => geop_ok R hx hy e
theorem opB_is : OpB G .Is (fun x y _ => isop x y) := fun _ R hx hy e => by
  obtain ⟨h1, h2⟩ := isop_val (G := G) (h := {}) (free := fun _ => True) (vra_of_vr hx) hy e
  exact .now R fun Q q => wpAny_is_plain h1 (by rw [h2]; exact q _ _ rfl)
theorem opB_isNot : OpB G .IsNot (fun x y _ => (isop x y).map (!·)) := fun _ R hx hy e => by
  obtain ⟨c, e1, rfl⟩ := Option.map_eq_some_iff.mp e
  obtain ⟨h1, h2⟩ := isop_val (G := G) (h := {}) (free := fun _ => True) (vra_of_vr hx) hy e1
  exact .now R fun Q q => wpAny_isNot_plain h1 (by rw [h2]; exact q _ _ rfl)
theorem opB_in : OpB G .In inop := fun _ R hx hy e => inop_ok R hx hy e
theorem opB_notIn : OpB G .NotIn (fun x y H => (inop x y H).map (!·)) := fun _ R hx hy e => by
  obtain ⟨c, e1, rfl⟩ := Option.map_eq_some_iff.mp e
  exact notInop_ok R hx hy e1

theorem eval_Compare1 (l r : Expr) (op : CmpOp) (pos : Pos) (env : Env) (h : behindInMarks op r = false) : eval (.Compare l [op] [r] pos) env = (do let a ← eval l env; let b ← holding [a] (eval r env); standAt pos; operate [a, b] (compareOp op a b)) := by
  show (do let a ← eval l env; compareChain pos a [op] (markedEach [op] [r] (evalEach [r] env))) = _
  simp only [evalEach, markedEach, markedBehindIn, h, compareChain]

theorem wpAny_Compare1 {M : Model} {A : Around} {E : Value → Shared → Prop} {s : Shared} {env : Env} {l r : Expr} {op : CmpOp} {pos : Pos} {Q : Value → Shared → Prop}
    (h : wpAny M A (eval l env) (fun a s₁ => wpAny M A (eval r env) (fun b s₂ => wpAny M A (compareOp op a b) Q E s₂) E s₁) E s) (hm : behindInMarks op r = false) : wpAny M A (eval (.Compare l [op] [r] pos) env) Q E s := by
  rw [eval_Compare1 _ _ _ _ _ hm]
  exact wpAny_bind (wpAny_mono h (fun a s₁ h₁ => wpAny_bind (wpAny_holding (wpAny_mono h₁ (fun b s₂ h₂ => wpAny_bind (wpAny_standAt (wpAny_operateT h₂))) fun _ _ x => x))) fun _ _ x => x)

abbrev cmp2 (dl dr : St → Option (MV × MH)) (f : MV → MV → MH → Option Bool) (st : St) : Option (Bool × MH) := (dl st).bind fun p => (dr ⟨st.vs, p.2⟩).bind fun q => (f p.1 q.1 q.2).map fun c => (c, q.2)

theorem cmp_core {l r : Expr} {op : CmpOp} {dl dr : St → Option (MV × MH)} {f : MV → MV → MH → Option Bool} (ok : OpB G op f) (hl : DenE G k sx l dl) (hr : DenE G k sx r dr) (h8 : 8 ≤ k)
    {env : Env} {A : Around} {ρ : Nat → Addr} {st : St} {s : Shared} {c : Bool} {H' : MH} (F : Fst G env sx) (B : Bud A k) (I : InF G env sx ρ st s) (e : cmp2 dl dr f st = some (c, H')) {Q : Value → Shared → Prop}
    (q : ∀ s' ρ', Aft ρ ρ' st.H H' s s' NoEx → Rep G.P ρ' H' s'.heap → Q (.bool c) s') :
    wpAny G.M A (eval l env) (fun a s₁ => wpAny G.M A (eval r env) (fun b s₂ => wpAny G.M A (compareOp op a b) Q (fun _ _ => False) s₂) (fun _ _ => False) s₁) (fun _ _ => False) s := by
  obtain ⟨⟨x, H₁⟩, e1, e⟩ := Option.bind_eq_some_iff.mp e
  obtain ⟨⟨y, H₂⟩, e2, e⟩ := Option.bind_eq_some_iff.mp e
  obtain ⟨c', e3, e⟩ := Option.map_eq_some_iff.mp e
  cases e
  exact hl F B I e1 _ fun a s₁ ρ₁ a₁ r₁ v₁ => hr F B (I.after a₁ r₁) e2 _ fun b s₂ ρ₂ a₂ r₂ v₂ => ok (B.le h8) r₂ (vr_mono a₂.le a₂.agree v₁) v₂ e3 _ fun w s₃ ρ₃ a₃ r₃ v₃ => by
    cases v₃; exact q s₃ ρ₃ ((a₁.trans a₂).trans a₃) r₃

theorem den_cmp {l r : Expr} {op : CmpOp} {pos : Pos} {dl dr : St → Option (MV × MH)} {f : MV → MV → MH → Option Bool} (ok : OpB G op f) (hl : DenE G k sx l dl) (hr : DenE G k sx r dr) (h8 : 8 ≤ k) (hm : behindInMarks op r = false) :
    DenE G k sx (.Compare l [op] [r] pos) (fun st => (cmp2 dl dr f st).map fun p => (bv p.1, p.2)) := fun F B I e => by
  obtain ⟨⟨c, H₁⟩, e1, e⟩ := Option.map_eq_some_iff.mp e
  cases e
  exact fun Q q => wpAny_Compare1 (cmp_core ok hl hr h8 F B I e1 fun s' ρ' a r => q _ s' ρ' a r rfl) hm
theorem denB_cmp {l r : Expr} {op : CmpOp} {pos : Pos} {dl dr : St → Option (MV × MH)} {f : MV → MV → MH → Option Bool} (ok : OpB G op f) (hl : DenE G k sx l dl) (hr : DenE G k sx r dr) (h8 : 8 ≤ k) (hm : behindInMarks op r = false) :
    DenB G k sx (.Compare l [op] [r] pos) (cmp2 dl dr f) := fun F B I e =>
  fun Q q => wpAny_isTrue_Compare1 (cmp_core (Q := fun c s₃ => wpAny G.M _ (truthy c) Q (fun _ _ => False) s₃) ok hl hr h8 F B I e fun s' ρ' a r => wpAny_truthy_bool (q _ s' ρ' a r rfl)) hm

/-- a value as a test -/
theorem denB_val {e : Expr} {d : St → Option (MV × MH)} (h : DenE G k sx e d) (hs : ∀ env, isTrue e env (eval e env) = (do let v ← eval e env; standAt e.pos; holding [v] (truthy v))) :
    DenB G k sx e (fun st => (d st).bind fun p => (truth p.1 p.2).map fun c => (c, p.2)) := fun F B I e => by
  obtain ⟨⟨x, H₁⟩, e1, e⟩ := Option.bind_eq_some_iff.mp e
  obtain ⟨c', e3, e⟩ := Option.map_eq_some_iff.mp e
  cases e
  exact fun Q q => wpAny_isTrue_value (h F B I e1 _ fun a s₁ ρ₁ a₁ r₁ v₁ => truth_ok r₁ v₁ e3 _ fun b s₂ ρ₂ a₂ r₂ v₂ => q b s₂ ρ₂ (a₁.trans a₂) r₂ v₂) (hs _)

def isNone (i : Nat) (st : St) : Option (Bool × MH) := match st.vs[i]? with
  | some (some v) => (isop v (.val .none)).map fun c => (c, st.H)
  | _ => none
/-- 'x is None' of a local, a closure too -/
theorem denB_isNone {x : Str} {pos p1 p2 : Pos} {j : Nat} (i : Nat) (hi : sx.slots[i]? = some x) (hk : sx.kindOf x = some .local) (hd : (x == ("__debug__" : Str)) = false) :
    DenB G k sx (.Compare (.Name x p1) [.Is] [.Constant .none j p2] pos) (isNone i) := fun F B I e => by
  unfold isNone at e
  split at e
  · rename_i w h1
    obtain ⟨c, e3, e⟩ := Option.map_eq_some_iff.mp e
    cases e
    obtain ⟨m, hn, hv⟩ := I.ns
    obtain ⟨a, hm, r⟩ := hv i x _ hi hk h1
    obtain ⟨q1, q2⟩ := isop_val (y := .val .none) (b := .none) r rfl e3
    refine .now I.bas.rep fun Q q => wpAny_isTrue_Compare1 (wpAny_Name (wpAny_loadName_local (by rw [F.scope]; exact F.kind) (by unfold Env.kindOf; rw [F.scope]; exact hk) hn hm
      (wpAny_Constant_none (wpAny_is_plain q1 (wpAny_truthy_bool (by rw [q2]; exact q _ _ rfl))))) hd) rfl
  · cases e

theorem den_ifexp {t a b : Expr} {pos : Pos} {dt : St → Option (Bool × MH)} {da db : St → Option (MV × MH)} (ht : DenB G k sx t dt) (ha : DenE G k sx a da) (hb : DenE G k sx b db) :
    DenE G k sx (.IfExp t a b pos) (fun st => (dt st).bind fun p => if p.1 then da ⟨st.vs, p.2⟩ else db ⟨st.vs, p.2⟩) := fun F B I e => by
  obtain ⟨⟨c, H₁⟩, e1, e⟩ := Option.bind_eq_some_iff.mp e
  refine fun Q q => wpAny_IfExp (ht F B I e1 _ fun c' s₁ ρ₁ a₁ r₁ v₁ => ?_)
  subst v₁
  cases c'
  · exact hb F B (I.after a₁ r₁) e _ fun c s₃ ρ₃ a₃ r₃ v₃ => q c s₃ ρ₃ (a₁.trans a₃) r₃ v₃
  · exact ha F B (I.after a₁ r₁) e _ fun c s₃ ρ₃ a₃ r₃ v₃ => q c s₃ ρ₃ (a₁.trans a₃) r₃ v₃

theorem denB_and2 {a b : Expr} {pos : Pos} {da db : St → Option (Bool × MH)} (ha : DenB G k sx a da) (hb : DenB G k sx b db) :
    DenB G k sx (.BoolOp .And [a, b] pos) (fun st => (da st).bind fun p => if p.1 then db ⟨st.vs, p.2⟩ else some (false, p.2)) := fun F B I e => by
  obtain ⟨⟨c, H₁⟩, e1, e⟩ := Option.bind_eq_some_iff.mp e
  refine fun Q q => wpAny_isTrue_BoolOp (wpAny_allTrue_And_cons (ha F B I e1 _ fun c' s₁ ρ₁ a₁ r₁ v₁ => ?_))
  subst v₁
  cases c'
  · cases e; exact q _ s₁ ρ₁ a₁ r₁ rfl
  · refine wpAny_allTrue_And_cons (hb F B (I.after a₁ r₁) e _ fun c'' s₂ ρ₂ a₂ r₂ v₂ => ?_)
    have z := q c'' s₂ ρ₂ (a₁.trans a₂) r₂ v₂
    cases c''
    · exact z
    · exact wpAny_allTrue_And_nil z

theorem den_and2 {a b : Expr} {pos : Pos} {da db : St → Option (MV × MH)} (ha : DenE G k sx a da) (hb : DenE G k sx b db) :
    DenE G k sx (.BoolOp .And [a, b] pos) (fun st => (da st).bind fun p => (truth p.1 p.2).bind fun c => if c then db ⟨st.vs, p.2⟩ else some p) := fun F B I e => by
  obtain ⟨⟨x, H₁⟩, e1, e⟩ := Option.bind_eq_some_iff.mp e
  obtain ⟨c, e2, e⟩ := Option.bind_eq_some_iff.mp e
  refine fun Q q => ?_
  show wpAny G.M _ (boolOp pos .And [eval a _, eval b _]) Q _ _
  unfold boolOp
  refine wpAny_bind (ha F B I e1 _ fun v s₁ ρ₁ a₁ r₁ v₁ => wpAny_bind (wpAny_standAt (wpAny_bind (wpAny_holding (truth_ok r₁ v₁ e2 _ fun t s₂ ρ₂ a₂ r₂ v₂ => ?_)))))
  subst v₂
  cases t
  · cases e; exact wpAny_pure (q v s₂ ρ₂ (a₁.trans a₂) r₂ (vr_mono a₂.le a₂.agree v₁))
  · unfold boolOp
    exact hb F B ((I.after a₁ r₁).after a₂ r₂) e _ fun c s₃ ρ₃ a₃ r₃ v₃ => q c s₃ ρ₃ ((a₁.trans a₂).trans a₃) r₃ v₃

/-! displays -/
theorem dens_nil : DenEs G k sx [] (fun st => some ([], st.H)) := fun _ _ I e pos => by
  cases e; exact .now I.bas.rep fun Q q => spliced_nil (q _ _ .nil)
theorem dens_cons {e : Expr} {es : List Expr} {d : St → Option (MV × MH)} {ds : St → Option (List MV × MH)} (h : DenE G k sx e d) (hs : DenEs G k sx es ds)
    (hst : ∀ env, starEach (e :: es) env = (false, eval e env) :: starEach es env) : DenEs G k sx (e :: es) (fun st => (d st).bind fun p => (ds ⟨st.vs, p.2⟩).bind fun q => some (p.1 :: q.1, q.2)) := fun {env} {A} {ρ} {st} {s} {v} {H'} F B I e pos => by
  obtain ⟨⟨x, H₁⟩, e1, e⟩ := Option.bind_eq_some_iff.mp e
  obtain ⟨⟨xs, H₂⟩, e2, e⟩ := Option.bind_eq_some_iff.mp e
  cases e
  rw [hst]
  exact fun Q q => spliced_cons (h F B I e1 _ fun a s₁ ρ₁ a₁ r₁ v₁ => hs F B (I.after a₁ r₁) e2 pos _ fun vs s₂ ρ₂ a₂ r₂ v₂ => q _ s₂ ρ₂ (a₁.trans a₂) r₂ (.cons (vr_mono a₂.le a₂.agree v₁) v₂))

theorem den_list {es : List Expr} {pos : Pos} {ds : St → Option (List MV × MH)} (hs : DenEs G k sx es ds) :
    DenE G k sx (.List es pos) (fun st => (ds st).bind fun p => if p.1.length ≤ 100000 then some (.ref p.2.n, p.2.push (.list p.1)) else none) := fun F B I e => by
  obtain ⟨⟨xs, H₁⟩, e1, e⟩ := Option.bind_eq_some_iff.mp e
  dsimp only at e
  split at e
  · rename_i hl
    cases e
    refine fun Q q => wpAny_List_spliced (hs F B I e1 pos _ fun vs s₁ ρ₁ a₁ r₁ v₁ => ⟨by rw [v₁.length]; exact Nat.le_trans hl (by decide), ?_⟩)
    obtain ⟨a, r⟩ := push_new (tk := s₁.toks) (ex := NoEx) (o := .list xs) r₁ (fresh_none (Nat.le_refl _)) (Heap.get?_push_size _ rfl) ⟨vs, 0, rfl, v₁.mono (Nat.le_succ _) ext_lt⟩ (fun b x e => Heap.get?_push_of_some _ e)
    exact q _ _ _ (a₁.trans a) r ⟨Nat.lt_succ_self _, by rw [ext_self]⟩
  · cases e
theorem den_tuple {es : List Expr} {j : Nat} {pos : Pos} {ds : St → Option (List MV × MH)} (hs : DenEs G k sx es ds) :
    DenE G k sx (.Tuple es j pos) (fun st => (ds st).bind fun p => if p.1.length ≤ 100000 then some (.ref p.2.n, p.2.push (.tup p.1)) else none) := fun F B I e => by
  obtain ⟨⟨xs, H₁⟩, e1, e⟩ := Option.bind_eq_some_iff.mp e
  dsimp only at e
  split at e
  · rename_i hl
    cases e
    refine fun Q q => wpAny_Tuple_spliced (hs F B I e1 pos _ fun vs s₁ ρ₁ a₁ r₁ v₁ => ⟨by rw [v₁.length]; exact Nat.le_trans hl (by decide), ?_⟩)
    obtain ⟨a, r⟩ := push_new (tk := s₁.toks) (ex := NoEx) (o := .tup xs) r₁ (fresh_none (Nat.le_refl _)) (Heap.get?_push_size _ rfl) ⟨vs, 0, rfl, v₁.mono (Nat.le_succ _) ext_lt⟩ (fun b x e => Heap.get?_push_of_some _ e)
    exact q _ _ _ (a₁.trans a) r ⟨Nat.lt_succ_self _, by rw [ext_self]⟩
  · cases e

end
end Q
end Mini

open PySem PySem.W PySem.Calls PyProof.Rows
namespace Mini
noncomputable section Q

inductive KWs (ρ : Nat → Addr) (n : Nat) : List (Str × MV) → List (Str × Value) → Prop
  | nil : KWs ρ n [] []
  | cons {x m v ks vs} : vr ρ n m v → KWs ρ n ks vs → KWs ρ n ((x, m) :: ks) ((x, v) :: vs)

/-- a callable and what a call of it makes -/
def FnDen (G : Gl) (k : Nat) (f : Value) (g : List MV → List (Str × MV) → MH → Option (MV × MH)) : Prop :=
  ∀ {A : Around} {ρ : Nat → Addr} {H H' : MH} {s : Shared} {xs : List MV} {vs : List Value} {ks : List (Str × MV)} {kvs : List (Str × Value)} {r : MV}, Bud A k → Bas G ρ H s → VRs ρ H.n xs vs → KWs ρ H.n ks kvs →
    g xs ks H = some (r, H') → EvX G.M G.P A vr (call f vs kvs) ρ H s r H'
theorem FnDen.le {G : Gl} {k k' : Nat} {f : Value} {g : List MV → List (Str × MV) → MH → Option (MV × MH)} (h : FnDen G k f g) (hk : k ≤ k') : FnDen G k' f g := fun B => h (B.le hk)
/-- a narrower function will do -/
theorem FnDen.sub {G : Gl} {k : Nat} {f : Value} {g g' : List MV → List (Str × MV) → MH → Option (MV × MH)} (h : FnDen G k f g) (hs : ∀ xs ks H r, g' xs ks H = some r → g xs ks H = some r) : FnDen G k f g' :=
  fun B b v kv e => h B b v kv (hs _ _ _ _ e)

section
variable {G : Gl} {A : Around} {ρ : Nat → Addr} {H H' : MH} {s : Shared} {x y r : MV} {a b : Value} {k : Nat}

/-- nothing owned turns; garbage may grow -/
theorem EvX.grown {M : Model} {P : Params} {β α : Type} {rel : (Nat → Addr) → Nat → β → α → Prop} {t : Sem α} {r : β} (R : Rep P ρ H s.heap)
    (h : ∀ Q : α → Shared → Prop, (∀ a h' tk, (∀ b o, s.heap.get? b = some o → h'.get? b = some o) → rel ρ H.n r a → Q a { s with heap := h', toks := tk }) → wpAny M A t Q (fun _ _ => False) s) : EvX M P A rel t ρ H s r H :=
  fun Q q => h Q fun a h' tk k z => q a _ ρ (.garbage k) (R.garbage k) z
/-- one new owned object; garbage may grow -/
theorem EvX.grownPush {M : Model} {P : Params} {t : Sem Value} {o : MO} (R : Rep P ρ H s.heap)
    (h : ∀ Q : Value → Shared → Prop, (∀ a ob h' tk, (∀ b o, s.heap.get? b = some o → h'.get? b = some o) → s.heap.get? a = none → h'.get? a = some ob → orep P (ext ρ H.n a) (H.n + 1) o ob → Q (.ref a) { s with heap := h', toks := tk }) → wpAny M A t Q (fun _ _ => False) s) :
    EvX M P A vr t ρ H s (.ref H.n) (H.push o) :=
  fun Q q => h Q fun a ob h' tk k ha hob hr => by
    obtain ⟨x, y⟩ := push_new (tk := tk) (ex := NoEx) R ha hob hr k
    exact q _ _ _ x y ⟨Nat.lt_succ_self _, by rw [ext_self]⟩

/-! len -/
def lenF : List MV → List (Str × MV) → MH → Option (MV × MH)
  | [.ref l], [], H => match H.get l with
    | some (.list xs) => if xs.length ≤ 100000 then some (.int xs.length, H) else none
    | _ => none
  | _, _, _ => none
theorem den_len : FnDen G k (.builtin "len") lenF := fun {_} {_} {_} {_} {s} {_} {_} {_} {_} {_} B b v kv e => by
  unfold lenF at e
  split at e
  · split at e
    · rename_i h1
      split at e
      · rename_i hl; cases e
        cases kv; cases v with | cons hv hn => ?_
        cases hn
        obtain ⟨_, rfl⟩ := hv
        obtain ⟨vs, n1, g1, v1⟩ := rep_list b.rep h1
        exact .now b.rep fun Q q => call_len_list (isList_of g1) (by rw [List.size_toArray, v1.length]; omega) (q _ _ ⟨s.toks + 1, by rw [List.size_toArray, v1.length]⟩)
      · cases e
    · cases e
  · cases e

/-! range -/
def rangeF : List MV → List (Str × MV) → MH → Option (MV × MH)
  | [.int n], [], H => if small n then some (.ref H.n, H.push (.range 0 n)) else none
  | [.int a, .int b], [], H => if small a && small b then some (.ref H.n, H.push (.range a b)) else none
  | _, _, _ => none
theorem den_range : FnDen G k (.type "range") rangeF := fun B b v kv e => by
  unfold rangeF at e
  split at e
  · split at e
    · cases e
      cases kv; cases v with | cons hv hn => ?_
      cases hn
      obtain ⟨t, rfl⟩ := hv
      exact .push b.rep fun Q q => call_range_1 (q _ _ ⟨_, _, _, rfl⟩)
    · cases e
  · split at e
    · cases e
      cases kv; cases v with | cons hv hn => ?_
      cases hn with | cons hv2 hn => ?_
      cases hn
      obtain ⟨t, rfl⟩ := hv
      obtain ⟨t2, rfl⟩ := hv2
      exact .push b.rep fun Q q => call_range_2 (q _ _ ⟨_, _, _, rfl⟩)
    · cases e
  · cases e

/-! chr, str, int -/
def chrF : List MV → List (Str × MV) → MH → Option (MV × MH)
  | [.int n], [], H => if 0 ≤ n ∧ n ≤ 1114111 then some (.str ⟨#[n.toNat]⟩, H) else none
  | _, _, _ => none
theorem den_chr : FnDen G k (.builtin "chr") chrF := fun B b v kv e => by
  unfold chrF at e
  split at e
  · split at e
    · rename_i hl
      cases e
      cases kv; cases v with | cons hv hn => ?_
      cases hn
      obtain ⟨t, rfl⟩ := hv
      exact .now b.rep fun Q q => chr_of_range hl.1 hl.2 (q _ _ ⟨_, rfl⟩)
    · cases e
  · cases e
def strIF : List MV → List (Str × MV) → MH → Option (MV × MH)
  | [.int n], [], H => if small n then some (.str (toString n : String), H) else none
  | _, _, _ => none
theorem den_strI : FnDen G k (.type "str") strIF := fun B b v kv e => by
  unfold strIF at e
  split at e
  · split at e
    · rename_i hl
      cases e
      cases kv; cases v with | cons hv hn => ?_
      cases hn
      obtain ⟨t, rfl⟩ := hv
      refine .now b.rep fun Q q => PySem.P.str_of_int ?_ (q _ _ ⟨_, rfl⟩)
      rename_i n
      simp only [small, Bool.and_eq_true, decide_eq_true_eq] at hl
      by_cases h0 : n.natAbs = 0
      · rw [h0]; decide
      · exact Nat.lt_trans ((Nat.log2_lt (n := n.natAbs) (k := 63) h0).mpr (by omega)) (by decide)
    · cases e
  · cases e
def intSF : List MV → List (Str × MV) → MH → Option (MV × MH)
  | [.str x], [], H => if x.length ≤ 640 then (PySem.intText? x).map fun n => (.int n, H) else none
  | _, _, _ => none
theorem den_intS : FnDen G k (.type "int") intSF := fun B b v kv e => by
  unfold intSF at e
  split at e
  · split at e
    · rename_i hl
      obtain ⟨n, hn', e⟩ := Option.map_eq_some_iff.mp e
      cases e
      cases kv; cases v with | cons hv hn => ?_
      cases hn
      obtain ⟨t, rfl⟩ := hv
      exact .now b.rep fun Q q => PySem.W.KIN.call_text hn' hl (q _ _ ⟨_, rfl⟩)
    · cases e
  · cases e

/-! min, max, sum -/
def maxF : List MV → List (Str × MV) → MH → Option (MV × MH)
  | [.int a, .int b], [], H => some (.int (if b > a then b else a), H)
  | _, _, _ => none
theorem den_max : FnDen G k (.builtin "max") maxF := fun B b v kv e => by
  unfold maxF at e
  split at e
  · cases e
    cases kv; cases v with | cons hv hn => ?_
    cases hn with | cons hv2 hn => ?_
    cases hn
    obtain ⟨t, rfl⟩ := hv
    obtain ⟨t2, rfl⟩ := hv2
    refine .grown b.rep fun Q q => max_two_ints B.h fun h' tk k => q _ _ _ k ?_
    split
    · exact ⟨_, rfl⟩
    · exact ⟨_, rfl⟩
  · cases e
def minF : List MV → List (Str × MV) → MH → Option (MV × MH)
  | [.int a, .int b], [], H => some (.int (if b < a then b else a), H)
  | _, _, _ => none
theorem den_min : FnDen G k (.builtin "min") minF := fun B b v kv e => by
  unfold minF at e
  split at e
  · cases e
    cases kv; cases v with | cons hv hn => ?_
    cases hn with | cons hv2 hn => ?_
    cases hn
    obtain ⟨t, rfl⟩ := hv
    obtain ⟨t2, rfl⟩ := hv2
    refine .grown b.rep fun Q q => min_two_ints B.h fun h' tk k => q _ _ _ k ?_
    split
    · exact ⟨_, rfl⟩
    · exact ⟨_, rfl⟩
  · cases e
def sumF : List MV → List (Str × MV) → MH → Option (MV × MH)
  | [.ref l], [], H => match H.get l with
    | some (.list xs) => (intsOf xs).map fun ns => (.int ns.sum, H)
    | _ => none
  | _, _, _ => none
theorem den_sum : FnDen G k (.builtin "sum") sumF := fun B b v kv e => by
  unfold sumF at e
  split at e
  · split at e
    · rename_i h1
      obtain ⟨ns, e1, e⟩ := Option.map_eq_some_iff.mp e
      cases e
      cases kv; cases v with | cons hv hn => ?_
      cases hn
      obtain ⟨_, rfl⟩ := hv
      obtain ⟨vs, n1, g1, v1⟩ := rep_list b.rep h1
      have hi := intsAre_of v1 e1
      obtain ⟨xs, ex⟩ := hi.allInts.items
      have hns : ns = xs.toList.map (·.1) := by rw [← hi.numsOf, ← nums_intItems, ← ex]
      have hl := isList_of g1
      rw [ex] at hl
      refine .grown b.rep fun Q q => sum_intListG B.h hl fun h' tk t' k => q _ _ _ k ⟨t', ?_⟩
      rw [preSum_eq, List.take_of_length_le (by simp), hns]
    · cases e
  · cases e

/-! list(range), tuple(list) -/
def upto (a : Int) : Nat → List MV
  | 0 => []
  | n + 1 => .int a :: upto (a + 1) n
theorem upto_length : ∀ (n : Nat) (a : Int), (upto a n).length = n
  | 0, _ => rfl
  | n + 1, a => by simp [upto, upto_length n]
theorem upto_get : ∀ (n : Nat) (a : Int) (i : Nat), i < n → (upto a n)[i]? = some (.int (a + i))
  | n + 1, a, 0, _ => by simp [upto]
  | n + 1, a, i + 1, h => by
    have := upto_get n (a + 1) i (by omega)
    simp only [upto, List.getElem?_cons_succ, this, Option.some.injEq, MV.int.injEq]
    omega
theorem VRs.of_get {n : Nat} : ∀ {xs : List MV} {vs : List Value}, xs.length = vs.length → (∀ (i : Nat) x v, xs[i]? = some x → vs[i]? = some v → vr ρ n x v) → VRs ρ n xs vs
  | [], [], _, _ => .nil
  | x :: xs, v :: vs, hl, h => .cons (h 0 x v rfl rfl) (VRs.of_get (by simpa using hl) fun i a b e e' => h (i + 1) a b (by simpa using e) (by simpa using e'))
def listRF : List MV → List (Str × MV) → MH → Option (MV × MH)
  | [.ref l], [], H => match H.get l with
    | some (.range a b) => if small a && small b && ((b - a).toNat ≤ 100000 : Bool) then some (.ref H.n, H.push (.list (upto a (b - a).toNat))) else none
    | _ => none
  | _, _, _ => none
theorem den_listR : FnDen G k (.type "list") listRF := fun B b v kv e => by
  unfold listRF at e
  split at e
  · split at e
    · rename_i h1
      split at e
      · rename_i hs
        cases e
        cases kv; cases v with | cons hv hn => ?_
        cases hn
        obtain ⟨_, rfl⟩ := hv
        rename_i lo hi _
        simp only [small, Bool.and_eq_true, decide_eq_true_eq] at hs
        obtain ⟨ob, g1, t, u, v, rfl⟩ := b.rep.at_ _ _ h1
        have hsz : Builtin.Range.rangeSize lo hi 1 = ((hi - lo).toNat : Int) := by rw [rangeSize_one]; split <;> omega
        refine .grownPush b.rep fun Q q => call_list_range (n := (hi - lo).toNat) B.h g1 (small_one (by omega) (by omega) (by omega) (by omega)) hsz (by omega) fun h' tk acc' c' k hg hi' => ?_
        refine q _ _ _ _ k (fresh_none (Nat.le_refl _)) hg ⟨acc'.toList, c', by simp, ?_⟩
        refine VRs.of_get (by rw [upto_length, Array.length_toList]; exact hi'.1.symm) fun i x v e1 e2 => ?_
        have hlt : i < (hi - lo).toNat := by
          have := (List.getElem?_eq_some_iff.mp e1).1
          rwa [upto_length] at this
        rw [upto_get _ _ _ hlt] at e1
        cases e1
        obtain ⟨t, e3⟩ := hi'.2 i v (by simpa using e2)
        exact ⟨t, by rw [e3]; simp⟩
      · cases e
    · cases e
  · cases e
def tupleF : List MV → List (Str × MV) → MH → Option (MV × MH)
  | [.ref l], [], H => match H.get l with
    | some (.list xs) => if xs.length ≤ 10000 then some (.ref H.n, H.push (.tup xs)) else none
    | _ => none
  | _, _, _ => none
theorem den_tupleL : FnDen G k (.type "tuple") tupleF := fun {_} {_} {_} {_} {s} {_} {_} {_} {_} {_} B b v kv e => by
  unfold tupleF at e
  split at e
  · split at e
    · rename_i h1
      split at e
      · rename_i hs
        cases e
        cases kv; cases v with | cons hv hn => ?_
        cases hn
        obtain ⟨_, rfl⟩ := hv
        obtain ⟨vs, n1, g1, v1⟩ := rep_list b.rep h1
        refine .grownPush b.rep fun Q q => call_tuple_list (isList_of g1) (fun h' k => q _ _ _ s.toks (fun b o e => Heap.get?_push_of_some _ (k b o e)) (by
            cases e : s.heap.get? h'.objs.size with
            | none => rfl
            | some o => exact absurd (Heap.lt_size (k _ _ e)) (Nat.lt_irrefl _)) (Heap.get?_push_size _ rfl) ⟨vs, 0, rfl, v1.mono (Nat.le_succ _) ext_lt⟩)
          (by rw [List.size_toArray, v1.length]; exact Nat.le_trans hs (by decide))
      · cases e
    · cases e
  · cases e
end
end Q
end Mini

open PySem PySem.W PySem.Calls PyProof.Rows
set_option maxRecDepth 100000
namespace Mini
noncomputable section Q

section
variable {G : Gl} {k : Nat} {sx : Sx} {A : Around} {ρ : Nat → Addr} {H H' : MH} {s : Shared}

/-! calls by a name -/
def Keeps (G : Gl) (f : Value) : Prop := ∀ h, G.K.In h → ∃ kp, (kp = Keeper.frame ∨ kp = Keeper.machine ∨ kp = Keeper.boundFrame) ∧ Looks G.M h (keeperOf f) kp
theorem keeps_builtin {id : String} : Keeps G (.builtin id) := fun _ _ => ⟨.machine, .inr (.inl rfl), Looks.of_pure rfl⟩
theorem keeps_type {id : String} : Keeps G (.type id) := fun _ _ => ⟨.machine, .inr (.inl rfl), Looks.of_pure rfl⟩
theorem keeps_K' {f : Value} (h : keepIn G.K f = true) : Keeps G f := keeps_K h

theorem evalArgs_any {M : Model} {A : Around} {E : Value → Shared → Prop} {f : Value} {l : List (Bool × Sem Value)} {keywords : List (Option Str × Sem Value)} {Q : Args → Shared → Prop} (hl : l.any (·.1) = false) (hk : keywords.any (·.1.isNone) = false)
    (h : wpAny M A (spliced l) (fun vs s₁ => wpAny M A (evalAll (keywords.map (·.2))) (fun ks s₂ => Q ⟨vs, (keywords.filterMap (·.1)).zip ks⟩ s₂) E s₁) E s) : wpAny M A (evalArgs f true l keywords) Q E s := by
  have hk' : keywords.all (·.1.isSome) = true := by
    rw [List.all_eq_true]
    intro x hx
    rw [List.any_eq_false] at hk
    have := hk x hx
    cases h : x.1 with
    | none => rw [h] at this; exact absurd rfl this
    | some _ => rfl
  cases l with
  | nil =>
    refine evalArgs_kw_nil hk' ?_
    exact fun Γ p hΓ => h Γ p hΓ Γ p hΓ
  | cons p r =>
    obtain ⟨b, x⟩ := p
    have hb : b = false := by
      simp only [List.any_cons, Bool.or_eq_false_iff] at hl
      exact hl.1
    subst hb
    exact evalArgs_kw hk' h

abbrev kwNames (kws : List Keyword) (env : Env) (pos : Pos) : List Str := (backToKw pos (keywordEach kws env)).filterMap (·.1)
def DenKs (G : Gl) (k : Nat) (sx : Sx) (kws : List Keyword) (d : St → Option (List (Str × MV) × MH)) : Prop :=
  ∀ {env : Env} {A : Around} {ρ : Nat → Addr} {st : St} {s : Shared} {v : List (Str × MV)} {H' : MH}, Fst G env sx → Bud A k → InF G env sx ρ st s → d st = some (v, H') →
    ∀ pos, EvX G.M G.P A (fun ρ n ks vs => KWs ρ n ks ((kwNames kws env pos).zip vs)) (evalAll ((backToKw pos (keywordEach kws env)).map (·.2))) ρ st.H s v H'

theorem KWs.mono {ρ ρ' : Nat → Addr} {n n' : Nat} (hn : n ≤ n') (ha : ∀ l, l < n → ρ' l = ρ l) {ks : List (Str × MV)} {vs : List (Str × Value)} (h : KWs ρ n ks vs) : KWs ρ' n' ks vs := by
  induction h with
  | nil => exact .nil
  | cons h _ ih => exact .cons (vr_mono hn ha h) ih
theorem dks_nil : DenKs G k sx [] (fun st => some ([], st.H)) := fun _ _ I e pos => by
  cases e; exact .now I.bas.rep fun Q q => wpAny_evalAll_nil (q _ _ .nil)
theorem dks_cons {x : Str} {e : Expr} {p : Pos} {kws : List Keyword} {d : St → Option (MV × MH)} {ds : St → Option (List (Str × MV) × MH)} (h : DenE G k sx e d) (hs : DenKs G k sx kws ds) :
    DenKs G k sx (⟨some x, e, p⟩ :: kws) (fun st => (d st).bind fun p => (ds ⟨st.vs, p.2⟩).bind fun q => some ((x, p.1) :: q.1, q.2)) := fun F B I e pos => by
  obtain ⟨⟨v, H₁⟩, e1, e⟩ := Option.bind_eq_some_iff.mp e
  obtain ⟨⟨xs, H₂⟩, e2, e⟩ := Option.bind_eq_some_iff.mp e
  cases e
  refine fun Q q => ?_
  refine wpAny_evalAll_cons (wpAny_bind (h F B I e1 _ fun a s₁ ρ₁ a₁ r₁ v₁ => wpAny_bind (wpAny_standAt (wpAny_pure (hs F B (I.after a₁ r₁) e2 pos _ fun vs s₂ ρ₂ a₂ r₂ v₂ => q _ s₂ ρ₂ (a₁.trans a₂) r₂ (.cons (vr_mono a₂.le a₂.agree v₁) v₂))))))

/-- arguments, then the call -/
theorem callWith_den {env : Env} {st : St} {args : List Expr} {kws : List Keyword} {ds : St → Option (List MV × MH)} {dk : St → Option (List (Str × MV) × MH)} {fv : Value} {first : List Value} {firstM : List MV} {g : List MV → List (Str × MV) → MH → Option (MV × MH)} {r : MV} {pos : Pos}
    (hk : Keeps G fv) (ha : DenEs G k sx args ds) (hw : DenKs G k sx kws dk) (hpl : ∀ env pos, (backTo pos (starEach args env)).any (·.1) = false) (hpk : ∀ env pos, (backToKw pos (keywordEach kws env)).any (·.1.isNone) = false) (hf : FnDen G k fv g)
    (F : Fst G env sx) (B : Bud A k) (I : InF G env sx ρ st s) (hfirst : VRs ρ st.H.n firstM first)
    (e : ((ds st).bind fun p => (dk ⟨st.vs, p.2⟩).bind fun q => g (firstM ++ p.1) q.1 q.2) = some (r, H')) :
    EvX G.M G.P A vr (callWith pos fv first (backTo pos (starEach args env)) (backToKw pos (keywordEach kws env))) ρ st.H s r H' := by
  obtain ⟨⟨xs, H₁⟩, e1, e⟩ := Option.bind_eq_some_iff.mp e
  obtain ⟨⟨ks, H₂⟩, e2, e⟩ := Option.bind_eq_some_iff.mp e
  refine fun Q q => callWith_of (P := G.K.In) (by rw [hpl, hpk]; rfl) hk (evalArgs_any (hpl _ _) (hpk _ _) ?_)
  refine ha F B I e1 pos _ fun vs s₁ ρ₁ a₁ r₁ v₁ => hw F B (I.after a₁ r₁) e2 pos _ fun kvs s₂ ρ₂ a₂ r₂ v₂ => ?_
  have I2 := (I.after a₁ r₁).after a₂ r₂
  refine ⟨I2.bas.K, hf B I2.bas ?_ v₂ e _ fun c s₃ ρ₃ a₃ r₃ v₃ => q c s₃ ρ₃ ((a₁.trans a₂).trans a₃) r₃ v₃⟩
  exact ((hfirst.mono a₁.le a₁.agree).append v₁).mono a₂.le a₂.agree

theorem den_call {id : Str} {p pos : Pos} {args : List Expr} {kws : List Keyword} {fv : Value} {ds : St → Option (List MV × MH)} {dk : St → Option (List (Str × MV) × MH)} {g : List MV → List (Str × MV) → MH → Option (MV × MH)}
    (hn : DenE G k sx (.Name id p) (fun st => some (.val fv, st.H))) (hk : Keeps G fv) (ha : DenEs G k sx args ds) (hw : DenKs G k sx kws dk) (hpl : ∀ env pos, (backTo pos (starEach args env)).any (·.1) = false) (hpk : ∀ env pos, (backToKw pos (keywordEach kws env)).any (·.1.isNone) = false) (hf : FnDen G k fv g) :
    DenE G k sx (.Call (.Name id p) args kws pos) (fun st => (ds st).bind fun p => (dk ⟨st.vs, p.2⟩).bind fun q => g p.1 q.1 q.2) := fun F B I e => by
  refine fun Q q => ?_
  rw [arm_eval_Call_Name']
  refine wpAny_bind (hn F B I rfl _ fun a s₁ ρ₁ a₁ r₁ v₁ => ?_)
  cases v₁
  exact callWith_den (firstM := []) hk ha hw hpl hpk hf F B (I.after a₁ r₁) .nil e _ fun c s₃ ρ₃ a₃ r₃ v₃ => q c s₃ ρ₃ (a₁.trans a₃) r₃ v₃

/-! methods -/
/-- how a method is found -/
def GetM (G : Gl) (name : Str) (fv : Value) (rcv : MV → MH → Bool) : Prop :=
  ∀ {A : Around} {ρ : Nat → Addr} {H : MH} {s : Shared} {x : MV} {ov : Value} {pl : Sem Bool} {Q : Value × List Value → Shared → Prop} {E : Value → Shared → Prop}, Bas G ρ H s → rcv x H = true → vr ρ H.n x ov → Q (fv, [ov]) s → wpAny G.M A (getMethod ov name pl) Q E s

theorem den_meth {o : Expr} {name : Str} {apos pos : Pos} {args : List Expr} {kws : List Keyword} {fv : Value} {d : St → Option (MV × MH)} {ds : St → Option (List MV × MH)} {dk : St → Option (List (Str × MV) × MH)} {g : List MV → List (Str × MV) → MH → Option (MV × MH)} {rcv : MV → MH → Bool}
    (he : ∀ env, eval (.Call (.Attribute o name apos) args kws pos) env = (do
      let ov ← eval o env
      standAt apos.atName
      let (f, first) ← holding [ov] (getMethod ov name (do return (← importBound o env).getD true))
      callWith pos f first (backTo pos (starEach args env)) (backToKw pos (keywordEach kws env))))
    (ho : DenE G k sx o d) (hm : GetM G name fv rcv) (hk : Keeps G fv) (ha : DenEs G k sx args ds) (hw : DenKs G k sx kws dk) (hpl : ∀ env pos, (backTo pos (starEach args env)).any (·.1) = false) (hpk : ∀ env pos, (backToKw pos (keywordEach kws env)).any (·.1.isNone) = false) (hf : FnDen G k fv g) :
    DenE G k sx (.Call (.Attribute o name apos) args kws pos) (fun st => (d st).bind fun r => if rcv r.1 r.2 = true then (ds ⟨st.vs, r.2⟩).bind fun p => (dk ⟨st.vs, p.2⟩).bind fun q => g (r.1 :: p.1) q.1 q.2 else none) := fun F B I e => by
  obtain ⟨⟨x, H₁⟩, e1, e⟩ := Option.bind_eq_some_iff.mp e
  dsimp only at e
  split at e
  · rename_i hr
    refine fun Q q => ?_
    rw [he]
    refine wpAny_bind (ho F B I e1 _ fun ov s₁ ρ₁ a₁ r₁ v₁ => wpAny_bind (wpAny_standAt (wpAny_bind (wpAny_holding (hm (I.after a₁ r₁).bas hr v₁ ?_)))))
    exact callWith_den (firstM := [x]) hk ha hw hpl hpk hf F B (I.after a₁ r₁) (.cons v₁ .nil) e _ fun c s₃ ρ₃ a₃ r₃ v₃ => q c s₃ ρ₃ (a₁.trans a₃) r₃ v₃
  · cases e

def isListM (x : MV) (H : MH) : Bool := match x with
  | .ref l => (match H.get l with | some (.list _) => true | _ => false)
  | _ => false
theorem getM_list {name : Str} {id : String} (slot : Slot "list" name id) (hty : typeOf (.builtin id) = pure (.type "method_descriptor")) : GetM G name (.builtin id) isListM := fun B hr v q => by
  unfold isListM at hr
  split at hr
  · split at hr
    · rename_i xs h1
      obtain ⟨_, rfl⟩ := v
      obtain ⟨vs, n1, g1, v1⟩ := rep_list B.rep h1
      exact getMethod_builtin ⟨_, g1, rfl⟩ PySem.F.plainAttrs_list slot hty (fun a e => by cases e; exact ⟨_, g1, rfl⟩) q
    · cases hr
  · cases hr
def isStrM (x : MV) (_ : MH) : Bool := match x with
  | .str _ => true
  | _ => false
theorem getM_str {name : Str} {id : String} (slot : Slot "str" name id) (hty : typeOf (.builtin id) = pure (.type "method_descriptor")) : GetM G name (.builtin id) isStrM := fun B hr v q => by
  unfold isStrM at hr
  split at hr
  · obtain ⟨t, rfl⟩ := v
    exact getMethod_builtin (typeIs_str _ _ _) PySem.F.plainAttrs_str slot hty (fun a e => by cases e) q
  · cases hr

/-- an instance of C, and what its dict says -/
def instOf (C : Addr) (x : MV) (H : MH) : Option (List (Str × MV)) := match x with
  | .ref l => (match H.get l with
    | some (.inst C' d) => if C' = C then (match H.get d with | some (.ns es) => some es | _ => none) else none
    | _ => none)
  | _ => none
theorem lookIn_ess {n : Nat} {es : List (Str × MV)} {dl : List DictEntry} {o : Obj} {kk : Nat} (hd' : o = dictOf dl kk) (h' : ESl ρ n es dl) (x : Str) : (es.lookup x = none → lookIn x o = some none) ∧ ∀ m, es.lookup x = some m → ∃ v, lookIn x o = some (some v) ∧ vr ρ n m v := by
  obtain ⟨ds, hds⟩ : ∃ ds, ds = dl.toArray := ⟨_, rfl⟩
  have hd : o.data = .dict ds kk := by rw [hd', hds]
  have h : ESs ρ n es ds := hds ▸ h'.ess
  clear hds hd' h'
  have hkey : ds.toList.any (·.refKey) = false := by
    rw [List.any_eq_false]
    intro e he
    obtain ⟨y, t, q⟩ := h.1 e (by simpa using he)
    simp [DictEntry.refKey, q]
  have key : lookIn x o = some (nsFind ds x) := by
    unfold lookIn nsFind findBy
    rw [hd]
    dsimp only
    rw [← Array.find?_toList]
    cases ds.toList.find? (fun e => e.key.isStr x) with
    | some e => rfl
    | none => simp [hkey]
  constructor
  · intro e; rw [key, (h.2 x).1 e]
  · intro m e
    obtain ⟨v, a, b⟩ := (h.2 x).2 m e
    exact ⟨v, by rw [key, a], b⟩
theorem instOf_at {C : Addr} {x : MV} {es : List (Str × MV)} {v : Value} (B : Bas G ρ H s) (e : instOf C x H = some es) (hv : vr ρ H.n x v) :
    ∃ l d od kk ds, x = .ref l ∧ H.get l = some (.inst C d) ∧ H.get d = some (.ns es) ∧ v = .ref (ρ l) ∧ s.heap.get? (ρ d) = some od ∧ od = dictOf ds kk ∧ ESl ρ H.n es ds ∧ InstAt s.heap (ρ l) (instObj C (ρ d)) C (some od) := by
  unfold instOf at e
  split at e
  · split at e
    · rename_i h1
      split at e
      · rename_i hC
        split at e
        · rename_i h2
          cases e; subst hC
          obtain ⟨_, rfl⟩ := hv
          obtain ⟨o1, g1, _, rfl⟩ := B.rep.at_ _ _ h1
          obtain ⟨od, g2, ds, kk, hd, he⟩ := B.rep.at_ _ _ h2
          exact ⟨_, _, od, kk, ds, rfl, h1, h2, rfl, g2, hd, he, ⟨g1, rfl, rfl, g2⟩⟩
        · cases e
      · cases e
    · cases e
  · cases e
def hasNo (C : Addr) (name : Str) (x : MV) (H : MH) : Bool := match instOf C x H with
  | some es => (getS es name).isNone
  | none => false
theorem getM_inst {C f : Addr} {name : Str} (hg : plainGet G.K C name = true) (hf : findIn G.K (.ref C) name = some (some (.ref f))) (ht : isFn G.K (.ref f) = true) : GetM G name (.ref f) (hasNo C name) := fun B hr v q => by
  unfold hasNo at hr
  split at hr
  · rename_i es h1
    rw [getS_eq] at hr
    obtain ⟨l, d, od, kk, ds, rfl, h2, h3, rfl, g2, hd, he, I⟩ := instOf_at B h1 v
    refine method_fn B.K I (plainGet_of hg).1 (plainGet_of hg).2 hf (beq_iff_eq.mp ht) ?_ q
    show (lookIn name od).map _ = _
    rw [(lookIn_ess hd he name).1 (by simpa using hr)]
    rfl
  · cases hr

/-! attributes -/
theorem eval_Attr {value : Expr} {attr : Str} {pos : Pos} {env : Env} {M : Model} {A : Around} {E : Value → Shared → Prop} {Q : Value → Shared → Prop} (hb : attributeBase value attr env (eval value env) = eval value env) (hl : ∀ o r, letTemporaryGo value o r = pure ())
    (h : wpAny M A (eval value env) (fun o s₁ => wpAny M A (getAttr o attr true) Q E s₁) E s) : wpAny M A (eval (.Attribute value attr pos) env) Q E s := by
  show wpAny M A (do
    let o ← attributeBase value attr env (eval value env)
    standAt pos.atName
    let r ← holding [o] (getAttr o attr true)
    letTemporaryGo value o r
    pure r) Q E s
  rw [hb]
  refine wpAny_bind (wpAny_mono h (fun o s₁ h₁ => wpAny_bind (wpAny_standAt (wpAny_bind (wpAny_holding (wpAny_mono h₁ (fun r s₂ h₂ => ?_) fun _ _ x => x))))) fun _ _ x => x)
  rw [hl]
  exact wpAny_bind (wpAny_pure (wpAny_pure h₂))

theorem handed_of {n : Nat} {m : MV} {v : Value} (h : vr ρ n m v) (hn : ∀ id, m ≠ .val (.builtin id)) : handedIn v = true := by
  cases m with
  | int i => obtain ⟨t, rfl⟩ := h; rfl
  | str i => obtain ⟨t, rfl⟩ := h; rfl
  | ref i => obtain ⟨_, rfl⟩ := h; rfl
  | val i =>
    have h : v = i := h
    subst h
    cases v <;> first | rfl | exact absurd rfl (hn _)
  | clo => exact h.elim
def attrOf (C : Addr) (name : Str) (x : MV) (H : MH) : Option (MV × MH) := (instOf C x H).bind fun es => match getS es name with
  | some (.val (.builtin _)) => none
  | some (.val (.type _)) => none
  | some v => some (v, H)
  | none => none
theorem den_attr {value : Expr} {attr : Str} {pos : Pos} {C : Addr} {d : St → Option (MV × MH)} {a : Option Value} (hv : DenE G k sx value d) (hb : ∀ env, attributeBase value attr env (eval value env) = eval value env) (hl : ∀ o r, letTemporaryGo value o r = pure ())
    (hg : plainGet G.K C attr = true) (hh : hasDictIn G.K C = true) (ha : findIn G.K (.ref C) attr = some a) (hn : noGet G.K a = true) :
    DenE G k sx (.Attribute value attr pos) (fun st => (d st).bind fun p => attrOf C attr p.1 p.2) := fun {_} {A} {_} {_} {_} {_} {_} F B I e => by
  obtain ⟨⟨x, H₁⟩, e1, e⟩ := Option.bind_eq_some_iff.mp e
  obtain ⟨es, e2, e⟩ := Option.bind_eq_some_iff.mp e
  rw [getS_eq] at e
  refine fun Q q => eval_Attr (hb _) hl (hv F B I e1 _ fun o s₁ ρ₁ a₁ r₁ v₁ => ?_)
  have I1 := (I.after a₁ r₁).bas
  obtain ⟨l, d, od, kk, ds, rfl, h2, h3, rfl, g2, hd, he, J⟩ := instOf_at I1 e2 v₁
  have fin : ∀ v m, es.lookup attr = some m → lookIn attr od = some (some v) → vr ρ₁ H₁.n m v → handedIn v = true → Q v { s₁ with toks := s₁.toks + 1 } → wpAny G.M A (getAttr (.ref (ρ₁ l)) attr true) Q (fun _ _ => False) s₁ :=
    fun v m _ hlk _ hh' qq => get_value I1.K J (plainGet_of hg).1 (findObj_own hh ha hn hlk) hh' qq
  split at e
  · cases e
  · cases e
  · rename_i m n1 n2 hm
    cases e
    obtain ⟨v, hlk, hvr⟩ := (lookIn_ess hd he attr).2 _ hm
    exact fin v _ hm hlk hvr (handed_of hvr fun id z => n1 id z) (q v _ ρ₁ (a₁.trans .toks) r₁ hvr)
  · cases e

theorem den_clsattr {value : Expr} {attr : Str} {pos : Pos} {C : Addr} {d : St → Option (MV × MH)} {mc : Value} {x : Str} (hv : DenE G k sx value d) (hb : ∀ env, attributeBase value attr env (eval value env) = eval value env) (hl : ∀ o r, letTemporaryGo value o r = pure ())
    (hr : readsIn G.K C mc = true) {t : Tok} (e' : findCls G.K (.ref C) mc attr = some (.val (.str x t))) :
    DenE G k sx (.Attribute value attr pos) (fun st => (d st).bind fun p => if p.1 = .val (.ref C) then some (.str x, p.2) else none) := fun F B I e => by
  obtain ⟨⟨y, H₁⟩, e1, e⟩ := Option.bind_eq_some_iff.mp e
  dsimp only at e
  split at e
  · rename_i hy
    cases e; subst hy
    refine fun Q q => eval_Attr (hb _) hl (hv F B I e1 _ fun o s₁ ρ₁ a₁ r₁ v₁ => ?_)
    cases v₁
    exact cls_value (I.after a₁ r₁).bas.K hr e' rfl (q _ _ ρ₁ (a₁.trans .toks) r₁ ⟨_, rfl⟩)
  · cases e

end
end Q
end Mini

open PySem PySem.W PySem.Calls PyProof.Rows
set_option maxRecDepth 100000
namespace Mini
noncomputable section Q

section
variable {G : Gl} {k : Nat} {sx : Sx} {A : Around} {ρ : Nat → Addr} {H H' : MH} {s : Shared}

/-! lists, the call's own and the script -/
def listAt (G : Gl) (x : MV) (H : MH) : Option (List MV) := match x with
  | .ref l => (match H.get l with
    | some (.list xs) => some xs
    | _ => none)
  | .val (.ref a) => (G.lists a).map (·.map .int)
  | _ => none
theorem vrs_ints {n : Nat} {vs : List Value} {ns : List Int} (h : IntsAre vs ns) : VRs ρ n (ns.map .int) vs := by
  induction h with
  | nil => exact .nil
  | cons i t _ ih => exact .cons ⟨t, rfl⟩ ih
theorem listAt_ok {x : MV} {v : Value} {xs : List MV} (B : Bas G ρ H s) (hv : vr ρ H.n x v) (e : listAt G x H = some xs) : ∃ a vs, v = .ref a ∧ s.heap.IsList a (List.toArray vs) ∧ VRs ρ H.n xs vs := by
  unfold listAt at e
  split at e
  · split at e
    · rename_i h1
      cases e
      obtain ⟨_, rfl⟩ := hv
      obtain ⟨vs, n1, g1, v1⟩ := rep_list B.rep h1
      exact ⟨_, vs, rfl, isList_of g1, v1⟩
    · cases e
  · obtain ⟨ns, e1, e⟩ := Option.map_eq_some_iff.mp e
    cases e; cases hv
    obtain ⟨vs, ⟨o, ho, r⟩, hi⟩ := G.listsOk _ _ e1
    exact ⟨_, vs, rfl, ⟨o, (B.base _ _ ho).1, r⟩, vrs_ints hi⟩
  · cases e

/-! an item at a place -/
def tupAt (x : MV) (H : MH) : Option (List MV) := match x with
  | .ref l => (match H.get l with
    | some (.tup xs) => some xs
    | _ => none)
  | _ => none
theorem rep_tup {P : Params} {h : Heap} {l : Nat} {xs : List MV} (R : Rep P ρ H h) (e : H.get l = some (.tup xs)) : ∃ vs n, h.get? (ρ l) = some (tupOf (List.toArray vs) n) ∧ VRs ρ H.n xs vs := by
  obtain ⟨ob, h1, vs, n, rfl, h2⟩ := R.at_ l _ e
  exact ⟨vs, n, h1, h2⟩
theorem tupAt_ok {x : MV} {v : Value} {xs : List MV} (B : Bas G ρ H s) (hv : vr ρ H.n x v) (e : tupAt x H = some xs) : ∃ a vs, v = .ref a ∧ IsTup s.heap a (List.toArray vs) ∧ VRs ρ H.n xs vs := by
  unfold tupAt at e
  split at e
  · split at e
    · rename_i h1
      cases e
      obtain ⟨_, rfl⟩ := hv
      obtain ⟨vs, n1, g1, v1⟩ := rep_tup B.rep h1
      exact ⟨_, vs, rfl, ⟨_, g1, rfl, _, rfl⟩, v1⟩
    · cases e
  · cases e
def lenS (G : Gl) : List MV → List (Str × MV) → MH → Option (MV × MH)
  | [x], [], H => match listAt G x H with
    | some xs => if xs.length ≤ 100000 then some (.int xs.length, H) else none
    | none => match tupAt x H with
      | some xs => if xs.length ≤ 100000 then some (.int xs.length, H) else none
      | none => none
  | _, _, _ => none
theorem den_lenS : FnDen G k (.builtin "len") (lenS G) := fun {_} {_} {_} {_} {s} {_} {_} {_} {_} {_} B b v kv e => by
  unfold lenS at e
  split at e
  case h_2 => cases e
  cases kv; cases v with | cons hv hn => ?_
  cases hn
  split at e
  · rename_i xs e1
    split at e
    · rename_i hl; cases e
      obtain ⟨a, vs, rfl, il, v1⟩ := listAt_ok b hv e1
      exact .now b.rep fun Q q => call_len_list il (by rw [List.size_toArray, v1.length]; omega) (q _ _ ⟨s.toks + 1, by rw [List.size_toArray, v1.length]⟩)
    · cases e
  · split at e
    · rename_i xs e1
      split at e
      · rename_i hl; cases e
        obtain ⟨a, vs, rfl, it, v1⟩ := tupAt_ok b hv e1
        exact .now b.rep fun Q q => len_tuple it (by rw [List.size_toArray, v1.length]; omega) (q _ _ ⟨_, by rw [List.size_toArray, v1.length]⟩)
      · cases e
    · cases e
def itemop (G : Gl) (x i : MV) (H : MH) : Option (MV × MH) := match i with
  | .int i => if 0 ≤ i ∧ i < 2 ^ 62 then ((listAt G x H).orElse fun _ => tupAt x H).bind fun xs => (xs[i.toNat]?).map fun v => (v, H) else none
  | _ => none
theorem den_index {value slice : Expr} {pos : Pos} {dv di : St → Option (MV × MH)} (hv : DenE G k sx value dv) (hi : DenE G k sx slice di) (hs : ∀ o i, subscripted slice false o i = operate [o, i] (getItem o i)) :
    DenE G k sx (.Subscript value slice pos) (seq2 dv di (itemop G)) := fun {_} {_} {_} {_} {_} {_} {Hr} F B I e => by
  obtain ⟨⟨x, H₁⟩, e1, e⟩ := Option.bind_eq_some_iff.mp e
  obtain ⟨⟨y, H₂⟩, e2, e⟩ := Option.bind_eq_some_iff.mp e
  refine fun Q q => Subscript_ (hv F B I e1 _ fun o s₁ ρ₁ a₁ r₁ v₁ => hi F B (I.after a₁ r₁) e2 _ fun i s₂ ρ₂ a₂ r₂ v₂ => ?_)
  have B2 := ((I.after a₁ r₁).after a₂ r₂).bas
  have v₁' := vr_mono a₂.le a₂.agree v₁
  dsimp only at e
  unfold itemop at e
  split at e
  · rename_i j
    split at e
    · rename_i hb
      obtain ⟨xs, e3, e⟩ := Option.bind_eq_some_iff.mp e
      obtain ⟨w, e4, e⟩ := Option.map_eq_some_iff.mp e
      cases e
      obtain ⟨t, rfl⟩ := v₂
      cases hl : listAt G x Hr with
      | some ys =>
        rw [hl] at e3; cases e3
        obtain ⟨a, vs, rfl, il, v3⟩ := listAt_ok B2 v₁' hl
        obtain ⟨u, e5, v5⟩ := v3.get e4
        exact tail_any il.typeIs slot_list_getitem.lookup (wpAny_getItem_list il hb.1 (by omega) (by simpa using e5) (q u _ ρ₂ (a₁.trans a₂) r₂ v5)) (hs _ _)
      | none =>
        rw [hl] at e3
        obtain ⟨a, vs, rfl, il, v3⟩ := tupAt_ok B2 v₁' e3
        obtain ⟨u, e5, v5⟩ := v3.get e4
        have hlt := (List.getElem?_eq_some_iff.mp e5).1
        refine tail_any il.typeIs slot_tuple_getitem.lookup (getItem_tuple (j := j.toNat) il (by omega) (by omega) ?_ (by simpa using e5) (q u _ ρ₂ (a₁.trans a₂) r₂ v5)) (hs _ _)
        unfold seqIndex?
        have hj : ¬ j < 0 := by omega
        simp only [List.size_toArray, hj, if_false]
        rw [if_pos (by simp only [Bool.and_eq_true, decide_eq_true_eq]; omega)]
    · cases e
  · cases e

/-! slices -/
def DenP (G : Gl) (k : Nat) (sx : Sx) (e : Option Expr) (d : St → Option (MV × MH)) : Prop :=
  ∀ {env : Env} {A : Around} {ρ : Nat → Addr} {st : St} {s : Shared} {v : MV} {H' : MH}, Fst G env sx → Bud A k → InF G env sx ρ st s → d st = some (v, H') → EvX G.M G.P A vr (evalPart e env) ρ st.H s v H'
theorem denp_none : DenP G k sx none (fun st => some (.val .none, st.H)) := fun {_} {_} {_} {_} {s} {_} {_} _ _ I e => by
  cases e; exact .now I.bas.rep fun Q q => wpAny_evalPart_none (q _ s.toks rfl)
theorem denp_some {e : Expr} {d : St → Option (MV × MH)} (h : DenE G k sx e d) : DenP G k sx (some e) d := fun F B I e => h F B I e
def partOf : MV → Option (Option Int)
  | .val .none => some none
  | .int i => if small i then some (some i) else none
  | _ => none
theorem partOf_ok {n : Nat} {x : MV} {v : Value} {p : Option Int} (hv : vr ρ n x v) (e : partOf x = some p) : IsPart v p := by
  unfold partOf at e
  split at e
  · cases e; cases hv; exact .none
  · split at e
    · rename_i hs
      cases e
      obtain ⟨t, rfl⟩ := hv
      simp only [small, Bool.and_eq_true, decide_eq_true_eq] at hs
      exact IsPart.int _ _
    · cases e
  · cases e
def sliceop (G : Gl) (x lo hi : MV) (H : MH) : Option (MV × MH) := (listAt G x H).bind fun xs => (partOf lo).bind fun l => (partOf hi).bind fun h =>
  if xs.length ≤ 100000 then some (.ref H.n, H.push (.list ((xs.drop (kms_lo l xs.length)).take (kms_hi h xs.length - kms_lo l xs.length)))) else none
theorem den_slice {value : Expr} {lower upper : Option Expr} {p pos : Pos} {dv dl du : St → Option (MV × MH)} (hv : DenE G k sx value dv) (hl : DenP G k sx lower dl) (hu : DenP G k sx upper du) :
    DenE G k sx (.Subscript value (.Slice lower upper none p) pos) (fun st => (dv st).bind fun x => (dl ⟨st.vs, x.2⟩).bind fun l => (du ⟨st.vs, l.2⟩).bind fun u => sliceop G x.1 l.1 u.1 u.2) := fun F B I e => by
  obtain ⟨⟨x, H₁⟩, e1, e⟩ := Option.bind_eq_some_iff.mp e
  obtain ⟨⟨l, H₂⟩, e2, e⟩ := Option.bind_eq_some_iff.mp e
  obtain ⟨⟨u, H₃⟩, e3, e⟩ := Option.bind_eq_some_iff.mp e
  obtain ⟨xs, e4, e⟩ := Option.bind_eq_some_iff.mp e
  obtain ⟨pl, e5, e⟩ := Option.bind_eq_some_iff.mp e
  obtain ⟨pu, e6, e⟩ := Option.bind_eq_some_iff.mp e
  split at e
  · rename_i hsz
    cases e
    refine fun Q q => Subscript_ (hv F B I e1 _ fun o s₁ ρ₁ a₁ r₁ v₁ => wpAny_Slice (hl F B (I.after a₁ r₁) e2 _ fun vl s₂ ρ₂ a₂ r₂ v₂ => hu F B ((I.after a₁ r₁).after a₂ r₂) e3 _ fun vu s₃ ρ₃ a₃ r₃ v₃ => wpAny_evalPart_none ?_))
    have B3 := (((I.after a₁ r₁).after a₂ r₂).after a₃ r₃).bas
    have v₁' := vr_mono a₃.le a₃.agree (vr_mono a₂.le a₂.agree v₁)
    have v₂' := vr_mono a₃.le a₃.agree v₂
    obtain ⟨a, vs, rfl, il, v4⟩ := listAt_ok B3 v₁' e4
    refine tail_any (il.push _).typeIs slot_list_getitem.lookup (wpAny_getItem_list_slice (il.push _) (Heap.IsSliceOf.new ..) (partOf_ok v₂' e5) (partOf_ok v₃ e6) .none (by simp) ?_ (by rw [List.size_toArray, v4.length]; exact Nat.le_trans hsz (by decide))) (by rfl)
    rw [kms_pick_eq]
    obtain ⟨z1, z2⟩ := push_new (s := s₃) (tk := s₃.toks) (ex := NoEx) (o := .list ((xs.drop (kms_lo pl xs.length)).take (kms_hi pu xs.length - kms_lo pl xs.length)))
      (h' := (s₃.heap.push { cls := .type "slice", data := .fields #[vl, vu, .none] }).push { cls := .type "list", data := .seq (kms_pick vs pl pu).toArray }) r₃ (fresh_none (by rw [Heap.size_push]; omega)) (Heap.get?_push_size _ rfl)
      ⟨kms_pick vs pl pu, 0, rfl, by unfold kms_pick; rw [v4.length]; exact ((v4.drop _).take _).mono (Nat.le_succ _) ext_lt⟩
      (fun b o e => Heap.get?_push_of_some _ (Heap.get?_push_of_some _ e))
    exact q _ _ _ (((a₁.trans a₂).trans a₃).trans z1) z2 ⟨Nat.lt_succ_self _, by rw [ext_self]⟩
  · cases e

/-! list methods -/
theorem EvX.set {M : Model} {P : Params} {α β : Type} {rel : (Nat → Addr) → Nat → β → α → Prop} {t : Sem α} {l : Nat} {o o' : MO} {r : β} (R : Rep P ρ H s.heap) (hl : H.get l = some o)
    (h : ∀ Q : α → Shared → Prop, (∀ a ob h' tk, h'.get? (ρ l) = some ob → orep P ρ H.n o' ob → (∀ b x, b ≠ ρ l → s.heap.get? b = some x → h'.get? b = some x) → rel ρ H.n r a → Q a { s with heap := h', toks := tk }) → wpAny M A t Q (fun _ _ => False) s) :
    EvX M P A rel t ρ H s r (H.set l o') := fun Q q => h Q fun a ob h' tk h1 h2 h3 z => by
    obtain ⟨x, y⟩ := set_own (tk := tk) (ex := NoEx) R hl h1 h2 h3
    exact q _ _ _ x y z

def appendF : List MV → List (Str × MV) → MH → Option (MV × MH)
  | [.ref l, x], [], H => match H.get l with
    | some (.list xs) => if xs.length ≤ 100000 then some (.val .none, H.set l (.list (xs ++ [x]))) else none
    | _ => none
  | _, _, _ => none
theorem updSeq {h : Heap} {a : Addr} {vs : List Value} {n : Nat} (g : h.get? a = some (listOf (List.toArray vs) n)) (f : Array Value → Array Value) : ∃ n', (h.update a (Obj.mapSeq f)).get? a = some (listOf (f (List.toArray vs)) n') :=
  ⟨_, get?_update_seq (c := "list") g f⟩
theorem den_append : FnDen G k (.builtin "list.append") appendF := fun {_} {_} {_} {_} {s} {_} {_} {_} {_} {_} B b v kv e => by
  unfold appendF at e
  split at e
  · split at e
    · rename_i h1
      split at e
      · rename_i hl; cases e
        cases kv; cases v with | cons hv hn => ?_
        cases hn with | cons hx hn => ?_
        cases hn
        obtain ⟨_, rfl⟩ := hv
        obtain ⟨vs, n1, g1, v1⟩ := rep_list b.rep h1
        refine .set b.rep h1 fun Q q => ?_
        refine wpAny_call_entry slot_list_append ⟨_, g1, rfl⟩ entry_list_append ?_ (args_list_append _ _)
        show wpAny _ _ (updateSeq _ (·.push _) >>= fun _ => ret .none) _ _ s
        obtain ⟨n', g2⟩ := updSeq g1 (·.push _)
        refine wpAny_bind (wpAny_updateSeq g1 rfl (wpAny_pure ⟨.none, rfl, q _ _ _ s.toks g2 ⟨vs ++ [_], n', by simp, v1.append (.cons hx .nil)⟩ (fun b x hb e => (Heap.get?_update_other _ _ (Ne.symm hb)).trans e) rfl⟩) ?_ ?_)
        · rw [List.size_toArray, v1.length]; exact Nat.le_trans hl (by decide)
        · rw [Array.size_push, List.size_toArray, v1.length]; exact Nat.succ_le_succ (Nat.le_trans hl (by decide))
      · cases e
    · cases e
  · cases e

def insertF : List MV → List (Str × MV) → MH → Option (MV × MH)
  | [.ref l, .int i, x], [], H => match H.get l with
    | some (.list xs) => if xs.length ≤ 100000 ∧ 0 ≤ i ∧ i < 2 ^ 62 then some (.val .none, H.set l (.list (xs.take i.toNat ++ x :: xs.drop i.toNat))) else none
    | _ => none
  | _, _, _ => none
theorem den_insert : FnDen G k (.builtin "list.insert") insertF := fun {_} {_} {_} {_} {s} {_} {_} {_} {_} {_} B b v kv e => by
  unfold insertF at e
  split at e
  · split at e
    · rename_i h1
      split at e
      · rename_i hl; cases e
        cases kv; cases v with | cons hv hn => ?_
        cases hn with | cons hi hn => ?_
        cases hn with | cons hx hn => ?_
        cases hn
        obtain ⟨_, rfl⟩ := hv
        obtain ⟨t, rfl⟩ := hi
        obtain ⟨vs, n1, g1, v1⟩ := rep_list b.rep h1
        rename_i i _ _ xs w _
        refine .set b.rep h1 fun Q q => ?_
        obtain ⟨n', g2⟩ := updSeq g1 (fun ys => (ys.extract 0 (if i < 0 then (i + (ys.size : Int)).toNat else min i.toNat ys.size)).push w ++ ys.extract (if i < 0 then (i + (ys.size : Int)).toNat else min i.toNat ys.size))
        refine call_meets PySem.F.slot_list_insert ⟨_, g1, rfl⟩ PySem.F.entry_list_insert (PySem.F.args_list_insert_3 _ _ _) (PySem.AutoSeq1.list_insert_list_int_val_1 _ _ n1 i t w (by simp [Builtin.List.listFitsIndex]; omega) (by rw [List.size_toArray, v1.length]; exact Nat.le_trans hl.1 (by decide)))
          ⟨g1, q _ _ _ _ g2 ⟨kl_ins vs i w, n', ?_, ?_⟩ (fun b x hb e => (Heap.get?_update_other _ _ (Ne.symm hb)).trans e) rfl⟩
        · unfold kl_ins
          have hi : ¬ i < 0 := by omega
          simp only [hi, if_false]
          exact congrArg (fun z => listOf z n') (kl_ins_eq vs (min i.toNat vs.length) w)
        · unfold kl_ins
          have hi : ¬ i < 0 := by omega
          simp only [hi, if_false]
          have e1 : vs.take (min i.toNat vs.length) = vs.take i.toNat := kmk_take_min vs i.toNat
          have e2 : vs.drop (min i.toNat vs.length) = vs.drop i.toNat := kmk_drop_min vs i.toNat
          rw [e1, e2]
          exact (v1.take _).append (.cons hx (v1.drop _))
      · cases e
    · cases e
  · cases e

/-! join, lower -/
def strsOf : List MV → Option (List Str)
  | [] => some []
  | .str x :: r => (strsOf r).map (x :: ·)
  | _ :: _ => none
theorem strsOf_ok {n : Nat} {xs : List MV} {vs : List Value} {ls : List Str} (h : VRs ρ n xs vs) (e : strsOf xs = some ls) : ∃ l : List (Str × Tok), vs = strValues l ∧ l.map (·.1) = ls := by
  induction h generalizing ls with
  | nil => cases e; exact ⟨[], rfl, rfl⟩
  | cons a _ ih =>
    rename_i x v xs vs _
    cases x <;> first | cases e | skip
    rename_i i
    obtain ⟨t, rfl⟩ := a
    simp only [strsOf, Option.map_eq_some_iff] at e
    obtain ⟨ms, e1, rfl⟩ := e
    obtain ⟨l, e2, e3⟩ := ih e1
    exact ⟨(i, t) :: l, by rw [e2]; rfl, by rw [← e3]; rfl⟩
def joinF : List MV → List (Str × MV) → MH → Option (MV × MH)
  | [.str sep, .ref l], [], H => match H.get l with
    | some (.list xs) => (strsOf xs).bind fun ls => if Builtin.Str.tooLong (ls.toArray.foldl (· + ·.length + sep.length) 0) = false ∧ (Txt.join sep ls).length ≤ 100000 then some (.str (Txt.join sep ls), H) else none
    | _ => none
  | _, _, _ => none
theorem den_join : FnDen G k (.builtin "str.join") joinF := fun {_} {_} {_} {_} {s} {_} {_} {_} {_} {_} B b v kv e => by
  unfold joinF at e
  split at e
  · split at e
    · rename_i h1
      obtain ⟨ls, e1, e⟩ := Option.bind_eq_some_iff.mp e
      split at e
      · rename_i hl; cases e
        cases kv; cases v with | cons hv hn => ?_
        cases hn with | cons hi hn => ?_
        cases hn
        obtain ⟨t, rfl⟩ := hv
        obtain ⟨_, rfl⟩ := hi
        obtain ⟨vs, n1, g1, v1⟩ := rep_list b.rep h1
        obtain ⟨l, e2, e3⟩ := strsOf_ok v1 e1
        subst e3
        exact .now b.rep fun Q q => call_meets PySem.F.slot_str_join (typeIs_str _ _ _) PySem.F.entry_str_join (PySem.F.args_str_join_2 _ _) (meets_str_join_list _ t _ l hl.1) ⟨by rw [← e2]; exact isList_of g1, post_join l ⟨Nat.le_trans hl.2 (by decide), fun t' k => q _ _ ⟨t', rfl⟩⟩⟩
      · cases e
    · cases e
  · cases e
def allB (f : Nat → Bool) (l : List Nat) : Bool := @List.rec Nat (fun _ => Bool) true (fun a _ ih => @Bool.rec (fun _ => Bool) false ih (f a)) l
def mapB (f : Nat → Nat) (l : List Nat) : List Nat := @List.rec Nat (fun _ => List Nat) [] (fun a _ ih => f a :: ih) l
theorem allB_iff (f : Nat → Bool) : ∀ l : List Nat, allB f l = true → ∀ c ∈ l, f c = true
  | [], _, c, h => by cases h
  | a :: r, e, c, h => by
    have e : @Bool.rec (fun _ => Bool) false (allB f r) (f a) = true := e
    cases hf : f a with
    | false => rw [hf] at e; cases e
    | true =>
      rw [hf] at e
      rcases List.mem_cons.mp h with rfl | h
      · exact hf
      · exact allB_iff f r e c h
theorem mapB_eq (f : Nat → Nat) : ∀ l : List Nat, mapB f l = l.map f
  | [] => rfl
  | a :: r => by rw [List.map_cons, ← mapB_eq f r]; rfl
def lowerF : List MV → List (Str × MV) → MH → Option (MV × MH)
  | [.str x], [], H => if x.length ≤ 100000 ∧ allB (fun c => Nat.ble c 127) x.cps.toList = true then some (.str ⟨(mapB lo1 x.cps.toList).toArray⟩, H) else none
  | _, _, _ => none
theorem den_lower : FnDen G k (.builtin "str.lower") lowerF := fun {_} {_} {_} {_} {s} {_} {_} {_} {_} {_} B b v kv e => by
  unfold lowerF at e
  split at e
  · split at e
    · rename_i i hl; cases e
      cases kv; cases v with | cons hv hn => ?_
      cases hn
      obtain ⟨t, rfl⟩ := hv
      have hr : (⟨(mapB lo1 i.cps.toList).toArray⟩ : Str) = ⟨i.cps.map lo1⟩ := by rw [mapB_eq]; congr 1; apply Array.ext'; simp
      exact .now b.rep fun Q q => SCL.lower (Nat.le_trans hl.1 (by decide)) fun _ => q _ _ ⟨_, by rw [hr, lower_ascii (fun c hc => by have := allB_iff _ _ hl.2 c (by simpa using hc); simp only [Nat.ble_eq] at this; omega)]⟩
    · cases e
  · cases e

end
end Q
end Mini

open PySem PySem.W PySem.Calls PyProof.Rows
set_option maxRecDepth 100000
namespace Mini
noncomputable section Q

inductive Fl where
  | next
  | brk
  | cont
  | ret (v : MV)
def flr (ρ : Nat → Addr) (n : Nat) : Fl → Flow → Prop
  | .next, f => f = .next
  | .brk, f => f = .brk
  | .cont, f => f = .cont
  | .ret v, f => ∃ w, f = .ret w ∧ vr ρ n v w

def EvS {α β : Type} (G : Gl) (env : Env) (sx : Sx) (A : Around) (rel : (Nat → Addr) → Nat → β → α → Prop) (t : Sem α) (ρ : Nat → Addr) (st : St) (s : Shared) (r : β) (st' : St) : Prop :=
  ∀ Q : α → Shared → Prop, (∀ a s' ρ', Aft ρ ρ' st.H st'.H s s' (Mine env sx) → InF G env sx ρ' st' s' → rel ρ' st'.H.n r a → Q a s') → wpAny G.M A t Q (fun _ _ => False) s

abbrev Un : (Nat → Addr) → Nat → Unit → Unit → Prop := fun _ _ _ _ => True

section
variable {G : Gl} {k : Nat} {env : Env} {sx : Sx} {A : Around} {ρ ρ' : Nat → Addr} {st st' : St} {H H' : MH} {s s' : Shared}

theorem Aft.lift {ex : Addr → Prop} (a : Aft ρ ρ' H H' s s' NoEx) (h : ∀ b, ex b → ¬ Owned ρ H b) : Aft ρ ρ' H H' s s' ex :=
  { a with keep := fun b o e n _ => a.keep b o e n id, live := fun b o x e => ⟨o, a.keep b o e (h b x) id⟩ }
theorem InF.lift (I : InF G env sx ρ st s) (a : Aft ρ ρ' st.H H' s s' NoEx) : Aft ρ ρ' st.H H' s s' (Mine env sx) := a.lift fun b m o => I.off b o m

theorem EvX.toS {α β : Type} {rel : (Nat → Addr) → Nat → β → α → Prop} {t : Sem α} {r : β} (I : InF G env sx ρ st s) (h : EvX G.M G.P A rel t ρ st.H s r H') : EvS G env sx A rel t ρ st s r ⟨st.vs, H'⟩ :=
  fun Q q => h Q fun a s' ρ' x y z => q a s' ρ' (I.lift x) (I.after x y) z

theorem Rep.on {P : Params} {h h' : Heap} (R : Rep P ρ H h) (k : ∀ b o, Owned ρ H b → h.get? b = some o → h'.get? b = some o) : Rep P ρ H h' :=
  ⟨fun l o e => let ⟨ob, a, b⟩ := R.at_ l o e; ⟨ob, k _ _ ⟨l, o, e, rfl⟩ a, b⟩, R.inj, R.lt⟩

theorem mine_locals : Mine env sx env.locals := .inl rfl

/-- a change at one address that is the frame's own -/
theorem InF.turn {h' : Heap} {tk : Nat} {a : Addr} {vs' : List (Option MV)} (I : InF G env sx ρ st s) (ha : Mine env sx a) (hs : Heap.SameBut a s.heap h') (hl : ∃ o, h'.get? a = some o)
    (hcell : ∀ x c v, env.cells.lookup x = some c → s.heap.IsCell c v → ∃ v', h'.IsCell c v')
    (ns : ∃ m, h'.Ns env.locals m ∧ ∀ (i : Nat) (x : Str) (v : MV), sx.slots[i]? = some x → sx.kindOf x = some .local → vs'[i]? = some (some v) →
      ∃ w, m x = some w ∧ vra G h' (fun b => ¬ Owned ρ st.H b ∧ ¬ Mine env sx b) ρ st.H.n v w)
    (cel : ∀ (i : Nat) (x : Str) (v : MV), sx.slots[i]? = some x → (sx.kindOf x = some .cell ∨ sx.kindOf x = some .free) → vs'[i]? = some (some v) →
      ∃ c w, env.cells.lookup x = some c ∧ h'.IsCell c (some w) ∧ vr ρ st.H.n v w) :
    Aft ρ ρ st.H st.H s { s with heap := h', toks := tk } (Mine env sx) ∧ InF G env sx ρ ⟨vs', st.H⟩ { s with heap := h', toks := tk } := by
  have keep : ∀ b o, ¬ Mine env sx b → s.heap.get? b = some o → h'.get? b = some o := fun b o n e => (hs.2 b fun q => n (q ▸ ha)).trans e
  have aft : Aft ρ ρ st.H st.H s { s with heap := h', toks := tk } (Mine env sx) :=
    ⟨fun _ _ => rfl, Nat.le_refl _, fun b o e _ n => keep b o n e, rfl, fun _ q => .inl q, fun b o _ e => by
      by_cases hb : b = a
      · subst hb; exact hl
      · exact ⟨o, (hs.2 b hb).trans e⟩, fun _ o e => ⟨o, e⟩⟩
  refine ⟨aft, ⟨I.bas.after aft I.basem (I.bas.rep.on fun b o q e => keep b o (I.off b q) e), I.basem, I.off, fun x c hc => ?_, ns, cel⟩⟩
  obtain ⟨⟨v, hv⟩, r⟩ := I.cells x c hc
  exact ⟨hcell x c v hc hv, r⟩

theorem store_local {x : Str} {v : MV} {w : Value} (F : Fst G env sx) (I : InF G env sx ρ st s) (i : Nat) (hi : sx.slots[i]? = some x) (hk : sx.kindOf x = some .local) (hv : vr ρ st.H.n v w) :
    EvS G env sx A Un (storeName env x w) ρ st s () ⟨st.vs.set i (some v), st.H⟩ := fun Q q => by
  obtain ⟨m, hn, hm⟩ := I.ns
  have hkind : Env.kindOf env x = some .local := by unfold Env.kindOf; rw [F.scope]; exact hk
  refine wpAny_storeName_local hkind hn (fun h' hn' hs' => ?_) (by rw [F.scope, F.kind]; rfl)
  have keepc : ∀ c o, c ≠ env.locals → s.heap.get? c = some o → h'.get? c = some o := fun c o n e => (hs'.2 c n).trans e
  obtain ⟨a1, a2⟩ := I.turn (tk := s.toks + 1) (vs' := st.vs.set i (some v)) mine_locals hs' (let ⟨o, _, _, ho, _⟩ := hn'; ⟨o, ho⟩)
    (fun y c u hc hv => ⟨u, isCell_at hv fun o e => keepc c o (I.cells y c hc).2.2.1 e⟩)
    ⟨_, hn', fun j y u hj hky hu => by
      by_cases hij : j = i
      · subst hij
        rw [hi] at hj; cases hj
        rw [List.getElem?_set_self'] at hu
        cases hq : st.vs[j]? with
        | none => rw [hq] at hu; cases hu
        | some _ => rw [hq] at hu; cases hu; exact ⟨w, if_pos rfl, vra_of_vr hv⟩
      · rw [List.getElem?_set_ne (Ne.symm hij)] at hu
        obtain ⟨z, hz, hr⟩ := hm j y u hj hky hu
        have hne : y ≠ x := fun e => hij (by
          subst e
          exact (List.getElem?_inj (List.getElem?_eq_some_iff.mp hj).1 F.nd).1 (hj.trans hi.symm))
        exact ⟨z, by rw [if_neg hne]; exact hz, vra_mono (Nat.le_refl _) (fun _ _ => rfl) (fun b o e f => ⟨f, keepc b o (fun q => f.2 (.inl q)) e⟩) hr⟩⟩
    (fun j y u hj hky hu => by
      have hij : j ≠ i := fun e => by
        subst e
        rw [hi] at hj; cases hj
        rw [hk] at hky; rcases hky with h | h <;> cases h
      rw [List.getElem?_set_ne (Ne.symm hij)] at hu
      obtain ⟨c, z, hc, hz, hr⟩ := I.cel j y u hj hky hu
      exact ⟨c, z, hc, isCell_at hz fun o e => keepc c o (I.cells y c hc).2.2.1 e, hr⟩)
  exact q () _ ρ a1 a2 trivial

theorem store_cell {x : Str} {v : MV} {w : Value} (F : Fst G env sx) (I : InF G env sx ρ st s) (i : Nat) (hi : sx.slots[i]? = some x) (hx : x ∈ sx.own) (hv : vr ρ st.H.n v w) :
    EvS G env sx A Un (storeName env x w) ρ st s () ⟨st.vs.set i (some v), st.H⟩ := fun Q q => by
  obtain ⟨c, hc⟩ := F.has x (.inl (F.ownk x hx))
  have hk := F.ownk x hx
  obtain ⟨⟨v₀, hv₀⟩, ho, hcl, _⟩ := I.cells x c hc
  have hkind : Env.kindOf env x = some .cell := by unfold Env.kindOf; rw [F.scope]; exact hk
  refine wpAny_storeName_cell (by rw [F.scope]; exact F.kind) hkind hc hv₀ fun h' hcell hs' => ?_
  have keepc : ∀ b o, b ≠ c → s.heap.get? b = some o → h'.get? b = some o := fun b o n e => (hs'.2 b n).trans e
  have hmine : Mine env sx c := .inr ⟨x, hx, hc⟩
  obtain ⟨m, hn, hm⟩ := I.ns
  obtain ⟨a1, a2⟩ := I.turn (tk := s.toks) (vs' := st.vs.set i (some v)) hmine hs' (let ⟨o, ho, _⟩ := hcell; ⟨o, ho⟩)
    (fun y d u hd hu => by
      by_cases hdc : d = c
      · subst hdc; exact ⟨_, hcell⟩
      · exact ⟨u, isCell_at hu fun o e => keepc d o hdc e⟩)
    ⟨m, hn.at' fun o e => keepc _ o (Ne.symm hcl) e, fun j y u hj hky hu => by
      have hij : j ≠ i := fun e => by
        subst e
        rw [hi] at hj; cases hj
        rw [hk] at hky; cases hky
      rw [List.getElem?_set_ne (Ne.symm hij)] at hu
      obtain ⟨z, hz, hr⟩ := hm j y u hj hky hu
      exact ⟨z, hz, vra_mono (Nat.le_refl _) (fun _ _ => rfl) (fun b o e f => ⟨f, keepc b o (fun q => f.2 (q ▸ hmine)) e⟩) hr⟩⟩
    (fun j y u hj hky hu => by
      by_cases hij : j = i
      · subst hij
        rw [hi] at hj; cases hj
        rw [List.getElem?_set_self'] at hu
        cases hq : st.vs[j]? with
        | none => rw [hq] at hu; cases hu
        | some _ => rw [hq] at hu; cases hu; exact ⟨c, w, hc, hcell, hv⟩
      · rw [List.getElem?_set_ne (Ne.symm hij)] at hu
        obtain ⟨d, z, hd, hz, hr⟩ := I.cel j y u hj hky hu
        have hne : y ≠ x := fun e => hij (by
          subst e
          exact (List.getElem?_inj (List.getElem?_eq_some_iff.mp hj).1 F.nd).1 (hj.trans hi.symm))
        have hdc : d ≠ c := fun e => by
          subst e
          by_cases hy : y ∈ sx.own
          · exact hne (F.owninj y x d hy hx hd hc)
          · exact (I.cells y d hd).2.2.2 hy hmine
        exact ⟨d, z, hd, isCell_at hz fun o e => keepc d o hdc e, hr⟩)
  exact q () _ ρ a1 a2 trivial

/-! targets -/
/-- an assignment to a target -/
def AsgT (G : Gl) (k : Nat) (sx : Sx) (t : Expr) (f : MV → St → Option St) : Prop :=
  ∀ {env : Env} {A : Around} {ρ : Nat → Addr} {st st' : St} {s : Shared} {v : MV} {w : Value}, Fst G env sx → Bud A k → InF G env sx ρ st s → vr ρ st.H.n v w → f v st = some st' → EvS G env sx A Un (assign t env w) ρ st s () st'
def setN (vs : List (Option MV)) (i : Nat) (v : Option MV) : List (Option MV) := @List.rec (Option MV) (fun _ => Nat → List (Option MV)) (fun _ => []) (fun a r ih i => @Nat.rec (fun _ => List (Option MV)) (v :: r) (fun j _ => a :: ih j) i) vs i
theorem setN_eq : ∀ (vs : List (Option MV)) (i : Nat) (v : Option MV), setN vs i v = vs.set i v
  | [], _, _ => by simp [setN]
  | a :: r, 0, _ => rfl
  | a :: r, i + 1, v => by rw [List.set_cons_succ, ← setN_eq r i v]; rfl
def setv (i : Nat) (v : MV) (st : St) : Option St := some ⟨setN st.vs i (some v), st.H⟩
theorem setv_eq (i : Nat) (v : MV) (st : St) : setv i v st = some ⟨st.vs.set i (some v), st.H⟩ := by unfold setv; rw [setN_eq]
theorem asg_local {x : Str} {p : Pos} (i : Nat) (hi : sx.slots[i]? = some x) (hk : sx.kindOf x = some .local) : AsgT G k sx (.Name x p) (setv i) := fun F _ I hv e => by
  rw [setv_eq] at e; cases e
  exact fun Q q => wpAny_assign_Name (store_local F I i hi hk hv Q q)
theorem asg_cell {x : Str} {p : Pos} (i : Nat) (hi : sx.slots[i]? = some x) (hx : x ∈ sx.own) : AsgT G k sx (.Name x p) (setv i) := fun F _ I hv e => by
  rw [setv_eq] at e; cases e
  exact fun Q q => wpAny_assign_Name (store_cell F I i hi hx hv Q q)

theorem EvS.trans {α β γ δ : Type} {rel : (Nat → Addr) → Nat → β → α → Prop} {rel' : (Nat → Addr) → Nat → δ → γ → Prop} {t : Sem α} {f : α → Sem γ} {r : β} {r' : δ} {st₁ : St} (h : EvS G env sx A rel t ρ st s r st₁)
    (k : ∀ a s₁ ρ₁, Aft ρ ρ₁ st.H st₁.H s s₁ (Mine env sx) → InF G env sx ρ₁ st₁ s₁ → rel ρ₁ st₁.H.n r a → EvS G env sx A rel' (f a) ρ₁ st₁ s₁ r' st') : EvS G env sx A rel' (t >>= f) ρ st s r' st' :=
  fun Q q => wpAny_bind (h _ fun a s₁ ρ₁ a₁ i₁ v₁ => k a s₁ ρ₁ a₁ i₁ v₁ Q fun b s₂ ρ₂ a₂ i₂ v₂ => q b s₂ ρ₂ (a₁.trans a₂) i₂ v₂)

/-- targets in order -/
def AsgTs (G : Gl) (k : Nat) (sx : Sx) (ts : List Expr) (f : List MV → St → Option St) : Prop :=
  ∀ {env : Env} {A : Around} {ρ : Nat → Addr} {st st' : St} {s : Shared} {vs : List MV} {ws : List Value}, Fst G env sx → Bud A k → InF G env sx ρ st s → VRs ρ st.H.n vs ws → f vs st = some st' →
    EvS G env sx A Un (assignInOrder ((assignEach ts env).map (·.2)) ws) ρ st s () st'
def asgNil (vs : List MV) (st : St) : Option St := match vs with
  | [] => some st
  | _ => none
def asgCons (f : MV → St → Option St) (fs : List MV → St → Option St) (vs : List MV) (st : St) : Option St := match vs with
  | v :: r => (f v st).bind fun st₁ => fs r st₁
  | [] => none
theorem asgs_nil : AsgTs G k sx [] asgNil := fun _ _ I hv e => by
  unfold asgNil at e
  split at e
  · cases e; cases hv
    exact fun Q q => wpAny_pure (q () _ _ .refl I trivial)
  · cases e
theorem asgs_cons {t : Expr} {ts : List Expr} {f : MV → St → Option St} {fs : List MV → St → Option St} (h : AsgT G k sx t f) (hs : AsgTs G k sx ts fs) (he : ∀ env, assignEach (t :: ts) env = (false, assign t env) :: assignEach ts env) :
    AsgTs G k sx (t :: ts) (asgCons f fs) := fun F B I hv e => by
  unfold asgCons at e
  split at e
  · obtain ⟨st₁, e1, e⟩ := Option.bind_eq_some_iff.mp e
    cases hv with | cons hv hr => ?_
    rw [he]
    exact fun Q q => wpAny_assignInOrder_more (h F B I hv e1 _ fun a s₁ ρ₁ a₁ i₁ _ => hs F B i₁ (hr.mono a₁.le a₁.agree) e _ fun b s₂ ρ₂ a₂ i₂ _ => q b s₂ ρ₂ (a₁.trans a₂) i₂ trivial)
  · cases e

theorem isTuple_of {h : Heap} {a : Addr} {vs : List Value} {n : Nat} (g : h.get? a = some (tupOf (List.toArray vs) n)) : h.IsTuple a vs.toArray := ⟨_, g, rfl, n, rfl⟩

/-- unpacking a tuple -/
def asgTup (n : Nat) (fs : List MV → St → Option St) (v : MV) (st : St) : Option St := (tupAt v st.H).bind fun xs => if xs.length = n then fs xs st else none
theorem asg_tuple {ts : List Expr} {j : Nat} {p : Pos} {n : Nat} {fs : List MV → St → Option St} (hs : AsgTs G k sx ts fs) (hn : ∀ env, (assignEach ts env).length = n) (hst : ∀ env, (assignEach ts env).findIdx? (·.1) = none) : AsgT G k sx (.Tuple ts j p) (asgTup n fs) := fun {_} {_} {ρ} {st} {_} {s} {_} {_} F B I hv e => by
  obtain ⟨xs, e1, e⟩ := Option.bind_eq_some_iff.mp e
  split at e
  · rename_i hl
    obtain ⟨a, ws, rfl, it, v1⟩ := tupAt_ok I.bas hv e1
    obtain ⟨o, ho, hc, nn, hd⟩ := it
    refine fun Q q => (wpAny_assign_Tuple B.h ⟨o, ho, hc, nn, hd⟩ (by rw [hn, List.size_toArray, v1.length, hl]) (hst _) fun h' hx => ?_)
    have kp : ∀ b x, s.heap.get? b = some x → h'.get? b = some x := fun b x e => hx b x (Nat.ne_of_lt (Heap.lt_size e)) e
    have a1 := Aft.garbage (ρ := ρ) (H := st.H) (tk := s.toks) (ex := NoEx) kp
    have i1 := I.after a1 (I.bas.rep.garbage kp)
    exact hs F B i1 v1 e _ fun b s₂ ρ₂ a₂ i₂ z => q b s₂ ρ₂ ((I.lift a1).trans a₂) i₂ z
  · cases e
end
end Q
end Mini

open PySem PySem.W PySem.Calls PyProof.Rows
set_option maxRecDepth 100000
namespace Mini
noncomputable section Q

section
variable {G : Gl} {k : Nat} {env : Env} {sx : Sx} {A : Around} {ρ ρ' : Nat → Addr} {st st' : St} {H H' : MH} {s s' : Shared}

/-- what a step at iterators does -/
structure Stp (ρ ρ' : Nat → Addr) (H H' : MH) (s s' : Shared) (ex : Addr → Prop) : Prop where
  agree : ∀ l, l < H.n → ρ' l = ρ l
  le : H.n ≤ H'.n
  keep : ∀ b o, s.heap.get? b = some o → ¬ Owned ρ H b → ¬ ex b → s'.heap.get? b = some o
  rest : s' = { s with heap := s'.heap, toks := s'.toks }
  own : ∀ b, Owned ρ' H' b → Owned ρ H b ∨ s.heap.get? b = none
  stay : ∀ l o, H.get l = some o → ∃ o', H'.get l = some o'
theorem Aft.stp {ex : Addr → Prop} (a : Aft ρ ρ' H H' s s' ex) : Stp ρ ρ' H H' s s' ex := ⟨a.agree, a.le, a.keep, a.rest, a.own, a.stay⟩
theorem Stp.not_owned {ex : Addr → Prop} (a : Stp ρ ρ' H H' s s' ex) {b : Addr} {o : Obj} (hb : s.heap.get? b = some o) (n : ¬ Owned ρ H b) : ¬ Owned ρ' H' b :=
  fun q => (a.own b q).elim n fun q => by rw [hb] at q; cases q
/-- objects beside: iterators -/
def IsF (s : Shared) (ex : Addr → Prop) : Prop := ∀ b, ex b → ∃ o vs, s.heap.get? b = some o ∧ o.data = .fields vs

theorem InF.afterNX {vs : List (Option MV)} {ex : Addr → Prop} (I : InF G env sx ρ ⟨vs, H⟩ s) (a : Stp ρ ρ' H H' s s' ex) (r : Rep G.P ρ' H' s'.heap) (hl : ∀ b, ex b → b ≠ env.locals) (hf : ∀ b o, ex b → s.heap.get? b = some o → (∀ f, o.data ≠ .func f) ∧ ∀ v, o.data ≠ .cell v) (hb : ∀ b o, G.h₀.get? b = some o → ¬ ex b) : InF G env sx ρ' ⟨vs, H'⟩ s' := by
  have ncell : ∀ c v, s.heap.IsCell c v → ¬ ex c := fun c v hv x => by
    obtain ⟨o, ho, hd⟩ := hv; exact (hf c o x ho).2 _ hd
  exact {
    bas := ⟨fun b o e => ⟨a.keep b o (I.bas.base b o e).1 (I.bas.base b o e).2 (hb b o e), a.not_owned (I.bas.base b o e).1 (I.bas.base b o e).2⟩, r, fun P e => ⟨(a.agree 0 (I.bas.tab P e).2).trans (I.bas.tab P e).1, Nat.lt_of_lt_of_le (I.bas.tab P e).2 a.le⟩⟩
    basem := I.basem
    off := fun b q => (a.own b q).elim (fun q => I.off b q) fun q m => by
      rcases m with rfl | ⟨x, _, hc⟩
      · obtain ⟨m, ⟨_, _, _, ho, _⟩, _⟩ := I.ns; rw [ho] at q; cases q
      · obtain ⟨⟨v, _, ho, _⟩, _⟩ := I.cells x b hc; rw [ho] at q; cases q
    cells := fun x c hc => by
      obtain ⟨⟨v, hv⟩, n, e, o⟩ := I.cells x c hc
      exact ⟨⟨v, isCell_at hv fun o' e' => a.keep c o' e' n (ncell c v hv)⟩, let ⟨_, ho, _⟩ := hv; a.not_owned ho n, e, o⟩
    ns := by
      obtain ⟨m, hn, hv⟩ := I.ns
      have nl : ¬ Owned ρ H env.locals := fun q => I.off _ q (.inl rfl)
      have nxl : ¬ ex env.locals := fun x => hl _ x rfl
      refine ⟨m, hn.at' (fun o e => a.keep _ o e nl nxl), fun i x v h1 h2 h3 => ?_⟩
      obtain ⟨w, e, r⟩ := hv i x v h1 h2 h3
      refine ⟨w, e, ?_⟩
      cases v with
      | clo c l lc =>
        obtain ⟨g1, g2, f, cc, pm, ct, oc, e, ff, fc, g3, g4, g5⟩ := r
        refine ⟨Nat.lt_of_lt_of_le g1 a.le, Nat.lt_of_lt_of_le g2 a.le, f, cc, pm, ct, oc, e, ⟨a.not_owned g3 ff.1, ff.2⟩, ⟨a.not_owned g4 fc.1, fc.2⟩, ?_, a.keep _ _ g4 fc.1 (fun x => (hf _ _ x g4).2 _ g5), by rw [a.agree l g1]; exact g5⟩
        rw [a.agree lc g2]; exact a.keep _ _ g3 ff.1 (fun x => (hf _ _ x g3).1 _ rfl)
      | int i => exact r
      | str i => exact r
      | val i => exact r
      | ref l => exact vr_mono (m := .ref l) a.le a.agree r
    cel := fun i x v h1 h2 h3 => by
      obtain ⟨c, w, e, hv, r⟩ := I.cel i x v h1 h2 h3
      obtain ⟨_, n, _, _⟩ := I.cells x c e
      exact ⟨c, w, e, isCell_at hv fun o' e' => a.keep c o' e' n (ncell c _ hv), vr_mono a.le a.agree r⟩ }

theorem InF.afterEx {vs : List (Option MV)} {ex : Addr → Prop} (I : InF G env sx ρ ⟨vs, H⟩ s) (a : Stp ρ ρ' H H' s s' ex) (r : Rep G.P ρ' H' s'.heap) (hf : IsF s ex) (hb : ∀ b o, G.h₀.get? b = some o → ¬ ex b) : InF G env sx ρ' ⟨vs, H'⟩ s' :=
  I.afterNX a r (fun b x q => by
    obtain ⟨o', w, e', d⟩ := hf b x
    obtain ⟨m, ⟨o, es, ep, ho, hd, _⟩, _⟩ := I.ns
    subst q; rw [ho] at e'; cases e'; rw [hd] at d; cases d) (fun b o x e => by
    obtain ⟨o', w, e', d⟩ := hf b x
    rw [e] at e'; cases e'
    exact ⟨fun f q => (by rw [d] at q; cases q), fun f q => (by rw [d] at q; cases q)⟩) hb

/-- a step at objects that the start did not know -/
theorem Aft.skip {ρ₀ : Nat → Addr} {H₀ : MH} {s₀ : Shared} {ex₀ ex : Addr → Prop} (a : Aft ρ₀ ρ H₀ H s₀ s ex₀) (b : Stp ρ ρ' H H' s s' ex) (hx : ∀ c, ex c → s₀.heap.get? c = none ∨ Owned ρ₀ H₀ c) (hl₀ : ∀ c, ex₀ c → ¬ Owned ρ₀ H₀ c) (hl : ∀ c, ex₀ c → ¬ Owned ρ H c) : Aft ρ₀ ρ' H₀ H' s₀ s' ex₀ where
  agree := fun l h => (b.agree l (Nat.lt_of_lt_of_le h a.le)).trans (a.agree l h)
  le := Nat.le_trans a.le b.le
  keep := fun c o e n x => b.keep c o (a.keep c o e n x) (fun q => (a.own c q).elim n fun q => by rw [e] at q; cases q) fun q => (hx c q).elim (fun q => by rw [q] at e; cases e) n
  rest := by rw [b.rest, a.rest]
  own := fun c q => (b.own c q).elim (fun q => a.own c q) fun q => by
    classical
    by_cases hc : Owned ρ₀ H₀ c
    · exact .inl hc
    · refine .inr ?_
      cases e : s₀.heap.get? c with
      | none => rfl
      | some o =>
        by_cases hx : ex₀ c
        · obtain ⟨o', e'⟩ := a.live c o hx e
          rw [q] at e'; cases e'
        · have := a.keep c o e hc hx
          rw [q] at this; cases this
  live := fun c o x e => by
    obtain ⟨o', e'⟩ := a.live c o x e
    exact ⟨o', b.keep c o' e' (hl c x) fun q => (hx c q).elim (fun q => by rw [q] at e; cases e) (hl₀ c x)⟩
  stay := fun l o e => let ⟨o', e'⟩ := a.stay l o e; b.stay l o' e'

/-! sources of a loop -/
inductive Src where
  | list (l i : Nat)
  | tup (l i : Nat)
  | range (lo : Int) (n : Nat)
  | str (x : Str) (i : Nat)
  | enum (l i : Nat)
  | fin

def Src.next : Src → MH → Option (Option (MV × Src × MH))
  | .list l i, H => match H.get l with
    | some (.list xs) => match xs[i]? with
      | some x => some (some (x, .list l (i + 1), H))
      | none => some none
    | _ => none
  | .tup l i, H => match H.get l with
    | some (.tup xs) => match xs[i]? with
      | some x => some (some (x, .tup l (i + 1), H))
      | none => some none
    | _ => none
  | .range _ 0, _ => some none
  | .range lo (n + 1), H => some (some (.int lo, .range (lo + 1) n, H))
  | .str x i, H => match x.cps[i]? with
    | some c => some (some (.str ⟨#[c]⟩, .str x (i + 1), H))
    | none => some none
  | .enum l i, H => match H.get l with
    | some (.list xs) => match xs[i]? with
      | some x => some (some (.ref H.n, .enum l (i + 1), H.push (.tup [.int i, x])))
      | none => some none
    | _ => none
  | _, _ => none

/-- the real iterator; ex: the objects that it turns -/
def ItAt (ρ : Nat → Addr) (H : MH) (h : Heap) (it : Value) (src : Src) (ex : Addr → Prop) : Prop :=
  (∀ b, ex b → ¬ Owned ρ H b) ∧
  match src with
  | .list l i => l < H.n ∧ ∃ I, it = .ref I ∧ h.IsListIter I (ρ l) i ∧ ex = (· = I)
  | .tup l i => l < H.n ∧ ∃ I, it = .ref I ∧ h.IsTupleIter I (ρ l) i ∧ ex = (· = I)
  | .range lo n => ∃ I, it = .ref I ∧ IsRangeIter h I lo n 1 ∧ ex = (· = I)
  | .str x i => x.cps.all (· < 128) = true ∧ ∃ I t, it = .ref I ∧ h.IsStrIter I "str_ascii_iterator" x t i ∧ ex = (· = I)
  | .enum l i => l < H.n ∧ ∃ I e old, it = .ref e ∧ h.IsListIter I (ρ l) i ∧ IsEnum h e I i old ∧ e ≠ I ∧ ex = (fun b => b = I ∨ b = e)
  | .fin => False

theorem ItAt.isF {it : Value} {src : Src} {ex : Addr → Prop} (h : ItAt ρ H s.heap it src ex) : IsF s ex := by
  obtain ⟨_, h⟩ := h
  cases src with
  | list l i => obtain ⟨_, I, _, ⟨o, h1, _, h2⟩, rfl⟩ := h; rintro b rfl; exact ⟨o, _, h1, h2⟩
  | tup l i => obtain ⟨_, I, _, ⟨o, h1, _, h2⟩, rfl⟩ := h; rintro b rfl; exact ⟨o, _, h1, h2⟩
  | range lo n => obtain ⟨I, _, h1, rfl⟩ := h; rintro b rfl; exact ⟨_, _, h1, rfl⟩
  | str x i => obtain ⟨_, I, t, _, ⟨o, h1, _, h2⟩, rfl⟩ := h; rintro b rfl; exact ⟨o, _, h1, h2⟩
  | enum l i => obtain ⟨_, I, e, old, _, ⟨o, h1, _, h2⟩, h3, _, rfl⟩ := h; rintro b (rfl | rfl); { exact ⟨o, _, h1, h2⟩ }; { exact ⟨_, _, h3, rfl⟩ }
  | fin => exact False.elim h
theorem ItAt.after {ex ex' : Addr → Prop} {it : Value} {src : Src} (h : ItAt ρ H s.heap it src ex) (a : Aft ρ ρ' H H' s s' ex') (hx : ∀ b, ex b → ¬ ex' b) : ItAt ρ' H' s'.heap it src ex := by
  have hf := h.isF
  obtain ⟨ho, h⟩ := h
  have kp : ∀ b o, ex b → s.heap.get? b = some o → s'.heap.get? b = some o := fun b o x e => a.keep b o e (ho b x) (hx b x)
  refine ⟨fun b x => let ⟨o, _, e, _⟩ := hf b x; not_owned_after a e (ho b x), ?_⟩
  cases src with
  | list l i => obtain ⟨h0, I, h1, h2, rfl⟩ := h; exact ⟨Nat.lt_of_lt_of_le h0 a.le, I, h1, (by rw [a.agree l h0]; exact h2.at (fun o e => kp I o rfl e)), rfl⟩
  | tup l i => obtain ⟨h0, I, h1, ⟨o, h2, h3⟩, rfl⟩ := h; exact ⟨Nat.lt_of_lt_of_le h0 a.le, I, h1, (by rw [a.agree l h0]; exact ⟨o, kp I o rfl h2, h3⟩), rfl⟩
  | range lo n => obtain ⟨I, h1, h2, rfl⟩ := h; exact ⟨I, h1, kp I _ rfl h2, rfl⟩
  | str x i => obtain ⟨h0, I, t, h1, ⟨o, h2, h3⟩, rfl⟩ := h; exact ⟨h0, I, t, h1, ⟨o, kp I o rfl h2, h3⟩, rfl⟩
  | enum l i => obtain ⟨h0, I, e, old, h1, h2, h3, h4, rfl⟩ := h; exact ⟨Nat.lt_of_lt_of_le h0 a.le, I, e, old, h1, (by rw [a.agree l h0]; exact h2.at (fun o e => kp I o (.inl rfl) e)), kp e _ (.inr rfl) h3, h4, rfl⟩
  | fin => exact h.elim

theorem letGo_plain {T : String} {o : Obj} {I : Addr} {target : Expr} {v : Value} {M : Model} {Q : Unit → Shared → Prop} {E : Value → Shared → Prop} (ho : s.heap.get? I = some o) (hc : o.cls = .type T)
    (hT : (["enumerate", "zip", "dict_itemiterator", "dict_reverseitemiterator", "odict_iterator", "itertools.zip_longest", "itertools.pairwise"].contains T) = false) (hQ : Q () s) :
    wpAny M A (letOwnedTupleGo target (.ref I) v) Q E s := by
  unfold letOwnedTupleGo
  have main : ∀ a, wpAny M A (do
      let o ← load I
      match o.cls, o.data with
      | .type n, .fields vs =>
        if ["enumerate", "zip", "dict_itemiterator", "dict_reverseitemiterator", "odict_iterator", "itertools.zip_longest", "itertools.pairwise"].contains n && vs[0]? == some (rawInt a) then
          rule "for.unpacks-the-owned-tuple"
          updateField I 0 .none
      | _, _ => pure ()) Q E s := fun a => by
    refine wpAny_bind (wpAny_load ho ?_)
    rw [hc]
    split
    · rename_i n vs e _
      cases e
      rw [hT, Bool.false_and]
      exact wpAny_pure hQ
    · exact wpAny_pure hQ
  split
  · cases v <;> first | exact main _ | exact wpAny_pure hQ
  · cases v <;> first | exact main _ | exact wpAny_pure hQ
  · exact wpAny_pure hQ

def Src.okT : Src → Expr → Bool
  | .enum .., .Tuple .. => true
  | .enum .., _ => false
  | _, _ => true

theorem other_keep {P : Params} {h' : Heap} {tk : Nat} {ex : Addr → Prop} (R : Rep P ρ H s.heap) (ho : ∀ b, ex b → ¬ Owned ρ H b) (k : ∀ b o, ¬ ex b → s.heap.get? b = some o → h'.get? b = some o) :
    Stp ρ ρ H H s { s with heap := h', toks := tk } ex ∧ Rep P ρ H h' :=
  ⟨⟨fun _ _ => rfl, Nat.le_refl _, fun b o e _ x => k b o x e, rfl, fun _ q => .inl q, fun _ o e => ⟨o, e⟩⟩, R.on fun b o q e => k b o (fun x => ho b x q) e⟩

/-- the same, at iterators -/
theorem push_stp {P : Params} {h' : Heap} {tk : Nat} {a : Addr} {ob : Obj} {o : MO} {ex : Addr → Prop} (R : Rep P ρ H s.heap) (ha : s.heap.get? a = none) (hob : h'.get? a = some ob) (hr : orep P (ext ρ H.n a) (H.n + 1) o ob)
    (ho : ∀ b, ex b → ¬ Owned ρ H b) (k : ∀ b x, ¬ ex b → s.heap.get? b = some x → h'.get? b = some x) :
    Stp ρ (ext ρ H.n a) H (H.push o) s { s with heap := h', toks := tk } ex ∧ Rep P (ext ρ H.n a) (H.push o) h' := by
  have old : ∀ l x, H.get l = some x → l ≠ H.n ∧ ext ρ H.n a l = ρ l := fun l x e => ⟨Nat.ne_of_lt (R.lt l x e), ext_lt l (R.lt l x e)⟩
  have gt : ∀ l x, (H.push o).get l = some x → (l = H.n ∧ x = o) ∨ (H.get l = some x ∧ l ≠ H.n) := fun l x e => by
    rw [MH.get_push] at e
    by_cases hl : l = H.n
    · rw [if_pos hl] at e; cases e; exact .inl ⟨hl, rfl⟩
    · rw [if_neg hl] at e; exact .inr ⟨e, hl⟩
  refine ⟨⟨ext_lt, Nat.le_succ _, fun b x e _ n => k b x n e, rfl, fun b q => ?_, fun l x e => ⟨x, by rw [MH.get_push, if_neg (Nat.ne_of_lt (R.lt l x e))]; exact e⟩⟩, ⟨fun l x e => ?_, fun l l' x x' e e' q => ?_, fun l x e => ?_⟩⟩
  · obtain ⟨l, x, e, rfl⟩ := q
    rcases gt l x e with ⟨rfl, _⟩ | ⟨e, hl⟩
    · rw [ext_self]; exact .inr ha
    · exact .inl ⟨l, x, e, ((old l x e).2).symm⟩
  · rcases gt l x e with ⟨rfl, rfl⟩ | ⟨e, hl⟩
    · exact ⟨ob, by rw [ext_self]; exact hob, hr⟩
    · obtain ⟨ob', a1, a2⟩ := R.at_ l x e
      exact ⟨ob', by rw [(old l x e).2]; exact k _ _ (fun q => ho _ q ⟨l, x, e, rfl⟩) a1, orep_mono (Nat.le_succ _) ext_lt a2⟩
  · have lt : ∀ l x, H.get l = some x → ext ρ H.n a l ≠ a := fun l x e => by
      obtain ⟨ob', a1, _⟩ := R.at_ l x e
      rw [(old l x e).2]; intro z; rw [z, ha] at a1; cases a1
    rcases gt l x e with ⟨rfl, h1⟩ | ⟨e1, hl⟩ <;> rcases gt l' x' e' with ⟨rfl, h2⟩ | ⟨e2, hl'⟩
    · rfl
    · rw [ext_self] at q; exact absurd q.symm (lt l' x' e2)
    · rw [ext_self] at q; exact absurd q (lt l x e1)
    · rw [(old l x e1).2, (old l' x' e2).2] at q; exact R.inj l l' x x' e1 e2 q
  · rcases gt l x e with ⟨rfl, _⟩ | ⟨e, _⟩
    · exact Nat.lt_succ_self _
    · exact Nat.lt_succ_of_lt (R.lt l x e)


theorem VRs.some {n : Nat} {xs : List MV} {vs : List Value} (h : VRs ρ n xs vs) : ∀ {i : Nat} {x : MV}, xs[i]? = some x → ∃ v, vs[i]? = some v ∧ vr ρ n x v := by
  induction h with
  | nil => intro i x e; cases e
  | cons h _ ih =>
    intro i x e
    cases i with
    | zero => cases e; exact ⟨_, rfl, h⟩
    | succ i => exact ih (by simpa using e)
theorem VRs.none {n : Nat} {xs : List MV} {vs : List Value} (h : VRs ρ n xs vs) {i : Nat} (e : xs[i]? = none) : vs[i]? = none := by
  rw [List.getElem?_eq_none_iff] at e ⊢; rw [h.length]; exact e

theorem next_ok {it : Value} {src : Src} {ex : Addr → Prop} {r : Option (MV × Src × MH)} {target : Expr} {Qn : Shared → Prop} {Qs : Value → Shared → Prop} {E : Value → Shared → Prop}
    (hh : A.handled = none) (R : Rep G.P ρ H s.heap) (I : ItAt ρ H s.heap it src ex) (e : src.next H = some r) (ht : src.okT target = true)
    (hn : r = none → ∀ s', Stp ρ ρ H H s s' ex → Rep G.P ρ H s'.heap → Qn s')
    (hs : ∀ v src' H', r = some (v, src', H') → ∀ w s' ρ', Stp ρ ρ' H H' s s' ex → Rep G.P ρ' H' s'.heap → vr ρ' H'.n v w → ItAt ρ' H' s'.heap it src' ex → Qs w s') :
    wpAny G.M A (pyNext it) (fun r s₁ => match r with | none => Qn s₁ | some v => wpAny G.M A (letOwnedTupleGo target it v) (fun _ s₂ => Qs v s₂) E s₁) E s := by
  obtain ⟨ho, I⟩ := I
  cases src with
  | list l i =>
    obtain ⟨h0, I, rfl, h1, rfl⟩ := I
    unfold Src.next at e
    dsimp only at e
    split at e
    · rename_i xs hx
      obtain ⟨vs, ep, g1, g2⟩ := rep_list R hx
      split at e <;> cases e
      · rename_i x hxi
        obtain ⟨v, hv, hr⟩ := g2.some hxi
        refine wpAny_pyNext_list_item h1 (isList_of g1) (by rw [List.getElem?_toArray]; exact hv) fun h' hi hsb => ?_
        have hi' := hi
        obtain ⟨o, hi1, hi2, _⟩ := hi
        obtain ⟨a1, a2⟩ := other_keep (tk := s.toks) (h' := h') R ho (fun b o x y => (hsb.2 b x).trans y)
        exact letGo_plain hi1 hi2 (by decide) (hs _ _ _ rfl v _ ρ a1 a2 hr ⟨fun b x => by cases x; exact ho I rfl, h0, I, rfl, hi', rfl⟩)
      · rename_i hxi
        refine wpAny_pyNext_list_end hh h1 (isList_of g1) (by rw [List.getElem?_toArray]; exact g2.none hxi) fun h' hsb => ?_
        obtain ⟨a1, a2⟩ := other_keep (tk := s.toks) (h' := h') R ho (fun b o x y => hsb b o x y)
        exact hn rfl _ a1 a2
    · cases e
  | tup l i =>
    obtain ⟨h0, I, rfl, h1, rfl⟩ := I
    unfold Src.next at e
    dsimp only at e
    split at e
    · rename_i xs hx
      obtain ⟨vs, ep, g1, g2⟩ := rep_tup R hx
      split at e <;> cases e
      · rename_i x hxi
        obtain ⟨v, hv, hr⟩ := g2.some hxi
        refine wpAny_pyNext_tuple_item h1 (isTuple_of g1) (by rw [List.getElem?_toArray]; exact hv) fun h' hi hsb => ?_
        have hi' := hi
        obtain ⟨o, hi1, hi2, _⟩ := hi
        obtain ⟨a1, a2⟩ := other_keep (tk := s.toks) (h' := h') R ho (fun b o x y => (hsb.2 b x).trans y)
        exact letGo_plain hi1 hi2 (by decide) (hs _ _ _ rfl v _ ρ a1 a2 hr ⟨fun b x => by cases x; exact ho I rfl, h0, I, rfl, hi', rfl⟩)
      · rename_i hxi
        refine wpAny_pyNext_tuple_end hh h1 (isTuple_of g1) (by rw [List.getElem?_toArray]; exact g2.none hxi) fun h' hsb => ?_
        obtain ⟨a1, a2⟩ := other_keep (tk := s.toks) (h' := h') R ho (fun b o x y => hsb b o x y)
        exact hn rfl _ a1 a2
    · cases e
  | range lo n =>
    obtain ⟨I, rfl, h1, rfl⟩ := I
    cases n with
    | zero =>
      cases e
      refine wpAny_pyNext_range_end hh h1 (by decide) fun h' hsb => ?_
      obtain ⟨a1, a2⟩ := other_keep (tk := s.toks) (h' := h') R ho (fun b o x y => hsb b o x y)
      exact hn rfl _ a1 a2
    | succ n =>
      cases e
      refine wpAny_pyNext_range_item h1 (by omega) fun h' hi hsb => ?_
      obtain ⟨a1, a2⟩ := other_keep (tk := s.toks + 1) (h' := h') R ho (fun b o x y => (hsb.2 b x).trans y)
      have hi' : IsRangeIter h' I (lo + 1) ((n : Nat) : Int) 1 := by rw [show ((n : Nat) : Int) = ((n + 1 : Nat) : Int) - 1 by omega]; exact hi
      exact letGo_plain hi rfl (by decide) (hs _ _ _ rfl _ _ ρ a1 a2 ⟨_, rfl⟩ ⟨fun b x => by cases x; exact ho I rfl, I, rfl, hi', rfl⟩)
  | str x i =>
    obtain ⟨h0, I, t, rfl, h1, rfl⟩ := I
    unfold Src.next at e
    dsimp only at e
    split at e <;> cases e
    · rename_i c hc
      refine wpAny_pyNext_ascii_item h1 hc fun h' hi hsb => ?_
      have hi' := hi
      obtain ⟨o, hi1, hi2, _⟩ := hi
      obtain ⟨a1, a2⟩ := other_keep (tk := s.toks + 1) (h' := h') R ho (fun b o x y => (hsb.2 b x).trans y)
      exact letGo_plain hi1 hi2 (by decide) (hs _ _ _ rfl _ _ ρ a1 a2 ⟨_, rfl⟩ ⟨fun b x => by cases x; exact ho I rfl, h0, I, t, rfl, hi', rfl⟩)
    · rename_i hc
      refine wpAny_pyNext_ascii_end hh h1 hc fun h' hsb => ?_
      obtain ⟨a1, a2⟩ := other_keep (tk := s.toks) (h' := h') R ho (fun b o x y => hsb b o x y)
      exact hn rfl _ a1 a2
  | enum l i =>
    obtain ⟨h0, I, e', old, rfl, h1, h2, h3, rfl⟩ := I
    unfold Src.next at e
    dsimp only at e
    split at e
    · rename_i xs hx
      obtain ⟨vs, ep, g1, g2⟩ := rep_list R hx
      split at e <;> cases e
      · rename_i x hxi
        obtain ⟨v, hv, hr⟩ := g2.some hxi
        refine wpAny_pyNext_enum_item h2 h1 (isList_of g1) (by rw [List.getElem?_toArray]; exact hv) h3 fun h' hi hit htup _ hk => ?_
        have tT : ∃ elts x1 pos, target = .Tuple elts x1 pos := by
          unfold Src.okT at ht; split at ht <;> first | exact ⟨_, _, _, rfl⟩ | (exact absurd ht (by decide)) | (rename_i q _; exact absurd rfl (q _ _))
        obtain ⟨elts, x1, pos, rfl⟩ := tT
        refine wpAny_letOwnedTupleGo_enum hi fun h₂ he₂ hs₂ => ?_
        have hel : e' < s.heap.objs.size := Heap.lt_size h2
        obtain ⟨a1, a2⟩ := push_stp (tk := s.toks + 1) (h' := h₂) (a := s.heap.objs.size) (o := .tup [.int i, x]) (ex := fun b => b = I ∨ b = e') R (fresh_none (Nat.le_refl _))
          ((hs₂.2 _ (Nat.ne_of_gt hel)).trans htup) ⟨[.int i s.toks, v], 0, rfl, .cons ⟨_, rfl⟩ (.cons (vr_mono (Nat.le_succ _) ext_lt hr) .nil)⟩ ho
          (fun b o n y => (hs₂.2 b (fun q => n (.inr q))).trans (hk b o (fun q => n (.inr q)) (fun q => n (.inl q)) y))
        obtain ⟨o, hi1, hi2⟩ := hit
        refine hs _ _ _ rfl _ _ _ a1 a2 ⟨Nat.lt_succ_self _, by rw [ext_self]⟩ ⟨fun b q => ?_, Nat.lt_succ_of_lt h0, I, e', v, rfl, ⟨o, (hs₂.2 I (Ne.symm h3)).trans hi1, by rw [ext_lt l h0]; exact hi2⟩, he₂, h3, rfl⟩
        obtain ⟨o', _, g, _⟩ := ItAt.isF (src := .enum l i) (it := .ref e') ⟨ho, h0, I, e', old, rfl, h1, h2, h3, rfl⟩ b q
        exact a1.not_owned g (ho b q)
      · rename_i hxi
        refine wpAny_pyNext_enum_end hh h2 h1 (isList_of g1) (by rw [List.getElem?_toArray]; exact g2.none hxi) fun h' hsb => ?_
        obtain ⟨a1, a2⟩ := other_keep (tk := s.toks) (h' := h') R ho (fun b o x y => hsb b o (fun q => x (.inl q)) y)
        exact hn rfl _ a1 a2
    · cases e
  | fin => cases e
end
end Q
end Mini

open PySem PySem.W PySem.Calls PyProof.Rows
set_option maxRecDepth 100000
namespace Mini
noncomputable section Q

def DenS (G : Gl) (k : Nat) (sx : Sx) (t : Stmt) (d : St → Option (Fl × St)) : Prop :=
  ∀ {env : Env} {A : Around} {ρ : Nat → Addr} {st : St} {s : Shared} {f : Fl} {st' : St}, Fst G env sx → Bud A k → InF G env sx ρ st s → d st = some (f, st') → EvS G env sx A flr (exec t env) ρ st s f st'
def DenSs (G : Gl) (k : Nat) (sx : Sx) (t : List Stmt) (d : St → Option (Fl × St)) : Prop :=
  ∀ {env : Env} {A : Around} {ρ : Nat → Addr} {st : St} {s : Shared} {f : Fl} {st' : St}, Fst G env sx → Bud A k → InF G env sx ρ st s → d st = some (f, st') → EvS G env sx A flr (execs t env) ρ st s f st'

section
variable {G : Gl} {k : Nat} {env : Env} {sx : Sx} {A : Around} {ρ ρ' : Nat → Addr} {st st' : St} {H H' : MH} {s s' : Shared}

theorem EvS.wp {α β : Type} {rel : (Nat → Addr) → Nat → β → α → Prop} {t : Sem α} {r : β} (h : EvS G env sx A rel t ρ st s r st') {Q : α → Shared → Prop} {E : Value → Shared → Prop}
    (k : ∀ a s' ρ', Aft ρ ρ' st.H st'.H s s' (Mine env sx) → InF G env sx ρ' st' s' → rel ρ' st'.H.n r a → Q a s') : wpAny G.M A t Q E s :=
  wpAny_mono (h Q k) (fun _ _ x => x) (fun _ _ x => x.elim)

/-- the rest of the way -/
theorem EvS.from {α β : Type} {rel : (Nat → Addr) → Nat → β → α → Prop} {t : Sem α} {r : β} {st₁ st₂ : St} {s₁ : Shared} {ρ₁ : Nat → Addr} (a : Aft ρ ρ₁ st.H st₁.H s s₁ (Mine env sx))
    (h : EvS G env sx A rel t ρ₁ st₁ s₁ r st₂) {Q : α → Shared → Prop} {E : Value → Shared → Prop} (k : ∀ b s' ρ', Aft ρ ρ' st.H st₂.H s s' (Mine env sx) → InF G env sx ρ' st₂ s' → rel ρ' st₂.H.n r b → Q b s') : wpAny G.M A t Q E s₁ :=
  h.wp fun b s' ρ' a' i v => k b s' ρ' (a.trans a') i v

def nilS (st : St) : Option (Fl × St) := some (.next, st)
def seqS (d ds : St → Option (Fl × St)) (st : St) : Option (Fl × St) := (d st).bind fun p => match p.1 with
  | .next => ds p.2
  | _ => some p
theorem dss_nil : DenSs G k sx [] nilS := fun _ _ I e => by
  cases e
  exact fun Q q => wpAny_execs_nil (q _ _ _ .refl I rfl)
theorem dss_cons {t : Stmt} {ts : List Stmt} {d ds : St → Option (Fl × St)} (h : DenS G k sx t d) (hs : DenSs G k sx ts ds) : DenSs G k sx (t :: ts) (seqS d ds) := fun F B I e => by
  obtain ⟨⟨f, st₁⟩, e1, e⟩ := Option.bind_eq_some_iff.mp e
  refine fun Q q => wpAny_execs_cons (h F B I e1 _ fun a s₁ ρ₁ a₁ i₁ v₁ => ?_)
  cases f with
  | next => cases v₁; exact (hs F B i₁ e).from a₁ q
  | brk => cases v₁; cases e; exact q _ _ _ a₁ i₁ rfl
  | cont => cases v₁; cases e; exact q _ _ _ a₁ i₁ rfl
  | ret v => obtain ⟨w, rfl, hw⟩ := v₁; cases e; exact q _ _ _ a₁ i₁ ⟨w, rfl, hw⟩

def asgS (d : St → Option (MV × MH)) (f : MV → St → Option St) (st : St) : Option (Fl × St) := (d st).bind fun p => (f p.1 ⟨st.vs, p.2⟩).map fun st => (.next, st)
theorem ds_assign {t value : Expr} {pos : Pos} {d : St → Option (MV × MH)} {f : MV → St → Option St} (hv : DenE G k sx value d) (ht : AsgT G k sx t f)
    (hs : ∀ env : Env, env.scope = sx.scope → swapsWithSole [t] value pos.line env = pure false) (hw : ∀ env, swappedStores [t] value env = pure none) (he : ∀ env, (assignEach [t] env).map (·.2) = [assign t env]) :
    DenS G k sx (.Assign [t] value pos) (asgS d f) := fun F B I e => by
  obtain ⟨⟨v, H₁⟩, e1, e⟩ := Option.bind_eq_some_iff.mp e
  obtain ⟨st₁, e2, e⟩ := Option.map_eq_some_iff.mp e
  cases e
  refine fun Q q => wpAny_Assign_stores (hv F B I e1 _ fun a s₁ ρ₁ a₁ r₁ v₁ => ?_) (hs _ F.scope) (hw _)
  rw [he]
  exact (ht F B (I.after a₁ r₁) v₁ e2).wp fun b s₂ ρ₂ a₂ i₂ _ => q _ _ _ ((I.lift a₁).trans a₂) i₂ rfl
def asg3S (d : St → Option (MV × MH)) (f g h : MV → St → Option St) (st : St) : Option (Fl × St) := (d st).bind fun p => (f p.1 ⟨st.vs, p.2⟩).bind fun st => (g p.1 st).bind fun st => (h p.1 st).map fun st => (.next, st)
theorem ds_assign3 {t₁ t₂ t₃ value : Expr} {pos : Pos} {d : St → Option (MV × MH)} {f₁ f₂ f₃ : MV → St → Option St} (hv : DenE G k sx value d) (h1 : AsgT G k sx t₁ f₁) (h2 : AsgT G k sx t₂ f₂) (h3 : AsgT G k sx t₃ f₃)
    (he : ∀ env, (assignEach [t₁, t₂, t₃] env).map (·.2) = [assign t₁ env, assign t₂ env, assign t₃ env]) (hw : ∀ env, swappedStores [t₁, t₂, t₃] value env = pure none) :
    DenS G k sx (.Assign [t₁, t₂, t₃] value pos) (asg3S d f₁ f₂ f₃) := fun F B I e => by
  obtain ⟨⟨v, H₁⟩, e1, e⟩ := Option.bind_eq_some_iff.mp e
  obtain ⟨st₁, e2, e⟩ := Option.bind_eq_some_iff.mp e
  obtain ⟨st₂, e3, e⟩ := Option.bind_eq_some_iff.mp e
  obtain ⟨st₃, e4, e⟩ := Option.map_eq_some_iff.mp e
  cases e
  refine fun Q q => wpAny_Assign_three (hv F B I e1 _ fun a s₁ ρ₁ a₁ r₁ v₁ => ?_) (he _) (hw _)
  exact (h1 F B (I.after a₁ r₁) v₁ e2).wp fun b s₂ ρ₂ a₂ i₂ _ => (h2 F B i₂ (vr_mono a₂.le a₂.agree v₁) e3).wp fun b s₃ ρ₃ a₃ i₃ _ =>
    (h3 F B i₃ (vr_mono a₃.le a₃.agree (vr_mono a₂.le a₂.agree v₁)) e4).wp fun b s₄ ρ₄ a₄ i₄ _ => q _ _ _ ((((I.lift a₁).trans a₂).trans a₃).trans a₄) i₄ rfl

def ifS (c : St → Option (Bool × MH)) (d d' : St → Option (Fl × St)) (st : St) : Option (Fl × St) := (c st).bind fun p => if p.1 then d ⟨st.vs, p.2⟩ else d' ⟨st.vs, p.2⟩
theorem ds_if {c : Expr} {b b' : List Stmt} {pos : Pos} {dc : St → Option (Bool × MH)} {d d' : St → Option (Fl × St)} (hc : DenB G k sx c dc) (h : DenSs G k sx b d) (h' : DenSs G k sx b' d') : DenS G k sx (.If c b b' pos) (ifS dc d d') := fun F B I e => by
  obtain ⟨⟨v, H₁⟩, e1, e⟩ := Option.bind_eq_some_iff.mp e
  refine fun Q q => wpAny_If (hc F B I e1 _ fun a s₁ ρ₁ a₁ r₁ v₁ => ?_)
  cases v₁
  cases v with
  | true => exact (h F B (I.after a₁ r₁) e).from (I.lift a₁) q
  | false => exact (h' F B (I.after a₁ r₁) e).from (I.lift a₁) q

def retS (d : St → Option (MV × MH)) (st : St) : Option (Fl × St) := (d st).map fun p => (.ret p.1, ⟨st.vs, p.2⟩)
theorem ds_ret {e : Expr} {pos : Pos} {d : St → Option (MV × MH)} (h : DenE G k sx e d) : DenS G k sx (.Return (some e) pos) (retS d) := fun F B I e => by
  obtain ⟨⟨v, H₁⟩, e1, e⟩ := Option.map_eq_some_iff.mp e
  cases e
  exact fun Q q => wpAny_Return_some (h F B I e1 _ fun a s₁ ρ₁ a₁ r₁ v₁ => q _ _ _ (I.lift a₁) (I.after a₁ r₁) ⟨_, rfl, v₁⟩)
theorem ds_ret0 {pos : Pos} : DenS G k sx (.Return none pos) (fun st => some (.ret (.val .none), st)) := fun _ _ I e => by
  cases e
  exact fun Q q => wpAny_Return_none (q _ _ _ .refl I ⟨_, rfl, rfl⟩)
theorem ds_break {pos : Pos} : DenS G k sx (.Break pos) (fun st => some (.brk, st)) := fun _ _ I e => by
  cases e
  exact fun Q q => fun _ _ _ => q _ _ _ .refl I rfl

def exprS (d : St → Option (MV × MH)) (st : St) : Option (Fl × St) := (d st).map fun p => (.next, ⟨st.vs, p.2⟩)
theorem ds_expr {e : Expr} {pos : Pos} {d : St → Option (MV × MH)} (h : DenE G k sx e d) (hs : ∀ env, swapsWith e none pos.line env = pure false) : DenS G k sx (.Expr e pos) (exprS d) := fun F B I e => by
  obtain ⟨⟨v, H₁⟩, e1, e⟩ := Option.map_eq_some_iff.mp e
  cases e
  exact fun Q q => wpAny_Expr_any (h F B I e1 _ fun a s₁ ρ₁ a₁ r₁ v₁ => q _ _ _ (I.lift a₁) (I.after a₁ r₁) rfl) (by unfold interactive; rw [F.scope, F.kind]; rfl) (hs _)

/-! while -/
def whileD (c : St → Option (Bool × MH)) (b : St → Option (Fl × St)) : Nat → St → Option (Fl × St)
  | 0, _ => none
  | n + 1, st => (c st).bind fun p => if p.1 then (b ⟨st.vs, p.2⟩).bind fun q => (match q.1 with
      | .next => whileD c b n q.2
      | .cont => whileD c b n q.2
      | .brk => some (.next, q.2)
      | .ret v => some (.ret v, q.2)) else some (.next, ⟨st.vs, p.2⟩)
theorem ds_while {c : Expr} {b : List Stmt} {pos : Pos} {dc : St → Option (Bool × MH)} {d : St → Option (Fl × St)} (N : Nat) (hc : DenB G k sx c dc) (h : DenSs G k sx b d) : DenS G k sx (.While c b [] pos) (whileD dc d N) := fun {env} {A} {ρ} {st} {s} {f} {st'} F B I e => by
  refine fun Q q => wpAny_While (codeAny_whileLoop (fun n s' => ∃ ρ' st₁, Aft ρ ρ' st.H st₁.H s s' (Mine env sx) ∧ InF G env sx ρ' st₁ s' ∧ whileD dc d n st₁ = some (f, st')) (fun n s' hI => ?_) N ⟨ρ, st, .refl, I, e⟩)
  obtain ⟨ρ₁, st₁, a₁, i₁, e⟩ := hI
  cases n with
  | zero => cases e
  | succ n =>
    obtain ⟨⟨v, H₁⟩, e1, e⟩ := Option.bind_eq_some_iff.mp e
    refine (hc F B i₁ e1).wp fun a s₂ ρ₂ a₂ r₂ v₂ => ?_
    cases v₂
    cases v with
    | false =>
      cases e
      exact wpAny_execs_nil (q _ _ _ (a₁.trans (i₁.lift a₂)) (i₁.after a₂ r₂) rfl)
    | true =>
      obtain ⟨⟨f₁, st₂⟩, e2, e⟩ := Option.bind_eq_some_iff.mp e
      refine (h F B (i₁.after a₂ r₂) e2).from (a₁.trans (i₁.lift a₂)) fun g s₃ ρ₃ a₃ i₃ v₃ => ?_
      cases f₁ with
      | next => cases v₃; exact ⟨n, Nat.lt_succ_self _, ρ₃, st₂, a₃, i₃, e⟩
      | cont => cases v₃; exact ⟨n, Nat.lt_succ_self _, ρ₃, st₂, a₃, i₃, e⟩
      | brk => cases v₃; cases e; exact q _ _ _ a₃ i₃ rfl
      | ret v => obtain ⟨w, rfl, hw⟩ := v₃; cases e; exact q _ _ _ a₃ i₃ ⟨w, rfl, hw⟩

/-! for -/
def DenI (G : Gl) (k : Nat) (sx : Sx) (e : Expr) (d : St → Option (Src × MH)) : Prop :=
  ∀ {env : Env} {A : Around} {ρ : Nat → Addr} {st : St} {s : Shared} {src : Src} {H' : MH}, Fst G env sx → Bud A k → InF G env sx ρ st s → d st = some (src, H') →
    ∀ Q : Value → Shared → Prop, (∀ it s' ρ' ex, Aft ρ ρ' st.H H' s s' NoEx → Rep G.P ρ' H' s'.heap → ItAt ρ' H' s'.heap it src ex → (∀ b, ex b → s.heap.get? b = none ∨ Owned ρ st.H b) → Q it s') →
      wpAny G.M A (eval e env) (fun x s₁ => wpAny G.M A (pyIter x) Q (fun _ _ => False) s₁) (fun _ _ => False) s

def iterOf (v : MV) (H : MH) : Option Src := match v with
  | .ref l => (match H.get l with
    | some (.list _) => some (.list l 0)
    | some (.tup _) => some (.tup l 0)
    | some (.range lo hi) => if -1000000 ≤ lo ∧ lo ≤ 1000000 ∧ -1000000 ≤ hi ∧ hi ≤ 1000000 then some (.range lo (hi - lo).toNat) else none
    | _ => none)
  | .str x => if x.cps.all (· < 128) = true then some (.str x 0) else none
  | _ => none

theorem Aft.fresh {ex : Addr → Prop} (a : Aft ρ ρ' H H' s s' ex) {b : Addr} (h : s'.heap.get? b = none) : s.heap.get? b = none ∨ Owned ρ H b := by
  classical
  by_cases hO : Owned ρ H b
  · exact .inr hO
  · refine .inl ?_
    cases e : s.heap.get? b with
    | none => rfl
    | some o =>
      by_cases hx : ex b
      · obtain ⟨o', e'⟩ := a.live b o hx e; rw [h] at e'; cases e'
      · have := a.keep b o e hO hx; rw [h] at this; cases this
theorem den_iter {e : Expr} {d : St → Option (MV × MH)} (h : DenE G k sx e d) : DenI G k sx e (fun st => (d st).bind fun p => (iterOf p.1 p.2).map fun src => (src, p.2)) := fun {_} {_} {ρ} {st} {s} {src} {_} F B I e Q q => by
  obtain ⟨⟨v, H₁⟩, e1, e⟩ := Option.bind_eq_some_iff.mp e
  obtain ⟨src', e2, e⟩ := Option.map_eq_some_iff.mp e
  cases e
  refine h F B I e1 _ fun a s₁ ρ₁ a₁ r₁ v₁ => ?_
  have nO : ¬ Owned ρ₁ H₁ s₁.heap.objs.size := fun ⟨l, o, g, e⟩ => by
    obtain ⟨ob, g, _⟩ := r₁.at_ l o g; rw [e, fresh_none (Nat.le_refl _)] at g; cases g
  have key : ∀ ob, ItAt ρ₁ H₁ (s₁.heap.push ob) (.ref s₁.heap.objs.size) src (· = s₁.heap.objs.size) → Q (.ref s₁.heap.objs.size) { s₁ with heap := s₁.heap.push ob } := fun ob x => by
    have g1 := Aft.garbage (ρ := ρ₁) (H := H₁) (s := s₁) (tk := s₁.toks) (ex := NoEx) (h' := s₁.heap.push ob) (fun b o e => Heap.get?_push_of_some _ e)
    refine q _ _ ρ₁ _ (a₁.trans g1) (r₁.garbage fun b o e => Heap.get?_push_of_some _ e) x fun b hb => ?_
    cases hb
    exact a₁.fresh (fresh_none (Nat.le_refl _))
  have nO' : ∀ b, b = s₁.heap.objs.size → ¬ Owned ρ₁ H₁ b := fun b e => e ▸ nO
  dsimp only at e2
  unfold iterOf at e2
  split at e2
  · obtain ⟨hl, rfl⟩ := v₁
    split at e2
    · rename_i hx
      cases e2
      obtain ⟨vs, ep, g1, g2⟩ := rep_list r₁ hx
      exact wpAny_pyIter_list (isList_of g1) (key _ ⟨nO', hl, _, rfl, ⟨_, Heap.get?_push_size _ rfl, rfl, rfl⟩, rfl⟩)
    · rename_i hx
      cases e2
      obtain ⟨vs, ep, g1, g2⟩ := rep_tup r₁ hx
      exact wpAny_pyIter_tuple (isTuple_of g1) (key _ ⟨nO', hl, _, rfl, ⟨_, Heap.get?_push_size _ rfl, rfl, rfl⟩, rfl⟩)
    · rename_i lo hi hx
      split at e2
      · rename_i hb
        cases e2
        obtain ⟨ob, g1, t, u, v, rfl⟩ := r₁.at_ _ _ hx
        refine wpAny_pyIter_range g1 (small_one (by omega) (by omega) (by omega) (by omega)) (key _ ⟨nO', _, rfl, ?_, rfl⟩)
        rw [show Builtin.Range.rangeSize lo hi 1 = ((hi - lo).toNat : Int) by rw [rangeSize_one]; split <;> omega]
        exact Heap.get?_push_size _ rfl
      · cases e2
    · cases e2
  · obtain ⟨t, rfl⟩ := v₁
    split at e2
    · rename_i ha
      cases e2
      exact wpAny_pyIter_ascii ha (key _ ⟨nO', ha, _, _, rfl, ⟨_, Heap.get?_push_size _ rfl, rfl, rfl⟩, rfl⟩)
    · cases e2
  · cases e2

def forD (b : MV → St → Option (Fl × St)) : Nat → Src → St → Option (Fl × St)
  | 0, _, _ => none
  | n + 1, src, st => (src.next st.H).bind fun r => match r with
    | none => some (.next, st)
    | some (v, src', H') => (b v ⟨st.vs, H'⟩).bind fun q => (match q.1 with
      | .next => forD b n src' q.2
      | .cont => forD b n src' q.2
      | .brk => some (.next, q.2)
      | .ret v => some (.ret v, q.2))
def Src.fuel : Src → MH → Nat
  | .list l i, H => (match H.get l with | some (.list xs) => xs.length + 1 - i | _ => 0)
  | .tup l i, H => (match H.get l with | some (.tup xs) => xs.length + 1 - i | _ => 0)
  | .range _ n, _ => n + 1
  | .str x i, _ => x.cps.size + 1 - i
  | .enum l i, H => (match H.get l with | some (.list xs) => xs.length + 1 - i | _ => 0)
  | .fin, _ => 0
def forS (t : Expr) (di : St → Option (Src × MH)) (f : MV → St → Option St) (b : St → Option (Fl × St)) (st : St) : Option (Fl × St) := (di st).bind fun p =>
  if p.1.okT t then forD (fun v st => (f v st).bind b) (p.1.fuel p.2) p.1 ⟨st.vs, p.2⟩ else none

def Src.isEnum : Src → Bool
  | .enum .. => true
  | _ => false
theorem isEnum_next {src src' : Src} {v : MV} (e : src.next H = some (some (v, src', H'))) : src'.isEnum = src.isEnum := by
  unfold Src.next at e
  split at e <;> (try (split at e)) <;> (try (split at e)) <;> cases e <;> rfl
theorem okT_iff {src : Src} {t : Expr} : src.okT t = true ↔ (src.isEnum = true → ∃ elts j p, t = .Tuple elts j p) := by
  cases src with
  | enum l i =>
    refine ⟨fun h _ => ?_, fun h => ?_⟩
    · unfold Src.okT at h
      split at h
      · exact ⟨_, _, _, rfl⟩
      · cases h
      · rename_i q _; exact absurd rfl (q _ _)
    · obtain ⟨elts, j, p, rfl⟩ := h rfl; rfl
  | _ => exact Iff.intro (fun _ q => absurd q (by simp [Src.isEnum])) (fun _ => rfl)
theorem okT_next {src src' : Src} {t : Expr} {v : MV} (e : src.next H = some (some (v, src', H'))) (h : src.okT t = true) : src'.okT t = true := by
  rw [okT_iff] at h ⊢; rw [isEnum_next e]; exact h

theorem ds_for {t it : Expr} {b : List Stmt} {pos : Pos} {di : St → Option (Src × MH)} {f : MV → St → Option St} {d : St → Option (Fl × St)} (hi : DenI G k sx it di) (ht : AsgT G k sx t f) (h : DenSs G k sx b d)
    (hs : ∀ env x, foldedSetIterable it env x = pure x) : DenS G k sx (.For t it b [] pos) (forS t di f d) := fun {env} {A} {ρ} {st} {s} {fl} {st'} F B I e => by
  obtain ⟨⟨src, H₁⟩, e1, e⟩ := Option.bind_eq_some_iff.mp e
  dsimp only at e
  split at e
  case isFalse => cases e
  rename_i hok
  refine fun Q q => wpAny_For (wpAny_mono (hi F B I e1 _ fun itv s₁ ρ₁ ex a₁ r₁ v₁ n₁ => ?_) (fun _ _ x => wpAny_mono x (fun _ _ x => x) (fun _ _ x => x.elim)) (fun _ _ x => x.elim)) (hs _)
  refine codeAny_forLoop_any (fun n s' => ∃ ρ' st₁ src, Aft ρ ρ' st.H st₁.H s s' (Mine env sx) ∧ InF G env sx ρ' st₁ s' ∧ ItAt ρ' st₁.H s'.heap itv src ex ∧ src.okT t = true ∧ forD (fun v st => (f v st).bind d) n src st₁ = some (fl, st'))
    (fun n s' hI => ?_) (src.fuel H₁) ⟨ρ₁, ⟨st.vs, H₁⟩, src, I.lift a₁, I.after a₁ r₁, v₁, hok, e⟩
  obtain ⟨ρ₂, st₂, src₂, a₂, i₂, v₂, ok₂, e₂⟩ := hI
  cases n with
  | zero => cases e₂
  | succ n =>
    obtain ⟨r, e3, e4⟩ := Option.bind_eq_some_iff.mp e₂
    have hb : ∀ b o, G.h₀.get? b = some o → ¬ ex b := fun b o e x => by
      have := I.bas.base b o e; exact (n₁ b x).elim (fun q => by rw [q] at this; cases this.1) this.2
    refine next_ok (E := notedBy G.M A env _) B.h i₂.bas.rep v₂ e3 ok₂ (fun hr s' a r' => ?_) (fun v src' H' hr w s' ρ' a r' hv ia => ?_)
    · subst hr
      cases e4
      exact wpAny_execs_nil (q _ _ ρ₂ (a₂.skip a n₁ (fun b m o => I.off b o m) fun b m o => i₂.off b o m) (i₂.afterEx a r' v₂.isF hb) rfl)
    · subst hr
      obtain ⟨⟨f₁, st₃⟩, e5, e6⟩ := Option.bind_eq_some_iff.mp e4
      obtain ⟨st₄, e7, e8⟩ := Option.bind_eq_some_iff.mp e5
      have A1 := a₂.skip a n₁ (fun b m o => I.off b o m) fun b m o => i₂.off b o m
      have I1 : InF G env sx ρ' ⟨st₂.vs, H'⟩ s' := i₂.afterEx a r' v₂.isF hb
      refine (ht F B I1 hv e7).wp fun _ s₅ ρ₅ a₅ i₅ _ => ?_
      have nm : ∀ {ρ : Nat → Addr} {st : St} {s : Shared}, InF G env sx ρ st s → IsF s ex → ∀ b, ex b → ¬ Mine env sx b := fun i v b x m => by
        obtain ⟨o, vs, g, d⟩ := v b x
        rcases m with rfl | ⟨y, _, hc⟩
        · obtain ⟨_, ⟨o', es, ep, ho, hd, _⟩, _⟩ := i.ns; rw [ho] at g; cases g; rw [hd] at d; cases d
        · obtain ⟨⟨_, o', ho, hd⟩, _⟩ := i.cells y b hc; rw [ho] at g; cases g; rw [hd] at d; cases d
      have v5 := ItAt.after ia a₅ (nm I1 ia.isF)
      refine (h F B i₅ e8).wp fun g s₃ ρ₃ a₃ i₃ v₃ => ?_
      have v6 := v5.after a₃ (nm i₅ v5.isF)
      have A3 := (A1.trans a₅).trans a₃
      cases f₁ with
      | next => cases v₃; exact ⟨n, Nat.lt_succ_self _, ρ₃, st₃, src', A3, i₃, v6, okT_next e3 ok₂, e6⟩
      | cont => cases v₃; exact ⟨n, Nat.lt_succ_self _, ρ₃, st₃, src', A3, i₃, v6, okT_next e3 ok₂, e6⟩
      | brk => cases v₃; cases e6; exact q _ _ _ A3 i₃ rfl
      | ret v => obtain ⟨w, rfl, hw⟩ := v₃; cases e6; exact q _ _ _ A3 i₃ ⟨w, rfl, hw⟩
end
end Q
end Mini

open PySem PySem.W PySem.Calls PyProof.Rows
set_option maxRecDepth 100000
namespace Mini
noncomputable section Q
section
variable {G : Gl} {k : Nat} {env : Env} {sx : Sx} {A : Around} {ρ ρ' : Nat → Addr} {st st' : St} {H H' : MH} {s s' : Shared} {x v : MV} {a b : Value}

def attrSet (C : Addr) (attr : Str) (x v : MV) (H : MH) : Option MH := match x with
  | .ref l => (match H.get l with
    | some (.inst C' d) => if C' = C then (match H.get d with | some (.ns es) => if es.length ≤ 100 then some (H.set d (.ns (putE es attr v))) else none | _ => none) else none
    | _ => none)
  | _ => none
theorem putL_len (name : Str) (h : Int) (key v : Value) (l : List DictEntry) : (putL name h key v l).length ≤ l.length + 1 := by
  induction l with
  | nil => simp [putL]
  | cons e r ih => unfold putL; split <;> simp <;> omega
theorem osa_own {prog : Program} {w : World} {K : Frag} {x C dx : Addr} {R : Result → Shared → Prop} {ox : Obj} {ds : List DictEntry} {n : Nat} {name : Str} {tk : Tok} {v : Value} (X : K.In s.heap)
    (I : InstAt s.heap x ox C (some (dictOf ds n))) (hd : ox.dict = some dx) (hp : plainOver K C = true) (ht : takerIn K C name = some none) (hh : (clsIn K C).any (·.hasDict) = true)
    (hk : ∀ e ∈ ds, ∃ n t, e.key = .str n t) (hz : ds.length ≤ 1000)
    (h : R (.ok (.ret .none)) { s with heap := s.heap.update dx (Obj.putName name (PyData.keyHash w.params name) (.str name s.toks) v), toks := s.toks + 1 }) :
    codeAny (model prog w) A (.call (.builtin "object.__setattr__") ⟨[.ref x, .str name tk, v], []⟩) R s := by
  refine osa_open X I hp ht fun b => ?_
  obtain ⟨cd, hc, hd'⟩ := any_some hh
  obtain ⟨hx, hcl, hn, D⟩ := I
  obtain ⟨oc, odi, oda, osl⟩ := ox
  dsimp only at hcl hd
  subst hcl hd
  dsimp only at D
  refine wpAny_bind (wpAny_pure (wpAny_bind (wpAny_bind (wpAny_loadPart hx (wpAny_bind ((looks_clsIn X hc).here ?_))))))
  rw [hd']
  refine wpAny_pure (a := some dx) (wpAny_bind (wpAny_pure (wpAny_bind ?_)))
  unfold nsSet
  refine wpAny_bind (wpAny_bind (wpAny_askSetting (wpAny_pure (wpAny_bind (wpAny_mkText (wpAny_bind (wpAny_loadPart D ?_)))))))
  dsimp only
  have c : (!(ds.toArray.any (·.key.isStr name)) && ds.toArray.any (·.refKey)) = false := by
    have : ds.toArray.any (·.refKey) = false := by
      rw [← Array.any_toList, List.any_eq_false]
      intro e he'
      obtain ⟨y, t, q⟩ := hk e (by simpa using he')
      simp [DictEntry.refKey, q]
    rw [this, Bool.and_false]
  rw [aRefKeyMayBeTheName_at, c]
  refine wpAny_updatePart D ?_
  have u := Heap.get?_update_self (f := Obj.putName name (PyData.keyHash w.params name) (.str name s.toks) v) D (by rw [putName_dict]; rfl)
  rw [putName_dict] at u
  refine wpAny_bind (wpAny_lookBehind u (pastItsLine_dict (by rw [List.size_toArray, sizeLine_eq]; have := putL_len name (PyData.keyHash w.params name) (.str name s.toks) v ds; omega)) ?_)
  exact wpAny_pure h
/-- how attributes of C are set -/
structure SetsIn (K : Frag) (C : Addr) (attr : Str) : Prop where
  hs : findIn K (.ref C) "__setattr__" = some (some (.builtin "object.__setattr__"))
  hp : plainOver K C = true
  ht : takerIn K C attr = some none
  hh : (clsIn K C).any (·.hasDict) = true

theorem setattr_ok {C : Addr} {attr : Str} (Y : SetsIn G.K C attr) (B : Bas G ρ H s) (e : attrSet C attr x v H = some H') (hx : vr ρ H.n x a) (hv : vr ρ H.n v b) : EvX G.M G.P A Un (setAttr a attr b) ρ H s () H' := by
  obtain ⟨hs, hp, ht, hh⟩ := Y
  unfold attrSet at e
  split at e
  case h_2 => cases e
  rename_i lx
  split at e
  case h_2 => cases e
  rename_i h1
  split at e
  case isFalse => cases e
  rename_i hC
  split at e
  case h_2 => cases e
  rename_i es h2
  split at e
  case isFalse => cases e
  rename_i hz
  cases e; subst hC
  obtain ⟨es', e2, _⟩ : ∃ es', instOf _ (.ref lx) H = some es' ∧ es' = es := ⟨es, by unfold instOf; simp only [h1, h2]; exact if_pos rfl, rfl⟩
  obtain ⟨l, d, od, kk, ds, q1, q2, q3, rfl, g2, rfl, he, I⟩ := instOf_at B e2 hx
  cases q1
  rw [h1] at q2; cases q2
  rw [h2] at q3; cases q3
  refine .set B.rep h2 fun Q q => ?_
  refine set_plain B.K I hs (osa_own (s := { s with toks := s.toks + 1 }) B.K I rfl hp ht hh he.keys (by rw [he.length]; omega) ?_)
  have u := Heap.get?_update_self (f := Obj.putName attr (PyData.keyHash G.w.params attr) (.str attr (s.toks + 1)) b) g2 (by rw [putName_dict]; rfl)
  rw [putName_dict] at u
  exact q () _ _ _ u ⟨_, _, rfl, he.put hv⟩ (fun b' x n e => ((Heap.SameBut.update ..).2 b' n).trans e) trivial

theorem asg_attr {o : Expr} {attr : Str} {pos : Pos} {C : Addr} {d : St → Option (MV × MH)} (Y : SetsIn G.K C attr) (h : DenE G k sx o d) :
    AsgT G k sx (.Attribute o attr pos) (fun v st => (d st).bind fun p => (attrSet C attr p.1 v p.2).map fun H => ⟨st.vs, H⟩) := fun F B I hv e => by
  obtain ⟨⟨x, H₁⟩, e1, e⟩ := Option.bind_eq_some_iff.mp e
  obtain ⟨H₂, e2, e⟩ := Option.map_eq_some_iff.mp e
  cases e
  intro Q q
  rw [arm_assign_Attribute]
  refine wpAny_bind (wpAny_holding (h F B I e1 _ fun a s₁ ρ₁ a₁ r₁ v₁ => wpAny_bind (wpAny_standAt (wpAny_bind (wpAny_holding (setattr_ok Y (I.after a₁ r₁).bas e2 v₁ (vr_mono a₁.le a₁.agree hv) _ fun b s₂ ρ₂ a₂ r₂ _ =>
    wpAny_release (q _ _ _ (I.lift (a₁.trans a₂)) (I.after (a₁.trans a₂) r₂) trivial)))))))

/-! items -/
def itemSet (x i v : MV) (H : MH) : Option MH := match x, i with
  | .ref l, .int j => (match H.get l with
    | some (.list xs) => if 0 ≤ j ∧ j < xs.length ∧ j < 1000000 then some (H.set l (.list (xs.set j.toNat v))) else none
    | _ => none)
  | _, _ => none
theorem VRs.set {n : Nat} {xs : List MV} {vs : List Value} (h : VRs ρ n xs vs) {i : Nat} (hv : vr ρ n x a) : VRs ρ n (xs.set i x) (vs.set i a) := by
  induction h generalizing i with
  | nil => exact .nil
  | cons h r ih =>
    cases i with
    | zero => exact .cons hv r
    | succ i => exact .cons h ih
theorem asg_item {o i : Expr} {pos : Pos} {d di : St → Option (MV × MH)} (h : DenE G k sx o d) (hi : DenE G k sx i di) :
    AsgT G k sx (.Subscript o i pos) (fun v st => (d st).bind fun p => (di ⟨st.vs, p.2⟩).bind fun q => (itemSet p.1 q.1 v q.2).map fun H => ⟨st.vs, H⟩) := fun {env} {A} {ρ} {st} {st'} {s} {v} {w} F B I hv e => by
  obtain ⟨⟨x, H₁⟩, e1, e⟩ := Option.bind_eq_some_iff.mp e
  obtain ⟨⟨j, H₂⟩, e2, e⟩ := Option.bind_eq_some_iff.mp e
  obtain ⟨H₃, e3, e⟩ := Option.map_eq_some_iff.mp e
  cases e
  intro Q q
  rw [arm_assign_Subscript]
  refine wpAny_bind (wpAny_holding (h F B I e1 _ fun a s₁ ρ₁ a₁ r₁ v₁ => wpAny_bind (wpAny_holding (hi F B (I.after a₁ r₁) e2 _ fun b s₂ ρ₂ a₂ r₂ v₂ => wpAny_bind (wpAny_standAt (wpAny_bind (wpAny_holding ?_)))))))
  have I2 := (I.after a₁ r₁).after a₂ r₂
  have hv2 := vr_mono a₂.le a₂.agree (vr_mono a₁.le a₁.agree hv)
  have v1 := vr_mono a₂.le a₂.agree v₁
  dsimp only at e3 v1 v₂
  unfold itemSet at e3
  split at e3
  case h_2 => cases e3
  rename_i l j _
  obtain ⟨_, rfl⟩ := v1
  obtain ⟨t, rfl⟩ := v₂
  split at e3
  case h_2 => cases e3
  rename_i xs h1
  split at e3
  case isFalse => cases e3
  rename_i hb
  cases e3
  obtain ⟨vs, n1, g1, v3⟩ := rep_list r₂ h1
  refine ki_setAt g1 hb.1 (by omega) (by rw [List.size_toArray, v3.length]; exact hb.2.1) ?_
  obtain ⟨n', g2⟩ := updSeq g1 (·.setIfInBounds j.toNat w)
  obtain ⟨x1, x2⟩ := set_own (tk := s₂.toks) (ex := NoEx) (o' := .list (xs.set j.toNat v)) r₂ h1 g2 ⟨vs.set j.toNat w, n', by rw [List.setIfInBounds_toArray], v3.set hv2⟩ (fun b x n e => ((Heap.SameBut.update ..).2 b n).trans e)
  exact wpAny_release (q _ _ _ (I.lift ((a₁.trans a₂).trans x1)) (I.after ((a₁.trans a₂).trans x1) x2) trivial)

/-- an own __setitem__ -/
theorem asg_own {o i : Expr} {pos : Pos} {C f : Addr} {d di : St → Option (MV × MH)} {g : List MV → List (Str × MV) → MH → Option (MV × MH)} (h : DenE G k sx o d) (hi : DenE G k sx i di)
    (hq : noSeq G.K C = true) (hs : findIn G.K (.ref C) "__setitem__" = some (some (.ref f))) (hf : isFn G.K (.ref f) = true) (hd : FnDen G k (.ref f) g) :
    AsgT G k sx (.Subscript o i pos) (fun v st => (d st).bind fun p => (di ⟨st.vs, p.2⟩).bind fun q => if (instOf C p.1 q.2).isSome then (g [p.1, q.1, v] [] q.2).map fun r => ⟨st.vs, r.2⟩ else none) := fun F B I hv e => by
  obtain ⟨⟨x, H₁⟩, e1, e⟩ := Option.bind_eq_some_iff.mp e
  obtain ⟨⟨j, H₂⟩, e2, e⟩ := Option.bind_eq_some_iff.mp e
  dsimp only at e
  split at e
  case isFalse => cases e
  rename_i hin
  obtain ⟨es, hin⟩ := Option.isSome_iff_exists.mp hin
  obtain ⟨⟨r, H₃⟩, e3, e⟩ := Option.map_eq_some_iff.mp e
  cases e
  intro Q q
  rw [arm_assign_Subscript]
  refine wpAny_bind (wpAny_holding (h F B I e1 _ fun a s₁ ρ₁ a₁ r₁ v₁ => wpAny_bind (wpAny_holding (hi F B (I.after a₁ r₁) e2 _ fun b s₂ ρ₂ a₂ r₂ v₂ => wpAny_bind (wpAny_standAt (wpAny_bind (wpAny_holding ?_)))))))
  have I2 := (I.after a₁ r₁).after a₂ r₂
  have v1 := vr_mono a₂.le a₂.agree v₁
  obtain ⟨l, dd, od, kk, ds, rfl, _, _, rfl, _, rfl, _, J⟩ := instOf_at I2.bas hin v1
  unfold setItem sequenceKey
  refine wpAny_holding (wpAny_bind (wpAny_bind (J.type.here ?_)))
  refine wpAny_bind ((anyM_none I2.bas.K hq).here ?_)
  rw [if_pos (show (!false) = true from rfl)]
  refine wpAny_pure (wpAny_bind (special_fn I2.bas.K J hs (beq_iff_eq.mp hf) ?_))
  refine hd B I2.bas (.cons (vr_mono a₂.le a₂.agree v₁) (.cons v₂ (.cons (vr_mono a₂.le a₂.agree (vr_mono a₁.le a₁.agree hv)) .nil))) .nil e3 _ fun c s₃ ρ₃ a₃ r₃ v₃ => ?_
  exact wpAny_pure (wpAny_release (q _ _ _ (I.lift ((a₁.trans a₂).trans a₃)) (I.after ((a₁.trans a₂).trans a₃) r₃) trivial))

/-- an own __delitem__ -/
theorem ds_del {o i : Expr} {pos pos' : Pos} {C f : Addr} {d di : St → Option (MV × MH)} {g : List MV → List (Str × MV) → MH → Option (MV × MH)} (h : DenE G k sx o d) (hi : DenE G k sx i di)
    (hq : noSeq G.K C = true) (hs : findIn G.K (.ref C) "__delitem__" = some (some (.ref f))) (hf : isFn G.K (.ref f) = true) (hd : FnDen G k (.ref f) g) :
    DenS G k sx (.Delete [.Subscript o i pos'] pos) (fun st => (d st).bind fun p => (di ⟨st.vs, p.2⟩).bind fun q => if (instOf C p.1 q.2).isSome then (g [p.1, q.1] [] q.2).map fun r => (.next, ⟨st.vs, r.2⟩) else none) := fun F B I e => by
  obtain ⟨⟨x, H₁⟩, e1, e⟩ := Option.bind_eq_some_iff.mp e
  obtain ⟨⟨j, H₂⟩, e2, e⟩ := Option.bind_eq_some_iff.mp e
  dsimp only at e
  split at e
  case isFalse => cases e
  rename_i hin
  obtain ⟨es, hin⟩ := Option.isSome_iff_exists.mp hin
  obtain ⟨⟨r, H₃⟩, e3, e⟩ := Option.map_eq_some_iff.mp e
  cases e
  intro Q q
  refine wpAny_Delete (wpAny_deleteEach_cons (wpAny_delete_Subscript (h F B I e1 _ fun a s₁ ρ₁ a₁ r₁ v₁ => hi F B (I.after a₁ r₁) e2 _ fun b s₂ ρ₂ a₂ r₂ v₂ => ?_)))
  have I2 := (I.after a₁ r₁).after a₂ r₂
  have v1 := vr_mono a₂.le a₂.agree v₁
  obtain ⟨l, dd, od, kk, ds, rfl, _, _, rfl, _, rfl, _, J⟩ := instOf_at I2.bas hin v1
  unfold delItem sequenceKey
  refine wpAny_holding (wpAny_bind (wpAny_bind (J.type.here ?_)))
  refine wpAny_bind ((anyM_none I2.bas.K hq).here ?_)
  rw [if_pos (show (!false) = true from rfl)]
  refine wpAny_pure (wpAny_bind (special_fn I2.bas.K J hs (beq_iff_eq.mp hf) ?_))
  refine hd B I2.bas (.cons (vr_mono a₂.le a₂.agree v₁) (.cons v₂ .nil)) .nil e3 _ fun c s₃ ρ₃ a₃ r₃ v₃ => ?_
  exact wpAny_pure (wpAny_deleteEach_nil (q _ _ _ (I.lift ((a₁.trans a₂).trans a₃)) (I.after ((a₁.trans a₂).trans a₃) r₃) rfl))

end
end Q
end Mini

open PySem PySem.W PySem.Calls PyProof.Rows
set_option maxRecDepth 100000
namespace Mini
noncomputable section Q

/-- the tests of a clause -/
def DenIfs (G : Gl) (k : Nat) (sx : Sx) (ifs : List Expr) (d : St → Option (Bool × MH)) : Prop :=
  ∀ {env : Env} {A : Around} {ρ : Nat → Addr} {st : St} {s : Shared} {v : Bool} {H' : MH}, Fst G env sx → Bud A k → InF G env sx ρ st s → d st = some (v, H') →
    EvX G.M G.P A (fun _ _ (c : Bool) c' => c' = c) (forIn ifs true fun c r => if r = true then do let ok ← PySem.isTrue c env (eval c env); pure (ForInStep.yield ok) else pure (ForInStep.yield r)) ρ st.H s v H'

def appTo (la : Nat) (v : MV) (H : MH) : Option MH := match H.get la with
  | some (.list xs) => if xs.length ≤ 100000 then some (H.set la (.list (xs ++ [v]))) else none
  | _ => none

def compFor (f : MV → St → Option St) (ti : St → Option (Bool × MH)) (body : St → Option St) : Nat → Src → St → Option St
  | 0, _, _ => none
  | n + 1, src, st => (src.next st.H).bind fun r => match r with
    | none => some st
    | some (v, src', H') => (f v ⟨st.vs, H'⟩).bind fun st => (ti st).bind fun p => (if p.1 = true then body ⟨st.vs, p.2⟩ else some ⟨st.vs, p.2⟩).bind fun st => compFor f ti body n src' st

def emitD (de : St → Option (MV × MH)) (la : Nat) (st : St) : Option St := (de st).bind fun p => (appTo la p.1 p.2).map fun H => ⟨st.vs, H⟩
def nestD (t : Expr) (di : St → Option (Src × MH)) (f : MV → St → Option St) (ti : St → Option (Bool × MH)) (body : Nat → St → Option St) (la : Nat) (st : St) : Option St := (di st).bind fun p =>
  if p.1.okT t = true then compFor f ti (body la) (p.1.fuel p.2) p.1 ⟨st.vs, p.2⟩ else none

def emitS (elt : Expr) (acc : Value) (env : Env) : Sem Unit := do
  let x ← eval elt env
  let _ ← call (.builtin "list.append") [acc, x]
  pure ()
def nestS (e : Expr) (d : Nat) (g' : Comprehension) (acc : Value) (env : Env) : Sem Unit := do
  let x ← eval g'.iter env
  standAt g'.iter.pos
  let x ← foldedSetIterable g'.iter env x
  let i ← holding [x] (pyIter x)
  let _ ← runOwn (.compStart e d i acc env) env
  pure ()
def bodyS (elt : Expr) (e : Expr) (gens : List Comprehension) (d : Nat) (acc : Value) (env : Env) : Sem Unit := match gens[d]? with
  | some g' => nestS e d g' acc env
  | none => emitS elt acc env

theorem compTurn_eq (elt : Expr) (gens : List Comprehension) (scope : Scope) (pos : Pos) (d : Nat) (it acc : Value) (env : Env) (target iter : Expr) (ifs : List Expr) (hg : gens[d]? = some ⟨target, iter, ifs, 0⟩)
    (hn : ∀ g', gens[d + 1]? = some g' → g'.is_async = 0) :
    compTurn (.ListComp elt gens scope pos) d it acc env = (standAt iter.pos >>= fun _ => pyNext it >>= fun r => match r with
      | none => pure (Fin.done Flow.next)
      | some v => letOwnedTupleGo target it v >>= fun _ => assign target env v >>= fun _ =>
        (forIn ifs true fun c r => if r = true then do let ok ← PySem.isTrue c env (eval c env); pure (ForInStep.yield ok) else pure (ForInStep.yield r)) >>= fun ok =>
          if ok = true then bodyS elt (.ListComp elt gens scope pos) gens (d + 1) acc env >>= fun _ => again (.compLoop (.ListComp elt gens scope pos) d it acc env)
          else again (.compLoop (.ListComp elt gens scope pos) d it acc env)) := by
  unfold compTurn bodyS nestS emitS
  simp only [hg]
  cases h : gens[d + 1]? with
  | none => rfl
  | some g' =>
    have := hn g' h
    obtain ⟨t', i', f', a'⟩ := g'
    cases this
    simp only [bind_assoc, pure_bind]
    rfl

section
variable {G : Gl} {k : Nat} {env : Env} {sx : Sx} {A : Around} {ρ ρ' : Nat → Addr} {st st' : St} {H H' : MH} {s s' : Shared}

def BodyJ (G : Gl) (k : Nat) (sx : Sx) (elt e : Expr) (gens : List Comprehension) (d : Nat) (body : Nat → St → Option St) : Prop :=
  ∀ {env : Env} {A : Around} {ρ : Nat → Addr} {st st' : St} {s : Shared} {la : Nat} {acc : Value}, Fst G env sx → Bud A k → InF G env sx ρ st s → vr ρ st.H.n (.ref la) acc → body la st = some st' →
    EvS G env sx A Un (bodyS elt e gens d acc env) ρ st s () st'

theorem body_emit {elt e : Expr} {gens : List Comprehension} {d : Nat} {de : St → Option (MV × MH)} (hd : gens[d]? = none) (h : DenE G k sx elt de) : BodyJ G k sx elt e gens d (emitD de) := fun F B I ha e => by
  obtain ⟨⟨x, H₁⟩, e1, e⟩ := Option.bind_eq_some_iff.mp e
  obtain ⟨H₂, e2, e⟩ := Option.map_eq_some_iff.mp e
  cases e
  unfold bodyS emitS
  rw [hd]
  refine fun Q q => wpAny_bind (h F B I e1 _ fun a s₁ ρ₁ a₁ r₁ v₁ => wpAny_bind ?_)
  have I1 := I.after a₁ r₁
  refine den_append (G := G) (k := k) (xs := [.ref _, x]) (ks := []) (H' := H₂) (r := .val .none) B I1.bas (.cons (vr_mono a₁.le a₁.agree ha) (.cons v₁ .nil)) .nil ?_ _ fun c s₂ ρ₂ a₂ r₂ _ => wpAny_pure (q _ _ _ (I.lift (a₁.trans a₂)) (I.after (a₁.trans a₂) r₂) trivial)
  unfold appTo at e2
  unfold appendF
  dsimp only at e2 ⊢
  split at e2
  · rename_i h1
    try simp only [h1]
    split at e2
    · rename_i h2; cases e2; rw [if_pos h2]
    · cases e2
  · cases e2

theorem iter_self {it : Value} {src : Src} {ex : Addr → Prop} {Q : Value → Shared → Prop} {E : Value → Shared → Prop} (h : ItAt ρ H s.heap it src ex) (q : Q it s) : wpAny G.M A (pyIter it) Q E s := by
  obtain ⟨_, h⟩ := h
  cases src with
  | list l i => obtain ⟨_, I, rfl, h1, _⟩ := h; exact wpAny_pyIter_listiter h1 q
  | tup l i => obtain ⟨_, I, rfl, h1, _⟩ := h; exact wpAny_pyIter_tupleiter h1 q
  | range lo n => obtain ⟨I, rfl, h1, _⟩ := h; exact wpAny_pyIter_rangeiter h1 q
  | str x i => obtain ⟨_, I, t, rfl, h1, _⟩ := h; exact wpAny_pyIter_striter_ascii h1 q
  | enum l i => obtain ⟨_, I, e, old, rfl, _, h1, _⟩ := h; exact wpAny_pyIter_enum h1 q
  | fin => exact False.elim h

theorem codeAny_compStart_at {elt : Expr} {gens : List Comprehension} {scope : Scope} {pos : Pos} {d : Nat} {it acc : Value} {env : Env} {g : Comprehension} {R : Result → Shared → Prop} (hg : gens[d]? = some g) (ha : g.is_async = 0)
    (h0 : codeAny G.M A (.compLoop (.ListComp elt gens scope pos) d it acc env) R s)
    (h : wpAny G.M A (pyIter it) (fun it' s' => codeAny G.M A (.compLoop (.ListComp elt gens scope pos) d it' acc env) R s') (fun _ _ => False) s) :
    codeAny G.M A (.compStart (.ListComp elt gens scope pos) d it acc env) R s := by
  refine codeAny_of_tree ?_
  show wpAny _ _ ((compStart (.ListComp elt gens scope pos) d it acc env).onRaise (fun x => do noteFrame x env; standAt theWindowsPlace)) _ _ s
  refine wpAny_notedAt ?_
  unfold compStart
  have hc : (clausesOf (.ListComp elt gens scope pos))[d]? = some g := hg
  simp only [hc, ha, Option.elim_some]
  rw [if_neg (by decide)]
  refine wpAny_bind (wpAny_askSetting (wpAny_ite ?_))
  split
  · exact wpAny_pure (And.intro rfl h0)
  · refine wpAny_bind (wpAny_rule ?_)
    exact wpAny_bind (wpAny_standAt (wpAny_bind (wpAny_mono h (fun it' s' h' => wpAny_pure (And.intro rfl h')) fun _ _ x => x.elim)))

/-- the loop of a clause -/
def LoopJ (G : Gl) (k : Nat) (sx : Sx) (elt : Expr) (gens : List Comprehension) (scope : Scope) (pos : Pos) (d : Nat) (t : Expr) (f : MV → St → Option St) (ti : St → Option (Bool × MH)) (body : Nat → St → Option St) : Prop :=
  ∀ {env : Env} {A : Around} {ρ₀ ρ : Nat → Addr} {H₀ : MH} {st st' : St} {s₀ s : Shared} {la : Nat} {acc it : Value} {src : Src} {ex : Addr → Prop} {n : Nat} {R : Result → Shared → Prop}, Fst G env sx → Bud A k → InF G env sx ρ st s → vr ρ st.H.n (.ref la) acc →
    ItAt ρ st.H s.heap it src ex → (∀ b o, G.h₀.get? b = some o → ¬ ex b) → src.okT t = true → compFor f ti (body la) n src st = some st' →
    Aft ρ₀ ρ H₀ st.H s₀ s (Mine env sx) → (∀ c, ex c → s₀.heap.get? c = none ∨ Owned ρ₀ H₀ c) → (∀ c, Mine env sx c → ¬ Owned ρ₀ H₀ c) →
    (∀ s' ρ', Aft ρ₀ ρ' H₀ st'.H s₀ s' (Mine env sx) → InF G env sx ρ' st' s' → vr ρ' st'.H.n (.ref la) acc → R (.ok .next) s') → codeAny G.M A (.compLoop (.ListComp elt gens scope pos) d it acc env) R s

theorem next_bind {α : Type} {it : Value} {src : Src} {ex : Addr → Prop} {r : Option (MV × Src × MH)} {target : Expr} {pn : Sem α} {ps : Value → Sem α} {Q : α → Shared → Prop} {E : Value → Shared → Prop}
    (hh : A.handled = none) (R : Rep G.P ρ H s.heap) (I : ItAt ρ H s.heap it src ex) (e : src.next H = some r) (ht : src.okT target = true)
    (hn : r = none → ∀ s', Stp ρ ρ H H s s' ex → Rep G.P ρ H s'.heap → wpAny G.M A pn Q E s')
    (hs : ∀ v src' H', r = some (v, src', H') → ∀ w s' ρ', Stp ρ ρ' H H' s s' ex → Rep G.P ρ' H' s'.heap → vr ρ' H'.n v w → ItAt ρ' H' s'.heap it src' ex → wpAny G.M A (ps w) Q E s') :
    wpAny G.M A (pyNext it >>= fun r => match r with
      | none => pn
      | some v => letOwnedTupleGo target it v >>= fun _ => ps v) Q E s := by
  refine wpAny_bind (wpAny_mono (next_ok (Qn := fun s' => wpAny G.M A pn Q E s') (Qs := fun w s' => wpAny G.M A (ps w) Q E s') (E := E) hh R I e ht hn hs) (fun r s₁ h₁ => ?_) fun _ _ x => x)
  cases r with
  | none => exact h₁
  | some v => exact wpAny_bind h₁

theorem loop_j {elt t iter : Expr} {ifs : List Expr} {gens : List Comprehension} {scope : Scope} {pos : Pos} {d : Nat} {f : MV → St → Option St} {ti : St → Option (Bool × MH)} {body : Nat → St → Option St}
    (hg : gens[d]? = some ⟨t, iter, ifs, 0⟩) (hn : ∀ g', gens[d + 1]? = some g' → g'.is_async = 0) (ht : AsgT G k sx t f) (hi : DenIfs G k sx ifs ti) (hb : BodyJ G k sx elt (.ListComp elt gens scope pos) gens (d + 1) body) :
    LoopJ G k sx elt gens scope pos d t f ti body := fun {env} {A} {ρ₀} {ρ} {H₀} {st} {st'} {s₀} {s} {la} {acc} {it} {src} {ex} {n} {R} F B I ha hit hbase hok e a₀ hx hm hR => by
  refine codeAny_loop' rfl (fun n s' => ∃ ρ' st₁ src, Aft ρ₀ ρ' H₀ st₁.H s₀ s' (Mine env sx) ∧ InF G env sx ρ' st₁ s' ∧ vr ρ' st₁.H.n (.ref la) acc ∧ ItAt ρ' st₁.H s'.heap it src ex ∧ src.okT t = true ∧ compFor f ti (body la) n src st₁ = some st')
    (fun n s' hI => ?_) n ⟨ρ, st, src, a₀, I, ha, hit, hok, e⟩
  obtain ⟨ρ₂, st₂, src₂, a₂, i₂, ha₂, v₂, ok₂, e₂⟩ := hI
  show wpAny _ _ ((compTurn (.ListComp elt gens scope pos) d it acc env).onRaise (fun x => do noteFrame x env; theTreesLotGoes x)) _ _ s'
  refine wpAny_noted ?_
  rw [compTurn_eq _ _ _ _ _ _ _ _ _ _ _ hg hn]
  cases n with
  | zero => cases e₂
  | succ n =>
    obtain ⟨r, e3, e4⟩ := Option.bind_eq_some_iff.mp e₂
    refine wpAny_bind (wpAny_standAt (next_bind (G := G) (target := t) B.h i₂.bas.rep v₂ e3 ok₂ (fun hr s' a r' => ?_) (fun v src' H' hr w s' ρ' a r' hv ia => ?_)))
    · subst hr
      cases e4
      exact wpAny_pure (hR _ ρ₂ (a₂.skip a hx hm fun b m o => i₂.off b o m) (i₂.afterEx a r' v₂.isF hbase) (vr_mono a.le a.agree ha₂))
    · subst hr
      obtain ⟨st₃, e5, e6⟩ := Option.bind_eq_some_iff.mp e4
      obtain ⟨⟨b, H₄⟩, e7, e8⟩ := Option.bind_eq_some_iff.mp e6
      obtain ⟨st₅, e9, e10⟩ := Option.bind_eq_some_iff.mp e8
      have A1 := a₂.skip a hx hm fun b m o => i₂.off b o m
      have I1 : InF G env sx ρ' ⟨st₂.vs, H'⟩ s' := i₂.afterEx a r' v₂.isF hbase
      have nm : ∀ {ρ : Nat → Addr} {st : St} {s : Shared}, InF G env sx ρ st s → IsF s ex → ∀ b, ex b → ¬ Mine env sx b := fun i v b x m => by
        obtain ⟨o, vs, g, d⟩ := v b x
        rcases m with rfl | ⟨y, _, hc⟩
        · obtain ⟨_, ⟨o', es, ep, ho, hd, _⟩, _⟩ := i.ns; rw [ho] at g; cases g; rw [hd] at d; cases d
        · obtain ⟨⟨_, o', ho, hd⟩, _⟩ := i.cells y b hc; rw [ho] at g; cases g; rw [hd] at d; cases d
      refine wpAny_bind ((ht F B I1 hv e5).wp fun _ s₅ ρ₅ a₅ i₅ _ => ?_)
      have v5 := ItAt.after ia a₅ (nm I1 ia.isF)
      refine wpAny_bind ((hi F B i₅ e7).wp fun ok s₆ ρ₆ a₆ r₆ hok => ?_)
      subst hok
      have i₆ := i₅.after a₆ r₆
      have a6' := i₅.lift a₆
      have v6 := v5.after a6' (nm i₅ v5.isF)
      have A6 := (A1.trans a₅).trans a6'
      have ha₆ : vr ρ₆ H₄.n (.ref la) acc := vr_mono a₆.le a₆.agree (vr_mono a₅.le a₅.agree (vr_mono a.le a.agree ha₂))
      cases ok with
      | true =>
        refine wpAny_bind ((hb F B i₆ ha₆ e9).wp fun _ s₇ ρ₇ a₇ i₇ _ => wpAny_pure (.inl ⟨rfl, n, Nat.lt_succ_self _, ρ₇, st₅, src', A6.trans a₇, i₇, vr_mono a₇.le a₇.agree ha₆, v6.after a₇ (nm i₆ v6.isF), okT_next e3 ok₂, e10⟩))
      | false =>
        cases e9
        exact wpAny_pure (.inl ⟨rfl, n, Nat.lt_succ_self _, ρ₆, _, src', A6, i₆, ha₆, v6, okT_next e3 ok₂, e10⟩)

theorem body_nest {elt t iter : Expr} {ifs : List Expr} {gens : List Comprehension} {scope : Scope} {pos : Pos} {d : Nat} {di : St → Option (Src × MH)} {f : MV → St → Option St} {ti : St → Option (Bool × MH)} {body : Nat → St → Option St}
    (hg : gens[d]? = some ⟨t, iter, ifs, 0⟩) (hit : DenI G k sx iter di) (hs : ∀ env x, foldedSetIterable iter env x = pure x) (hl : LoopJ G k sx elt gens scope pos d t f ti body) :
    BodyJ G k sx elt (.ListComp elt gens scope pos) gens d (nestD t di f ti body) := fun {env} {A} {ρ} {st} {st'} {s} {la} {acc} F B I ha e => by
  obtain ⟨⟨src, H₁⟩, e1, e⟩ := Option.bind_eq_some_iff.mp e
  dsimp only at e
  split at e
  case isFalse => cases e
  rename_i hok
  unfold bodyS nestS
  rw [hg]
  refine fun Q q => wpAny_bind (wpAny_mono (hit F B I e1 _ fun itv s₁ ρ₁ ex a₁ r₁ v₁ n₁ => ?_) (fun x _ z => wpAny_bind (wpAny_standAt (wpAny_bind (wpAny_of_eq (hs _ x) (wpAny_bind (wpAny_holding z)))))) (fun _ _ x => x))
  have hb : ∀ b o, G.h₀.get? b = some o → ¬ ex b := fun b o e x => by
    have := I.bas.base b o e; exact (n₁ b x).elim (fun q => by rw [q] at this; cases this.1) this.2
  have I1 := I.after a₁ r₁
  have loop : ∀ {R : Result → Shared → Prop}, (∀ s' ρ', Aft ρ ρ' st.H st'.H s s' (Mine env sx) → InF G env sx ρ' st' s' → vr ρ' st'.H.n (.ref la) acc → R (.ok .next) s') → codeAny G.M A (.compLoop (.ListComp elt gens scope pos) d itv acc env) R s₁ :=
    fun hR => hl F B I1 (vr_mono a₁.le a₁.agree ha) v₁ hb hok e (I.lift a₁) n₁ (fun b m o => I.off b o m) hR
  refine wpAny_bind (wpAny_runOwn (codeAny_compStart_at hg rfl (loop fun s' ρ' a i _ => wpAny_pure (q _ _ _ a i trivial)) (iter_self v₁ (loop fun s' ρ' a i _ => wpAny_pure (q _ _ _ a i trivial)))))

theorem ifs_nil : DenIfs G k sx [] (fun st => some (true, st.H)) := fun _ _ I e => by
  cases e
  exact fun Q q => wpAny_pure (q _ _ _ .refl I.bas.rep rfl)
theorem ifs_one {c : Expr} {d : St → Option (Bool × MH)} (h : DenB G k sx c d) : DenIfs G k sx [c] d := fun F B I e Q q => by
  rw [List.forIn_cons]
  refine wpAny_bind ?_
  rw [if_pos rfl]
  exact wpAny_bind (h F B I e _ fun a s₁ ρ₁ a₁ r₁ v₁ => wpAny_pure (wpAny_pure (q a s₁ ρ₁ a₁ r₁ v₁)))
end
end Q
end Mini

open PySem PySem.W PySem.Calls PyProof.Rows
set_option maxRecDepth 100000
namespace Mini
noncomputable section Q

def relab (scope osc : Scope) : Scope :=
  { scope with names := scope.names.map fun (n, k) => if (k == .free && osc.kind == .function && osc.names.lookup n == some .cell) then (n, .cell) else (n, k) }
theorem relab_eq (scope : Scope) (env : Env) : relabel scope env = relab scope env.scope := rfl
theorem relab_lookup {osc : Scope} : ∀ {names : List (Str × NameKind)} {x : Str},
    (names.map fun (n, k) => if (k == NameKind.free && osc.kind == .function && osc.names.lookup n == some .cell) then (n, NameKind.cell) else (n, k)).lookup x =
      (names.lookup x).map fun k => if (k == NameKind.free && osc.kind == .function && osc.names.lookup x == some .cell) then NameKind.cell else k
  | [], _ => rfl
  | (n, k) :: r, x => by
    have ih := @relab_lookup osc r x
    show List.lookup x ((if (k == NameKind.free && osc.kind == .function && osc.names.lookup n == some .cell) = true then (n, NameKind.cell) else (n, k)) :: _) = _
    cases hx : x == n with
    | true =>
      have : x = n := by simpa using hx
      subst this
      by_cases hc : (k == NameKind.free && osc.kind == .function && osc.names.lookup x == some .cell) = true
      · rw [if_pos hc]; simp only [List.lookup_cons, hx, Option.map_some, if_pos hc]
      · rw [if_neg hc]; simp only [List.lookup_cons, hx, Option.map_some, if_neg hc]
    | false =>
      by_cases hc : (k == NameKind.free && osc.kind == .function && osc.names.lookup n == some .cell) = true
      · rw [if_pos hc]; simp only [List.lookup_cons, hx]; exact ih
      · rw [if_neg hc]; simp only [List.lookup_cons, hx]; exact ih

theorem closure_ok {env : Env} {scope : Scope} (hf : ∀ x ∈ scope.names, x.2 = .free → ∃ c, env.cells.lookup x.1 = some c) :
    ∃ cl, closureFor scope env = pure cl ∧ (∀ x c, cl.lookup x = some c → env.cells.lookup x = some c) ∧ (∀ x ∈ scope.names, x.2 = .free → ∃ c, cl.lookup x.1 = some c) := by
  have key : ∀ (names : List (Str × NameKind)) (cs : List (Str × Addr)), (∀ x ∈ names, x.2 = .free → ∃ c, env.cells.lookup x.1 = some c) → (∀ x c, cs.lookup x = some c → env.cells.lookup x = some c) →
      ∃ cl, (forIn names cs fun x r => (match x with | (name, kind) => if (kind == .free) = true then do { let c ← cellOf env name; pure (ForInStep.yield ((name, c) :: r)) } else pure (ForInStep.yield r) : Sem (ForInStep (List (Str × Addr))))) = pure cl ∧
        (∀ x c, cl.lookup x = some c → env.cells.lookup x = some c) ∧ (∀ x, (cs.lookup x).isSome → (cl.lookup x).isSome) ∧ (∀ x ∈ names, x.2 = .free → ∃ c, cl.lookup x.1 = some c) := by
    intro names
    induction names with
    | nil => intro cs _ h; exact ⟨cs, rfl, h, fun _ h => h, fun _ h => by cases h⟩
    | cons x r ih =>
      intro cs hf h
      rw [List.forIn_cons]
      obtain ⟨n, kd⟩ := x
      by_cases hk : kd = .free
      · subst hk
        obtain ⟨c, hc⟩ := hf (n, .free) List.mem_cons_self rfl
        obtain ⟨cl, e, h1, h2, h3⟩ := ih ((n, c) :: cs) (fun y hy => hf y (List.mem_cons_of_mem _ hy)) (fun y d hy => by
          cases hyn : y == n with
          | true =>
            have : y = n := by simpa using hyn
            subst this
            simp [List.lookup_cons] at hy; subst hy; exact hc
          | false => simp only [List.lookup_cons, hyn] at hy; exact h y d hy)
        refine ⟨cl, ?_, h1, fun y hy => h2 y ?_, fun y hy hyf => ?_⟩
        · simp only [beq_self_eq_true, if_true]
          unfold cellOf
          rw [hc]
          exact e
        · cases hyn : y == n with
          | true => simp [List.lookup_cons, hyn]
          | false => simp only [List.lookup_cons, hyn]; exact hy
        · cases hy with
          | head => exact Option.isSome_iff_exists.mp (h2 n (by simp [List.lookup_cons]))
          | tail _ hy => exact h3 y hy hyf
      · obtain ⟨cl, e, h1, h2, h3⟩ := ih cs (fun y hy => hf y (List.mem_cons_of_mem _ hy)) h
        refine ⟨cl, ?_, h1, h2, fun y hy hyf => ?_⟩
        · have : (kd == NameKind.free) = false := by simpa using hk
          simp only [this, Bool.false_eq_true, if_false]
          exact e
        · cases hy with
          | head => exact absurd hyf hk
          | tail _ hy => exact h3 y hy hyf
  obtain ⟨cl, e, h1, _, h3⟩ := key scope.names [] hf (fun x c h => by cases h)
  refine ⟨cl, ?_, h1, h3⟩
  unfold closureFor
  exact (congrArg (· >>= pure) e).trans (pure_bind _ _)

structure CompOk (sx : Sx) (scope : Scope) (cap : List (Option Nat)) : Prop where
  kind : scope.kind = .function
  names : ∀ x ∈ scope.names, x.2 = .local → scope.names.lookup x.1 = some .local
  nocell : ∀ x ∈ scope.names, x.2 ≠ .cell
  free : ∀ x ∈ scope.names, x.2 = .free → sx.kindOf x.1 = some .cell ∨ sx.kindOf x.1 = some .free
  nd : (scope.names.map (·.1)).Nodup
  cap : ∀ (j i : Nat), cap[j]? = some (some i) → ∃ x, (scope.names.map (·.1))[j]? = some x ∧ sx.slots[i]? = some x ∧ (sx.kindOf x = some .cell ∨ sx.kindOf x = some .free) ∧ scope.names.lookup x = some .free

def capChk (sx : Sx) (scope : Scope) : List Str → List (Option Nat) → Bool
  | _, [] => true
  | [], _ :: _ => false
  | _ :: r, none :: c => capChk sx scope r c
  | x :: r, some i :: c => sx.slots[i]? == some x && (sx.kindOf x == some .cell || sx.kindOf x == some .free) && scope.names.lookup x == some .free && capChk sx scope r c
theorem capChk_ok {sx : Sx} {scope : Scope} : ∀ {xs : List Str} {cap : List (Option Nat)}, capChk sx scope xs cap = true → ∀ (j i : Nat), cap[j]? = some (some i) → ∃ x, xs[j]? = some x ∧ sx.slots[i]? = some x ∧ (sx.kindOf x = some .cell ∨ sx.kindOf x = some .free) ∧ scope.names.lookup x = some .free
  | _, [], _, j, i, e => by simp at e
  | [], _ :: _, h, _, _, _ => by cases h
  | _ :: r, none :: c, h, j, i, e => by
    cases j with
    | zero => cases e
    | succ j => simpa using capChk_ok (xs := r) h j i (by simpa using e)
  | x :: r, some i' :: c, h, j, i, e => by
    simp only [capChk, Bool.and_eq_true, Bool.or_eq_true, beq_iff_eq] at h
    cases j with
    | zero => cases e; exact ⟨x, rfl, h.1.1.1, h.1.1.2, h.1.2⟩
    | succ j => simpa using capChk_ok (xs := r) h.2 j i (by simpa using e)

abbrev Sx.comp (sx : Sx) (scope : Scope) : Sx := ⟨relab scope sx.scope, scope.names.map (·.1), [], sx.code, sx.qual⟩
def capV (cap : List (Option Nat)) (vs : List (Option MV)) : List (Option MV) := cap.map fun c => match c with
  | some i => (vs[i]?).join
  | none => none
def compD (cap : List (Option Nat)) (t : Expr) (di : St → Option (Src × MH)) (f : MV → St → Option St) (ti : St → Option (Bool × MH)) (body : Nat → St → Option St) (st : St) : Option (MV × MH) := (di st).bind fun p =>
  if p.1.okT t = true then (compFor f ti (body p.2.n) (p.1.fuel p.2) p.1 ⟨capV cap st.vs, p.2.push (.list [])⟩).map fun st' => (.ref p.2.n, st'.H) else none

section
variable {G : Gl} {k : Nat} {env : Env} {sx : Sx} {A : Around} {ρ ρ' : Nat → Addr} {st st' : St} {H H' : MH} {s s' : Shared}

theorem Aft.unex {ex : Addr → Prop} (a : Aft ρ ρ' H H' s s' ex) (h : ∀ b o, ex b → s.heap.get? b = some o → False) : Aft ρ ρ' H H' s s' NoEx :=
  { a with
    keep := fun b o e n _ => a.keep b o e n fun x => h b o x e
    live := fun b o x => x.elim }
theorem comp_run {elt t iter : Expr} {ifs : List Expr} {gs : List Comprehension} {scope : Scope} {pos p' : Pos} {cap : List (Option Nat)} {di : St → Option (Src × MH)} {f : MV → St → Option St} {ti : St → Option (Bool × MH)} {body : Nat → St → Option St}
    {use : Option (Value → Sem Unit)} {v : MV} {Q : Value → Shared → Prop}
    (ok : CompOk sx scope cap) (hit : DenI G k sx iter di) (hs : ∀ env x, foldedSetIterable iter env x = pure x) (hl : LoopJ G k (sx.comp scope) elt (⟨t, iter, ifs, 0⟩ :: gs) scope pos 0 t f ti body)
    (F : Fst G env sx) (B : Bud A k) (I : InF G env sx ρ st s) (e : compD cap t di f ti body st = some (v, H'))
    (q : ∀ acc C s' ρ' m, Aft ρ ρ' st.H H' s s' NoEx → Rep G.P ρ' H' s'.heap → vr ρ' H'.n v acc → s'.heap.Ns C m → (s.heap.get? C = none ∨ Owned ρ st.H C) → ¬ Owned ρ' H' C → (∀ b o, G.h₀.get? b = some o → b ≠ C) → C ≠ env.locals → (∀ x c, env.cells.lookup x = some c → c ≠ C) → compPost G.M A (fun _ _ => False) use Q acc C (.ok .next) s') :
    wpAny G.M A (comprehension (.ListComp elt (⟨t, iter, ifs, 0⟩ :: gs) scope pos) scope env p' (newList []) false (eval iter env) use) Q (fun _ _ => False) s := by
  obtain ⟨⟨src, H₁⟩, e1, e⟩ := Option.bind_eq_some_iff.mp e
  dsimp only at e
  split at e
  case isFalse => cases e
  rename_i hok
  obtain ⟨st₂, e2, e⟩ := Option.map_eq_some_iff.mp e
  cases e
  obtain ⟨cl, hcl, hc1, hc2⟩ := closure_ok (env := env) (scope := scope) fun x hx hf => F.has x.1 (ok.free x hx hf)
  refine wpAny_comprehension_free rfl (hs env) hcl ok.kind ok.names (hit F B I e1 _ fun it s₁ ρ₁ ex a₁ r₁ v₁ n₁ => ?_)
  refine wpAny_newObj_type (wpAny_newFunctionEnv ok.nocell (by intro y hy; simp at hy) (fun h₁ hns₁ hsb₁ => ?_) ok.kind)
  dsimp only at hns₁ hsb₁ ⊢
  generalize hH2 : s₁.heap.push { cls := .type "list", dict := none, data := .seq ([] : List Value).toArray } = H2 at hns₁ hsb₁ ⊢
  obtain ⟨g1, R2⟩ := push_new (s := s₁) (tk := s₁.toks) (ex := NoEx) (o := .list []) (h' := H2) r₁ (fresh_none (Nat.le_refl _)) (hH2 ▸ Heap.get?_push_size _ rfl) ⟨[], 0, rfl, .nil⟩ (fun b o e => hH2 ▸ Heap.get?_push_of_some _ e)
  have A2 := a₁.trans g1
  have fC : H2.get? H2.objs.size = none := fresh_none (Nat.le_refl _)
  have kC : ∀ b o, H2.get? b = some o → h₁.get? b = some o ∧ b ≠ H2.objs.size := fun b o e => by
    have hb := Nat.ne_of_lt (Heap.lt_size e)
    exact ⟨(hsb₁.2 b hb).trans (Heap.get?_push_of_some _ e), hb⟩
  have g3 := Aft.garbage (ρ := ext ρ₁ H₁.n s₁.heap.objs.size) (H := H₁.push (.list [])) (s := { s₁ with heap := H2 }) (tk := s₁.toks + ([] : List (Str × Value)).length) (ex := NoEx) (h' := h₁) (fun b o e => (kC b o e).1)
  have R3 : Rep G.P (ext ρ₁ H₁.n s₁.heap.objs.size) (H₁.push (.list [])) h₁ := R2.garbage fun b o e => (kC b o e).1
  have A3 := A2.trans g3
  have oC : ∀ {b}, Owned (ext ρ₁ H₁.n s₁.heap.objs.size) (H₁.push (.list [])) b → b ≠ H2.objs.size := fun ⟨l, o, g, e⟩ => by
    obtain ⟨ob, g', _⟩ := R2.at_ l o g
    rw [e] at g'; exact (kC _ _ g').2
  have I2 : InF G env sx (ext ρ₁ H₁.n s₁.heap.objs.size) ⟨st.vs, H₁.push (.list [])⟩ { s₁ with heap := H2 } := I.after A2 R2
  have I3 : InF G env sx (ext ρ₁ H₁.n s₁.heap.objs.size) ⟨st.vs, H₁.push (.list [])⟩ { s₁ with heap := h₁, toks := s₁.toks + ([] : List (Str × Value)).length } := I.after A3 R3
  have O0 : ∀ b, Owned ρ st.H b → b ≠ H2.objs.size := fun b ⟨l, o, g, e⟩ => by
    obtain ⟨o', g'⟩ := A2.stay l o g
    have hl := I.bas.rep.lt l o g
    exact oC ⟨l, o', g', by rw [A2.agree l hl]; exact e⟩
  have F' : Fst G (compEnvC scope cl H2.objs.size env) (sx.comp scope) := {
    scope := by show relabel scope env = _; rw [relab_eq, F.scope]
    kind := ok.kind
    glo := F.glo
    bui := F.bui
    ownk := fun x h => by cases h
    owninj := fun x y c h => by cases h
    nd := ok.nd
    code := F.code
    qual := F.qual
    has := fun x h => by
      have hx : ((relab scope sx.scope).names.lookup x) = some .cell ∨ ((relab scope sx.scope).names.lookup x) = some .free := h
      unfold relab at hx
      rw [relab_lookup] at hx
      cases hk : scope.names.lookup x with
      | none => rw [hk] at hx; rcases hx with h | h <;> cases h
      | some kd =>
        rw [hk, Option.map_some] at hx
        have hm := mem_of_lookup hk
        cases kd with
        | free => exact hc2 (x, .free) hm rfl
        | cell => exact absurd rfl (ok.nocell _ hm)
        | _ => rcases hx with h | h <;> (rw [if_neg (by simp)] at h; cases h) }
  have inMine : ∀ b, Mine (compEnvC scope cl H2.objs.size env) (sx.comp scope) b → b = H2.objs.size := fun b m => by
    rcases m with m | ⟨x, h, _⟩
    · exact m
    · cases h
  have hnC : env.locals ≠ H2.objs.size := by
    obtain ⟨_, ⟨o, _, _, ho, _⟩, _⟩ := I2.ns
    exact (kC _ _ ho).2
  have I4 : InF G (compEnvC scope cl H2.objs.size env) (sx.comp scope) (ext ρ₁ H₁.n s₁.heap.objs.size) ⟨capV cap st.vs, H₁.push (.list [])⟩ { s₁ with heap := h₁, toks := s₁.toks + ([] : List (Str × Value)).length } := {
    bas := I3.bas
    basem := fun b o e m => (kC b o (I2.bas.base b o e).1).2 (inMine b m)
    off := fun b q m => oC q (inMine b m)
    cells := fun x c hc => by
      obtain ⟨⟨v, o, ho, hd⟩, n, _, _⟩ := I2.cells x c (hc1 x c hc)
      exact ⟨⟨v, o, (kC c o ho).1, hd⟩, n, (kC c o ho).2, fun _ m => (kC c o ho).2 (inMine c m)⟩
    ns := ⟨_, hns₁, fun i x v h1 h2 h3 => by
      unfold capV at h3
      rw [List.getElem?_map] at h3
      obtain ⟨cc, hcc, h3⟩ := Option.map_eq_some_iff.mp h3
      cases cc with
      | none => cases h3
      | some j =>
        obtain ⟨y, y1, y2, y3, y4⟩ := ok.cap i j hcc
        have : y = x := by have := y1.symm.trans h1; cases this; rfl
        subst this
        have h2' : (relab scope sx.scope).names.lookup y = some .local := h2
        unfold relab at h2'
        rw [relab_lookup, y4, Option.map_some] at h2'
        split at h2' <;> cases h2'⟩
    cel := fun i x v h1 h2 h3 => by
      unfold capV at h3
      rw [List.getElem?_map] at h3
      obtain ⟨cc, hcc, h3⟩ := Option.map_eq_some_iff.mp h3
      cases cc with
      | none => cases h3
      | some j =>
        obtain ⟨y, y1, y2, y3, y4⟩ := ok.cap i j hcc
        have : y = x := by have := y1.symm.trans h1; cases this; rfl
        subst this
        have h3' : st.vs[j]? = some (some v) := by
          dsimp only at h3
          cases hq : st.vs[j]? with
          | none => rw [hq] at h3; cases h3
          | some z => rw [hq] at h3; cases h3; rfl
        obtain ⟨c, w, hc, hw, hr⟩ := I3.cel j y v y2 y3 h3'
        obtain ⟨c', hc'⟩ := hc2 (y, .free) (mem_of_lookup y4) rfl
        have := hc1 _ _ hc'
        rw [hc] at this; cases this
        exact ⟨c, w, hc', hw, hr⟩ }
  have hacc : vr (ext ρ₁ H₁.n s₁.heap.objs.size) (H₁.push (.list [])).n (.ref H₁.n) (.ref s₁.heap.objs.size) := ⟨Nat.lt_succ_self _, by rw [ext_self]⟩
  have hbase : ∀ b o, G.h₀.get? b = some o → ¬ ex b := fun b o e x => by
    have := I.bas.base b o e; exact (n₁ b x).elim (fun q => by rw [q] at this; cases this.1) this.2
  have nxC : ∀ b, ex b → ¬ NoEx b := fun _ _ h => h
  have v₃ := v₁.after (g1.trans g3) nxC
  have A4 : Aft ρ (ext ρ₁ H₁.n s₁.heap.objs.size) st.H (H₁.push (.list [])) s { s₁ with heap := h₁, toks := s₁.toks + ([] : List (Str × Value)).length } (Mine (compEnvC scope cl H2.objs.size env) (sx.comp scope)) :=
    A3.mono (fun _ h => h.elim) fun b o m _ _ => by
      cases inMine b m
      obtain ⟨o, _, _, ho, _⟩ := hns₁
      exact ⟨o, ho⟩
  have loop : codeAny G.M A (.compLoop (.ListComp elt (⟨t, iter, ifs, 0⟩ :: gs) scope pos) 0 it (.ref s₁.heap.objs.size) (compEnvC scope cl H2.objs.size env)) (compPost G.M A (fun _ _ => False) use Q (.ref s₁.heap.objs.size) H2.objs.size) { s₁ with heap := h₁, toks := s₁.toks + ([] : List (Str × Value)).length } := by
    refine hl F' B I4 hacc v₃ hbase hok e2 A4 n₁ (fun c m o => O0 c o (inMine c m)) fun s' ρ' a i va => ?_
    obtain ⟨m, hm, _⟩ := i.ns
    have fr : s.heap.get? H2.objs.size = none ∨ Owned ρ st.H H2.objs.size := A2.fresh fC
    have fr' : s.heap.get? H2.objs.size = none := fr.elim id fun o => absurd rfl (O0 _ o)
    refine q _ _ s' ρ' m (a.unex fun b o x e => ?_) i.bas.rep va hm fr (fun q => i.off _ q mine_locals) (fun b o e => (kC b o (I2.bas.base b o e).1).2) (Ne.symm hnC) fun x c hc => ?_
    · cases inMine b x; rw [fr'] at e; cases e
    · obtain ⟨⟨v, o, ho, _⟩, _⟩ := I2.cells x c hc
      exact (kC c o ho).2
  exact codeAny_compStart_at rfl rfl loop (iter_self v₃ loop)

/-- a comprehension's frame goes -/
theorem frame_gone {C : Addr} {h' : Heap} {m : Str → Option Value} (R : Rep G.P ρ H s.heap) (hn : s.heap.Ns C m) (ho : ¬ Owned ρ H C) (hs : Heap.SameBut C s.heap h') : Stp ρ ρ H H s { s with heap := h' } (· = C) ∧ Rep G.P ρ H h' :=
  other_keep (tk := s.toks) R (fun b e => e ▸ ho) fun b o n e => (hs.2 b n).trans e

theorem den_comp {elt t iter : Expr} {ifs : List Expr} {gs : List Comprehension} {scope : Scope} {pos : Pos} {cap : List (Option Nat)} {di : St → Option (Src × MH)} {f : MV → St → Option St} {ti : St → Option (Bool × MH)} {body : Nat → St → Option St}
    (ok : CompOk sx scope cap) (hit : DenI G k sx iter di) (hs : ∀ env x, foldedSetIterable iter env x = pure x) (hl : LoopJ G k (sx.comp scope) elt (⟨t, iter, ifs, 0⟩ :: gs) scope pos 0 t f ti body) :
    DenE G k sx (.ListComp elt (⟨t, iter, ifs, 0⟩ :: gs) scope pos) (compD cap t di f ti body) := fun F B I e Q q => by
  rw [eval_ListComp]
  refine comp_run (use := none) ok hit hs hl F B I e fun acc C s' ρ' m a r v hn fr hO hb _ _ => ?_
  refine ⟨m, hn, fun h' hsb => ?_⟩
  obtain ⟨b1, b2⟩ := frame_gone r hn hO hsb
  exact q _ _ ρ' (a.skip b1 (fun c e => e ▸ fr) (fun _ h => h.elim) fun _ h => h.elim) b2 v

def asgCompS (d : St → Option (MV × MH)) (i : Nat) (st : St) : Option (Fl × St) := (d st).map fun p => (.next, ⟨setN st.vs i (some p.1), p.2⟩)
theorem ds_assign_comp {y : Str} {py spos : Pos} {elt t iter : Expr} {ifs : List Expr} {gs : List Comprehension} {scope : Scope} {pos : Pos} {cap : List (Option Nat)} {di : St → Option (Src × MH)} {f : MV → St → Option St} {ti : St → Option (Bool × MH)} {body : Nat → St → Option St}
    (i : Nat) (hi : sx.slots[i]? = some y) (hk : sx.kindOf y = some .local)
    (hsw : ∀ env : Env, env.scope = sx.scope → swapsWith (.ListComp elt (⟨t, iter, ifs, 0⟩ :: gs) scope pos) (some (.Name y py)) spos.line env = pure true)
    (ok : CompOk sx scope cap) (hit : DenI G k sx iter di) (hs : ∀ env x, foldedSetIterable iter env x = pure x) (hl : LoopJ G k (sx.comp scope) elt (⟨t, iter, ifs, 0⟩ :: gs) scope pos 0 t f ti body) :
    DenS G k sx (.Assign [.Name y py] (.ListComp elt (⟨t, iter, ifs, 0⟩ :: gs) scope pos) spos) (asgCompS (compD cap t di f ti body) i) := fun {env} {A} {ρ} {st} {s} {fl} {st'} F B I e => by
  obtain ⟨⟨v, H₁⟩, e1, e⟩ := Option.map_eq_some_iff.mp e
  cases e
  intro Q q
  rw [exec_Assign_Name_used _ _ _ _ (hsw env F.scope)]
  refine wpAny_bind (wpAny_standAt (wpAny_bind ?_))
  show wpAny _ A (do let _ ← comprehension (.ListComp elt (⟨t, iter, ifs, 0⟩ :: gs) scope pos) scope env _ (newList []) false (eval iter env) (some (assign (.Name y py) env))) _ _ s
  refine wpAny_bind (wpAny_mono (comp_run (use := some (assign (.Name y py) env)) (Q := fun _ s' => Q .next s') ok hit hs hl F B I e1 fun acc C s' ρ' m a r v hn fr hO hb hL hc => ?_) (fun _ s' hq => wpAny_pure (wpAny_pure hq)) fun _ _ e => e)
  show wpAny _ A (assign (.Name y py) env acc) _ _ _
  have I1 := I.after a r
  refine (asg_local (G := G) (k := k) i hi hk F B I1 v rfl).wp fun _ s₂ ρ₂ a₂ i₂ _ => ?_
  obtain ⟨o, es, ep, ho, hd, hr⟩ := id hn
  have nM : ¬ Mine env sx C := fun h => by
    rcases h with rfl | ⟨x, _, h⟩
    · exact hL rfl
    · exact hc x C h rfl
  have hk2 := a₂.keep C o ho hO nM
  have hO₂ := not_owned_after a₂ ho hO
  have hn₂ : s₂.heap.Ns C m := ⟨o, es, ep, hk2, hd, hr⟩
  refine ⟨m, hn₂, fun h' hsb => ?_⟩
  obtain ⟨b1, b2⟩ := frame_gone i₂.bas.rep hn₂ hO₂ hsb
  refine q _ _ ρ₂ (((I.lift a).trans a₂).skip b1 (fun c e => e ▸ fr) (fun c m o => I.off c o m) fun c m o => i₂.off c o m) ?_ rfl
  refine i₂.afterNX b1 b2 (fun b e => e ▸ hL) (fun b o' e g => ?_) (fun b o e => hb b o e)
  subst e
  rw [hk2] at g; cases g
  exact ⟨fun f q => (by rw [hd] at q; cases q), fun f q => (by rw [hd] at q; cases q)⟩
end
end Q
end Mini

open PySem PySem.W PySem.Calls PyProof.Rows
set_option maxRecDepth 100000
namespace Mini
noncomputable section Q

abbrev BRel (params : List Str) (ρ : Nat → Addr) (n : Nat) (bs : List MV) (binds : List (Str × Value)) : Prop := ∃ vals, binds = params.zip vals ∧ vals.length = params.length ∧ VRs ρ n bs vals
def BindD (G : Gl) (fd : FuncData) (params : List Str) (bnd : List MV → List (Str × MV) → MH → Option (List MV × MH)) : Prop :=
  ∀ {A : Around} {ρ : Nat → Addr} {H H' : MH} {s : Shared} {xs : List MV} {vs : List Value} {ks : List (Str × MV)} {kvs : List (Str × Value)} {r : List MV}, Bas G ρ H s → VRs ρ H.n xs vs → KWs ρ H.n ks kvs →
    bnd xs ks H = some (r, H') → EvX G.M G.P A (BRel params) (bindArgs fd ⟨vs, kvs⟩) ρ H s r H'

structure FnOk (G : Gl) (f : Addr) (fd : FuncData) (body : List Stmt) (sx : Sx) (params : List Str) : Prop where
  at_ : ∃ o, G.K.lookup f = some o ∧ o.data = .func fd
  code : ∃ c o vs t, fd.code = .ref c ∧ G.K.lookup c = some o ∧ o.data = .fields vs ∧ vs[1]? = some (.str fd.qualname t)
  body : fd.body = .stmts body
  scope : fd.scope = sx.scope
  co : fd.scope.isCoroutine = false
  gen : fd.scope.isGenerator = false
  kind : fd.scope.kind = .function
  glo : fd.globals = mainGlobals
  bui : fd.builtins = builtinsNs
  clo : fd.closure = []
  nofree : ∀ x ∈ fd.scope.names, x.2 ≠ .free
  own : ∀ x ∈ fd.scope.names, x.2 = .cell → x.1 ∈ sx.own
  ownk : ∀ x ∈ sx.own, sx.kindOf x = some .cell
  nd : sx.slots.Nodup
  pre : sx.slots.take params.length = params
  code' : sx.code = fd.code
  qual' : sx.qual = fd.qualname ++ (Str.ofString ".<locals>.")
  pk : ∀ x ∈ params, sx.kindOf x = some .local ∨ sx.kindOf x = some .cell

theorem cellsFrom_has : ∀ (names : List (Str × NameKind)) (a : Nat) (acc : List (Str × Addr)) (x : Str), ((x, NameKind.cell) ∈ names ∨ (acc.lookup x).isSome = true) → ((cellsFrom a names acc).lookup x).isSome = true
  | [], _, _, _, h => h.elim (fun h => by cases h) id
  | (n, k) :: r, a, acc, x, h => by
    unfold cellsFrom
    have acc' : ∀ b, (acc.lookup x).isSome = true → (((n, b) :: acc).lookup x).isSome = true := fun b hb => by
      rw [List.lookup_cons]; cases x == n <;> simp [hb]
    split
    · refine cellsFrom_has r _ _ x ?_
      rcases h with h | h
      · cases h with
        | head => exact .inr (by rw [List.lookup_cons]; simp)
        | tail _ h => exact .inl h
      · exact .inr (acc' _ h)
    · rename_i hk
      refine cellsFrom_has r _ _ x ?_
      rcases h with h | h
      · cases h with
        | head => exact absurd rfl hk
        | tail _ h => exact .inl h
      · exact .inr h
theorem cellsFrom_mem : ∀ (names : List (Str × NameKind)) (a : Nat) (acc : List (Str × Addr)) (x : Str) (c : Addr), (x, c) ∈ cellsFrom a names acc → (x, NameKind.cell) ∈ names ∨ (x, c) ∈ acc
  | [], _, _, _, _, h => .inr h
  | (n, k) :: r, a, acc, x, c, h => by
    unfold cellsFrom at h
    split at h
    · rename_i hk
      have hk : k = .cell := by simpa using hk
      subst hk
      rcases cellsFrom_mem r _ _ x c h with h | h
      · exact .inl (List.mem_cons_of_mem _ h)
      · cases h with
        | head => exact .inl List.mem_cons_self
        | tail _ h => exact .inr h
    · rcases cellsFrom_mem r _ _ x c h with h | h
      · exact .inl (List.mem_cons_of_mem _ h)
      · exact .inr h

theorem bindL_at (kind : Str → Option NameKind) : ∀ (ps : List Str) (vals : List Value) (m : Str → Option Value) (i : Nat) (x : Str) (w : Value), ps.Nodup → ps[i]? = some x → vals[i]? = some w → kind x = some .local → bindL kind (ps.zip vals) m x = some w := by
  have keep : ∀ (ps : List Str) (vals : List Value) (m : Str → Option Value) (x : Str), x ∉ ps → bindL kind (ps.zip vals) m x = m x := by
    intro ps
    induction ps with
    | nil => intro vals m x _; rfl
    | cons p r ih =>
      intro vals m x h
      cases vals with
      | nil => rfl
      | cons v vs =>
        show bindL kind (r.zip vs) _ x = _
        rw [ih vs _ x (fun q => h (List.mem_cons_of_mem _ q))]
        have hne : x ≠ p := fun q => h (q ▸ List.mem_cons_self)
        split
        · exact if_neg hne
        · rfl
  intro ps
  induction ps with
  | nil => intro vals m i x w _ h; simp at h
  | cons p r ih =>
    intro vals m i x w nd h hv hk
    cases vals with
    | nil => simp at hv
    | cons v vs =>
      show bindL kind (r.zip vs) _ x = _
      cases i with
      | zero =>
        cases h; cases hv
        rw [keep r vs _ _ (List.nodup_cons.mp nd).1, if_pos hk]
        exact if_pos rfl
      | succ i => exact ih vs _ i x w (List.nodup_cons.mp nd).2 (by simpa using h) (by simpa using hv) hk
theorem bindC_at (kind : Str → Option NameKind) : ∀ (ps : List Str) (vals : List Value) (m : Str → Option Value) (i : Nat) (x : Str) (w : Value), ps.Nodup → ps[i]? = some x → vals[i]? = some w → kind x ≠ some .local → bindC kind (ps.zip vals) m x = some w := by
  have keep : ∀ (ps : List Str) (vals : List Value) (m : Str → Option Value) (x : Str), x ∉ ps → bindC kind (ps.zip vals) m x = m x := by
    intro ps
    induction ps with
    | nil => intro vals m x _; rfl
    | cons p r ih =>
      intro vals m x h
      cases vals with
      | nil => rfl
      | cons v vs =>
        show bindC kind (r.zip vs) _ x = _
        rw [ih vs _ x (fun q => h (List.mem_cons_of_mem _ q))]
        have hne : x ≠ p := fun q => h (q ▸ List.mem_cons_self)
        split
        · rfl
        · exact if_neg hne
  intro ps
  induction ps with
  | nil => intro vals m i x w _ h; simp at h
  | cons p r ih =>
    intro vals m i x w nd h hv hk
    cases vals with
    | nil => simp at hv
    | cons v vs =>
      show bindC kind (r.zip vs) _ x = _
      cases i with
      | zero =>
        cases h; cases hv
        rw [keep r vs _ _ (List.nodup_cons.mp nd).1, if_neg hk]
        exact if_pos rfl
      | succ i => exact ih vs _ i x w (List.nodup_cons.mp nd).2 (by simpa using h) (by simpa using hv) hk

def retOf (p : Fl × St) : Option (MV × MH) := match p.1 with
  | .ret v => some (v, p.2.H)
  | .next => some (.val .none, p.2.H)
  | _ => none
def fnD (bnd : List MV → List (Str × MV) → MH → Option (List MV × MH)) (m : Nat) (d : St → Option (Fl × St)) (xs : List MV) (ks : List (Str × MV)) (H : MH) : Option (MV × MH) :=
  (bnd xs ks H).bind fun p => (d ⟨p.1.map some ++ List.replicate m none, p.2⟩).bind retOf

/-- the same of the code -/
def FnC (G : Gl) (k : Nat) (f : Value) (g : List MV → List (Str × MV) → MH → Option (MV × MH)) : Prop :=
  ∀ {A : Around} {ρ : Nat → Addr} {H H' : MH} {s : Shared} {xs : List MV} {vs : List Value} {ks : List (Str × MV)} {kvs : List (Str × Value)} {r : MV}, Bud A k → Bas G ρ H s → VRs ρ H.n xs vs → KWs ρ H.n ks kvs →
    g xs ks H = some (r, H') → ∀ Q : Value → Shared → Prop, (∀ a s' ρ', Aft ρ ρ' H H' s s' NoEx → Rep G.P ρ' H' s'.heap → vr ρ' H'.n r a → Q a s') →
      codeAny G.M A (.call f ⟨vs, kvs⟩) (fun r s' => match r with | .ok (.ret v) => Q v s' | _ => False) s
theorem FnC.den {G : Gl} {k : Nat} {f : Value} {g : List MV → List (Str × MV) → MH → Option (MV × MH)} (h : FnC G k f g) : FnDen G k f g := fun B b v kv e Q q =>
  wpAny_call (codeAny_mono (h B b v kv e Q q) fun r s' z => by rcases r with e | (v | _ | _ | _) <;> first | exact z | exact z.elim)
theorem FnC.le {G : Gl} {k k' : Nat} {f : Value} {g : List MV → List (Str × MV) → MH → Option (MV × MH)} (h : FnC G k f g) (hk : k ≤ k') : FnC G k' f g := fun B => h (B.le hk)

section
variable {G : Gl} {k : Nat} {env : Env} {sx : Sx} {A : Around} {ρ ρ' : Nat → Addr} {st st' : St} {H H' : MH} {s s' : Shared}

theorem fn_core {f : Addr} {fd : FuncData} {body : List Stmt} {params : List Str} {d : St → Option (Fl × St)} (m : Nat)
    (ok : FnOk G f fd body sx params) (hd : DenSs G k sx body d) {A : Around} {ρ₁ : Nat → Addr} {H₁ H' : MH} {s₁ : Shared} {bs : List MV} {vals : List Value} {fl : Fl} {st' : St} {r : MV} {Q : Value → Shared → Prop} (B : Bud A (k + 1)) (b₁ : Bas G ρ₁ H₁ s₁)
    (hlen : vals.length = params.length) (hbl : bs.length = vals.length)
    (hval : ∀ (i : Nat) u w y, bs[i]? = some u → vals[i]? = some w → params[i]? = some y → vr ρ₁ H₁.n u w ∨ (sx.kindOf y = some .local ∧ vra G s₁.heap (fun b => ¬ Owned ρ₁ H₁ b) ρ₁ H₁.n u w))
    (e2 : d ⟨bs.map some ++ List.replicate m none, H₁⟩ = some (fl, st')) (e : retOf (fl, st') = some (r, H')) (q : ∀ a s' ρ', Aft ρ₁ ρ' H₁ H' s₁ s' NoEx → Rep G.P ρ' H' s'.heap → vr ρ' H'.n r a → Q a s') :
    wpAny G.M A.in1 (newFunctionEnv fd.scope fd.globals fd.closure (params.zip vals) (fd.qualname ++ (Str.ofString ".<locals>.")) (some f) fd.code none fd.builtins)
      (fun env s₂ => s₂.heap.NoLimit ∧ codeAny G.M A (.func body env) (fun r s' => match r with | .ok (.ret v) => Q v s' | _ => False) s₂) (fun _ _ => False) s₁ := by
  have r₁ := b₁.rep
  rw [ok.clo]
  refine wpAny_newFunctionEnv_cells (M := G.M) ok.kind (fun x hx => ?_) fun env he s₂ x => ?_
  · have hp : x.1 ∈ params := (List.of_mem_zip hx).1
    rcases ok.pk x.1 hp with h | h
    · exact .inl (by rw [ok.scope]; exact h)
    · exact .inr ⟨by rw [ok.scope]; exact h, cellsFrom_has _ _ _ _ (.inl (mem_of_lookup (by rw [ok.scope]; exact h)))⟩
  have hL : env.locals = s₁.heap.objs.size := by rw [he]; rfl
  have hcs : env.cells = cellsFrom (s₁.heap.objs.size + 1) fd.scope.names [] := by rw [he]; rfl
  have hscope : env.scope = sx.scope := by rw [he, ← ok.scope]; rfl
  have hkind : ∀ y, env.kindOf y = sx.kindOf y := fun y => by unfold Env.kindOf; rw [hscope]
  obtain ⟨hp, tk, hs₂⟩ := x.toInCall.same
  have kp := x.toInCall.keep
  have iscell : ∀ y c, env.cells.lookup y = some c → (y, NameKind.cell) ∈ fd.scope.names := fun y c hy => by
    rw [hcs] at hy
    exact (cellsFrom_mem _ _ _ _ _ (mem_of_lookup hy)).elim id fun h => by cases h
  have inOwn : ∀ y c, env.cells.lookup y = some c → y ∈ sx.own := fun y c hy => ok.own (y, .cell) (iscell y c hy) rfl
  have newer : ∀ b', Mine env sx b' → s₁.heap.get? b' = none := fun b' m => by
    rcases m with rfl | ⟨y, _, hc⟩
    · exact fresh_none x.toInCall.fresh
    · exact fresh_none (Nat.le_trans x.toInCall.fresh (Nat.le_of_lt (x.above y b' (mem_of_lookup hc))))
  have F' : Fst G env sx := {
    scope := hscope
    kind := by rw [← ok.scope]; exact ok.kind
    glo := by rw [he]; exact ok.glo
    bui := by rw [he]; exact ok.bui
    ownk := ok.ownk
    owninj := fun y z c _ _ hy hz => name_of_addr x.apart (mem_of_lookup hy) (mem_of_lookup hz)
    nd := ok.nd
    code := .inr (by rw [he]; exact ok.code'.symm)
    qual := by rw [he]; exact ok.qual'.symm
    has := fun y hy => by
      rcases hy with h | h
      · exact Option.isSome_iff_exists.mp (by rw [hcs]; exact cellsFrom_has _ _ _ _ (.inl (mem_of_lookup (by rw [ok.scope]; exact h))))
      · exact absurd rfl (ok.nofree (y, .free) (PySem.mem_of_lookup (by rw [ok.scope]; exact h))) }
  have a₂ : Aft ρ₁ ρ₁ H₁ H₁ s₁ s₂ NoEx := by rw [hs₂]; exact .garbage fun b' o' e' => by have := kp b' o' e'; rw [hs₂] at this; exact this
  have r₂ : Rep G.P ρ₁ H₁ s₂.heap := r₁.garbage kp
  have own1 : ∀ {b'}, Owned ρ₁ H₁ b' → ∃ o', s₁.heap.get? b' = some o' := fun ⟨l, o', g, e'⟩ => by obtain ⟨ob, g', _⟩ := r₁.at_ l o' g; exact ⟨ob, e' ▸ g'⟩
  have slot : ∀ (i : Nat) (y : Str) (u : MV), sx.slots[i]? = some y → (bs.map some ++ List.replicate m none)[i]? = some (some u) → params[i]? = some y ∧ ∃ w, vals[i]? = some w ∧ (vr ρ₁ H₁.n u w ∨ (sx.kindOf y = some .local ∧ vra G s₁.heap (fun b => ¬ Owned ρ₁ H₁ b) ρ₁ H₁.n u w)) := fun i y u h1 h2 => by
    by_cases hi : i < bs.length
    · rw [List.getElem?_append_left (by simpa using hi), List.getElem?_map] at h2
      obtain ⟨z, hz, h2⟩ := Option.map_eq_some_iff.mp h2
      cases h2
      have hi' : i < params.length := by rw [← hlen, ← hbl]; exact hi
      have hy : params[i]? = some y := by rw [← ok.pre, List.getElem?_take_of_lt hi']; exact h1
      have hw : vals[i]? = some vals[i] := List.getElem?_eq_getElem (by rw [← hbl]; exact hi)
      exact ⟨hy, _, hw, hval i u _ y hz hw hy⟩
    · rw [List.getElem?_append_right (by simpa using Nat.le_of_not_lt hi)] at h2
      rw [List.getElem?_replicate] at h2
      split at h2 <;> cases h2
  have pnd : params.Nodup := by rw [← ok.pre]; exact ok.nd.sublist (List.take_sublist _ _)
  have I : InF G env sx ρ₁ ⟨bs.map some ++ List.replicate m none, H₁⟩ s₂ := {
    bas := b₁.on a₂ r₂
    basem := fun b' o' e' mm => by have := newer b' mm; rw [(b₁.base b' o' e').1] at this; cases this
    off := fun b' q' mm => by obtain ⟨o', e'⟩ := own1 q'; rw [newer b' mm] at e'; cases e'
    cells := fun y c hy => by
      have hm : Mine env sx c := .inr ⟨y, inOwn y c hy, hy⟩
      exact ⟨⟨_, x.cell y c hy⟩, fun q' => by (obtain ⟨o', e'⟩ := own1 q'; rw [newer c hm] at e'; cases e'), Nat.ne_of_gt (x.above y c (mem_of_lookup hy)), fun hn => absurd (inOwn y c hy) hn⟩
    ns := ⟨_, x.toInCall.ns, fun i y u h1 h2 h3 => by
      obtain ⟨hpi, w, hw, hr⟩ := slot i y u h1 h3
      refine ⟨w, bindL_at _ _ _ _ i y w pnd hpi hw (by rw [hkind]; exact h2), ?_⟩
      rcases hr with hr | ⟨_, hr⟩
      · exact vra_of_vr hr
      · exact vra_mono (Nat.le_refl _) (fun _ _ => rfl) (fun b' o' e' f => ⟨⟨f, fun mm => by (have := newer b' mm; rw [this] at e'; cases e')⟩, kp b' o' e'⟩) hr⟩
    cel := fun i y u h1 h2 h3 => by
      obtain ⟨hpi, w, hw, hr⟩ := slot i y u h1 h3
      have hc : sx.kindOf y = some .cell := h2.elim id fun h => absurd rfl (ok.nofree (y, .free) (PySem.mem_of_lookup (by rw [ok.scope]; exact h)))
      obtain ⟨c, hcc⟩ := F'.has y (.inl hc)
      have := x.cell y c hcc
      rw [bindC_at _ _ _ _ i y w pnd hpi hw (by rw [hkind, hc]; decide)] at this
      rcases hr with hr | ⟨hr, _⟩
      · exact ⟨c, w, hcc, this, hr⟩
      · rw [hc] at hr; cases hr }
  refine ⟨b₁.nolimit.keeps kp, codeAny_func ?_⟩
  refine (hd F' B.deeper I e2).wp fun fw s₃ ρ₃ a₃ i₃ v₃ => ?_
  have a₂' : Aft ρ₁ ρ₁ H₁ H₁ s₁ s₂ (Mine env sx) := a₂.mono (fun _ h => h.elim) fun b' o' mm e' _ => ⟨o', kp b' o' e'⟩
  have a₄ : Aft ρ₁ ρ₃ H₁ st'.H s₁ s₃ NoEx := (a₂'.trans a₃).unex fun b' o' mm e' => by rw [newer b' mm] at e'; cases e'
  unfold retOf at e
  cases fl with
  | next => cases e; cases v₃; exact q _ _ ρ₃ a₄ i₃.bas.rep rfl
  | brk => cases e
  | cont => cases e
  | ret u => obtain ⟨w, rfl, hw⟩ := v₃; cases e; exact q _ _ ρ₃ a₄ i₃.bas.rep hw

theorem fn_code {f : Addr} {fd : FuncData} {body : List Stmt} {params : List Str} {bnd : List MV → List (Str × MV) → MH → Option (List MV × MH)} {d : St → Option (Fl × St)} (m : Nat)
    (ok : FnOk G f fd body sx params) (hb : BindD G fd params bnd) (hd : DenSs G k sx body d) : FnC G (k + 1) (.ref f) (fnD bnd m d) := fun {A} {ρ} {H} {H'} {s} {xs} {vs} {ks} {kvs} {r} B b v kv e Q q => by
  obtain ⟨⟨bs, H₁⟩, e1, e⟩ := Option.bind_eq_some_iff.mp e
  obtain ⟨⟨fl, st'⟩, e2, e⟩ := Option.bind_eq_some_iff.mp e
  obtain ⟨o, ho, hdata⟩ := ok.at_
  obtain ⟨c, oc, cvs, ct, hcd, hoc, hcdata, hcq⟩ := ok.code
  refine codeAny_call_function (by have := B.d; omega) (b.K f o ho) hdata ok.co ok.gen ok.body ⟨c, oc, cvs, ct, hcd, b.K c oc hoc, hcdata, hcq⟩ ?_
  refine wpAny_mono (hb b v kv e1 _ fun binds s₁ ρ₁ a₁ r₁ v₁ => ?_) (fun _ _ x => x) fun _ _ x => x.elim
  obtain ⟨vals, rfl, hlen, hvals⟩ := v₁
  have hbl : bs.length = vals.length := hvals.length.symm
  exact fn_core m ok hd B (b.on a₁ r₁) hlen hbl (fun i u w y h1 h2 _ => .inl (by obtain ⟨w', h3, h4⟩ := hvals.some h1; rw [h2] at h3; cases h3; exact h4)) e2 e fun a s' ρ' a' r' v' => q a s' ρ' (a₁.trans a') r' v'

theorem fn_den {f : Addr} {fd : FuncData} {body : List Stmt} {params : List Str} {bnd : List MV → List (Str × MV) → MH → Option (List MV × MH)} {d : St → Option (Fl × St)} (m : Nat)
    (ok : FnOk G f fd body sx params) (hb : BindD G fd params bnd) (hd : DenSs G k sx body d) : FnDen G (k + 1) (.ref f) (fnD bnd m d) := FnC.den (fn_code m ok hb hd)

/-- parameters that the fragment alone binds -/
theorem bind_peek {fd : FuncData} {params : List Str} {bnd : List MV → List (Str × MV) → Option (List MV)}
    (h : ∀ {ρ : Nat → Addr} {n : Nat} {xs : List MV} {vs : List Value} {ks : List (Str × MV)} {kvs : List (Str × Value)} {r : List MV}, VRs ρ n xs vs → KWs ρ n ks kvs → bnd xs ks = some r →
      ∃ vals, (∀ S, peek G.K S (bindArgs fd ⟨vs, kvs⟩) = some (params.zip vals)) ∧ vals.length = params.length ∧ VRs ρ n r vals) :
    BindD G fd params (fun xs ks H => (bnd xs ks).map fun r => (r, H)) := fun {A} {ρ} {H} {_} {s} {_} {_} {_} {_} {_} b v kv e Q q => by
  obtain ⟨r, e1, e⟩ := Option.map_eq_some_iff.mp e
  cases e
  obtain ⟨vals, hp, hl, hv⟩ := h v kv e1
  exact kp_binds b.K hp _ _ _ _ (q _ s ρ .refl b.rep ⟨vals, rfl, hl, hv⟩)
end
end Q
end Mini

open PySem PySem.W PySem.Calls PyProof.Rows
set_option maxRecDepth 100000
namespace Mini
noncomputable section Q

section
variable {G : Gl} {k : Nat} {sx : Sx}
theorem den_never {e : Expr} : DenE G k sx e (fun _ => none) := fun _ _ _ e => by cases e
theorem denB_never {e : Expr} : DenB G k sx e (fun _ => none) := fun _ _ _ e => by cases e
theorem denI_never {e : Expr} : DenI G k sx e (fun _ => none) := fun _ _ _ e => by cases e
theorem ds_never {t : Stmt} : DenS G k sx t (fun _ => none) := fun _ _ _ e => by cases e
theorem asg_never {t : Expr} : AsgT G k sx t (fun _ _ => none) := fun _ _ _ _ e => by cases e
theorem fn_never {f : Value} : FnDen G k f (fun _ _ _ => none) := fun _ _ _ _ e => by cases e

def augS (i : Nat) (d : St → Option (MV × MH)) (st : St) : Option (Fl × St) := (getv st i).bind fun p => (d ⟨st.vs, p.2⟩).bind fun q => match p.1, q.1 with
  | .int a, .int b => some (.next, ⟨st.vs.set i (some (.int (a + b))), q.2⟩)
  | _, _ => none
theorem ds_aug {x : Str} {value : Expr} {px pos : Pos} {d : St → Option (MV × MH)} (i : Nat) (hi : sx.slots[i]? = some x) (hk : sx.kindOf x = some .local) (h : DenE G k sx value d) :
    DenS G k sx (.AugAssign (.Name x px) .Add value pos) (augS i d) := fun {_} {_} {ρ} {st} {s} {_} {_} F B I e Q q => by
  obtain ⟨⟨v, H₁⟩, e1, e⟩ := Option.bind_eq_some_iff.mp e
  obtain ⟨⟨u, H₂⟩, e2, e⟩ := Option.bind_eq_some_iff.mp e
  obtain ⟨g1, rfl, g3⟩ := getv_some e1
  obtain ⟨m, hn, hv⟩ := I.ns
  obtain ⟨w, hm, r⟩ := hv i x _ hi hk g1
  have r := vr_of_vra r g3
  refine wpAny_AugAssign_Name (wpAny_loadName_local (by rw [F.scope]; exact F.kind) (by show Env.kindOf _ _ = _; unfold Env.kindOf; rw [F.scope]; exact hk) hn hm (h F B I e2 _ fun a s₁ ρ₁ a₁ r₁ v₁ => ?_))
  dsimp only at e
  split at e
  case h_2 => cases e
  cases e
  obtain ⟨t, rfl⟩ := r
  obtain ⟨t', rfl⟩ := v₁
  have I1 := I.after a₁ r₁
  have t1 := Aft.toks (ρ := ρ₁) (H := H₂) (s := s₁) (tk := s₁.toks + 1) (ex := NoEx)
  refine wpAny_iadd_int ?_
  exact (store_local F (I1.after t1 r₁) i hi hk (v := .int _) ⟨_, rfl⟩).wp fun _ s₂ ρ₂ a₂ i₂ _ => q _ _ _ ((I.lift (a₁.trans t1)).trans a₂) i₂ rfl

def dummyEnv (sc : Scope) : Env := { scope := sc, locals := 0, globals := 0, cells := [] }
theorem swaps_scope {v : Expr} {t : Option Expr} {l : Nat} {env env' : Env} (h : env.scope = env'.scope) : swapsWith v t l env = swapsWith v t l env' := by
  unfold swapsWith; simp only [Env.blockKind, Env.kindOf, h]
theorem swapped_scope {ts : List Expr} {v : Expr} {env env' : Env} (h : env.scope = env'.scope) : swappedStores ts v env = swappedStores ts v env' := by
  obtain ⟨⟩ := env; obtain ⟨⟩ := env'; cases h; rfl
def swap2S (i j : Nat) (d : St → Option (MV × MH)) (st : St) : Option (Fl × St) := (d st).bind fun p => (tupAt p.1 p.2).bind fun xs => match xs with
  | [a, b] => some (.next, ⟨(st.vs.set j (some b)).set i (some a), p.2⟩)
  | _ => none
theorem ds_swap2 {elts : List Expr} {kk : Nat} {tpos pos : Pos} {value : Expr} {x y : Str} {d : St → Option (MV × MH)} (i j : Nat) (hi : sx.slots[i]? = some x) (hki : sx.kindOf x = some .local) (hj : sx.slots[j]? = some y) (hkj : sx.kindOf y = some .local)
    (hw : ∀ env : Env, env.scope = sx.scope → swappedStores [.Tuple elts kk tpos] value env = pure (some [x, y])) (h : DenE G k sx value d) (hs : ∀ env, swapsWithSole [.Tuple elts kk tpos] value pos.line env = pure false) :
    DenS G k sx (.Assign [.Tuple elts kk tpos] value pos) (swap2S i j d) := fun {env} {A} {ρ} {st} {s} {_} {_} F B I e Q q => by
  obtain ⟨⟨v, H₁⟩, e1, e⟩ := Option.bind_eq_some_iff.mp e
  obtain ⟨xs, e2, e⟩ := Option.bind_eq_some_iff.mp e
  split at e
  case h_2 => cases e
  cases e
  rename_i a b
  refine Assign_Tuple_swapped (h F B I e1 _ fun o s₁ ρ₁ a₁ r₁ v₁ => ?_) (hs _) (hw env F.scope)
  have I1 := I.after a₁ r₁
  obtain ⟨t, ws, rfl, it, hv⟩ := tupAt_ok I1.bas v₁ e2
  obtain ⟨o, ho, hc, nn, hd⟩ := it
  cases hv with | cons ha hv => ?_
  cases hv with | cons hb hv => ?_
  cases hv
  refine wpAny_unpackItems_tuple (items := List.toArray [_, _]) B.h ⟨o, ho, hc, nn, hd⟩ fun h' hx => ?_
  have kp : ∀ b x, s₁.heap.get? b = some x → h'.get? b = some x := fun b x e => hx b x (Nat.ne_of_lt (Heap.lt_size e)) e
  have g1 := Aft.garbage (ρ := ρ₁) (H := H₁) (s := s₁) (tk := s₁.toks) (ex := NoEx) kp
  have I2 := I1.after g1 (I1.bas.rep.garbage kp)
  refine wpAny_assignInOrder_more (bindName_ ((store_local F I2 j hj hkj hb).wp fun _ s₂ ρ₂ a₂ i₂ _ => ?_))
  refine wpAny_assignInOrder_more (bindName_ ((store_local F i₂ i hi hki (vr_mono a₂.le a₂.agree ha)).wp fun _ s₃ ρ₃ a₃ i₃ _ => ?_))
  exact wpAny_assignInOrder_none (q _ _ _ (((I.lift (a₁.trans g1)).trans a₂).trans a₃) i₃ rfl)
end

end Q
end Mini

open PySem PySem.W PySem.Calls PyProof.Rows
set_option maxRecDepth 100000
namespace Mini
noncomputable section Q
theorem plainAttrs_pat : PlainAttrs "re.Pattern" :=
  ⟨⟨"object.__getattribute__", by rw [typeLookup_type, builtinLookup_eq_fast]; kernel_rfl, by decide +kernel⟩, by rw [typeLookup_type, builtinLookup_eq_fast]; kernel_rfl⟩
theorem owner_pat : Manifest.owners.lookup (String.ofList ['n', 'r', 'e', 't', 't', 'a', 'P', '.', 'e', 'r'].reverse) = some Manifest.sig_re_Pattern := by kernel_rfl
theorem slot_pat_search : Slot "re.Pattern" "search" "re.Pattern.search" :=
  .of (owner := "re.Pattern") (n := "search") (by rw [typeLookup_type, builtinLookup_eq_fast]; kernel_rfl) (by decide +kernel) (by decide +kernel) (by decide +kernel)
    (by first | exact .inl (by decide +kernel) | exact .inr (by decide +kernel)) (by rw [isSubtype_type]; kernel_rfl)
theorem type_pat_search : typeOf (.builtin "re.Pattern.search") = pure (.type "method_descriptor") := by show builtinType _ = _; rw [builtinType_eq_fast]; kernel_rfl
theorem entry_pat_search : entryFor table "re.Pattern.search" = some Builtin.«re.Pattern.search» := entryFor_of_tree (by kernel_rfl)
theorem args_pat_search (a b : Value) : argsOk "re.Pattern.search" ⟨[a, b], []⟩ := by
  unfold argsOk; rw [signature?_of (id := "re.Pattern.search") (n := ['h', 'c', 'r', 'a', 'e', 's']) (o := ['n', 'r', 'e', 't', 't', 'a', 'P', '.', 'e', 'r']) (by kernel_rfl) owner_pat]; kernel_rfl

open PySem.Sre PySem.Builtin.Re

/-- no sign of the text is in the first set -/
def NoHit (code : Array Nat) (c : Nat) : Prop := ∀ seen, ∃ seen', inSet code c code.size 5 true seen = .ok (false, seen')

theorem admitted_none (m : M) (h : ∀ c ∈ m.text.toList, NoHit m.code c) (hl : m.lim ≤ m.text.size) : ∀ (fuel s : Nat) (seen : Sre.Seen), ∃ seen', M.admitted m fuel s seen = .ok (none, seen')
  | 0, s, seen => ⟨seen, rfl⟩
  | fuel + 1, s, seen => by
    unfold M.admitted
    by_cases hs : s ≥ m.lim
    · rw [if_pos hs]; exact ⟨_, rfl⟩
    · rw [if_neg hs]
      have hlt : s < m.text.size := by omega
      have hm : m.text.getD s 0 ∈ m.text.toList := by
        rw [← Array.getElem_eq_getD (h := hlt)]; simp
      obtain ⟨seen', e⟩ := h _ hm seen
      rw [e]
      exact admitted_none m h hl fuel (s + 1) seen'

def FirstSet (code : Array Nat) : Prop := code.getD 0 0 = 14 ∧ code.getD 2 0 = 4 ∧ code.getD 3 0 = 1
theorem said {m : M} (h1 : m.outcome = none) (h2 : m.frames = []) : ((m.say false).runFor 4).outcome = some .failed := by
  obtain ⟨⟩ := m
  dsimp only at h1 h2
  subst h1 h2
  rfl
theorem att_says {code text : Array Nat} (hc : FirstSet code) (h : ∀ c ∈ text.toList, NoHit code c) (m : Sre.M) (e1 : m.text = text) (e2 : m.code = code) (e3 : m.lim = text.size) (e4 : m.outcome = none) (e5 : m.frames = []) :
    ((m.attemptFrom 0 true).runFor 4).outcome = some .failed := by
  obtain ⟨h0, h2, h3⟩ := hc
  have hf : m.hasFirstSet = true := by
    unfold M.hasFirstSet
    rw [e2, h0, h2]
    decide
  unfold M.attemptFrom
  rw [hf]
  obtain ⟨seen', e⟩ := admitted_none m (by rw [e1, e2]; exact h) (by rw [e1, e3]; exact Nat.le_refl _) (m.lim + 1 - 0) 0 m.seen
  rw [e]
  exact said (m := { m with seen := seen' }) e4 e5
theorem search_says {code text : Array Nat} (hc : FirstSet code) (h : ∀ c ∈ text.toList, NoHit code c) (g : Nat) : ((forSearch code text g 0 text.size false).runFor 4).outcome = some .failed := by
  unfold forSearch
  dsimp only
  by_cases hz : 0 > text.size ∨ text.size - 0 < (header code).1
  · rw [if_pos (by simpa using hz)]
    exact said rfl rfl
  · rw [if_neg (by simpa using hz)]
    exact att_says hc h _ rfl rfl rfl rfl rfl

section
variable {M : Model} {A : Around} {E : Value → Shared → Prop} {s : Shared}
theorem run_none {m : Sre.M} {Q : Option Sre.M → Shared → Prop} (h : (m.runFor 4).outcome = some .failed) (q : Q none s) : wpAny M A (reRunToEnd m) Q E s := by
  unfold reRunToEnd
  have d : reDrive (2 ^ 64) m = pure (m.runFor 4) := by
    show reDrive (18446744073709551615 + 1) m = _
    rw [reDrive]
    show (if (m.runFor 4).outcome.isSome then pure (m.runFor 4) else _) = _
    rw [h]; rfl
  rw [d]
  refine wpAny_bind (wpAny_pure (wpAny_bind (wpAny_forIn_list _ (fun _ _ s' => s' = s) _ (fun x rest b s' e => ?_) (fun b s' e => ?_) _ _ rfl)))
  · split
    · exact wpAny_bind (wpAny_rule (wpAny_pure e))
    · exact wpAny_pure e
  · subst e; rw [h]; exact wpAny_pure q

theorem search_none {P : Addr} {o : Obj} {fs : Array Value} {T : Addr} {oT : Obj} {items : Array Value} {nT : Nat} {x : Str} {t : Tok} {Q : Value → Shared → Prop} {prog : Program} {w : World}
    (ho : s.heap.get? P = some o) (hc : o.cls = .type "re.Pattern") (hd : o.data = .fields fs) (h6 : reRawNat (fs.getD 6 .none) = 0) (h5 : fs.getD 5 .none = .ref T) (hT : s.heap.get? T = some oT) (hTd : oT.data = .seq items nT)
    (hf : FirstSet ((items.map reRawOf).map (·.toNat))) (hn : ∀ c ∈ x.cps.toList, NoHit ((items.map reRawOf).map (·.toNat)) c) (hx : (x.cps.size : Int) < 2 ^ 63 - 1) (q : Q .none s) :
    wpAny (model prog w) A (call (.builtin "re.Pattern.search") [.ref P, .str x t]) Q E s := by
  refine wpAny_call_entry slot_pat_search ⟨o, ho, hc⟩ entry_pat_search ?_ (args_pat_search _ _)
  unfold Builtin.«re.Pattern.search»
  refine wpAny_bind ?_
  unfold reTarget
  dsimp only
  have e1 : reNamed "re.Pattern.search" "search" ["string", "pos", "endpos"] 1 [.str x t] [] = pure [some (.str x t), none, none] := by rfl
  rw [e1]
  refine wpAny_bind (wpAny_pure (wpAny_bind (wpAny_pure (wpAny_bind (wpAny_pure (wpAny_bind (wpAny_fieldsOf ho hd ?_)))))))
  have e2 : reTextOf (.str x t) = pure (x.cps, 0) := by rfl
  rw [e2]
  refine wpAny_bind (wpAny_pure ?_)
  dsimp only
  rw [h6]
  simp only [show ((0 : Nat) == 0 && (0 : Nat) == 1) = false from rfl, show ((0 : Nat) == 1 && (0 : Nat) == 0) = false from rfl, Bool.false_eq_true, if_false]
  have e3 : reNoCollectionInside (.str x t) 0 = pure () := by rfl
  rw [e3]
  refine wpAny_bind (wpAny_pure (wpAny_bind ?_))
  unfold reRawItems
  rw [h5]
  refine wpAny_bind (wpAny_seqItems hT hTd (wpAny_pure (wpAny_pure ?_)))
  unfold reAnswer
  refine wpAny_bind (run_none ?_ (wpAny_pure ⟨_, rfl, q⟩))
  have hl : min ((2 : Int) ^ 63 - 1).toNat x.cps.size = x.cps.size := by omega
  have h0 : min (0 : Int).toNat x.cps.size = 0 := by simp
  show ((forSearch _ _ _ (min (0 : Int).toNat x.cps.size) (min ((2 : Int) ^ 63 - 1).toNat x.cps.size) false).runFor 4).outcome = _
  rw [hl, h0]
  exact search_says hf hn _
end

/-- signs that the two patterns of wsgiref.headers let pass -/
def safeC (c : Nat) : Bool := 32 ≤ c && c ≤ 126
def safeV (c : Nat) : Bool := safeC c || c == 9
def nameCode : Array Nat := #[14, 10, 4, 1, 1, 22, 0, 31, 16, 127, 0, 13, 7, 22, 0, 31, 16, 127, 0, 1]
def valueCode : Array Nat := #[14, 14, 4, 1, 1, 9, 4294966783, 0, 0, 2147483648, 0, 0, 0, 0, 0, 13, 11, 9, 4294966783, 0, 0, 2147483648, 0, 0, 0, 0, 0, 1]
theorem name_pass {c : Nat} (h : safeC c = true) : NoHit nameCode c := fun seen => by
  unfold safeC at h
  simp only [Bool.and_eq_true, decide_eq_true_eq] at h
  have h1 : ¬ (c ≤ 31) := by omega
  have h2 : c ≠ 127 := by omega
  have e1 : inSet nameCode c 20 5 true seen = inSet nameCode c 19 8 true (seen.add 22) := by
    rw [inSet]
    show (if (0 ≤ c && c ≤ 31) = true then _ else inSet nameCode c 19 8 true _) = _
    rw [if_neg (by simpa using h1)]; rfl
  have e2 : inSet nameCode c 19 8 true (seen.add 22) = inSet nameCode c 18 10 true ((seen.add 22).add 16) := by
    rw [inSet]
    show (if (c == 127) = true then _ else inSet nameCode c 18 10 true _) = _
    rw [if_neg (by simpa using h2)]; rfl
  exact ⟨_, e1.trans (e2.trans rfl)⟩
theorem value_pass {c : Nat} (h : safeV c = true) : NoHit valueCode c := fun seen => by
  have key : ∀ c, c < 127 → safeV c = true → (c < 256 && (valueCode.getD (5 + (1 + c / 32)) 0).testBit (c % 32)) = false := by decide +kernel
  have hc : c < 127 := by
    unfold safeV safeC at h
    simp only [Bool.or_eq_true, Bool.and_eq_true, decide_eq_true_eq, beq_iff_eq] at h
    omega
  have e1 : inSet valueCode c 28 5 true seen = inSet valueCode c 27 14 true (seen.add 9) := by
    rw [inSet]
    show (if (c < 256 && (valueCode.getD (5 + (1 + c / 32)) 0).testBit (c % 32)) = true then _ else inSet valueCode c 27 14 true _) = _
    rw [key c hc h]; rfl
  exact ⟨_, e1.trans rfl⟩
theorem name_first : FirstSet nameCode := ⟨rfl, rfl, rfl⟩
theorem value_first : FirstSet valueCode := ⟨rfl, rfl, rfl⟩

def patIn (K : Frag) (P : Addr) : Option (Array Nat) := match K.lookup P with
  | some o => if o.cls = .type "re.Pattern" ∧ o.dict = none then (match o.data with
    | .fields fs => if reRawNat (fs.getD 6 .none) = 0 then (match fs.getD 5 .none with
      | .ref T => (match K.lookup T with
        | some oT => (match oT.data with
          | .seq items _ => some ((items.map reRawOf).map (·.toNat))
          | _ => none)
        | none => none)
      | _ => none) else none
    | _ => none) else none
  | none => none

def isPat (P1 P2 : Addr) (x : MV) (_ : MH) : Bool := x = .val (.ref P1) || x = .val (.ref P2)
def searchF (P1 P2 : Addr) : List MV → List (Str × MV) → MH → Option (MV × MH)
  | [x, .str y], [], H => if x = .val (.ref P1) ∧ allB safeC y.cps.toList = true ∧ y.cps.size ≤ 100000 then some (.val .none, H)
    else if x = .val (.ref P2) ∧ allB safeV y.cps.toList = true ∧ y.cps.size ≤ 100000 then some (.val .none, H) else none
  | _, _, _ => none

section
variable {G : Gl} {k : Nat} {sx : Sx} {P1 P2 : Addr}
theorem patIn_at {K : Frag} {P : Addr} {code : Array Nat} {h : Heap} (X : K.In h) (e : patIn K P = some code) : ∃ o fs T oT items nT, h.get? P = some o ∧ o.cls = .type "re.Pattern" ∧ o.dict = none ∧ o.data = .fields fs ∧ reRawNat (fs.getD 6 .none) = 0 ∧ fs.getD 5 .none = .ref T ∧ h.get? T = some oT ∧ oT.data = .seq items nT ∧ (items.map reRawOf).map (·.toNat) = code := by
  unfold patIn at e
  split at e
  case h_2 => cases e
  rename_i o ho
  split at e
  case isFalse => cases e
  rename_i hc
  split at e
  case h_2 => cases e
  rename_i fs hd
  split at e
  case isFalse => cases e
  rename_i h6
  split at e
  case h_2 => cases e
  rename_i T h5
  split at e
  case h_2 => cases e
  rename_i oT hT
  split at e
  case h_2 => cases e
  rename_i items nT hdT
  cases e
  exact ⟨o, fs, T, oT, items, nT, X _ _ ho, hc.1, hc.2, hd, h6, h5, X _ _ hT, hdT, rfl⟩

theorem getM_pat {c1 c2 : Array Nat} (e1 : patIn G.K P1 = some c1) (e2 : patIn G.K P2 = some c2) : GetM G "search" (.builtin "re.Pattern.search") (isPat P1 P2) := fun B hr v q => by
  unfold isPat at hr
  simp only [Bool.or_eq_true, decide_eq_true_eq] at hr
  rcases hr with rfl | rfl <;> cases v
  · obtain ⟨o, fs, T, oT, items, nT, ho, hc, hdict, _⟩ := patIn_at B.K e1
    exact getMethod_builtin ⟨_, ho, hc⟩ plainAttrs_pat slot_pat_search type_pat_search (fun a e => by cases e; exact ⟨_, ho, hdict⟩) q
  · obtain ⟨o, fs, T, oT, items, nT, ho, hc, hdict, _⟩ := patIn_at B.K e2
    exact getMethod_builtin ⟨_, ho, hc⟩ plainAttrs_pat slot_pat_search type_pat_search (fun a e => by cases e; exact ⟨_, ho, hdict⟩) q

theorem den_search (e1 : patIn G.K P1 = some nameCode) (e2 : patIn G.K P2 = some valueCode) : FnDen G k (.builtin "re.Pattern.search") (searchF P1 P2) := fun {A} {ρ} {H} {H'} {s} {xs} {vs} {ks} {kvs} {r} B b v kv e Q q => by
  unfold searchF at e
  split at e
  case h_2 => cases e
  rename_i x y
  cases kv; cases v with | cons hv hn => ?_
  cases hn with | cons hy hn => ?_
  cases hn
  obtain ⟨t, rfl⟩ := hy
  split at e
  · rename_i h
    obtain ⟨rfl, h1, h2⟩ := h
    cases e; cases hv
    obtain ⟨o, fs, T, oT, items, nT, ho, hc, hdict, hd, h6, h5, hT, hTd, hcode⟩ := patIn_at b.K e1
    refine search_none ho hc hd h6 h5 hT hTd (hcode ▸ name_first) (fun c hm => hcode ▸ name_pass ?_) (by omega) (q _ s ρ .refl b.rep rfl)
    exact allB_iff _ _ h1 c (by simpa using hm)
  · split at e
    · rename_i h
      obtain ⟨rfl, h1, h2⟩ := h
      cases e; cases hv
      obtain ⟨o, fs, T, oT, items, nT, ho, hc, hdict, hd, h6, h5, hT, hTd, hcode⟩ := patIn_at b.K e2
      refine search_none ho hc hd h6 h5 hT hTd (hcode ▸ value_first) (fun c hm => hcode ▸ value_pass ?_) (by omega) (q _ s ρ .refl b.rep rfl)
      exact allB_iff _ _ h1 c (by simpa using hm)
    · cases e
end
end Q
end Mini

open PySem PySem.W PySem.Calls PyProof.Rows
set_option maxRecDepth 100000
namespace Mini
noncomputable section Q
section
variable {G : Gl} {k : Nat} {sx : Sx} {A : Around} {ρ : Nat → Addr} {H H' : MH} {s : Shared}

/-! type -/
def typeF : List MV → List (Str × MV) → MH → Option (MV × MH)
  | [.str _], [], H => some (.val (.type "str"), H)
  | [.int _], [], H => some (.val (.type "int"), H)
  | [.ref l], [], H => match H.get l with
    | some (.list _) => some (.val (.type "list"), H)
    | some (.tup _) => some (.val (.type "tuple"), H)
    | _ => none
  | _, _, _ => none
theorem den_typeOf : FnDen G k (.type "type") typeF := fun {A} {ρ} {H} {H'} {s} {xs} {vs} {ks} {kvs} {r} B b v kv e Q q => by
  unfold typeF at e
  split at e
  · cases e; cases kv; cases v with | cons hv hn => ?_
    cases hn; obtain ⟨t, rfl⟩ := hv
    exact call_type_of (Tx := "str") (typeIs_str _ _ _) (by decide +kernel) (q _ s ρ .refl b.rep rfl)
  · cases e; cases kv; cases v with | cons hv hn => ?_
    cases hn; obtain ⟨t, rfl⟩ := hv
    exact call_type_of (Tx := "int") (typeIs_int _ _ _) (by decide +kernel) (q _ s ρ .refl b.rep rfl)
  · cases kv; cases v with | cons hv hn => ?_
    cases hn; obtain ⟨_, rfl⟩ := hv
    split at e
    · rename_i hx; cases e
      obtain ⟨vs, n1, g1, v1⟩ := rep_list b.rep hx
      exact call_type_of (Tx := "list") ⟨_, g1, rfl⟩ (by decide +kernel) (q _ s ρ .refl b.rep rfl)
    · rename_i hx; cases e
      obtain ⟨vs, n1, g1, v1⟩ := rep_tup b.rep hx
      exact call_type_of (Tx := "tuple") ⟨_, g1, rfl⟩ (by decide +kernel) (q _ s ρ .refl b.rep rfl)
    · cases e
  · cases e

/-! __debug__ -/
theorem den_debug {pos : Pos} : DenE G k sx (.Name (Str.ofString "__debug__") pos) (fun st => some (bv true, st.H)) := fun {_} {_} {ρ} {_} {s} {_} {_} F _ I e Q q => by
  cases e
  exact fun _ _ _ => q _ s ρ .refl I.bas.rep rfl

/-! sort, count -/
def insI (x : Int) : List Int → List Int
  | [] => [x]
  | y :: r => if x ≤ y then x :: y :: r else y :: insI x r
def sortI : List Int → List Int
  | [] => []
  | x :: r => insI x (sortI r)
theorem insI_perm (x : Int) : ∀ l, (insI x l).Perm (x :: l)
  | [] => .refl _
  | y :: r => by
    unfold insI; split
    · exact .refl _
    · exact ((insI_perm x r).cons y).trans (.swap x y r)
theorem sortI_perm : ∀ l, (sortI l).Perm l
  | [] => .refl _
  | x :: r => (insI_perm x _).trans ((sortI_perm r).cons x)
theorem insI_sorted (x : Int) : ∀ l : List Int, l.Pairwise (· ≤ ·) → (insI x l).Pairwise (· ≤ ·)
  | [], _ => by simp [insI]
  | y :: r, h => by
    have hy := List.pairwise_cons.mp h
    unfold insI; split
    · rename_i hxy
      refine List.pairwise_cons.mpr ⟨fun z hz => ?_, h⟩
      rcases List.mem_cons.mp hz with rfl | hz
      · exact hxy
      · exact Int.le_trans hxy (hy.1 z hz)
    · rename_i hxy
      refine List.pairwise_cons.mpr ⟨fun z hz => ?_, insI_sorted x r hy.2⟩
      rcases List.mem_cons.mp ((insI_perm x r).mem_iff.mp hz) with rfl | hz
      · omega
      · exact hy.1 z hz
theorem sortI_sorted : ∀ l, (sortI l).Pairwise (· ≤ ·)
  | [] => .nil
  | x :: r => insI_sorted x _ (sortI_sorted r)
theorem sort_unique {l l' : List Int} (hp : l'.Perm l) (hs : l'.Pairwise (· ≤ ·)) : l' = sortI l :=
  (hp.trans (sortI_perm l).symm).eq_of_pairwise (fun _ _ _ _ h1 h2 => Int.le_antisymm h1 h2) hs (sortI_sorted l)

def sortF : List MV → List (Str × MV) → MH → Option (MV × MH)
  | [.ref l], [], H => match H.get l with
    | some (.list xs) => if xs.length < 64 then (intsOf xs).map fun ns => (.val .none, H.set l (.list ((sortI ns).map .int))) else none
    | _ => none
  | _, _, _ => none
theorem den_sortI : FnDen G k (.builtin "list.sort") sortF := fun {A} {ρ} {H} {H'} {s} {xs} {vs} {ks} {kvs} {r} B b v kv e => by
  unfold sortF at e
  split at e
  case h_2 => cases e
  split at e
  case h_2 => cases e
  rename_i h1
  split at e
  case isFalse => cases e
  rename_i hl
  obtain ⟨ns, e1, e⟩ := Option.map_eq_some_iff.mp e
  cases e
  cases kv; cases v with | cons hv hn => ?_
  cases hn; obtain ⟨_, rfl⟩ := hv
  obtain ⟨ws, n1, g1, v1⟩ := rep_list b.rep h1
  refine .set b.rep h1 fun Q q => ?_
  refine wpAny_call_entry slot_list_sort ⟨_, g1, rfl⟩ entry_list_sort (list_sort_tree g1 (intsAre_of v1 e1) (by rw [v1.length]; exact hl) fun out ns' hI hp hs => ?_) (args_list_sort _)
  have hu := sort_unique hp hs
  subst hu
  refine ⟨_, rfl, ?_⟩
  have ha := Heap.lt_size g1
  obtain ⟨e1', ho1⟩ := updSeq g1 fun _ => #[]
  have ho2 := Heap.get?_push_of_some (seqObj "list" #[] 0) (Heap.get?_push_of_some (seqObj "tuple" ws.toArray 0) ho1)
  obtain ⟨e2', ho3⟩ := updSeq (vs := []) ho2 fun _ => out
  refine q _ _ _ s.toks ho3 ⟨out.toList, e2', by simp, vrs_ints hI⟩ (fun b' x n e => ?_) rfl
  exact (Heap.get?_update_other _ _ (Ne.symm n)).trans (Heap.get?_push_of_some _ (Heap.get?_push_of_some _ ((Heap.get?_update_other _ _ (Ne.symm n)).trans e)))

def countF : List MV → List (Str × MV) → MH → Option (MV × MH)
  | [.ref l, .int i], [], H => match H.get l with
    | some (.list xs) => (intsOf xs).map fun ns => (.int (ns.count i : Nat), H)
    | _ => none
  | _, _, _ => none
theorem den_countI : FnDen G k (.builtin "list.count") countF := fun {A} {ρ} {H} {H'} {s} {xs} {vs} {ks} {kvs} {r} B b v kv e => by
  unfold countF at e
  split at e
  case h_2 => cases e
  split at e
  case h_2 => cases e
  rename_i h1
  obtain ⟨ns, e1, e⟩ := Option.map_eq_some_iff.mp e
  cases e
  cases kv; cases v with | cons hv hn => ?_
  cases hn with | cons hi hn => ?_
  cases hn; obtain ⟨_, rfl⟩ := hv
  obtain ⟨t, rfl⟩ := hi
  obtain ⟨ws, n1, g1, v1⟩ := rep_list b.rep h1
  exact .now b.rep fun Q q => count_list_ints (isList_of g1) (intsAre_of v1 e1) (q _ _ ⟨_, rfl⟩)

/-! enumerate -/
theorem den_enum {args : List Expr} {p pos : Pos} {ds : St → Option (List MV × MH)} (hk : sx.kindOf (Str.ofString "enumerate") = some .globalImplicit) (hn : nsIn G.K mainGlobals (Str.ofString "enumerate") = some none) (ha : DenEs G k sx args ds)
    (hpl : ∀ env pos, (backTo pos (starEach args env)).any (·.1) = false) :
    DenI G k sx (.Call (.Name (Str.ofString "enumerate") p) args [] pos) (fun st => (ds st).bind fun p => match p.1 with
      | [.ref l] => (match p.2.get l with | some (.list _) => some (.enum l 0, p.2) | _ => none)
      | _ => none) := fun {env} {A} {ρ} {st} {s} {src} {H'} F B I e Q q => by
  obtain ⟨⟨xs, H₁⟩, e1, e⟩ := Option.bind_eq_some_iff.mp e
  dsimp only at e
  split at e
  case h_2 => cases e
  rename_i l _
  split at e
  case h_2 => cases e
  rename_i xs hx
  cases e
  rw [arm_eval_Call_Name']
  have hnm : DenE G k sx (.Name (Str.ofString "enumerate") p) (fun st => some (.val (.type "enumerate"), st.H)) := den_builtin hk hn (by kernel_rfl) (by decide +kernel) (by kernel_rfl)
  refine wpAny_bind (hnm F B I rfl _ fun a s₁ ρ₁ a₁ r₁ v₁ => ?_)
  cases v₁
  have I1 := I.after a₁ r₁
  refine callWith_of (P := G.K.In) (by rw [hpl]; rfl) keeps_type (evalArgs_any (hpl _ _) rfl ?_)
  refine ha F B I1 e1 pos _ fun vs s₂ ρ₂ a₂ r₂ v₂ => dks_nil (G := G) (k := k) F B (I1.after a₂ r₂) rfl pos _ fun kvs s₃ ρ₃ a₃ r₃ v₃ => ?_
  have I3 := (I1.after a₂ r₂).after a₃ r₃
  refine ⟨I3.bas.K, ?_⟩
  cases v₃
  cases v₂ with | cons hv hn => ?_
  cases hn
  obtain ⟨hl, rfl⟩ := vr_mono a₃.le a₃.agree hv
  obtain ⟨vs, n1, g1, v1⟩ := rep_list r₃ hx
  refine call_enumerate_1 g1 fun h' he hit hsz kp => wpAny_pyIter_enum he ?_
  have g3 := Aft.garbage (ρ := ρ₃) (H := H') (s := s₃) (tk := s₃.toks) (ex := NoEx) kp
  have A3 := (a₁.trans a₂).trans a₃
  have fr : ∀ b, s₃.heap.objs.size ≤ b → ¬ Owned ρ₃ H' b := fun b hb ⟨l', o', g, e⟩ => by
    obtain ⟨ob, g', _⟩ := r₃.at_ l' o' g; rw [e, fresh_none hb] at g'; cases g'
  refine q _ _ ρ₃ (fun b => b = s₃.heap.objs.size ∨ b = s₃.heap.objs.size + 1) (A3.trans g3) (r₃.garbage kp) ⟨fun b hb => ?_, hl, _, _, _, rfl, hit, he, Nat.succ_ne_self _, rfl⟩ fun b hb => ?_
  · rcases hb with rfl | rfl
    · exact fr _ (Nat.le_refl _)
    · exact fr _ (Nat.le_succ _)
  · rcases hb with rfl | rfl
    · exact A3.fresh (fresh_none (Nat.le_refl _))
    · exact A3.fresh (fresh_none (Nat.le_succ _))

/-! str of lists and tuples -/
def allOf (f : MV → Option PyData) : List MV → Option (List PyData)
  | [] => some []
  | x :: r => (f x).bind fun d => (allOf f r).map (d :: ·)
def atomOf : MV → Option PyData
  | .int i => some (.int i)
  | .str x => some (.str x)
  | .val .none => some .none
  | .val (.bool b) => some (.bool b)
  | _ => none
def pyOf : Nat → MH → MV → Option PyData
  | n + 1, H, .ref l => match H.get l with
    | some (.list xs) => (allOf (pyOf n H) xs).map .list
    | some (.tup xs) => (allOf (pyOf n H) xs).map .tuple
    | _ => none
  | _, _, x => atomOf x
theorem atom_reads {h : Heap} {x : MV} {v : Value} {d : PyData} {n : Nat} (e : atomOf x = some d) (hv : vr ρ n x v) : ∃ as, Reads h v d as := by
  unfold atomOf at e
  split at e <;> cases e
  · obtain ⟨t, rfl⟩ := hv; exact ⟨_, .int _ _⟩
  · obtain ⟨t, rfl⟩ := hv; exact ⟨_, .str _ _⟩
  · cases hv; exact ⟨_, .none⟩
  · cases hv; exact ⟨_, .bool _⟩
theorem reads_all {P : Params} {h : Heap} {f : MV → Option PyData} {xs : List MV} {vs : List Value} {n : Nat} (hv : VRs ρ n xs vs) (hf : ∀ x v d, f x = some d → vr ρ n x v → ∃ as, Reads h v d as) : ∀ {ds : List PyData}, allOf f xs = some ds → ∃ as, ReadsAll h vs ds as := by
  induction hv with
  | nil => intro ds e; cases e; exact ⟨_, .nil⟩
  | cons h1 _ ih =>
    intro ds e
    obtain ⟨d, e1, e⟩ := Option.bind_eq_some_iff.mp e
    obtain ⟨dr, e2, e⟩ := Option.map_eq_some_iff.mp e
    cases e
    obtain ⟨as, ra⟩ := hf _ _ _ e1 h1
    obtain ⟨bs, rb⟩ := ih e2
    exact ⟨_, .cons ra rb⟩
theorem reads_of {P : Params} {h : Heap} (R : Rep P ρ H h) : ∀ (n : Nat) (x : MV) (v : Value) (d : PyData), pyOf n H x = some d → vr ρ H.n x v → ∃ as, Reads h v d as := by
  intro n
  induction n with
  | zero => intro x v d e hv; exact atom_reads (by cases x <;> exact e) hv
  | succ n ih =>
    intro x v d e hv
    cases x with
    | ref l =>
      obtain ⟨_, rfl⟩ := hv
      unfold pyOf at e
      split at e
      · rename_i hx
        obtain ⟨ds, e1, e⟩ := Option.map_eq_some_iff.mp e
        cases e
        obtain ⟨vs, n1, g1, v1⟩ := rep_list R hx
        obtain ⟨as, ra⟩ := reads_all (P := P) v1 (fun x v d e hv => ih x v d e hv) e1
        exact ⟨_, .list g1 rfl rfl (by simpa using ra)⟩
      · rename_i hx
        obtain ⟨ds, e1, e⟩ := Option.map_eq_some_iff.mp e
        cases e
        obtain ⟨vs, n1, g1, v1⟩ := rep_tup R hx
        obtain ⟨as, ra⟩ := reads_all (P := P) v1 (fun x v d e hv => ih x v d e hv) e1
        exact ⟨_, .tuple g1 rfl rfl (by simpa using ra)⟩
      · cases e
    | _ => exact atom_reads e hv
def strAnyF : List MV → List (Str × MV) → MH → Option (MV × MH)
  | [.int n], [], H => strIF [.int n] [] H
  | [.ref l], [], H => (pyOf 3 H (.ref l)).bind fun d => if d.showable = true ∧ d.hasDict = false ∧ d.depth ≤ 20 ∧ d.shown.length ≤ 100000 then some (.str d.shown, H) else none
  | _, _, _ => none
theorem den_strAny (hk : 3 ≤ k) : FnDen G k (.type "str") strAnyF := fun {A} {ρ} {H} {H'} {s} {xs} {vs} {ks} {kvs} {r} B b v kv e => by
  unfold strAnyF at e
  split at e
  · exact den_strI B b v kv e
  · obtain ⟨d, e1, e⟩ := Option.bind_eq_some_iff.mp e
    split at e
    case isFalse => cases e
    rename_i hd
    cases e
    cases kv; cases v with | cons hv hn => ?_
    cases hn
    obtain ⟨as, ra⟩ := reads_of b.rep 3 _ _ _ e1 hv
    obtain ⟨_, rfl⟩ := hv
    refine .grown b.rep fun Q q => str_of_reads ra hd.1 (PyData.noDict_hsm hd.2.1) B.g (by have := B.u; omega) (fun _ _ e => e) (fun h' u tk hk => q _ _ _ hk ⟨_, rfl⟩) (Nat.le_trans hd.2.2.2 (by rw [sizeLine_eq]; decide))
  · cases e
end
end Q
end Mini

open PySem PySem.W PySem.Calls PyProof.Rows
set_option maxRecDepth 100000
namespace Mini
noncomputable section Q
section
variable {G : Gl} {k : Nat} {sx : Sx} {A : Around} {ρ : Nat → Addr} {H H' : MH} {s : Shared}

theorem Bud.make {C : Addr} {rest : List Value} {kw : List (Str × Value)} (B : Bud A (k + 1)) : Bud (A.under (.builtin "type.__call__" ⟨.ref C :: rest, kw⟩)) k :=
  ⟨B.h, B.g, by have := B.d; show A.depth + 1 + k < _; omega, by have := B.u; show A.units + 1 + 8 * k < _; omega⟩

/-- an object of an own class with an own __init__ -/
def clsF (C : Addr) (g : List MV → List (Str × MV) → MH → Option (MV × MH)) (xs : List MV) (ks : List (Str × MV)) (H : MH) : Option (MV × MH) :=
  (g (.ref (H.n + 1) :: xs) ks ((H.push (.ns [])).push (.inst C H.n))).bind fun p => if p.1 = .val .none then some (.ref (H.n + 1), p.2) else none
theorem cls_code {C f : Addr} {g : List MV → List (Str × MV) → MH → Option (MV × MH)} (hm : makesIn G.K C = true) (hi : findIn G.K (.ref C) "__init__" = some (some (.ref f))) (hf : typeIn G.K (.ref f) = some (.type "function")) (h : FnC G k (.ref f) g) :
    FnC G (k + 1) (.ref C) (clsF C g) := fun {A} {ρ} {H} {H'} {s} {xs} {vs} {ks} {kvs} {r} B b v kv e Q q => by
  obtain ⟨⟨u, H₁⟩, e1, e⟩ := Option.bind_eq_some_iff.mp e
  dsimp only at e
  split at e
  case isFalse => cases e
  rename_i hu
  cases e; subst hu
  obtain ⟨hh, gg, d, t, os⟩ := s
  obtain ⟨a1, r1⟩ := push_new (s := ⟨hh, gg, d, t, os⟩) (tk := t) (ex := NoEx) (o := .ns []) (h' := hh.push emptyDict) b.rep (fresh_none (Nat.le_refl _)) (Heap.get?_push_size _ rfl) ⟨[], 0, rfl, .nil⟩ (fun b o e => Heap.get?_push_of_some _ e)
  obtain ⟨a2, r2⟩ := push_new (s := ⟨hh.push emptyDict, gg, d, t, os⟩) (tk := t) (ex := NoEx) (o := .inst C H.n) (h' := (hh.push emptyDict).push (instObj C hh.objs.size)) r1 (fresh_none (Nat.le_refl _)) (Heap.get?_push_size _ rfl)
    ⟨by show H.n < H.n + 1 + 1; omega, by rw [ext_lt H.n (by show H.n < H.n + 1; omega), ext_self]⟩ (fun b o e => Heap.get?_push_of_some _ e)
  have A2 := a1.trans a2
  have hsz : (hh.push emptyDict).objs.size = hh.objs.size + 1 := Heap.size_push ..
  have hvr : vr (ext (ext ρ H.n hh.objs.size) (H.n + 1) (hh.push emptyDict).objs.size) (H.n + 1 + 1) (.ref (H.n + 1)) (.ref (hh.objs.size + 1)) := ⟨Nat.lt_succ_self _, by rw [ext_self, hsz]⟩
  refine make_core (makes_of b.K hm) (looks_findIn b.K hi) (fun self => bind_fn b.K self hf) (.inl rfl) (codeAny_mono (h B.make (b.on A2 r2) (.cons hvr (v.mono A2.le A2.agree)) (kv.mono A2.le A2.agree) e1 (fun w s' => w = .none ∧ Q (.ref (hh.objs.size + 1)) s') fun w s' ρ' a r' vw => ?_) fun r s' z => ?_)
  · cases vw
    refine ⟨rfl, q _ _ ρ' (A2.trans a) r' ?_⟩
    exact vr_mono (m := .ref (H.n + 1)) a.le a.agree hvr
  · unfold InitBack
    rcases r with e | (v | _ | _ | _) <;> first | exact z | exact z.elim
theorem den_cls {C f : Addr} {g : List MV → List (Str × MV) → MH → Option (MV × MH)} (hm : makesIn G.K C = true) (hi : findIn G.K (.ref C) "__init__" = some (some (.ref f))) (hf : typeIn G.K (.ref f) = some (.type "function")) (h : FnC G k (.ref f) g) :
    FnDen G (k + 1) (.ref C) (clsF C g) := FnC.den (cls_code hm hi hf h)

/-! a slice store: all of a list -/
end
end Q
end Mini

open PySem PySem.W PySem.Calls PyProof.Rows
set_option maxRecDepth 100000
namespace Mini
noncomputable section Q
section
variable {G : Gl} {k : Nat} {sx : Sx} {A : Around} {ρ : Nat → Addr} {H H' : MH} {s : Shared}

/-! closures of one name -/
def LamDen (G : Gl) (k : Nat) (c : Nat) (g : Nat → MV → MH → Option (MV × MH)) : Prop :=
  ∀ {A : Around} {ρ : Nat → Addr} {H H' : MH} {s : Shared} {v : MV} {w fv : Value} {l lc : Nat} {r : MV}, Bud A k → Bas G ρ H s → vr ρ H.n v w → CloAt G s.heap (fun b => ¬ Owned ρ H b) ρ H.n c l lc fv → H.get lc = some (.code (G.lams c).qual) →
    g l v H = some (r, H') → EvX G.M G.P A vr (call fv [w]) ρ H s r H'

structure LamOk (L : Lam) (x : Str) : Prop where
  bind : ∀ cl pm cdv ct v, bindArgs (kla_fn L.name L.qual L.params L.body L.scope cl pm cdv ct) ⟨[v], []⟩ = pure [(x, v)]
  kind : L.scope.kind = .function
  co : L.scope.isCoroutine = false
  gen : L.scope.isGenerator = false
  nocell : ∀ y ∈ L.scope.names, y.2 ≠ .cell
  xl : L.scope.names.lookup x = some .local
  cf : L.scope.names.lookup L.cell = some .free
  only : ∀ y, L.scope.names.lookup y = some .free → y = L.cell

abbrev lamSx (L : Lam) (x : Str) (code : Value) : Sx := ⟨L.scope, [x, L.cell], [], code, L.qual ++ (Str.ofString ".<locals>.")⟩

theorem lam_den {c : Nat} {x : Str} {d : St → Option (MV × MH)} (ok : LamOk (G.lams c) x) (hd : ∀ code, DenE G k (lamSx (G.lams c) x code) (G.lams c).body d) :
    LamDen G (k + 1) c (fun l v H => d ⟨[some v, some (.ref l)], H⟩) := fun {A} {ρ} {H} {H'} {s} {v} {w} {fv} {l} {lc} {r} B b hv hc hcode e Q q => by
  obtain ⟨hl, hlc, f, cc, pm, ct, oc, rfl, ff, fc, hf, hcc, hcd⟩ := hc
  obtain ⟨ob, hob, vs, t, hd1, hd2⟩ := b.rep.at_ _ _ hcode
  refine wpAny_call (kla_callFunE (by have := B.d; omega) hf rfl ok.co ok.gen rfl ⟨_, ob, vs, t, rfl, hob, hd1, hd2⟩ ?_)
  rw [ok.bind]
  refine wpAny_pure (wpAny_newFunctionEnv ok.nocell (fun y hy => by cases List.mem_singleton.mp hy; exact ok.xl) (fun h₁ hns hsb => ⟨b.nolimit.fresh _ hsb, ?_⟩) ok.kind)
  have kp : ∀ b o, s.heap.get? b = some o → h₁.get? b = some o ∧ b ≠ s.heap.objs.size := fun b o e => ⟨hsb.extBut b o (Nat.ne_of_lt (Heap.lt_size e)) (Heap.get?_push_of_some _ e), Nat.ne_of_lt (Heap.lt_size e)⟩
  have hxc : x ≠ (G.lams c).cell := fun q => by have h1 := ok.xl; rw [q, ok.cf] at h1; cases h1
  generalize henv : newEnv (G.lams c).scope s.heap.objs.size mainGlobals [((G.lams c).cell, cc)] ((G.lams c).qual ++ (Str.ofString ".<locals>.")) (some f) (.ref (ρ lc)) none builtinsNs = env
  have F' : Fst G env (lamSx (G.lams c) x (.ref (ρ lc))) := {
    scope := by rw [← henv]; rfl
    kind := ok.kind
    glo := by rw [← henv]; rfl
    bui := by rw [← henv]; rfl
    ownk := fun y h => by cases h
    owninj := fun y z c h => by cases h
    nd := by simp [hxc]
    code := .inr (by rw [← henv]; rfl)
    qual := by rw [← henv]; rfl
    has := fun y hy => by
      rcases hy with h | h
      · exact absurd rfl (ok.nocell (y, .cell) (PySem.mem_of_lookup h))
      · have := ok.only y h
        subst this
        exact ⟨cc, by rw [← henv]; show List.lookup _ [(_, cc)] = _; simp [List.lookup_cons]⟩ }
  have hL : env.locals = s.heap.objs.size := by rw [← henv]; rfl
  have hcs : env.cells = [((G.lams c).cell, cc)] := by rw [← henv]; rfl
  have inMine : ∀ b, Mine env (lamSx (G.lams c) x (.ref (ρ lc))) b → b = s.heap.objs.size := fun b m => by
    rcases m with m | ⟨y, h, _⟩
    · rw [← hL]; exact m
    · cases h
  have a1 := Aft.garbage (ρ := ρ) (H := H) (s := s) (tk := s.toks + [(x, w)].length) (ex := NoEx) (h' := h₁) (fun b o e => (kp b o e).1)
  have r1 : Rep G.P ρ H h₁ := b.rep.garbage fun b o e => (kp b o e).1
  have own1 : ∀ {b'}, Owned ρ H b' → ∃ o', s.heap.get? b' = some o' := fun ⟨l, o', g, e'⟩ => by obtain ⟨ob, g', _⟩ := b.rep.at_ l o' g; exact ⟨ob, e' ▸ g'⟩
  have I : InF G env (lamSx (G.lams c) x (.ref (ρ lc))) ρ ⟨[some v, some (.ref l)], H⟩ { s with heap := h₁, toks := s.toks + [(x, w)].length } := {
    bas := b.on a1 r1
    basem := fun b' o' e' mm => (kp b' o' (b.base b' o' e').1).2 (inMine b' mm)
    off := fun b' q' mm => by obtain ⟨o', e'⟩ := own1 q'; exact (kp b' o' e').2 (inMine b' mm)
    cells := fun y cy hy => by
      rw [hcs] at hy
      have : y = (G.lams c).cell ∧ cy = cc := by
        rw [List.lookup_cons] at hy
        split at hy
        · rename_i h; cases hy; exact ⟨by simpa using h, rfl⟩
        · cases hy
      obtain ⟨rfl, rfl⟩ := this
      exact ⟨⟨_, oc, (kp _ _ hcc).1, hcd⟩, fc, by rw [hL]; exact (kp _ _ hcc).2, fun _ mm => (kp _ _ hcc).2 (inMine _ mm)⟩
    ns := ⟨_, by rw [hL]; exact hns, fun i y u h1 h2 h3 => by
      cases i with
      | zero =>
        cases h1; cases h3
        exact ⟨w, by simp, vra_of_vr hv⟩
      | succ i =>
        cases i with
        | zero =>
          cases h1
          have h2 : (G.lams c).scope.names.lookup (G.lams c).cell = some .local := h2
          rw [ok.cf] at h2; cases h2
        | succ i => cases h1⟩
    cel := fun i y u h1 h2 h3 => by
      cases i with
      | zero =>
        cases h1
        rcases h2 with h2 | h2
        · have h2 : (G.lams c).scope.names.lookup x = some .cell := h2
          rw [ok.xl] at h2; cases h2
        · have h2 : (G.lams c).scope.names.lookup x = some .free := h2
          rw [ok.xl] at h2; cases h2
      | succ i =>
        cases i with
        | zero =>
          cases h1; cases h3
          exact ⟨cc, _, by rw [hcs]; simp, ⟨oc, (kp _ _ hcc).1, hcd⟩, hl, rfl⟩
        | succ i => cases h1 }
  refine kla_codeExpr (wpAny_mono (hd _ F' B.deeper I e Q fun a s' ρ' a' r' v' => q a s' ρ' (a1.trans a') r' v') (fun _ _ z => z) fun _ _ z => z.elim)

/-- making a closure of one name: the table of code lies at place 0 -/
def mkClo (c : Nat) (q : Str) (ln cl : Nat) (i : Nat) (vs : List (Option MV)) (H : MH) : Option (MV × MH) := match vs[i]? with
  | some (some (.ref l)) => (match H.get 0 with
    | some (.tab none) => some (.clo c l H.n, (H.push (.code q)).set 0 (.tab (some (H.n, ln, cl))))
    | some (.tab (some (lc, ln', cl'))) => if ln' = ln ∧ cl' = cl ∧ H.get lc = some (.code q) then some (.clo c l lc, H) else none
    | _ => none)
  | _ => none

structure LamAt (G : Gl) (sx : Sx) (c : Nat) (params_ : Arguments) (body_ : Expr) (scope_ : Scope) (i : Nat) (c0 P : Addr) : Prop where
  tab : G.tab = some P
  code : sx.code = .ref c0
  hd : CodeHd G.h₀ c0 P
  name : (G.lams c).name = Str.ofString "<lambda>"
  qual : (G.lams c).qual = sx.qual ++ Str.ofString "<lambda>"
  params : (G.lams c).params = params_
  body : (G.lams c).body = body_
  scope : (G.lams c).scope = scope_
  slot : sx.slots[i]? = some (G.lams c).cell
  kind : sx.kindOf (G.lams c).cell = some .cell ∨ sx.kindOf (G.lams c).cell = some .free
  dflt : ∀ env, defaultsOf params_ env = ([], [])
  clos : ∀ (env : Env) cc, env.cells.lookup (G.lams c).cell = some cc → closureFor scope_ env = pure [((G.lams c).cell, cc)]

/-- a new owned object, and an owned one that turns -/
theorem push_set {P : Params} {h' : Heap} {tk : Nat} {a : Addr} {l0 : Nat} {o o0 o0' : MO} {ob ob0 : Obj} {ex : Addr → Prop} (R : Rep P ρ H s.heap) (hl : H.get l0 = some o0) (ha : s.heap.get? a = none) (hob : h'.get? a = some ob) (hr : orep P (ext ρ H.n a) (H.n + 1) o ob)
    (hob0 : h'.get? (ρ l0) = some ob0) (hr0 : orep P (ext ρ H.n a) (H.n + 1) o0' ob0) (k : ∀ b x, b ≠ ρ l0 → s.heap.get? b = some x → h'.get? b = some x) :
    Aft ρ (ext ρ H.n a) H ((H.push o).set l0 o0') s { s with heap := h', toks := tk } ex ∧ Rep P (ext ρ H.n a) ((H.push o).set l0 o0') h' := by
  obtain ⟨old, ho, hor⟩ := R.at_ l0 o0 hl
  have hlt := R.lt l0 o0 hl
  have hne : a ≠ ρ l0 := fun q => by rw [q, ho] at ha; cases ha
  have u1 : (h'.update (ρ l0) (fun _ => old)).get? (ρ l0) = some old := Heap.get?_update_self (fun _ => old) hob0 (orep_live hor)
  have u2 : ∀ b, b ≠ ρ l0 → (h'.update (ρ l0) (fun _ => old)).get? b = h'.get? b := fun b hb => (Heap.SameBut.update ..).2 b hb
  obtain ⟨a1, r1⟩ := push_new (s := s) (tk := tk) (ex := ex) (o := o) (h' := h'.update (ρ l0) (fun _ => old)) R ha ((u2 a hne).trans hob) hr (fun b x e => by
    by_cases hb : b = ρ l0
    · subst hb; rw [ho] at e; cases e; exact u1
    · exact (u2 b hb).trans (k b x hb e))
  obtain ⟨a2, r2⟩ := set_own (s := { s with heap := h'.update (ρ l0) (fun _ => old), toks := tk }) (tk := tk) (ex := ex) (l := l0) (o := o0) (o' := o0') (h' := h') (ob := ob0) r1 (by rw [MH.get_push, if_neg (Nat.ne_of_lt hlt)]; exact hl) (by rw [ext_lt l0 hlt]; exact hob0) hr0
    (fun b x hb e => by rw [ext_lt l0 hlt] at hb; exact (u2 b hb).symm.trans e)
  exact ⟨a1.trans a2, r2⟩

theorem lam_make {c : Nat} {params : Arguments} {body : Expr} {scope : Scope} {i : Nat} {c0 P : Addr} {pos : Pos} (Y : LamAt G sx c params body scope i c0 P) {env : Env} {st : St} {v : MV} {Q : Value → Shared → Prop} (F : Fst G env sx) (I : InF G env sx ρ st s)
    (e : mkClo c (G.lams c).qual pos.line pos.col i st.vs st.H = some (v, H'))
    (q : ∀ l lc fv s' ρ', v = .clo c l lc → Aft ρ ρ' st.H H' s s' NoEx → Rep G.P ρ' H' s'.heap → CloAt G s'.heap (fun b => ¬ Owned ρ' H' b) ρ' H'.n c l lc fv → H'.get lc = some (.code (G.lams c).qual) → Q fv s') :
    wpAny G.M A (eval (.Lambda params body scope pos) env) Q (fun _ _ => False) s := by
  unfold mkClo at e
  split at e
  case h_2 => cases e
  rename_i l hi
  obtain ⟨cc, w, hcl, hcell, hl, rfl⟩ := I.cel i _ _ Y.slot Y.kind hi
  obtain ⟨_, hnO, _, _⟩ := I.cells _ _ hcl
  obtain ⟨occ, hocc, hdcc⟩ := hcell
  refine kla_eval (Y.dflt env) ?_
  rw [F.qual, ← Y.qual, ← Y.params, ← Y.body, ← Y.scope, ← Y.name]
  obtain ⟨hP, hn0⟩ := I.bas.tab P Y.tab
  subst hP
  have hcode : env.code = .ref c0 := (F.code.resolve_left (by rw [Y.code]; intro z; cases z)).trans Y.code
  have CH : CodeHd s.heap c0 (ρ 0) := Y.hd.keeps fun b o e => (I.bas.base b o e).1
  have hclos := Y.clos env cc hcl
  rw [← Y.scope] at hclos
  have nB : ∀ b o (h : G.h₀.get? b = some o) {t}, st.H.get 0 = some t → b ≠ ρ 0 := fun b o h t ht q => (I.bas.base b o h).2 ⟨0, t, ht, q.symm⟩
  have gG := I.bas.ns G.T.g
  obtain ⟨bm, ob, b1, b2, b3, b4, b5, b6⟩ := G.T.bmain
  obtain ⟨og, _, _, hog, hdg, _⟩ := G.T.g
  have hbG : bm ≠ mainGlobals := fun q => by rw [q, hog] at b3; cases b3; rw [hdg] at b6; cases b6
  split at e
  · rename_i h0
    cases e
    obtain ⟨ot, hot, rfl⟩ := I.bas.rep.at_ 0 _ h0
    refine kla_makeFunction (mg := G.mg) hclos F.glo gG hcode CH hot trivial rfl (nB _ _ hog h0) ⟨bm, ob, b1, b2, hbG, nB _ _ b3 h0, (I.bas.base _ _ b3).1, b4, b5, b6⟩ fun c' ctv h' tk hx hge hlt hrec htb => ?_
    obtain ⟨c₂, oc, cvs, ct, ec, hoc, hcd, hcv⟩ := hrec
    cases ec
    obtain ⟨a1, r1⟩ := push_set (s := s) (tk := tk) (ex := NoEx) (a := c') (o := .code (G.lams c).qual) (o0' := .tab (some (st.H.n, pos.line, pos.col))) I.bas.rep h0 (fresh_none hge) hoc ⟨cvs, ct, hcd, hcv⟩ htb ⟨Nat.lt_succ_self _, by rw [ext_self]; rfl⟩ (fun b x hb e => hx b x hb e)
    have kf : ∀ b o, h'.get? b = some o → (h'.push (kla_obj (G.lams c).name (G.lams c).qual (G.lams c).params (G.lams c).body (G.lams c).scope [((G.lams c).cell, cc)] ((G.mg "__name__").getD .none) c' ctv)).get? b = some o := fun b o e => Heap.get?_push_of_some _ e
    have g2 := Aft.garbage (ρ := ext ρ st.H.n c') (H := (st.H.push (.code (G.lams c).qual)).set 0 (.tab (some (st.H.n, pos.line, pos.col)))) (s := { s with heap := h', toks := tk }) (tk := tk) (ex := NoEx) kf
    have r2 := r1.garbage kf
    have hge' : (st.H.push (MO.code (G.lams c).qual)).n = st.H.n + 1 := rfl
    refine q l st.H.n _ _ _ rfl (a1.trans g2) r2 ⟨Nat.lt_succ_of_lt hl, Nat.lt_succ_self _, h'.objs.size, cc, (G.mg (Str.ofString "__name__")).getD .none, ctv, occ, rfl, fun qo => ?_, not_owned_after a1 hocc hnO, ?_, kf _ _ (a1.keep _ _ hocc hnO id), by rw [ext_lt l hl]; exact hdcc⟩ ?_
    · obtain ⟨l', o', g', e'⟩ := qo
      obtain ⟨ob', g'', _⟩ := r1.at_ l' o' g'
      rw [e', fresh_none (Nat.le_refl _)] at g''; cases g''
    · rw [ext_self]; exact Heap.get?_push_size _ rfl
    · rw [MH.get_set, if_neg (Nat.ne_of_gt hn0), MH.get_push, if_pos rfl]
  · rename_i lc ln cl h0
    split at e
    case isFalse => cases e
    rename_i hh
    obtain ⟨rfl, rfl, hcq⟩ := hh
    cases e
    obtain ⟨ot, hot, hlc, rfl⟩ := I.bas.rep.at_ 0 _ h0
    refine kla_makeFunctionHit (mg := G.mg) (cv := .ref (ρ lc)) hclos F.glo gG hcode CH hot trivial ?_ ⟨bm, ob, b1, b2, hbG, nB _ _ b3 h0, (I.bas.base _ _ b3).1, b4, b5, b6⟩ fun ctv h' tk hk hsz => ?_
    · simp [codeAmong, rawInt]
    have kf : ∀ b o, s.heap.get? b = some o → (h'.push (kla_obj (G.lams c).name (G.lams c).qual (G.lams c).params (G.lams c).body (G.lams c).scope [((G.lams c).cell, cc)] ((G.mg "__name__").getD .none) (ρ lc) ctv)).get? b = some o := fun b o e => Heap.get?_push_of_some _ (hk b o e)
    have g2 := Aft.garbage (ρ := ρ) (H := st.H) (s := s) (tk := tk) (ex := NoEx) kf
    have r2 := I.bas.rep.garbage kf
    refine q l lc _ _ ρ rfl g2 r2 ⟨hl, hlc, h'.objs.size, cc, _, _, occ, rfl, fun qo => ?_, hnO, Heap.get?_push_size _ rfl, kf _ _ hocc, hdcc⟩ hcq
    obtain ⟨l', o', g', e'⟩ := qo
    obtain ⟨ob', g'', _⟩ := I.bas.rep.at_ l' o' g'
    rw [e', fresh_none hsz] at g''; cases g''
  · cases e

def callClo (c0 : Nat) (q : Str) (i : Nat) (ds : St → Option (List MV × MH)) (g : Nat → MV → MH → Option (MV × MH)) (st : St) : Option (MV × MH) := match st.vs[i]? with
  | some (some (.clo c l lc)) => (ds st).bind fun p => match p.1 with
    | [v] => if c = c0 ∧ p.2.get lc = some (.code q) then g l v p.2 else none
    | _ => none
  | _ => none
theorem den_callclo {x : Str} {p pos : Pos} {args : List Expr} {ds : St → Option (List MV × MH)} {c0 : Nat} {g : Nat → MV → MH → Option (MV × MH)} (i : Nat) (hi : sx.slots[i]? = some x) (hk : sx.kindOf x = some .local) (hdb : (x == ("__debug__" : Str)) = false)
    (ha : DenEs G k sx args ds) (hpl : ∀ env pos, (backTo pos (starEach args env)).any (·.1) = false) (hl : LamDen G k c0 g) :
    DenE G k sx (.Call (.Name x p) args [] pos) (callClo c0 (G.lams c0).qual i ds g) := fun {env} {A} {ρ} {st} {s} {v} {H'} F B I e Q q => by
  unfold callClo at e
  split at e
  case h_2 => cases e
  rename_i c l lc hc
  obtain ⟨⟨xs, H₁⟩, e1, e⟩ := Option.bind_eq_some_iff.mp e
  dsimp only at e
  split at e
  case h_2 => cases e
  rename_i u _
  split at e
  case isFalse => cases e
  rename_i hh
  have eg := e
  clear e
  obtain ⟨rfl, hq⟩ := hh
  obtain ⟨m, hn, hv⟩ := I.ns
  obtain ⟨w, hm, r⟩ := hv i x _ hi hk hc
  rw [arm_eval_Call_Name']
  refine wpAny_bind (wpAny_Name (wpAny_loadName_local (by rw [F.scope]; exact F.kind) (by show Env.kindOf _ _ = _; unfold Env.kindOf; rw [F.scope]; exact hk) hn hm ?_) hdb)
  have r0 := r
  obtain ⟨g1, g2, f, cc, pm, ct, oc, rfl, ff, fc, g3, g4, g5⟩ := r
  refine callWith_of (P := FnAt f) (by rw [hpl]; rfl) keeps_F (evalArgs_any (hpl _ _) rfl ?_)
  refine ha F B I e1 pos _ fun vs s₁ ρ₁ a₁ r₁ v₁ => wpAny_evalAll_nil ?_
  have I1 := I.after a₁ r₁
  have g3' := a₁.keep _ _ g3 ff.1 id
  refine ⟨⟨_, _, _, _, g3'⟩, ?_⟩
  cases v₁ with | cons hu hn => ?_
  cases hn
  refine hl B I1.bas hu ?_ hq eg Q fun a s' ρ' a' r' v' => q a s' ρ' (a₁.trans a') r' v'
  exact vra_mono (G := G) (m := .clo _ l lc) a₁.le a₁.agree (fun b o e f => ⟨not_owned_after a₁ e f.1, a₁.keep b o e f.1 id⟩) r0

def callKeyD (ds : St → Option (List MV × MH)) (c : Nat) (q : Str) (ln cl i : Nat) (bnd : List MV → Option (List MV)) (m : Nat) (d : St → Option (Fl × St)) (st : St) : Option (MV × MH) :=
  (ds st).bind fun p => (mkClo c q ln cl i st.vs p.2).bind fun r => (bnd p.1).bind fun bs => (d ⟨(bs ++ [r.1]).map some ++ List.replicate m none, r.2⟩).bind retOf
theorem den_callKey {id kx : Str} {p pos kp lpos : Pos} {args : List Expr} {lparams : Arguments} {lbody : Expr} {lscope : Scope} {c c0 f P : Nat} {i : Nat} {ds : St → Option (List MV × MH)} {bnd : List MV → Option (List MV)}
    {fd : FuncData} {body : List Stmt} {sxf : Sx} {params : List Str} {d : St → Option (Fl × St)} (m : Nat)
    (hn : DenE G (k + 1) sx (.Name id p) (fun st => some (.val (.ref f), st.H))) (hk : Keeps G (.ref f)) (ha : DenEs G (k + 1) sx args ds) (hpl : ∀ env pos, (backTo pos (starEach args env)).any (·.1) = false)
    (Y : LamAt G sx c lparams lbody lscope i c0 P) (ok : FnOk G f fd body sxf params) (hd : DenSs G k sxf body d) (hlast : ∀ y, params[params.length - 1]? = some y → sxf.kindOf y = some .local)
    (hb : ∀ {ρ : Nat → Addr} {n : Nat} {xs : List MV} {vs : List Value} {bs : List MV}, VRs ρ n xs vs → bnd xs = some bs → ∀ fv, ∃ vals, (∀ S, peek G.K S (bindArgs fd ⟨vs, [(kx, fv)]⟩) = some (params.zip (vals ++ [fv]))) ∧ (vals ++ [fv]).length = params.length ∧ VRs ρ n bs vals) :
    DenE G (k + 1) sx (.Call (.Name id p) args [⟨some kx, .Lambda lparams lbody lscope lpos, kp⟩] pos) (callKeyD ds c (G.lams c).qual lpos.line lpos.col i bnd m d) := fun {env} {A} {ρ} {st} {s} {v} {H'} F B I e Q q => by
  obtain ⟨⟨xs, H₁⟩, e1, e⟩ := Option.bind_eq_some_iff.mp e
  obtain ⟨⟨clo, H₂⟩, e2, e⟩ := Option.bind_eq_some_iff.mp e
  obtain ⟨bs, e3, e⟩ := Option.bind_eq_some_iff.mp e
  obtain ⟨⟨fl, st'⟩, e4, e9⟩ := Option.bind_eq_some_iff.mp e
  rw [arm_eval_Call_Name']
  refine wpAny_bind (hn F B I rfl _ fun a s₀ ρ₀ a₀ r₀ v₀ => ?_)
  cases v₀
  have I0 := I.after a₀ r₀
  refine callWith_of (P := G.K.In) (by rw [hpl]; rfl) hk (evalArgs_any (hpl _ _) rfl ?_)
  refine ha F B I0 e1 pos _ fun vs s₁ ρ₁ a₁ r₁ v₁ => ?_
  have I1 := I0.after a₁ r₁
  refine wpAny_evalAll_cons (wpAny_bind (lam_make Y F I1 e2 fun l lc fv s₂ ρ₂ hclo a₂ r₂ hc hq => ?_))
  subst hclo
  refine wpAny_bind (wpAny_standAt (wpAny_pure (wpAny_evalAll_nil ?_)))
  have I2 := I1.after a₂ r₂
  refine ⟨I2.bas.K, ?_⟩
  have v₂ := v₁.mono a₂.le a₂.agree
  obtain ⟨vals, hp, hlen, hvals⟩ := hb v₂ e3 fv
  obtain ⟨o, ho, hdata⟩ := ok.at_
  obtain ⟨cA, oc, cvs, ct, hcd, hoc, hcdata, hcq⟩ := ok.code
  refine wpAny_call (codeAny_mono (R := fun r s' => match r with | .ok (.ret v) => Q v s' | _ => False) (codeAny_call_function (by have := B.d; omega) (I2.bas.K f o ho) hdata ok.co ok.gen ok.body ⟨cA, oc, cvs, ct, hcd, I2.bas.K cA oc hoc, hcdata, hcq⟩ ?_) fun r s' z => by rcases r with e | (v | _ | _ | _) <;> first | exact z | exact z.elim)
  refine kp_binds I2.bas.K hp _ _ _ _ ?_
  have A2 := (a₀.trans a₁).trans a₂
  refine wpAny_mono (fn_core m ok hd B I2.bas hlen (by simp [hvals.length]) (fun j u w y h1 h2 h3 => ?_) e4 e9 fun a s' ρ' a' r' v' => q a s' ρ' (A2.trans a') r' v') (fun _ _ z => z) fun _ _ z => z.elim
  by_cases hj : j < bs.length
  · rw [List.getElem?_append_left hj] at h1
    rw [List.getElem?_append_left (by rw [hvals.length]; exact hj)] at h2
    obtain ⟨w', h4, h5⟩ := hvals.some h1
    rw [h2] at h4; cases h4
    exact .inl h5
  · have hj' : j = bs.length := by
      have := (List.getElem?_eq_some_iff.mp h1).1
      simp at this; omega
    subst hj'
    have e5 : u = .clo c l lc := by simpa using h1.symm
    have e6 : w = fv := by
      have : bs.length = vals.length := hvals.length.symm
      rw [this] at h2; simpa using h2.symm
    subst e5 e6
    refine .inr ⟨hlast y ?_, hc⟩
    rw [← hlen]; simp only [List.length_append, List.length_singleton, Nat.add_sub_cancel, hvals.length]; exact h3
end
end Q
end Mini

open PySem PySem.W PySem.Calls PyProof.Rows
set_option maxRecDepth 100000
namespace Mini
noncomputable section Q
section
variable {G : Gl} {k : Nat} {sx : Sx} {A : Around} {ρ : Nat → Addr} {H H' : MH} {s : Shared}

theorem setAll {prog : Program} {w : World} {E : Value → Shared → Prop} {l b sl : Addr} {items new : Array Value} {n n2 : Nat} {Q : Unit → Shared → Prop} (hl : s.heap.get? l = some (listOf items n)) (hb : s.heap.get? b = some (listOf new n2)) (hsl : s.heap.IsSliceOf sl .none .none .none)
    (hz : items.size + new.size ≤ 200000)
    (q : Q () { s with heap := s.heap.update l (Obj.mapSeq fun xs => xs.extract 0 0 ++ new ++ xs.extract items.size xs.size) }) : wpAny (model prog w) A (setItem (.ref l) (.ref sl) (.ref b)) Q E s := by
  have hL : s.heap.IsList l items := ⟨_, hl, rfl, n, rfl⟩
  have hB : s.heap.IsList b new := ⟨_, hb, rfl, n2, rfl⟩
  obtain ⟨os, hos, hcs, hds⟩ := id hsl
  have hTs : s.TypeIs (.ref sl) "slice" := ⟨os, hos, hcs⟩
  unfold setItem
  refine wpAny_holding ?_
  refine wpAny_bind (wpAny_sequenceKey hL.typeIs (by decide) ?_)
  refine wpAny_bind (wpAny_callSpecial?_slot (name := Str.ofString "__setitem__") hL.typeIs slot_list_setitem
    (wpAny_call_entry slot_list_setitem hL.typeIs entry_list_setitem ?_ (args_list_setitem _ _ _)))
  show wpAny _ _ (Builtin.List.listSubscript? (.ref sl) >>= _) _ _ s
  refine wpAny_bind ?_
  unfold Builtin.List.listSubscript?
  refine wpAny_bind (wpAny_specialOf hTs slice_no_index ?_)
  simp only [Option.isNone_none, if_true]
  refine wpAny_pure ?_
  show wpAny _ _ (typeOf (.ref sl) >>= _) _ _ s
  refine wpAny_bind (wpAny_typeOf hTs ?_)
  rw [if_neg (by decide)]
  rw [listSliceParts_eq]
  refine wpAny_bind (wpAny_bind (wpAny_field hos hds (x := .none) rfl (wpAny_bind (wpAny_listPart (.none) ?_))))
  rw [if_neg (show ¬ ((rawPart none == rawInt 0) = true) from Bool.false_ne_true)]
  refine wpAny_bind (wpAny_field hos hds (x := .none) rfl (wpAny_bind (wpAny_listPart (.none) ?_)))
  refine wpAny_bind (wpAny_field hos hds (x := .none) rfl (wpAny_bind (wpAny_listPart (.none) (wpAny_pure ?_))))
  have ind : ∀ len : Nat, sliceIndices .none .none .none len = pure ((0 : Int), (len : Int), (1 : Int)) := fun len => by rfl
  have fin : ∀ {α : Type} (k1 : Array Value → Int × Int × Int → Sem α) {Q' : α → Shared → Prop} {E' : Value → Shared → Prop}, wpAny (model prog w) A.in1 (k1 items ((0 : Int), (items.size : Int), (1 : Int))) Q' E' s →
      wpAny (model prog w) A.in1 (Builtin.List.listItems (.ref l) >>= fun xs => sliceIndices .none .none .none xs.size >>= fun x => k1 xs x) Q' E' s := by
    intro α k1 Q' E' h
    refine wpAny_bind (listItems_at hl rfl ?_)
    rw [ind]
    exact wpAny_bind (wpAny_pure h)
  have last : ∀ {E' : Value → Shared → Prop}, wpAny (model prog w) A.in1 (do
      Builtin.List.listUpdate (Value.ref l) fun xs => xs.extract 0 (0 : Int).toNat ++ new ++ xs.extract (max (0 : Int) (items.size : Int)).toNat
      letGo (items.extract (0 : Int).toNat (max (0 : Int) (items.size : Int)).toNat).toList.reverse
      ret Value.none) (fun fin s' => ∃ v, fin = .done (.ret v) ∧ wpAny (model prog w) A (pure ()) Q E s') E' s := by
    intro E'
    have e1 : (max (0 : Int) (items.size : Int)).toNat = items.size := by omega
    rw [e1]
    refine wpAny_bind (m := updateSeq l _) (wpAny_updateSeq hl rfl (wpAny_bind (wpAny_letGo (wpAny_pure ⟨_, rfl, wpAny_pure q⟩))) (by rw [sizeLine_eq]; omega) (by simp [sizeLine_eq]; omega))
  split
  · refine wpAny_bind (listItems_at hb rfl (fin _ ?_))
    dsimp only
    rw [if_pos (by rfl)]
    refine wpAny_bind (wpAny_rule ?_)
    rw [if_neg (by unfold Builtin.List.listTooLong; simp [sizeLine_eq]; omega)]
    exact last
  · refine wpAny_bind ?_
    unfold Builtin.List.listAllItems
    refine wpAny_bind (wpAny_typeOf (T := "list") ⟨_, hb, rfl⟩ ?_)
    rw [if_pos (by decide)]
    refine listItems_at hb rfl (fin _ ?_)
    dsimp only
    rw [if_pos (by rfl)]
    refine wpAny_bind (wpAny_rule ?_)
    rw [if_neg (by unfold Builtin.List.listTooLong; simp [sizeLine_eq]; omega)]
    exact last

/-- all of a list, anew -/
def setAllF (x v : MV) (H : MH) : Option MH := match x, v with
  | .ref l, .ref b => (match H.get l, H.get b with
    | some (.list xs), some (.list ys) => if xs.length + ys.length ≤ 100000 then some (H.set l (.list ys)) else none
    | _, _ => none)
  | _, _ => none
theorem asg_all {o : Expr} {p pos : Pos} {d : St → Option (MV × MH)} (h : DenE G k sx o d) :
    AsgT G k sx (.Subscript o (.Slice none none none p) pos) (fun v st => (d st).bind fun q => (setAllF q.1 v q.2).map fun H => ⟨st.vs, H⟩) := fun {env} {A} {ρ} {st} {st'} {s} {v} {w} F B I hv e => by
  obtain ⟨⟨x, H₁⟩, e1, e⟩ := Option.bind_eq_some_iff.mp e
  obtain ⟨H₃, e3, e⟩ := Option.map_eq_some_iff.mp e
  cases e
  intro Q q
  rw [arm_assign_Subscript]
  refine wpAny_bind (wpAny_holding (h F B I e1 _ fun a s₁ ρ₁ a₁ r₁ v₁ => ?_))
  have I1 := I.after a₁ r₁
  refine wpAny_bind (wpAny_holding (wpAny_Slice (denp_none (G := G) (k := k) F B I1 rfl _ fun vl s₂ ρ₂ a₂ r₂ v₂ => denp_none (G := G) (k := k) F B (I1.after a₂ r₂) rfl _ fun vu s₃ ρ₃ a₃ r₃ v₃ => wpAny_evalPart_none ?_)))
  cases v₂; cases v₃
  have hv3 := vr_mono a₃.le a₃.agree (vr_mono a₂.le a₂.agree (vr_mono a₁.le a₁.agree hv))
  have v1 := vr_mono a₃.le a₃.agree (vr_mono a₂.le a₂.agree v₁)
  dsimp only at e3 v1 hv3
  unfold setAllF at e3
  split at e3
  case h_2 => cases e3
  rename_i l b
  obtain ⟨_, rfl⟩ := v1
  obtain ⟨_, rfl⟩ := hv3
  split at e3
  case h_2 => cases e3
  rename_i xs ys h1 h2
  split at e3
  case isFalse => cases e3
  rename_i hz
  cases e3
  obtain ⟨vs, n1, g1, u1⟩ := rep_list r₃ h1
  obtain ⟨ws, n2, g2, u2⟩ := rep_list r₃ h2
  have kS : ∀ b o, s₃.heap.get? b = some o → (s₃.heap.push { cls := .type "slice", data := .fields #[.none, .none, .none] }).get? b = some o := fun b o e => Heap.get?_push_of_some _ e
  refine wpAny_bind (wpAny_standAt (wpAny_bind (wpAny_holding (setAll (kS _ _ g1) (kS _ _ g2) (Heap.IsSliceOf.new ..) (by rw [List.size_toArray, List.size_toArray, u1.length, u2.length]; omega) ?_))))
  obtain ⟨n', g3⟩ := updSeq (kS _ _ g1) (fun ys => ys.extract 0 0 ++ ws.toArray ++ ys.extract vs.toArray.size ys.size)
  obtain ⟨x1, x2⟩ := set_own (tk := s₃.toks) (ex := NoEx) (o' := .list ys) r₃ h1 g3 ⟨ws, n', by simp, u2⟩ (fun b x n e => ((Heap.SameBut.update ..).2 b n).trans (kS _ _ e))
  exact wpAny_release (q _ _ _ (I.lift (((a₁.trans a₂).trans a₃).trans x1)) (I.after (((a₁.trans a₂).trans a₃).trans x1) x2) trivial)

theorem LamDen.le {k' c : Nat} {g : Nat → MV → MH → Option (MV × MH)} (h : LamDen G k c g) (hk : k ≤ k') : LamDen G k' c g := fun B => h (B.le hk)
theorem DenSs.le {k' : Nat} {t : List Stmt} {d : St → Option (Fl × St)} (h : DenSs G k sx t d) (hk : k ≤ k') : DenSs G k' sx t d := fun F B => h F (B.le hk)
abbrev closBody (env : Env) : Str × NameKind → List (Str × Addr) → Sem (ForInStep (List (Str × Addr))) := fun x r => match x with
  | (name, kind) => if (kind == .free) = true then do { let c ← cellOf env name; pure (ForInStep.yield ((name, c) :: r)) } else pure (ForInStep.yield r)
theorem clos_none {env : Env} : ∀ (names : List (Str × NameKind)) (cs : List (Str × Addr)), names.filter (·.2 == .free) = [] → forIn names cs (closBody env) = pure cs
  | [], _, _ => rfl
  | (n, kd) :: r, cs, h => by
    rw [List.filter_cons] at h
    split at h
    · cases h
    · rename_i hk
      rw [List.forIn_cons]
      have hk' : (kd == NameKind.free) = false := by simpa using hk
      show ((if (kd == .free) = true then _ else pure (ForInStep.yield cs)) >>= _) = _
      rw [hk']
      exact clos_none r cs h
theorem clos_one {env : Env} {cell : Str} {cc : Addr} (hc : env.cells.lookup cell = some cc) : ∀ (names : List (Str × NameKind)) (cs : List (Str × Addr)), names.filter (·.2 == .free) = [(cell, .free)] → forIn names cs (closBody env) = pure ((cell, cc) :: cs)
  | [], _, h => by cases h
  | (n, kd) :: r, cs, h => by
    rw [List.filter_cons] at h
    rw [List.forIn_cons]
    split at h
    · rename_i hk
      have hk' : (kd == NameKind.free) = true := hk
      have h1 := (List.cons.inj h).1
      have h2 := (List.cons.inj h).2
      cases h1
      show ((if (NameKind.free == .free) = true then _ else pure (ForInStep.yield cs)) >>= _) = _
      rw [if_pos hk']
      unfold cellOf
      rw [hc]
      exact clos_none r _ h2
    · rename_i hk
      have hk' : (kd == NameKind.free) = false := by simpa using hk
      show ((if (kd == .free) = true then _ else pure (ForInStep.yield cs)) >>= _) = _
      rw [hk']
      exact clos_one hc r cs h
theorem closure_one {env : Env} {scope : Scope} {cell : Str} {cc : Addr} (hs : scope.names.filter (·.2 == .free) = [(cell, .free)]) (hc : env.cells.lookup cell = some cc) : closureFor scope env = pure [(cell, cc)] := by
  unfold closureFor
  exact (congrArg (· >>= pure) (clos_one hc scope.names [] hs)).trans (pure_bind _ _)
end
end Q
end Mini

open PySem PySem.W PySem.Calls PyProof.Rows
set_option maxRecDepth 100000
namespace Mini
noncomputable section Q
/-- what was there at n, and the code that the table at place 0 names -/
def codeAt (H : MH) : List (Nat × MO) := match H.get 0 with
  | some (.tab (some (lc, _, _))) => (match H.get lc with
    | some o => [(lc, o)]
    | none => [])
  | _ => []
def filtL (n : Nat) (os : List (Nat × MO)) : List (Nat × MO) := @List.rec (Nat × MO) (fun _ => List (Nat × MO)) [] (fun p _ ih => @Bool.rec (fun _ => List (Nat × MO)) (p :: ih) ih (Nat.ble n p.1)) os
theorem filtL_cons (n k : Nat) (o : MO) (r : List (Nat × MO)) : filtL n ((k, o) :: r) = if n ≤ k then filtL n r else (k, o) :: filtL n r := by
  show @Bool.rec (fun _ => List (Nat × MO)) ((k, o) :: filtL n r) (filtL n r) (Nat.ble n k) = _
  cases h : Nat.ble n k with
  | true => rw [if_pos (Nat.le_of_ble_eq_true h)]
  | false => rw [if_neg (fun z => by rw [Nat.ble_eq_true_of_le z] at h; cases h)]
theorem filt_get (n : Nat) (os : List (Nat × MO)) (l : Nat) : getL (filtL n os) l = if l < n then getL os l else none := by
  induction os with
  | nil => show none = _; simp [getL]
  | cons p r ih =>
    obtain ⟨k, o⟩ := p
    rw [filtL_cons]
    by_cases hk : n ≤ k
    · rw [if_pos hk, ih, getL_cons]
      by_cases hl : l < n
      · rw [if_pos hl, if_pos hl, if_neg (by omega)]
      · rw [if_neg hl, if_neg hl]
    · rw [if_neg hk, getL_cons, getL_cons, ih]
      by_cases hl : l = k
      · subst hl; simp; omega
      · simp [hl]
theorem getL_app (l : Nat) : ∀ a b : List (Nat × MO), getL (a ++ b) l = (getL a l).or (getL b l)
  | [], _ => by simp [getL]
  | (k, o) :: r, b => by
    rw [List.cons_append, getL_cons, getL_cons]
    split
    · rfl
    · exact getL_app l r b
/-- the code of the table too, where it is young -/
def gcH (n : Nat) (H : MH) : MH := ⟨H.n, filtL n H.os ++ codeAt H⟩
theorem gcH_get (n : Nat) (H : MH) (l : Nat) : (gcH n H).get l = (if l < n then H.get l else none).or (getL (codeAt H) l) := by
  show getL (filtL n H.os ++ codeAt H) l = _
  rw [getL_app, filt_get]; rfl
theorem code_sub {H : MH} {l : Nat} {o : MO} (e : getL (codeAt H) l = some o) : H.get l = some o := by
  unfold codeAt at e
  split at e
  · split at e
    · rename_i lc _ _ _ o' ho
      rw [getL_cons] at e
      split at e
      · rename_i hl; cases e; rw [hl]; exact ho
      · cases e
    · cases e
  · cases e
theorem gcH_sub {n : Nat} {H : MH} {l : Nat} {o : MO} (e : (gcH n H).get l = some o) : H.get l = some o := by
  rw [gcH_get] at e
  split at e
  · cases h : H.get l with
    | some o' => rw [h] at e; exact e
    | none =>
      rw [h] at e
      rw [code_sub e] at h; cases h
  · exact code_sub e
theorem gcH_low {n : Nat} {H : MH} {l : Nat} {o : MO} (h : l < n) (e : H.get l = some o) : (gcH n H).get l = some o := by
  rw [gcH_get, if_pos h, e]; rfl

def gcF (g : List MV → List (Str × MV) → MH → Option (MV × MH)) (xs : List MV) (ks : List (Str × MV)) (H : MH) : Option (MV × MH) := (g xs ks H).map fun p => (p.1, gcH H.n p.2)
section
variable {G : Gl} {k : Nat} {A : Around} {ρ ρ' : Nat → Addr} {H H' : MH} {s s' : Shared}
theorem Rep.gc {P : Params} {h : Heap} (n : Nat) (R : Rep P ρ H h) : Rep P ρ (gcH n H) h := by
  have sub : ∀ l o, (gcH n H).get l = some o → H.get l = some o := fun l o e => gcH_sub e
  exact ⟨fun l o e => R.at_ l o (sub l o e), fun l l' o o' e e' q => R.inj l l' o o' (sub l o e) (sub l' o' e') q, fun l o e => R.lt l o (sub l o e)⟩
theorem Aft.gc {ex : Addr → Prop} (lt : ∀ l o, H.get l = some o → l < H.n) (a : Aft ρ ρ' H H' s s' ex) : Aft ρ ρ' H (gcH H.n H') s s' ex :=
  { a with
    own := fun b ⟨l, o, e, q⟩ => a.own b ⟨l, o, gcH_sub e, q⟩
    stay := fun l o e => by
      obtain ⟨o', e'⟩ := a.stay l o e
      exact ⟨o', gcH_low (lt l o e) e'⟩ }
theorem FnC.gc {f : Value} {g : List MV → List (Str × MV) → MH → Option (MV × MH)} (h : FnC G k f g) : FnC G k f (gcF g) := fun {A} {ρ} {H} {H'} {s} {xs} {vs} {ks} {kvs} {r} B b v kv e Q q => by
  obtain ⟨⟨u, H₁⟩, e1, e⟩ := Option.map_eq_some_iff.mp e
  cases e
  exact h B b v kv e1 Q fun a s' ρ' a' r' v' => q a s' ρ' (a'.gc b.rep.lt) (r'.gc _) v'
/-- forgetting in a frame -/
theorem InF.forget {env : Env} {sx : Sx} {vs vs' : List (Option MV)} (n : Nat) (hn : n ≤ H.n) (h0 : 0 < n) (hv : ∀ (i : Nat) v, vs'[i]? = some (some v) → vs[i]? = some (some v)) (I : InF G env sx ρ ⟨vs, H⟩ s) : InF G env sx ρ ⟨vs', gcH n H⟩ s := by
  have subO : ∀ b, Owned ρ (gcH n H) b → Owned ρ H b := fun b ⟨l, o, e, q⟩ => ⟨l, o, gcH_sub e, q⟩
  exact {
    bas := ⟨fun b o e => ⟨(I.bas.base b o e).1, fun q => (I.bas.base b o e).2 (subO b q)⟩, I.bas.rep.gc n, I.bas.tab⟩
    basem := I.basem
    off := fun b q => I.off b (subO b q)
    cells := fun x c hc => by
      obtain ⟨a, b, d⟩ := I.cells x c hc
      exact ⟨a, fun q => b (subO c q), d⟩
    ns := by
      obtain ⟨m, hm, h⟩ := I.ns
      refine ⟨m, hm, fun i x v h1 h2 h3 => ?_⟩
      obtain ⟨w, e, r⟩ := h i x v h1 h2 (hv i v h3)
      exact ⟨w, e, vra_mono (Nat.le_refl _) (fun _ _ => rfl) (fun b o e f => ⟨⟨fun q => f.1 (subO b q), f.2⟩, e⟩) r⟩
    cel := fun i x v h1 h2 h3 => I.cel i x v h1 h2 (hv i v h3) }
end
end Q
end Mini

open PySem PySem.W PySem.Calls PyProof.Rows
set_option maxRecDepth 100000
namespace Mini
noncomputable section Q
section
variable {G : Gl} {k : Nat} {sx : Sx}
theorem den_strW {i : Str} (i' : Str) (h : i = i') {j : Nat} {pos : Pos} : DenE G k sx (.Constant (.str i) j pos) (fun st => some (.str i', st.H)) := h ▸ den_str
theorem den_attrW {value : Expr} {attr : Str} (attr' : Str) (h : attr = attr') {pos : Pos} {C : Addr} {d : St → Option (MV × MH)} {a : Option Value} (hv : DenE G k sx value d) (hb : ∀ env, attributeBase value attr env (eval value env) = eval value env) (hl : ∀ o r, letTemporaryGo value o r = pure ())
    (hg : plainGet G.K C attr = true) (hh : hasDictIn G.K C = true) (ha : findIn G.K (.ref C) attr = some a) (hn : noGet G.K a = true) :
    DenE G k sx (.Attribute value attr pos) (fun st => (d st).bind fun p => attrOf C attr' p.1 p.2) := h ▸ den_attr hv hb hl hg hh ha hn
theorem asg_attrW {o : Expr} {attr : Str} (attr' : Str) (e : attr = attr') {pos : Pos} {C : Addr} {d : St → Option (MV × MH)} (Y : SetsIn G.K C attr) (h : DenE G k sx o d) :
    AsgT G k sx (.Attribute o attr pos) (fun v st => (d st).bind fun p => (attrSet C attr' p.1 v p.2).map fun H => ⟨st.vs, H⟩) := e ▸ asg_attr Y h
theorem dks_consW {x : Str} (x' : Str) (e' : x = x') {e : Expr} {p : Pos} {kws : List Keyword} {d : St → Option (MV × MH)} {ds : St → Option (List (Str × MV) × MH)} (h : DenE G k sx e d) (hs : DenKs G k sx kws ds) :
    DenKs G k sx (⟨some x, e, p⟩ :: kws) (fun st => (d st).bind fun p => (ds ⟨st.vs, p.2⟩).bind fun q => some ((x', p.1) :: q.1, q.2)) := e' ▸ dks_cons h hs
end
def params0 : Params := { strHash := fun _ => 0, shareClass := fun _ => 0, mergeTok := id, idOf := fun _ => 0, idOfShared := fun _ _ => 0, followText := fun _ => true, idOfImm := fun _ => 0 }
def lookO : Frag → Nat → Option Obj
  | [], _ => none
  | p :: r, a => if p.1 = a then some p.2 else lookO r a
def fdOf (o : Obj) : FuncData := match o.data with
  | .func f => f
  | _ => default
def bodyOf (fd : FuncData) : List Stmt := match fd.body with
  | .stmts b => b
  | _ => []
end Q
end Mini

open PySem PySem.W PySem.Calls PyProof.Rows
set_option maxRecDepth 100000
namespace Mini
noncomputable section Q
/-! narrower functions that the kernel runs fast -/
theorem ofString_two : ∀ n, n < 100 → Str.ofString (toString (Int.ofNat n)) = if n < 10 then ⟨#[48 + n]⟩ else ⟨#[48 + n / 10, 48 + n % 10]⟩ := by decide +kernel
def safe2 (c : Nat) : Bool := (Nat.ble 48 c && Nat.ble c 57) || (Nat.ble 65 c && Nat.ble c 90) || (Nat.ble 97 c && Nat.ble c 122)
theorem safe2_lt : ∀ c, c < 128 → safe2 c = true → Builtin.Str.reprChar 39 c = [c] ∧ c ≠ 39 := by decide +kernel
theorem safe2_ok {c : Nat} (h : safe2 c = true) : Builtin.Str.reprChar 39 c = [c] ∧ c ≠ 39 := safe2_lt c (by
  unfold safe2 at h
  simp only [Bool.or_eq_true, Bool.and_eq_true, Nat.ble_eq] at h
  omega) h
theorem repr_safe {x : Str} (h : allB safe2 x.cps.toList = true) : (reprText x).cps.toList = 39 :: (x.cps.toList ++ [39]) := by
  have h := allB_iff _ _ h
  have hq : reprQuote x = 39 := by
    unfold reprQuote
    have : x.cps.contains 39 = false := by
      rw [Bool.eq_false_iff]
      intro z
      rw [Array.contains_iff_mem] at z
      exact (safe2_ok (h 39 (by simpa using z))).2 rfl
    rw [this]; rfl
  unfold reprText
  rw [hq]
  simp only [Array.toList_push, ← Array.foldl_toList]
  have key : ∀ (l : List Nat) (acc : Array Nat), (∀ c ∈ l, safe2 c = true) → (l.foldl (fun out c => out ++ (Builtin.Str.reprChar 39 c).toArray) acc).toList = acc.toList ++ l := by
    intro l
    induction l with
    | nil => intro acc _; simp
    | cons c r ih =>
      intro acc hc
      rw [List.foldl_cons, ih _ fun c' h' => hc c' (List.mem_cons_of_mem _ h'), (safe2_ok (hc c (List.mem_cons_self ..))).1]
      simp
  rw [key _ _ h]
  simp
def joinL (sep : List Nat) : List (List Nat) → List Nat
  | [] => []
  | [x] => x
  | x :: y :: r => x ++ (sep ++ joinL sep (y :: r))
theorem joinL_eq (sep : Str) : ∀ ls : List Str, (Str.join sep ls).cps.toList = joinL sep.cps.toList (ls.map (·.cps.toList))
  | [] => rfl
  | [x] => rfl
  | x :: y :: r => by
    show ((x ++ sep ++ Str.join sep (y :: r)).cps).toList = _
    rw [Str.cps_append, Str.cps_append, Array.toList_append, Array.toList_append, joinL_eq sep (y :: r), List.append_assoc]; rfl
def pairT (a b : List Nat) : List Nat := 40 :: 39 :: (a ++ (39 :: 44 :: 32 :: 39 :: (b ++ [39, 41])))
def pairsT : List (List Nat × List Nat) → List Nat
  | [] => [93]
  | [p] => pairT p.1 p.2 ++ [93]
  | p :: q :: r => pairT p.1 p.2 ++ (44 :: 32 :: pairsT (q :: r))
def pairsOf (H : MH) : List MV → Option (List (List Nat × List Nat))
  | [] => some []
  | .ref t :: r => match H.get t with
    | some (.tup [.str a, .str b]) => if allB safe2 a.cps.toList = true ∧ allB safe2 b.cps.toList = true then (pairsOf H r).map ((a.cps.toList, b.cps.toList) :: ·) else none
    | _ => none
  | _ => none
theorem toStr (s : Str) (l : List Nat) (h : s.cps.toList = l) : s = ⟨l.toArray⟩ := by
  obtain ⟨⟨x⟩⟩ := s; cases h; rfl
theorem shown_pair (a b : Str) (ha : allB safe2 a.cps.toList = true) (hb : allB safe2 b.cps.toList = true) : (PyData.tuple [.str a, .str b]).shown.cps.toList = pairT a.cps.toList b.cps.toList := by
  rw [PyData.shown_tuple]
  simp only [PyData.shownAll_cons, PyData.shownAll_nil, PyData.shown_str]
  have e1 : ((if [PyData.str a, PyData.str b].length == 1 then ",)" else ")" : String)) = ")" := rfl
  rw [e1, Str.cps_append, Str.cps_append, Array.toList_append, Array.toList_append, joinL_eq]
  have e2 : (Str.ofString "(").cps.toList = [40] := by kernel_rfl
  have e3 : (Str.ofString ")").cps.toList = [41] := by kernel_rfl
  have e4 : (Str.ofString ", ").cps.toList = [44, 32] := by kernel_rfl
  rw [e2, e3, e4]
  simp only [List.map_cons, List.map_nil, joinL, repr_safe ha, repr_safe hb, pairT]
  simp
theorem pyOf_pairs {H : MH} : ∀ {xs : List MV} {ps : List (List Nat × List Nat)}, pairsOf H xs = some ps →
    ∃ ds, ds.length = ps.length ∧ allOf (pyOf 2 H) xs = some ds ∧ PyData.showableAll ds = true ∧ PyData.hasDictAll ds = false ∧ PyData.depthAll ds ≤ 3 ∧ joinL [44, 32] ((PyData.shownAll ds).map (·.cps.toList)) ++ [93] = pairsT ps
  | [], _, e => by cases e; exact ⟨[], rfl, rfl, rfl, rfl, Nat.zero_le _, rfl⟩
  | .ref t :: r, ps, e => by
    unfold pairsOf at e
    split at e
    · rename_i a b ht
      split at e
      · rename_i hs
        obtain ⟨qs, e1, e⟩ := Option.map_eq_some_iff.mp e
        cases e
        obtain ⟨ds, d0, d1, d2, d3, d4, d5⟩ := pyOf_pairs e1
        refine ⟨.tuple [.str a, .str b] :: ds, by simp [d0], ?_, ?_, ?_, ?_, ?_⟩
        · have : pyOf 2 H (.ref t) = some (.tuple [.str a, .str b]) := by
            unfold pyOf; rw [ht]; rfl
          unfold allOf; rw [this, d1]; rfl
        · show (PyData.showable _ && _) = true
          rw [d2]; rfl
        · show (PyData.hasDict _ || _) = false
          rw [d3]; rfl
        · show max (PyData.depth _) _ ≤ 3
          refine Nat.max_le.mpr ⟨?_, d4⟩
          show max 0 (max 0 0) + 1 ≤ 3
          decide
        · rw [PyData.shownAll_cons, List.map_cons, shown_pair a b hs.1 hs.2]
          cases ds with
          | nil =>
            cases qs with
            | nil => rfl
            | cons q qs => cases d0
          | cons d ds =>
            cases qs with
            | nil => cases d0
            | cons q qs =>
              rw [PyData.shownAll_cons] at d5 ⊢
              simp only [List.map_cons] at d5 ⊢
              show (_ ++ (_ ++ joinL _ (_ :: _))) ++ _ = pairT _ _ ++ (44 :: 32 :: pairsT (q :: qs))
              rw [← d5]
              simp
      · cases e
    · cases e
def strW : List MV → List (Str × MV) → MH → Option (MV × MH)
  | [.int (.ofNat n)], [], H => if n < 100 then some (.str (if n < 10 then ⟨#[48 + n]⟩ else ⟨#[48 + n / 10, 48 + n % 10]⟩), H) else strAnyF [.int (.ofNat n)] [] H
  | [.ref l], [], H => match H.get l with
    | some (.list xs) => (pairsOf H xs).bind fun ps => if (pairsT ps).length ≤ 99999 then some (.str ⟨(91 :: pairsT ps).toArray⟩, H) else none
    | _ => none
  | _, _, _ => none
theorem strW_sub (xs : List MV) (ks : List (Str × MV)) (H : MH) (r : MV × MH) (e : strW xs ks H = some r) : strAnyF xs ks H = some r := by
  unfold strW at e
  split at e
  · split at e
    · rename_i n h
      cases e
      have : small (Int.ofNat n) = true := by
        unfold small
        have e : Int.ofNat n = (n : Int) := rfl
        rw [e]
        simp only [Bool.and_eq_true, decide_eq_true_eq]
        omega
      have e0 : strIF [.int (.ofNat n)] [] H = some (.str (Str.ofString (toString (Int.ofNat n))), H) := by
        unfold strIF; dsimp only; rw [if_pos this]
      have e1 : strAnyF [.int (.ofNat n)] [] H = strIF [.int (.ofNat n)] [] H := by unfold strAnyF; rfl
      rw [e1, e0, ofString_two n h]
    · exact e
  · rename_i l
    split at e
    · rename_i xs hl
      obtain ⟨ps, e1, e⟩ := Option.bind_eq_some_iff.mp e
      split at e
      case isFalse => cases e
      rename_i hz
      cases e
      obtain ⟨ds, d0, d1, d2, d3, d4, d5⟩ := pyOf_pairs e1
      have hd : pyOf 3 H (.ref l) = some (.list ds) := by
        unfold pyOf; rw [hl]; show (allOf (pyOf 2 H) xs).map _ = _; rw [d1]; rfl
      have hs : (PyData.list ds).shown = ⟨(91 :: pairsT ps).toArray⟩ := by
        apply toStr
        rw [PyData.shown_list, Str.cps_append, Str.cps_append, Array.toList_append, Array.toList_append, joinL_eq]
        have e2 : (Str.ofString "[").cps.toList = [91] := by kernel_rfl
        have e3 : (Str.ofString "]").cps.toList = [93] := by kernel_rfl
        have e4 : (Str.ofString ", ").cps.toList = [44, 32] := by kernel_rfl
        rw [e2, e3, e4, List.append_assoc, d5]; rfl
      show (pyOf 3 H (.ref l)).bind _ = _
      rw [hd]
      show (if _ then _ else _) = _
      rw [if_pos]
      · rw [hs]
      · refine ⟨d2, d3, ?_, ?_⟩
        · show PyData.depthAll ds + 1 ≤ 20
          omega
        · rw [hs]; show (91 :: pairsT ps).toArray.size ≤ 100000
          rw [List.size_toArray, List.length_cons]; omega
    · cases e
  · cases e
theorem den_strW2 {G : Gl} {k : Nat} (hk : 3 ≤ k) : FnDen G k (.type "str") strW := FnDen.sub (den_strAny hk) strW_sub
theorem int_two : ∀ a, a < 10 → ∀ b, b < 10 → PySem.intText? ⟨#[48 + a, 48 + b]⟩ = some (Int.ofNat (10 * a + b)) := by decide +kernel
theorem int_one : ∀ a, a < 10 → PySem.intText? ⟨#[48 + a]⟩ = some (Int.ofNat a) := by decide +kernel
def intW : List MV → List (Str × MV) → MH → Option (MV × MH)
  | [.str x], [], H => match x.cps.toList with
    | [a] => if Nat.ble 48 a = true ∧ Nat.ble a 57 = true then some (.int (.ofNat (a - 48)), H) else none
    | [a, b] => if Nat.ble 48 a = true ∧ Nat.ble a 57 = true ∧ Nat.ble 48 b = true ∧ Nat.ble b 57 = true then some (.int (.ofNat (10 * (a - 48) + (b - 48))), H) else none
    | _ => none
  | _, _, _ => none
theorem intW_sub (xs : List MV) (ks : List (Str × MV)) (H : MH) (r : MV × MH) (e : intW xs ks H = some r) : intSF xs ks H = some r := by
  unfold intW at e
  split at e
  · rename_i x
    split at e
    · rename_i a ha
      split at e
      case isFalse => cases e
      rename_i h
      cases e
      simp only [Nat.ble_eq] at h
      obtain ⟨d, rfl⟩ : ∃ d, a = 48 + d := ⟨a - 48, by omega⟩
      have hx : x = (⟨#[48 + d]⟩ : Str) := toStr _ _ ha
      subst hx
      unfold intSF
      dsimp only
      rw [if_pos (by show 1 ≤ 640; decide), int_one d (by omega), Nat.add_sub_cancel_left]; rfl
    · rename_i a b ha
      split at e
      case isFalse => cases e
      rename_i h
      cases e
      simp only [Nat.ble_eq] at h
      obtain ⟨d, rfl⟩ : ∃ d, a = 48 + d := ⟨a - 48, by omega⟩
      obtain ⟨c, rfl⟩ : ∃ c, b = 48 + c := ⟨b - 48, by omega⟩
      have hx : x = (⟨#[48 + d, 48 + c]⟩ : Str) := toStr _ _ ha
      subst hx
      unfold intSF
      dsimp only
      rw [if_pos (by show 2 ≤ 640; decide), int_two d (by omega) c (by omega), Nat.add_sub_cancel_left, Nat.add_sub_cancel_left]; rfl
    · cases e
  · cases e
theorem den_intW {G : Gl} {k : Nat} : FnDen G k (.type "int") intW := FnDen.sub den_intS intW_sub
def joinW : List MV → List (Str × MV) → MH → Option (MV × MH)
  | [.str sep, .ref l], [], H => match H.get l with
    | some (.list xs) => (strsOf xs).bind fun ls => (fun t => if t.length ≤ 100000 ∧ (ls.toArray.foldl (· + ·.length + sep.length) 0) ≤ 100000 then some (.str ⟨t.toArray⟩, H) else none) (joinL sep.cps.toList (ls.map (·.cps.toList)))
    | _ => none
  | _, _, _ => none
theorem joinW_sub (xs : List MV) (ks : List (Str × MV)) (H : MH) (r : MV × MH) (e : joinW xs ks H = some r) : joinF xs ks H = some r := by
  unfold joinW at e
  split at e
  · rename_i sep l
    split at e
    · rename_i xs hl
      obtain ⟨ls, e1, e⟩ := Option.bind_eq_some_iff.mp e
      dsimp only at e
      split at e
      case isFalse => cases e
      rename_i hz
      cases e
      have ht : Txt.join sep ls = (⟨(joinL sep.cps.toList (ls.map (·.cps.toList))).toArray⟩ : Str) := by
        rw [beq_iff_eq.mp (join_plain_closes sep ls)]
        exact toStr _ _ (joinL_eq sep ls)
      unfold joinF
      dsimp only
      rw [hl]
      dsimp only
      rw [e1]
      show (if _ then _ else _) = _
      rw [if_pos]
      · rw [ht]
      · refine ⟨?_, ?_⟩
        · have := hz.2
          unfold Builtin.Str.tooLong
          rw [decide_eq_false_iff_not, sizeLine_eq]
          omega
        · rw [ht]; show (List.toArray _).size ≤ _; rw [List.size_toArray]; exact hz.1
    · cases e
  · cases e
theorem den_joinW {G : Gl} {k : Nat} : FnDen G k (.builtin "str.join") joinW := FnDen.sub den_join joinW_sub
end Q
end Mini

open PySem PySem.W PySem.Calls PyProof.Rows
set_option maxRecDepth 100000
namespace Mini
noncomputable section Q
/-! forgetting between two statements -/
def keepP (f : Nat → Bool) (os : List (Nat × MO)) : List (Nat × MO) := @List.rec (Nat × MO) (fun _ => List (Nat × MO)) [] (fun p _ ih => @Bool.rec (fun _ => List (Nat × MO)) ih (p :: ih) (f p.1)) os
theorem keepP_get (f : Nat → Bool) (os : List (Nat × MO)) (l : Nat) : getL (keepP f os) l = if f l = true then getL os l else none := by
  induction os with
  | nil => show none = _; simp [getL]
  | cons p r ih =>
    obtain ⟨k, o⟩ := p
    show getL (@Bool.rec (fun _ => List (Nat × MO)) (keepP f r) ((k, o) :: keepP f r) (f k)) l = _
    rw [getL_cons]
    cases hk : f k with
    | true =>
      show getL ((k, o) :: keepP f r) l = _
      rw [getL_cons, ih]
      by_cases hl : l = k
      · subst hl; simp [hk]
      · simp [hl]
    | false =>
      show getL (keepP f r) l = _
      rw [ih]
      by_cases hl : l = k
      · subst hl; simp [hk]
      · simp [hl]
def allK (f : Nat → Bool) (os : List (Nat × MO)) : Bool := @List.rec (Nat × MO) (fun _ => Bool) true (fun p _ ih => @Bool.rec (fun _ => Bool) false ih (f p.1)) os
theorem allK_get (f : Nat → Bool) : ∀ (os : List (Nat × MO)), allK f os = true → ∀ l o, getL os l = some o → f l = true
  | [], _, l, o, e => by cases e
  | (k, o') :: r, h, l, o, e => by
    have h : @Bool.rec (fun _ => Bool) false (allK f r) (f k) = true := h
    cases hk : f k with
    | false => rw [hk] at h; cases h
    | true =>
      rw [hk] at h
      rw [getL_cons] at e
      split at e
      · rename_i hl; rw [hl]; exact hk
      · exact allK_get f r h l o e
def onlyV : Nat → List (Option MV) → List (Option MV)
  | _, [] => []
  | 0, a :: r => a :: r.map (fun _ => none)
  | i + 1, _ :: r => none :: onlyV i r
theorem onlyV_get : ∀ (i : Nat) (vs : List (Option MV)) (j : Nat) (v : MV), (onlyV i vs)[j]? = some (some v) → vs[j]? = some (some v)
  | i, [], j, v, h => by cases i <;> simp [onlyV] at h
  | 0, a :: r, 0, v, h => by simpa [onlyV] using h
  | 0, a :: r, j + 1, v, h => by simp [onlyV] at h
  | i + 1, a :: r, 0, v, h => by simp [onlyV] at h
  | i + 1, a :: r, j + 1, v, h => by
    rw [List.getElem?_cons_succ]
    exact onlyV_get i r j v (by simpa [onlyV] using h)
def kfun (l k : Nat) : Bool := Nat.beq k 0 || Nat.beq k l
def forgS (i l : Nat) (st : St) : St := ⟨onlyV i st.vs, ⟨st.H.n, keepP (kfun l) st.H.os⟩⟩
def seqF (i l : Nat) (d ds : St → Option (Fl × St)) (st : St) : Option (Fl × St) := if allK (kfun l) st.H.os = true then (d st).bind fun p => match p.1 with
  | .next => ds (forgS i l p.2)
  | _ => some p
 else none
section
variable {G : Gl} {k : Nat} {sx : Sx} {env : Env} {A : Around} {ρ ρ' : Nat → Addr} {H H' : MH} {s s' : Shared}
theorem Rep.sub {P : Params} {h : Heap} (hn : H'.n = H.n) (sub : ∀ l o, H'.get l = some o → H.get l = some o) (R : Rep P ρ H h) : Rep P ρ H' h :=
  ⟨fun l o e => by rw [hn]; exact R.at_ l o (sub l o e), fun l l' o o' e e' q => R.inj l l' o o' (sub l o e) (sub l' o' e') q, fun l o e => by rw [hn]; exact R.lt l o (sub l o e)⟩
theorem InF.sub {vs vs' : List (Option MV)} (hn : H'.n = H.n) (sub : ∀ l o, H'.get l = some o → H.get l = some o) (hv : ∀ (i : Nat) v, vs'[i]? = some (some v) → vs[i]? = some (some v)) (I : InF G env sx ρ ⟨vs, H⟩ s) : InF G env sx ρ ⟨vs', H'⟩ s := by
  have subO : ∀ b, Owned ρ H' b → Owned ρ H b := fun b ⟨l, o, e, q⟩ => ⟨l, o, sub l o e, q⟩
  exact {
    bas := ⟨fun b o e => ⟨(I.bas.base b o e).1, fun q => (I.bas.base b o e).2 (subO b q)⟩, I.bas.rep.sub hn sub, fun P e => ⟨(I.bas.tab P e).1, by show 0 < H'.n; rw [hn]; exact (I.bas.tab P e).2⟩⟩
    basem := I.basem
    off := fun b q => I.off b (subO b q)
    cells := fun x c hc => by
      obtain ⟨a, b, d⟩ := I.cells x c hc
      exact ⟨a, fun q => b (subO c q), d⟩
    ns := by
      obtain ⟨m, hm, h⟩ := I.ns
      refine ⟨m, hm, fun i x v h1 h2 h3 => ?_⟩
      obtain ⟨w, e, r⟩ := h i x v h1 h2 (hv i v h3)
      exact ⟨w, e, vra_mono (Nat.le_of_eq hn.symm) (fun _ _ => rfl) (fun b o e f => ⟨⟨fun q => f.1 (subO b q), f.2⟩, e⟩) r⟩
    cel := fun i x v h1 h2 h3 => by
      obtain ⟨c, w, a, b, d⟩ := I.cel i x v h1 h2 (hv i v h3)
      exact ⟨c, w, a, b, by show vr ρ H'.n v w; rw [hn]; exact d⟩ }
theorem dss_forget {t : Stmt} {ts : List Stmt} {d ds : St → Option (Fl × St)} (i l : Nat) (h : DenS G k sx t d) (hs : DenSs G k sx ts ds) : DenSs G k sx (t :: ts) (seqF i l d ds) := fun {_} {_} {_} {st} {_} {_} {_} F B I e => by
  unfold seqF at e
  split at e
  case isFalse => cases e
  rename_i hall
  obtain ⟨⟨f, st₁⟩, e1, e⟩ := Option.bind_eq_some_iff.mp e
  refine fun Q q => wpAny_execs_cons (h F B I e1 _ fun a s₁ ρ₁ a₁ i₁ v₁ => ?_)
  cases f with
  | next =>
    cases v₁
    have sub : ∀ l' o, (forgS i l st₁).H.get l' = some o → st₁.H.get l' = some o := fun l' o e => by
      have e : getL (keepP (kfun l) st₁.H.os) l' = some o := e
      rw [keepP_get] at e
      split at e
      · exact e
      · cases e
    have i₂ : InF G _ sx ρ₁ (forgS i l st₁) s₁ := InF.sub (H := st₁.H) (vs := st₁.vs) rfl sub (fun j v => onlyV_get i _ j v) i₁
    have a₂ : Aft _ ρ₁ st.H (forgS i l st₁).H _ s₁ (Mine _ sx) := { a₁ with
      own := fun b ⟨l', o, e, q⟩ => a₁.own b ⟨l', o, sub l' o e, q⟩
      stay := fun l' o e => by
        obtain ⟨o', e'⟩ := a₁.stay l' o e
        refine ⟨o', ?_⟩
        show getL (keepP (kfun l) st₁.H.os) l' = _
        rw [keepP_get, if_pos (allK_get _ _ hall l' o e)]
        exact e' }
    exact (hs F B i₂ e).from a₂ q
  | brk => cases v₁; cases e; exact q _ _ _ a₁ i₁ rfl
  | cont => cases v₁; cases e; exact q _ _ _ a₁ i₁ rfl
  | ret v => obtain ⟨w, rfl, hw⟩ := v₁; cases e; exact q _ _ _ a₁ i₁ ⟨w, rfl, hw⟩
end
end Q
end Mini

open PySem PySem.W PySem.Calls PyProof.Rows
set_option maxRecDepth 100000
namespace Mini
noncomputable section Q
section
variable {G : Gl} {env : Env} {sx : Sx} {s : Shared} {L P : Addr} {m : Str → Option Value}
abbrev H00 : MH := ⟨1, [(0, .tab none)]⟩
theorem get00 {l : Nat} {o : MO} (e : H00.get l = some o) : l = 0 ∧ o = .tab none := by
  have e : getL [(0, .tab none)] l = some o := e
  rw [getL_cons] at e
  split at e
  · rename_i h; cases e; exact ⟨h, rfl⟩
  · cases e
/-- at the head of a function of the table's program -/
theorem start_InF {news : List (Addr × Obj)} (F : Fr G.h₀ L s.heap m) (N : News G.h₀ L s.heap news) (hP : (P, tabObj #[]) ∈ news) (hl : env.locals = L) (htab : G.tab = some P)
    (hcell : ∀ x c, env.cells.lookup x = some c → x ∈ sx.own ∧ ∃ ob v, (c, ob) ∈ news ∧ ob.data = .cell v)
    {vs : List (Option MV)} (hv : ∀ (i : Nat) (x : Str) (v : MV), sx.slots[i]? = some x → vs[i]? = some (some v) → sx.kindOf x = some .local ∧ ∃ w, m x = some w ∧ vr (fun _ => P) 1 v w) :
    InF G env sx (fun _ => P) ⟨vs, H00⟩ s := by
  have gP := (N _ hP).1
  have cP : ∀ x c, env.cells.lookup x = some c → c ≠ P := fun x c e q => by
    obtain ⟨_, ob, v, hm, hd⟩ := hcell x c e
    have := (N _ hm).1
    subst q
    rw [gP] at this
    cases this
    cases hd
  have own : ∀ b, Owned (fun _ => P) H00 b → b = P := fun b ⟨l, o, e, q⟩ => q.symm
  have hlt : ∀ b o, G.h₀.get? b = some o → b < L := fun b o e => Nat.lt_of_lt_of_le (Heap.lt_size e) F.above
  have mine : ∀ b, Mine env sx b → b = L ∨ ∃ ob v, (b, ob) ∈ news ∧ ob.data = .cell v := fun b h => by
    rcases h with h | ⟨x, _, h⟩
    · exact .inl (h.trans hl)
    · exact .inr (hcell x b h).2
  exact {
    bas := ⟨fun b o e => ⟨F.keep b o e, fun q => by
        have := own b q
        subst this
        rw [(N _ hP).2.2] at e; cases e⟩,
      ⟨fun l o e => by
          obtain ⟨_, rfl⟩ := get00 e
          exact ⟨_, gP, rfl⟩,
        fun l l' o o' e e' _ => by rw [(get00 e).1, (get00 e').1],
        fun l o e => by rw [(get00 e).1]; exact Nat.zero_lt_one⟩,
      fun p e => by
        rw [htab] at e; cases e
        exact ⟨rfl, Nat.zero_lt_one⟩⟩
    basem := fun b o e h => by
      rcases mine b h with rfl | ⟨ob, v, hm, _⟩
      · exact Nat.lt_irrefl _ (hlt _ _ e)
      · rw [(N _ hm).2.2] at e; cases e
    off := fun b q h => by
      have := own b q
      subst this
      rcases mine _ h with h | ⟨ob, v, hm, hd⟩
      · exact (N _ hP).2.1 h
      · have := (N _ hm).1
        rw [gP] at this; cases this; cases hd
    cells := fun x c e => by
      obtain ⟨ho, ob, v, hm, hd⟩ := hcell x c e
      exact ⟨⟨v, ob, (N _ hm).1, hd⟩, fun q => cP x c e (own c q), fun q => (N _ hm).2.1 (q.trans hl), fun n => absurd ho n⟩
    ns := ⟨m, hl ▸ F.ns, fun i x v h1 _ h3 => by
      obtain ⟨_, w, e, r⟩ := hv i x v h1 h3
      exact ⟨w, e, vra_of_vr r⟩⟩
    cel := fun i x v h1 h2 h3 => by
      obtain ⟨k, _⟩ := hv i x v h1 h3
      rw [k] at h2
      rcases h2 with h2 | h2 <;> cases h2 }
/-- from the head to the end -/
theorem run_fin {k : Nat} {news : List (Addr × Obj)} {body : List Stmt} {A : Around} {d : St → Option (Fl × St)} {st' : St} {t : Option (Nat × Nat × Nat)} {v : MV} {w : Value} {Q : Flow → Shared → Prop} {E : Value → Shared → Prop}
    (D : DenSs G k sx body d) (S : Fst G env sx) (B : Bud A k) (F : Fr G.h₀ L s.heap m) (N : News G.h₀ L s.heap news) (hP : (P, tabObj #[]) ∈ news) (hl : env.locals = L) (htab : G.tab = some P)
    (hcell : ∀ x c, env.cells.lookup x = some c → x ∈ sx.own ∧ ∃ ob v, (c, ob) ∈ news ∧ ob.data = .cell v)
    {vs : List (Option MV)} (hv : ∀ (i : Nat) (x : Str) (v : MV), sx.slots[i]? = some x → vs[i]? = some (some v) → sx.kindOf x = some .local ∧ ∃ w, m x = some w ∧ vr (fun _ => P) 1 v w)
    (e : d ⟨vs, H00⟩ = some (.ret v, st')) (ht : st'.H.get 0 = some (.tab t)) (hw : ∀ ρ n w', vr ρ n v w' → w' = w)
    (q : ∀ h' tk' m', Fr G.h₀ L h' m' → GrownAt P h' → Q (.ret w) { s with heap := h', toks := tk' }) : wpAny G.M A (execs body env) Q E s := by
  have I := start_InF F N hP hl htab hcell hv
  refine wpAny_mono (D S B I e _ fun f s' ρ' a i r => ?_) (fun _ _ h => h) fun _ _ h => h.elim
  obtain ⟨w', rfl, hr⟩ := r
  have hw' := hw _ _ _ hr
  subst hw'
  have es := a.rest
  obtain ⟨m', hm', _⟩ := i.ns
  have hF : Fr G.h₀ L s'.heap m' := ⟨hl ▸ hm', fun b o e => (i.bas.base b o e).1, F.above⟩
  have hG : GrownAt P s'.heap := by
    obtain ⟨o, g, r⟩ := i.bas.rep.at_ 0 _ ht
    have r0 : ρ' 0 = P := (i.bas.tab P htab).1
    rw [r0] at g
    cases t with
    | none => exact ⟨_, g.trans (congrArg some r)⟩
    | some p => obtain ⟨a1, a2, a3⟩ := p; exact ⟨_, g.trans (congrArg some r.2)⟩
  have := q s'.heap s'.toks m' hF hG
  rw [← es] at this
  exact this
end
end Q
end Mini

open PySem PySem.W PyProof.Rows
set_option maxRecDepth 100000
set_option maxHeartbeats 8000000
namespace Mini
theorem holds_both {r : OpenRow} {q : Program} {loose : List Str} {Xt : Shared → Bool} {XP : (Str → Option Value) → Heap → Prop} {α : Type} {Yf : Shared → α} {Ya : World → α} {YP : World → Heap → Prop} {d : DefRec} {kwd : List (Str × Expr)} {N : Nat}
    (hY : ∀ w s, Yf s = Ya w → YP w s.heap) (hYk : ∀ w h h', YP w h → (∀ b o, h.get? b = some o → h'.get? b = some o) → YP w h')
    (hX : ∀ s, Xt s = true → XP (s.heap.nsMap mainGlobals) s.heap) (hXk : ∀ mg h h', XP mg h → (∀ b o, h.get? b = some o → h'.get? b = some o) → XP mg h')
    (hdef : defOf q r.name = some (d, kwd)) (hp : r.prog.theDef r.name = some (d.params, d.body, d.scope)) (hk : kwWritten? d.params.kwonlyargs d.params.kw_defaults = some kwd) (hRf : ∀ s, Xt s = true → RecFacts r.records s.heap) (hwr : (!r.writes || r.records.isEmpty) = true)
    (k1 : r.wellSaid = true) (ok : (chainsOk q && opensWell r.prog && (frees r.toRowW && r.within.isEmpty)) = true) (hb : r.prog.bare) (hw : r.toRowW.promised)
    (both : LeftO r.prog q loose Xt Yf Ya N ∧ WalkO q loose XP YP r.toRowW d kwd fun f vs => PySem.call f vs) : r.Holds := holds_open both.1 hY hYk hX hXk hdef hp hk hRf hwr k1 ok hb hw both.2
noncomputable def vwB : {l : List Stmt // (view PySem.Challenge.pw_pg0324_01 [0, 1, 3, 4, 5, 11, 13, 14]).main.body = l} := ⟨[_, _, _, _, _, _, _, _], by rfl⟩
noncomputable def vw : Program := { PySem.Challenge.pw_pg0324_01 with main := { PySem.Challenge.pw_pg0324_01.main with body := vwB.1 } }
abbrev lo : List Str := [Str.ofString "_name_disallowed_re", Str.ofString "_value_disallowed_re", Str.ofString "insort_right", Str.ofString "bisect_right", Str.ofString "bisect_left", Str.ofString "Whitespace"]
noncomputable abbrev xt : Shared → Bool := fun s => xlAt vw [] s && recOk (RowW.records PySem.Challenge.rw_pg0324_01.row.toRowW) s
local macro_rules
  | `(tactic| o_head $H) => do
    let (hw, hc) := (Lean.mkIdent `hw, Lean.mkIdent `hc)
    `(tactic| (refine holds_both (q := vw) (loose := lo) (Xt := xt) (XP := XL vw []) (Yf := Hook.obs $H) (Ya := Hook.val $H) (YP := Hook.says $H) (N := 3336) (Hook.of $H) (Hook.keeps $H) (fun s e => xl_of s (Bool.and_eq_true_iff.mp e).1) XL.keeps (by rfl) (by rfl) (by rfl) (fun s e => recFacts_of (Bool.and_eq_true_iff.mp e).2) (by rfl) (by first | assumption | decide +kernel) (by decide +kernel) ⟨rfl, rfl, rfl, rfl, rfl, by decide +kernel⟩ ?$hw ?$hc))
open_top hd1 for PySem.Challenge.rw_pg0324_01
end Mini

open PySem PySem.W PySem.Calls PyProof.Rows
set_option maxRecDepth 100000
set_option maxHeartbeats 8000000
namespace Mini
def asL : List Addr := [2, 3, 32, 34, 35, 37, 38, 42, 43, 47, 48, 56, 57, 59, 60, 62, 63, 64, 66, 67, 69, 70, 71, 73, 74, 76, 77, 78, 80, 81, 83, 84, 85, 88, 89, 90, 92, 93, 95, 96, 97, 99, 100, 102, 103, 104, 106, 107, 109, 110, 111, 112, 114, 115, 117, 118, 119, 122, 123, 124, 127, 128, 129, 131, 132, 134, 135, 136, 138, 139, 141, 142, 143, 146, 147, 148, 150, 151, 153, 154, 155, 157, 158, 160, 161, 162, 164, 165, 167, 168, 169, 170, 171, 172, 173, 176, 177, 178, 180, 181, 183, 184, 185, 186, 187, 189, 190, 192, 193, 194, 195, 196, 198, 199, 201, 202, 213, 215, 216, 218, 219, 220, 222, 223, 225, 226, 227, 229, 230, 232, 233, 234, 236, 237, 239, 240, 241, 243, 244, 246, 247, 248, 250, 251, 253, 254, 255, 257, 258, 260, 261, 262, 263, 264, 265, 266, 269, 272, 273, 274, 277, 278]
noncomputable abbrev HK : Hook := kmHook hd1.heap_39 asL (fun _ => by kernel_rfl) [270]
noncomputable def lhsF (w : World) := (openEnds treeTable PySem.Challenge.pw_pg0324_01 (w.withFollow "special-get-raises" false) 3336).map (fun s => (openSeen vw lo (importedModules PySem.Challenge.pw_pg0324_01.main.body) xt true s, (asL.map s.heap.get?, ([270] : List Addr).map s.heap.get?)))
noncomputable def rhsF (K : Params → Frag) (w : World) := some (openGood vw lo, ((K (w.withFollow "special-get-raises" false).params).map fun p => some p.2, ([270] : List Addr).map fun _ => some (tabObj #[])))
noncomputable def lhsT (w : World) := (openEnds treeTable PySem.Challenge.pw_pg0324_01 (w.withFollow "special-get-raises" true) 3336).map (fun s => (openSeen vw lo (importedModules PySem.Challenge.pw_pg0324_01.main.body) xt true s, (asL.map s.heap.get?, ([270] : List Addr).map s.heap.get?)))
noncomputable def rhsT (K : Params → Frag) (w : World) := some (openGood vw lo, ((K (w.withFollow "special-get-raises" true).params).map fun p => some p.2, ([270] : List Addr).map fun _ => some (tabObj #[])))
lay_quick Mini.lhsF Mini.rhsF Mini.lhsT Mini.rhsT
theorem left_F (w : World) : PySem.W.Fast.tw18437829042897267998 w = PySem.W.Fast.tw17469706765377438392 hd1.heap_39 w := by kernel_rfl
theorem left_F' (w : World) : lhsF w = rhsF hd1.heap_39 w := ((congrFun PySem.W.Fast.te18437829042897267998 w).trans (left_F w)).trans (congrFun (congrFun PySem.W.Fast.te17469706765377438392 hd1.heap_39) w).symm
theorem left_T (w : World) : PySem.W.Fast.tw626490619571583194 w = PySem.W.Fast.tw18054562887651407892 hd1.heap_39 w := by kernel_rfl
theorem left_T' (w : World) : lhsT w = rhsT hd1.heap_39 w := ((congrFun PySem.W.Fast.te626490619571583194 w).trans (left_T w)).trans (congrFun (congrFun PySem.W.Fast.te18054562887651407892 hd1.heap_39) w).symm
theorem hl : LeftO PySem.Challenge.rw_pg0324_01.row.prog vw lo xt HK.obs HK.val 3336 := fun w =>
  byRow2 "special-get-raises" (P := fun w => (openEnds treeTable PySem.Challenge.rw_pg0324_01.row.prog w 3336).map (fun s => (openSeen vw lo (importedModules PySem.Challenge.rw_pg0324_01.row.prog.main.body) xt true s, HK.obs s)) = some (openGood vw lo, HK.val w)) left_F' left_T' w
end Mini

open PySem PySem.W PySem.Calls PyProof.Rows
set_option maxRecDepth 100000
set_option maxHeartbeats 4000000
namespace Mini.L1
noncomputable abbrev K1 := hd1.heap_39
def c0 : Addr := 272
def t0 : Addr := 270
structure Cx where
  prog : Program
  w : World
  h₀ : Heap
  p : Program
  loose : List Str
  mean : ExcName → Option Value
  mg : Str → Option Value
  mb : Str → Option Value
  X : (K1 w.params).In h₀
  T : Top p loose mean mg mb h₀
  hd : CodeHd h₀ c0 t0
  lists : Addr → Option (List Int)
  listsOk : ∀ a ns, lists a = some ns → ∃ vs : List Value, h₀.IsList a vs.toArray ∧ IntsAre vs ns
noncomputable def lawworth_O : {o : Obj // lookO (Mini.hd1.heap_39 params0) 273 = some o} := ⟨_, rfl⟩
noncomputable def lawworth_o : Obj := lawworth_O.1
noncomputable def lawworth_fd : FuncData := fdOf lawworth_o
noncomputable def lawworth_body : List Stmt := bodyOf lawworth_fd
def lawworth_params : List Str := [Str.ofString "table", Str.ofString "row"]
noncomputable def lawworth_sx : Sx := ⟨lawworth_fd.scope, [Str.ofString "table", Str.ofString "row", Str.ofString "coin", Str.ofString "square", Str.ofString "led", Str.ofString "name", Str.ofString "worth", Str.ofString "place", Str.ofString "worths"], [Str.ofString "coin", Str.ofString "square", Str.ofString "worths"], lawworth_fd.code, lawworth_fd.qualname ++ Str.ofString ".<locals>."⟩
noncomputable def lawworth_CO : {o : Obj // lookO (Mini.hd1.heap_39 params0) 272 = some o} := ⟨_, rfl⟩
noncomputable def lawworth_co : Obj := lawworth_CO.1
def lawworth_ca : Nat := 272
def lawworth_m : Nat := 7
noncomputable def lam0_e : Expr := match lawworth_body with
  | [_, _, .Return (some (.Call _ _ [⟨_, l, _⟩] _)) _] => l
  | _ => default
noncomputable def lam0 : Lam := match lam0_e with
  | .Lambda ps b sc _ => ⟨Str.ofString "<lambda>", Str.ofString "_law_worth.<locals>.<lambda>", ps, b, sc, Str.ofString "worths"⟩
  | _ => ⟨Str.ofString "<lambda>", Str.ofString "_law_worth.<locals>.<lambda>", default, default, default, Str.ofString "worths"⟩
noncomputable abbrev Cx.G (c : Cx) : Gl := ⟨c.prog, c.w, K1 c.w.params, c.h₀, c.p, c.loose, c.mean, c.mg, c.mb, fun _ => lam0, c.X, c.T, some t0, c.lists, c.listsOk⟩
theorem gm_search (c : Cx) : GetM c.G "search" (.builtin "re.Pattern.search") (isPat 43 48) := getM_pat (c1 := nameCode) (c2 := valueCode) (by kernel_rfl) (by kernel_rfl)
theorem fd_search {k : Nat} (c : Cx) : FnDen c.G k (.builtin "re.Pattern.search") (searchF 43 48) := den_search (by kernel_rfl) (by kernel_rfl)

noncomputable def bisect_right_O : {o : Obj // lookO (Mini.hd1.heap_39 params0) 193 = some o} := ⟨_, rfl⟩
noncomputable def bisect_right_o : Obj := bisect_right_O.1
noncomputable def bisect_right_fd : FuncData := fdOf bisect_right_o
noncomputable def bisect_right_body : List Stmt := bodyOf bisect_right_fd
def bisect_right_params : List Str := [Str.ofString "a", Str.ofString "x", Str.ofString "lo", Str.ofString "hi", Str.ofString "key"]
noncomputable def bisect_right_sx : Sx := ⟨bisect_right_fd.scope, [Str.ofString "a", Str.ofString "x", Str.ofString "lo", Str.ofString "hi", Str.ofString "key", Str.ofString "mid"], [], bisect_right_fd.code, bisect_right_fd.qualname ++ Str.ofString ".<locals>."⟩
noncomputable def bisect_right_CO : {o : Obj // lookO (Mini.hd1.heap_39 params0) 192 = some o} := ⟨_, rfl⟩
noncomputable def bisect_right_co : Obj := bisect_right_CO.1
def bisect_right_ca : Nat := 192
def bisect_right_m : Nat := 1
theorem bisect_right_ok (c : Cx) : FnOk c.G 193 bisect_right_fd bisect_right_body bisect_right_sx bisect_right_params :=
  ⟨⟨bisect_right_o, by kernel_rfl, by kernel_rfl⟩, ⟨bisect_right_ca, bisect_right_co, _, _, by kernel_rfl, by kernel_rfl, rfl, rfl⟩, by kernel_rfl, by kernel_rfl, by kernel_rfl, by kernel_rfl, by kernel_rfl, by kernel_rfl, by kernel_rfl, by kernel_rfl,
    by decide +kernel, by decide +kernel, by decide +kernel, by decide +kernel, by kernel_rfl, by kernel_rfl, by kernel_rfl, by decide +kernel⟩
def bisect_right_bnd : List MV → List (Str × MV) → Option (List MV)
  | [a, x, lo, hi], [] => some [a, x, lo, hi, .val .none]
  | _, _ => none
theorem bisect_right_bind (c : Cx) : BindD c.G bisect_right_fd bisect_right_params (fun xs ks H => (bisect_right_bnd xs ks).map fun r => (r, H)) := bind_peek fun v kv e => by
  unfold bisect_right_bnd at e
  split at e
  · cases e; cases kv
    cases v with | cons h0 v => ?_
    cases v with | cons h1 v => ?_
    cases v with | cons h2 v => ?_
    cases v with | cons h3 v => ?_
    cases v
    refine ⟨[_, _, _, _, _], fun S => by rfl, rfl, (.cons h0 (.cons h1 (.cons h2 (.cons h3 (.cons ?_ .nil)))))⟩
    all_goals first | rfl | exact ⟨_, rfl⟩
  · cases e
noncomputable def bisect_right_D (c : Cx) : {d : St → Option (Fl × St) // DenSs c.G 20 bisect_right_sx bisect_right_body d} := ⟨_, by
  refine' dss_cons ?_ ?_
  refine' ds_if ?_ ?_ ?_
  refine' denB_cmp opB_lt ?_ ?_ (by decide) (by rfl)
  exact den_local 2 (by kernel_rfl) (by kernel_rfl) (by kernel_rfl)
  exact den_int
  refine' dss_cons ?_ ?_
  exact ds_never
  exact dss_nil
  exact dss_nil
  refine' dss_cons ?_ ?_
  refine' ds_if ?_ ?_ ?_
  refine' denB_isNone 3 (by kernel_rfl) (by kernel_rfl) (by kernel_rfl)
  refine' dss_cons ?_ ?_
  refine' ds_assign ?_ ?_ (fun _ _ => rfl) (fun _ => rfl) (fun _ => rfl)
  refine' den_call (fv := (PySem.Value.builtin "len")) ?_ ?_ ?_ ?_ (fun _ _ => rfl) (fun _ _ => rfl) ?_
  exact den_builtin (v := (PySem.Value.builtin "len")) (by kernel_rfl) (by kernel_rfl) (by kernel_rfl) (by decide +kernel) (by kernel_rfl)
  exact keeps_builtin
  refine' dens_cons ?_ ?_ (fun _ => rfl)
  exact den_local 0 (by kernel_rfl) (by kernel_rfl) (by kernel_rfl)
  exact dens_nil
  exact dks_nil
  exact den_lenS
  exact asg_local 3 (by kernel_rfl) (by kernel_rfl)
  exact dss_nil
  exact dss_nil
  refine' dss_cons ?_ ?_
  refine' ds_if ?_ ?_ ?_
  refine' denB_isNone 4 (by kernel_rfl) (by kernel_rfl) (by kernel_rfl)
  refine' dss_cons ?_ ?_
  refine' ds_while 64 ?_ ?_
  refine' denB_cmp opB_lt ?_ ?_ (by decide) (by rfl)
  exact den_local 2 (by kernel_rfl) (by kernel_rfl) (by kernel_rfl)
  exact den_local 3 (by kernel_rfl) (by kernel_rfl) (by kernel_rfl)
  refine' dss_cons ?_ ?_
  refine' ds_assign ?_ ?_ (fun _ _ => rfl) (fun _ => rfl) (fun _ => rfl)
  refine' den_bin fdivop_ok ?_ ?_
  refine' den_bin addop_ok ?_ ?_
  exact den_local 2 (by kernel_rfl) (by kernel_rfl) (by kernel_rfl)
  exact den_local 3 (by kernel_rfl) (by kernel_rfl) (by kernel_rfl)
  exact den_int
  exact asg_local 5 (by kernel_rfl) (by kernel_rfl)
  refine' dss_cons ?_ ?_
  refine' ds_if ?_ ?_ ?_
  refine' denB_cmp opB_lt ?_ ?_ (by decide) (by rfl)
  exact den_local 1 (by kernel_rfl) (by kernel_rfl) (by kernel_rfl)
  refine' den_index ?_ ?_ (fun _ _ => rfl)
  exact den_local 0 (by kernel_rfl) (by kernel_rfl) (by kernel_rfl)
  exact den_local 5 (by kernel_rfl) (by kernel_rfl) (by kernel_rfl)
  refine' dss_cons ?_ ?_
  refine' ds_assign ?_ ?_ (fun _ _ => rfl) (fun _ => rfl) (fun _ => rfl)
  exact den_local 5 (by kernel_rfl) (by kernel_rfl) (by kernel_rfl)
  exact asg_local 3 (by kernel_rfl) (by kernel_rfl)
  exact dss_nil
  refine' dss_cons ?_ ?_
  refine' ds_assign ?_ ?_ (fun _ _ => rfl) (fun _ => rfl) (fun _ => rfl)
  refine' den_bin addop_ok ?_ ?_
  exact den_local 5 (by kernel_rfl) (by kernel_rfl) (by kernel_rfl)
  exact den_int
  exact asg_local 2 (by kernel_rfl) (by kernel_rfl)
  exact dss_nil
  exact dss_nil
  exact dss_nil
  refine' dss_cons ?_ ?_
  refine' ds_while 64 ?_ ?_
  refine' denB_cmp opB_lt ?_ ?_ (by decide) (by rfl)
  exact den_local 2 (by kernel_rfl) (by kernel_rfl) (by kernel_rfl)
  exact den_local 3 (by kernel_rfl) (by kernel_rfl) (by kernel_rfl)
  refine' dss_cons ?_ ?_
  refine' ds_assign ?_ ?_ (fun _ _ => rfl) (fun _ => rfl) (fun _ => rfl)
  refine' den_bin fdivop_ok ?_ ?_
  refine' den_bin addop_ok ?_ ?_
  exact den_local 2 (by kernel_rfl) (by kernel_rfl) (by kernel_rfl)
  exact den_local 3 (by kernel_rfl) (by kernel_rfl) (by kernel_rfl)
  exact den_int
  exact asg_local 5 (by kernel_rfl) (by kernel_rfl)
  refine' dss_cons ?_ ?_
  refine' ds_if ?_ ?_ ?_
  refine' denB_cmp opB_lt ?_ ?_ (by decide) (by rfl)
  exact den_local 1 (by kernel_rfl) (by kernel_rfl) (by kernel_rfl)
  exact den_never
  refine' dss_cons ?_ ?_
  refine' ds_assign ?_ ?_ (fun _ _ => rfl) (fun _ => rfl) (fun _ => rfl)
  exact den_local 5 (by kernel_rfl) (by kernel_rfl) (by kernel_rfl)
  exact asg_local 3 (by kernel_rfl) (by kernel_rfl)
  exact dss_nil
  refine' dss_cons ?_ ?_
  refine' ds_assign ?_ ?_ (fun _ _ => rfl) (fun _ => rfl) (fun _ => rfl)
  refine' den_bin addop_ok ?_ ?_
  exact den_local 5 (by kernel_rfl) (by kernel_rfl) (by kernel_rfl)
  exact den_int
  exact asg_local 2 (by kernel_rfl) (by kernel_rfl)
  exact dss_nil
  exact dss_nil
  exact dss_nil
  refine' dss_cons ?_ ?_
  refine' ds_ret ?_
  exact den_local 2 (by kernel_rfl) (by kernel_rfl) (by kernel_rfl)
  exact dss_nil⟩
noncomputable def bisect_right_d (c : Cx) : St → Option (Fl × St) := (bisect_right_D c).1
theorem bisect_right_den (c : Cx) : DenSs c.G 20 bisect_right_sx bisect_right_body (bisect_right_d c) := (bisect_right_D c).2
noncomputable def bisect_right_f (c : Cx) : List MV → List (Str × MV) → MH → Option (MV × MH) := (fnD (fun xs ks H => (bisect_right_bnd xs ks).map fun r => (r, H)) bisect_right_m (bisect_right_d c))
theorem bisect_right_code (c : Cx) : FnC c.G 21 (.ref 193) (bisect_right_f c) := fn_code bisect_right_m (bisect_right_ok c) (bisect_right_bind c) (bisect_right_den c)
theorem fd_193 (c : Cx) : FnDen c.G 21 (.ref 193) (bisect_right_f c) := FnC.den (bisect_right_code c)
noncomputable def bisect_left_O : {o : Obj // lookO (Mini.hd1.heap_39 params0) 202 = some o} := ⟨_, rfl⟩
noncomputable def bisect_left_o : Obj := bisect_left_O.1
noncomputable def bisect_left_fd : FuncData := fdOf bisect_left_o
noncomputable def bisect_left_body : List Stmt := bodyOf bisect_left_fd
def bisect_left_params : List Str := [Str.ofString "a", Str.ofString "x", Str.ofString "lo", Str.ofString "hi", Str.ofString "key"]
noncomputable def bisect_left_sx : Sx := ⟨bisect_left_fd.scope, [Str.ofString "a", Str.ofString "x", Str.ofString "lo", Str.ofString "hi", Str.ofString "key", Str.ofString "mid"], [], bisect_left_fd.code, bisect_left_fd.qualname ++ Str.ofString ".<locals>."⟩
noncomputable def bisect_left_CO : {o : Obj // lookO (Mini.hd1.heap_39 params0) 201 = some o} := ⟨_, rfl⟩
noncomputable def bisect_left_co : Obj := bisect_left_CO.1
def bisect_left_ca : Nat := 201
def bisect_left_m : Nat := 1
theorem bisect_left_ok (c : Cx) : FnOk c.G 202 bisect_left_fd bisect_left_body bisect_left_sx bisect_left_params :=
  ⟨⟨bisect_left_o, by kernel_rfl, by kernel_rfl⟩, ⟨bisect_left_ca, bisect_left_co, _, _, by kernel_rfl, by kernel_rfl, rfl, rfl⟩, by kernel_rfl, by kernel_rfl, by kernel_rfl, by kernel_rfl, by kernel_rfl, by kernel_rfl, by kernel_rfl, by kernel_rfl,
    by decide +kernel, by decide +kernel, by decide +kernel, by decide +kernel, by kernel_rfl, by kernel_rfl, by kernel_rfl, by decide +kernel⟩
def bisect_left_bnd : List MV → List (Str × MV) → Option (List MV)
  | [a, x], [] => some [a, x, .int 0, .val .none, .val .none]
  | _, _ => none
theorem bisect_left_bind (c : Cx) : BindD c.G bisect_left_fd bisect_left_params (fun xs ks H => (bisect_left_bnd xs ks).map fun r => (r, H)) := bind_peek fun v kv e => by
  unfold bisect_left_bnd at e
  split at e
  · cases e; cases kv
    cases v with | cons h0 v => ?_
    cases v with | cons h1 v => ?_
    cases v
    refine ⟨[_, _, _, _, _], fun S => by rfl, rfl, (.cons h0 (.cons h1 (.cons ?_ (.cons ?_ (.cons ?_ .nil)))))⟩
    all_goals first | rfl | exact ⟨_, rfl⟩
  · cases e
noncomputable def bisect_left_D (c : Cx) : {d : St → Option (Fl × St) // DenSs c.G 20 bisect_left_sx bisect_left_body d} := ⟨_, by
  refine' dss_cons ?_ ?_
  refine' ds_if ?_ ?_ ?_
  refine' denB_cmp opB_lt ?_ ?_ (by decide) (by rfl)
  exact den_local 2 (by kernel_rfl) (by kernel_rfl) (by kernel_rfl)
  exact den_int
  refine' dss_cons ?_ ?_
  exact ds_never
  exact dss_nil
  exact dss_nil
  refine' dss_cons ?_ ?_
  refine' ds_if ?_ ?_ ?_
  refine' denB_isNone 3 (by kernel_rfl) (by kernel_rfl) (by kernel_rfl)
  refine' dss_cons ?_ ?_
  refine' ds_assign ?_ ?_ (fun _ _ => rfl) (fun _ => rfl) (fun _ => rfl)
  refine' den_call (fv := (PySem.Value.builtin "len")) ?_ ?_ ?_ ?_ (fun _ _ => rfl) (fun _ _ => rfl) ?_
  exact den_builtin (v := (PySem.Value.builtin "len")) (by kernel_rfl) (by kernel_rfl) (by kernel_rfl) (by decide +kernel) (by kernel_rfl)
  exact keeps_builtin
  refine' dens_cons ?_ ?_ (fun _ => rfl)
  exact den_local 0 (by kernel_rfl) (by kernel_rfl) (by kernel_rfl)
  exact dens_nil
  exact dks_nil
  exact den_lenS
  exact asg_local 3 (by kernel_rfl) (by kernel_rfl)
  exact dss_nil
  exact dss_nil
  refine' dss_cons ?_ ?_
  refine' ds_if ?_ ?_ ?_
  refine' denB_isNone 4 (by kernel_rfl) (by kernel_rfl) (by kernel_rfl)
  refine' dss_cons ?_ ?_
  refine' ds_while 64 ?_ ?_
  refine' denB_cmp opB_lt ?_ ?_ (by decide) (by rfl)
  exact den_local 2 (by kernel_rfl) (by kernel_rfl) (by kernel_rfl)
  exact den_local 3 (by kernel_rfl) (by kernel_rfl) (by kernel_rfl)
  refine' dss_cons ?_ ?_
  refine' ds_assign ?_ ?_ (fun _ _ => rfl) (fun _ => rfl) (fun _ => rfl)
  refine' den_bin fdivop_ok ?_ ?_
  refine' den_bin addop_ok ?_ ?_
  exact den_local 2 (by kernel_rfl) (by kernel_rfl) (by kernel_rfl)
  exact den_local 3 (by kernel_rfl) (by kernel_rfl) (by kernel_rfl)
  exact den_int
  exact asg_local 5 (by kernel_rfl) (by kernel_rfl)
  refine' dss_cons ?_ ?_
  refine' ds_if ?_ ?_ ?_
  refine' denB_cmp opB_lt ?_ ?_ (by decide) (by rfl)
  refine' den_index ?_ ?_ (fun _ _ => rfl)
  exact den_local 0 (by kernel_rfl) (by kernel_rfl) (by kernel_rfl)
  exact den_local 5 (by kernel_rfl) (by kernel_rfl) (by kernel_rfl)
  exact den_local 1 (by kernel_rfl) (by kernel_rfl) (by kernel_rfl)
  refine' dss_cons ?_ ?_
  refine' ds_assign ?_ ?_ (fun _ _ => rfl) (fun _ => rfl) (fun _ => rfl)
  refine' den_bin addop_ok ?_ ?_
  exact den_local 5 (by kernel_rfl) (by kernel_rfl) (by kernel_rfl)
  exact den_int
  exact asg_local 2 (by kernel_rfl) (by kernel_rfl)
  exact dss_nil
  refine' dss_cons ?_ ?_
  refine' ds_assign ?_ ?_ (fun _ _ => rfl) (fun _ => rfl) (fun _ => rfl)
  exact den_local 5 (by kernel_rfl) (by kernel_rfl) (by kernel_rfl)
  exact asg_local 3 (by kernel_rfl) (by kernel_rfl)
  exact dss_nil
  exact dss_nil
  exact dss_nil
  refine' dss_cons ?_ ?_
  refine' ds_while 64 ?_ ?_
  refine' denB_cmp opB_lt ?_ ?_ (by decide) (by rfl)
  exact den_local 2 (by kernel_rfl) (by kernel_rfl) (by kernel_rfl)
  exact den_local 3 (by kernel_rfl) (by kernel_rfl) (by kernel_rfl)
  refine' dss_cons ?_ ?_
  refine' ds_assign ?_ ?_ (fun _ _ => rfl) (fun _ => rfl) (fun _ => rfl)
  refine' den_bin fdivop_ok ?_ ?_
  refine' den_bin addop_ok ?_ ?_
  exact den_local 2 (by kernel_rfl) (by kernel_rfl) (by kernel_rfl)
  exact den_local 3 (by kernel_rfl) (by kernel_rfl) (by kernel_rfl)
  exact den_int
  exact asg_local 5 (by kernel_rfl) (by kernel_rfl)
  refine' dss_cons ?_ ?_
  refine' ds_if ?_ ?_ ?_
  refine' denB_cmp opB_lt ?_ ?_ (by decide) (by rfl)
  exact den_never
  exact den_local 1 (by kernel_rfl) (by kernel_rfl) (by kernel_rfl)
  refine' dss_cons ?_ ?_
  refine' ds_assign ?_ ?_ (fun _ _ => rfl) (fun _ => rfl) (fun _ => rfl)
  refine' den_bin addop_ok ?_ ?_
  exact den_local 5 (by kernel_rfl) (by kernel_rfl) (by kernel_rfl)
  exact den_int
  exact asg_local 2 (by kernel_rfl) (by kernel_rfl)
  exact dss_nil
  refine' dss_cons ?_ ?_
  refine' ds_assign ?_ ?_ (fun _ _ => rfl) (fun _ => rfl) (fun _ => rfl)
  exact den_local 5 (by kernel_rfl) (by kernel_rfl) (by kernel_rfl)
  exact asg_local 3 (by kernel_rfl) (by kernel_rfl)
  exact dss_nil
  exact dss_nil
  exact dss_nil
  refine' dss_cons ?_ ?_
  refine' ds_ret ?_
  exact den_local 2 (by kernel_rfl) (by kernel_rfl) (by kernel_rfl)
  exact dss_nil⟩
noncomputable def bisect_left_d (c : Cx) : St → Option (Fl × St) := (bisect_left_D c).1
theorem bisect_left_den (c : Cx) : DenSs c.G 20 bisect_left_sx bisect_left_body (bisect_left_d c) := (bisect_left_D c).2
noncomputable def bisect_left_f (c : Cx) : List MV → List (Str × MV) → MH → Option (MV × MH) := (fnD (fun xs ks H => (bisect_left_bnd xs ks).map fun r => (r, H)) bisect_left_m (bisect_left_d c))
theorem bisect_left_code (c : Cx) : FnC c.G 21 (.ref 202) (bisect_left_f c) := fn_code bisect_left_m (bisect_left_ok c) (bisect_left_bind c) (bisect_left_den c)
theorem fd_202 (c : Cx) : FnDen c.G 21 (.ref 202) (bisect_left_f c) := FnC.den (bisect_left_code c)
noncomputable def insort_right_O : {o : Obj // lookO (Mini.hd1.heap_39 params0) 184 = some o} := ⟨_, rfl⟩
noncomputable def insort_right_o : Obj := insort_right_O.1
noncomputable def insort_right_fd : FuncData := fdOf insort_right_o
noncomputable def insort_right_body : List Stmt := bodyOf insort_right_fd
def insort_right_params : List Str := [Str.ofString "a", Str.ofString "x", Str.ofString "lo", Str.ofString "hi", Str.ofString "key"]
noncomputable def insort_right_sx : Sx := ⟨insort_right_fd.scope, [Str.ofString "a", Str.ofString "x", Str.ofString "lo", Str.ofString "hi", Str.ofString "key"], [], insort_right_fd.code, insort_right_fd.qualname ++ Str.ofString ".<locals>."⟩
noncomputable def insort_right_CO : {o : Obj // lookO (Mini.hd1.heap_39 params0) 183 = some o} := ⟨_, rfl⟩
noncomputable def insort_right_co : Obj := insort_right_CO.1
def insort_right_ca : Nat := 183
def insort_right_m : Nat := 0
theorem insort_right_ok (c : Cx) : FnOk c.G 184 insort_right_fd insort_right_body insort_right_sx insort_right_params :=
  ⟨⟨insort_right_o, by kernel_rfl, by kernel_rfl⟩, ⟨insort_right_ca, insort_right_co, _, _, by kernel_rfl, by kernel_rfl, rfl, rfl⟩, by kernel_rfl, by kernel_rfl, by kernel_rfl, by kernel_rfl, by kernel_rfl, by kernel_rfl, by kernel_rfl, by kernel_rfl,
    by decide +kernel, by decide +kernel, by decide +kernel, by decide +kernel, by kernel_rfl, by kernel_rfl, by kernel_rfl, by decide +kernel⟩
def insort_right_bnd : List MV → List (Str × MV) → Option (List MV)
  | [a, x], [] => some [a, x, .int 0, .val .none, .val .none]
  | _, _ => none
theorem insort_right_bind (c : Cx) : BindD c.G insort_right_fd insort_right_params (fun xs ks H => (insort_right_bnd xs ks).map fun r => (r, H)) := bind_peek fun v kv e => by
  unfold insort_right_bnd at e
  split at e
  · cases e; cases kv
    cases v with | cons h0 v => ?_
    cases v with | cons h1 v => ?_
    cases v
    refine ⟨[_, _, _, _, _], fun S => by rfl, rfl, (.cons h0 (.cons h1 (.cons ?_ (.cons ?_ (.cons ?_ .nil)))))⟩
    all_goals first | rfl | exact ⟨_, rfl⟩
  · cases e
noncomputable def insort_right_D (c : Cx) : {d : St → Option (Fl × St) // DenSs c.G 24 insort_right_sx insort_right_body d} := ⟨_, by
  refine' dss_cons ?_ ?_
  refine' ds_if ?_ ?_ ?_
  refine' denB_isNone 4 (by kernel_rfl) (by kernel_rfl) (by kernel_rfl)
  refine' dss_cons ?_ ?_
  refine' ds_assign ?_ ?_ (fun _ _ => rfl) (fun _ => rfl) (fun _ => rfl)
  refine' den_call (fv := (PySem.Value.ref 193)) ?_ ?_ ?_ ?_ (fun _ _ => rfl) (fun _ _ => rfl) ?_
  exact den_glob (v := (PySem.Value.ref 193)) (by kernel_rfl) (by kernel_rfl) (by kernel_rfl)
  exact keeps_K' (by kernel_rfl)
  refine' dens_cons ?_ ?_ (fun _ => rfl)
  exact den_local 0 (by kernel_rfl) (by kernel_rfl) (by kernel_rfl)
  refine' dens_cons ?_ ?_ (fun _ => rfl)
  exact den_local 1 (by kernel_rfl) (by kernel_rfl) (by kernel_rfl)
  refine' dens_cons ?_ ?_ (fun _ => rfl)
  exact den_local 2 (by kernel_rfl) (by kernel_rfl) (by kernel_rfl)
  refine' dens_cons ?_ ?_ (fun _ => rfl)
  exact den_local 3 (by kernel_rfl) (by kernel_rfl) (by kernel_rfl)
  exact dens_nil
  exact dks_nil
  exact FnDen.le (Mini.L1.fd_193 _) (by decide)
  exact asg_local 2 (by kernel_rfl) (by kernel_rfl)
  exact dss_nil
  refine' dss_cons ?_ ?_
  refine' ds_assign ?_ ?_ (fun _ _ => rfl) (fun _ => rfl) (fun _ => rfl)
  refine' den_call (fv := (PySem.Value.ref 193)) ?_ ?_ ?_ ?_ (fun _ _ => rfl) (fun _ _ => rfl) ?_
  exact den_glob (v := (PySem.Value.ref 193)) (by kernel_rfl) (by kernel_rfl) (by kernel_rfl)
  exact keeps_K' (by kernel_rfl)
  refine' dens_cons ?_ ?_ (fun _ => rfl)
  exact den_local 0 (by kernel_rfl) (by kernel_rfl) (by kernel_rfl)
  refine' dens_cons ?_ ?_ (fun _ => rfl)
  exact den_never
  refine' dens_cons ?_ ?_ (fun _ => rfl)
  exact den_local 2 (by kernel_rfl) (by kernel_rfl) (by kernel_rfl)
  refine' dens_cons ?_ ?_ (fun _ => rfl)
  exact den_local 3 (by kernel_rfl) (by kernel_rfl) (by kernel_rfl)
  exact dens_nil
  refine' dks_consW ⟨#[107, 101, 121]⟩ (by kernel_rfl) ?_ ?_
  exact den_local 4 (by kernel_rfl) (by kernel_rfl) (by kernel_rfl)
  exact dks_nil
  exact FnDen.le (Mini.L1.fd_193 _) (by decide)
  exact asg_local 2 (by kernel_rfl) (by kernel_rfl)
  exact dss_nil
  refine' dss_cons ?_ ?_
  refine' ds_expr ?_ (fun _ => rfl)
  refine' den_meth (fun _ => rfl) ?_ (getM_list PySem.F.slot_list_insert (by rfl)) ?_ ?_ ?_ (fun _ _ => rfl) (fun _ _ => rfl) ?_
  exact den_local 0 (by kernel_rfl) (by kernel_rfl) (by kernel_rfl)
  exact keeps_builtin
  refine' dens_cons ?_ ?_ (fun _ => rfl)
  exact den_local 2 (by kernel_rfl) (by kernel_rfl) (by kernel_rfl)
  refine' dens_cons ?_ ?_ (fun _ => rfl)
  exact den_local 1 (by kernel_rfl) (by kernel_rfl) (by kernel_rfl)
  exact dens_nil
  exact dks_nil
  exact den_insert
  exact dss_nil⟩
noncomputable def insort_right_d (c : Cx) : St → Option (Fl × St) := (insort_right_D c).1
theorem insort_right_den (c : Cx) : DenSs c.G 24 insort_right_sx insort_right_body (insort_right_d c) := (insort_right_D c).2
noncomputable def insort_right_f (c : Cx) : List MV → List (Str × MV) → MH → Option (MV × MH) := (fnD (fun xs ks H => (insort_right_bnd xs ks).map fun r => (r, H)) insort_right_m (insort_right_d c))
theorem insort_right_code (c : Cx) : FnC c.G 25 (.ref 184) (insort_right_f c) := fn_code insort_right_m (insort_right_ok c) (insort_right_bind c) (insort_right_den c)
theorem fd_184 (c : Cx) : FnDen c.G 25 (.ref 184) (insort_right_f c) := FnC.den (insort_right_code c)
noncomputable def h_conv_O : {o : Obj // lookO (Mini.hd1.heap_39 params0) 70 = some o} := ⟨_, rfl⟩
noncomputable def h_conv_o : Obj := h_conv_O.1
noncomputable def h_conv_fd : FuncData := fdOf h_conv_o
noncomputable def h_conv_body : List Stmt := bodyOf h_conv_fd
def h_conv_params : List Str := [Str.ofString "self", Str.ofString "value", Str.ofString "name"]
noncomputable def h_conv_sx : Sx := ⟨h_conv_fd.scope, [Str.ofString "self", Str.ofString "value", Str.ofString "name", Str.ofString "regex"], [], h_conv_fd.code, h_conv_fd.qualname ++ Str.ofString ".<locals>."⟩
noncomputable def h_conv_CO : {o : Obj // lookO (Mini.hd1.heap_39 params0) 69 = some o} := ⟨_, rfl⟩
noncomputable def h_conv_co : Obj := h_conv_CO.1
def h_conv_ca : Nat := 69
def h_conv_m : Nat := 1
theorem h_conv_ok (c : Cx) : FnOk c.G 70 h_conv_fd h_conv_body h_conv_sx h_conv_params :=
  ⟨⟨h_conv_o, by kernel_rfl, by kernel_rfl⟩, ⟨h_conv_ca, h_conv_co, _, _, by kernel_rfl, by kernel_rfl, rfl, rfl⟩, by kernel_rfl, by kernel_rfl, by kernel_rfl, by kernel_rfl, by kernel_rfl, by kernel_rfl, by kernel_rfl, by kernel_rfl,
    by decide +kernel, by decide +kernel, by decide +kernel, by decide +kernel, by kernel_rfl, by kernel_rfl, by kernel_rfl, by decide +kernel⟩
def h_conv_bnd : List MV → List (Str × MV) → Option (List MV)
  | [s, v], [(kn, b)] => if kn = ⟨#[110, 97, 109, 101]⟩ then some [s, v, b] else none
  | _, _ => none
theorem h_conv_bind (c : Cx) : BindD c.G h_conv_fd h_conv_params (fun xs ks H => (h_conv_bnd xs ks).map fun r => (r, H)) := bind_peek fun v kv e => by
  unfold h_conv_bnd at e
  split at e
  · split at e
    case isFalse => cases e
    rename_i hkn; cases hkn; cases e
    cases kv with | cons k1 kv => ?_
    cases kv
    cases v with | cons h0 v => ?_
    cases v with | cons h1 v => ?_
    cases v
    refine ⟨[_, _, _], fun S => by rfl, rfl, (.cons h0 (.cons h1 (.cons k1 .nil)))⟩
  · cases e
noncomputable def h_conv_D (c : Cx) : {d : St → Option (Fl × St) // DenSs c.G 20 h_conv_sx h_conv_body d} := ⟨_, by
  refine' dss_cons ?_ ?_
  refine' ds_if ?_ ?_ ?_
  refine' denB_cmp opB_is ?_ ?_ (by decide) (by rfl)
  refine' den_call (fv := (PySem.Value.type "type")) ?_ ?_ ?_ ?_ (fun _ _ => rfl) (fun _ _ => rfl) ?_
  exact den_builtin (v := (PySem.Value.type "type")) (by kernel_rfl) (by kernel_rfl) (by kernel_rfl) (by decide +kernel) (by kernel_rfl)
  exact keeps_type
  refine' dens_cons ?_ ?_ (fun _ => rfl)
  exact den_local 1 (by kernel_rfl) (by kernel_rfl) (by kernel_rfl)
  exact dens_nil
  exact dks_nil
  exact den_typeOf
  exact den_builtin (v := (PySem.Value.type "str")) (by kernel_rfl) (by kernel_rfl) (by kernel_rfl) (by decide +kernel) (by kernel_rfl)
  refine' dss_cons ?_ ?_
  refine' ds_assign ?_ ?_ (fun _ _ => rfl) (fun _ => rfl) (fun _ => rfl)
  refine' den_ifexp ?_ ?_ ?_
  refine' denB_val ?_ (fun _ => rfl)
  exact den_local 2 (by kernel_rfl) (by kernel_rfl) (by kernel_rfl)
  exact den_glob (v := (PySem.Value.ref 43)) (by kernel_rfl) (by kernel_rfl) (by kernel_rfl)
  exact den_glob (v := (PySem.Value.ref 48)) (by kernel_rfl) (by kernel_rfl) (by kernel_rfl)
  exact asg_local 3 (by kernel_rfl) (by kernel_rfl)
  refine' dss_cons ?_ ?_
  refine' ds_if ?_ ?_ ?_
  refine' denB_val ?_ (fun _ => rfl)
  refine' den_meth (fun _ => rfl) ?_ (Mini.L1.gm_search _) ?_ ?_ ?_ (fun _ _ => rfl) (fun _ _ => rfl) ?_
  exact den_local 3 (by kernel_rfl) (by kernel_rfl) (by kernel_rfl)
  exact keeps_builtin
  refine' dens_cons ?_ ?_ (fun _ => rfl)
  exact den_local 1 (by kernel_rfl) (by kernel_rfl) (by kernel_rfl)
  exact dens_nil
  exact dks_nil
  exact Mini.L1.fd_search _
  refine' dss_cons ?_ ?_
  exact ds_never
  exact dss_nil
  exact dss_nil
  refine' dss_cons ?_ ?_
  refine' ds_ret ?_
  exact den_local 1 (by kernel_rfl) (by kernel_rfl) (by kernel_rfl)
  exact dss_nil
  exact dss_nil
  refine' dss_cons ?_ ?_
  exact ds_never
  exact dss_nil⟩
noncomputable def h_conv_d (c : Cx) : St → Option (Fl × St) := (h_conv_D c).1
theorem h_conv_den (c : Cx) : DenSs c.G 20 h_conv_sx h_conv_body (h_conv_d c) := (h_conv_D c).2
noncomputable def h_conv_f (c : Cx) : List MV → List (Str × MV) → MH → Option (MV × MH) := (fnD (fun xs ks H => (h_conv_bnd xs ks).map fun r => (r, H)) h_conv_m (h_conv_d c))
theorem h_conv_code (c : Cx) : FnC c.G 21 (.ref 70) (h_conv_f c) := fn_code h_conv_m (h_conv_ok c) (h_conv_bind c) (h_conv_den c)
theorem fd_70 (c : Cx) : FnDen c.G 21 (.ref 70) (h_conv_f c) := FnC.den (h_conv_code c)
noncomputable def h_get_O : {o : Obj // lookO (Mini.hd1.heap_39 params0) 118 = some o} := ⟨_, rfl⟩
noncomputable def h_get_o : Obj := h_get_O.1
noncomputable def h_get_fd : FuncData := fdOf h_get_o
noncomputable def h_get_body : List Stmt := bodyOf h_get_fd
def h_get_params : List Str := [Str.ofString "self", Str.ofString "name", Str.ofString "default"]
noncomputable def h_get_sx : Sx := ⟨h_get_fd.scope, [Str.ofString "self", Str.ofString "name", Str.ofString "default", Str.ofString "k", Str.ofString "v"], [], h_get_fd.code, h_get_fd.qualname ++ Str.ofString ".<locals>."⟩
noncomputable def h_get_CO : {o : Obj // lookO (Mini.hd1.heap_39 params0) 117 = some o} := ⟨_, rfl⟩
noncomputable def h_get_co : Obj := h_get_CO.1
def h_get_ca : Nat := 117
def h_get_m : Nat := 2
theorem h_get_ok (c : Cx) : FnOk c.G 118 h_get_fd h_get_body h_get_sx h_get_params :=
  ⟨⟨h_get_o, by kernel_rfl, by kernel_rfl⟩, ⟨h_get_ca, h_get_co, _, _, by kernel_rfl, by kernel_rfl, rfl, rfl⟩, by kernel_rfl, by kernel_rfl, by kernel_rfl, by kernel_rfl, by kernel_rfl, by kernel_rfl, by kernel_rfl, by kernel_rfl,
    by decide +kernel, by decide +kernel, by decide +kernel, by decide +kernel, by kernel_rfl, by kernel_rfl, by kernel_rfl, by decide +kernel⟩
def h_get_bnd : List MV → List (Str × MV) → Option (List MV)
  | [s, n], [] => some [s, n, .val .none]
  | [s, n, d], [] => some [s, n, d]
  | _, _ => none
theorem h_get_bind (c : Cx) : BindD c.G h_get_fd h_get_params (fun xs ks H => (h_get_bnd xs ks).map fun r => (r, H)) := bind_peek fun v kv e => by
  unfold h_get_bnd at e
  split at e
  · cases e; cases kv
    cases v with | cons h0 v => ?_
    cases v with | cons h1 v => ?_
    cases v
    refine ⟨[_, _, _], fun S => by rfl, rfl, (.cons h0 (.cons h1 (.cons ?_ .nil)))⟩
    all_goals first | rfl | exact ⟨_, rfl⟩
  · cases e; cases kv
    cases v with | cons h0 v => ?_
    cases v with | cons h1 v => ?_
    cases v with | cons h2 v => ?_
    cases v
    refine ⟨[_, _, _], fun S => by rfl, rfl, (.cons h0 (.cons h1 (.cons h2 .nil)))⟩
  · cases e
noncomputable def h_get_D (c : Cx) : {d : St → Option (Fl × St) // DenSs c.G 24 h_get_sx h_get_body d} := ⟨_, by
  refine' dss_cons ?_ ?_
  refine' ds_assign ?_ ?_ (fun _ _ => rfl) (fun _ => rfl) (fun _ => rfl)
  refine' den_meth (fun _ => rfl) ?_ (getM_inst (C := 171) (f := 70) (by kernel_rfl) (by kernel_rfl) (by kernel_rfl)) ?_ ?_ ?_ (fun _ _ => rfl) (fun _ _ => rfl) ?_
  exact den_local 0 (by kernel_rfl) (by kernel_rfl) (by kernel_rfl)
  exact keeps_K' (by kernel_rfl)
  refine' dens_cons ?_ ?_ (fun _ => rfl)
  refine' den_meth (fun _ => rfl) ?_ (getM_str PySem.F.slot_str_lower (by rfl)) ?_ ?_ ?_ (fun _ _ => rfl) (fun _ _ => rfl) ?_
  exact den_local 1 (by kernel_rfl) (by kernel_rfl) (by kernel_rfl)
  exact keeps_builtin
  exact dens_nil
  exact dks_nil
  exact den_lower
  exact dens_nil
  refine' dks_consW ⟨#[110, 97, 109, 101]⟩ (by kernel_rfl) ?_ ?_
  exact den_bool
  exact dks_nil
  exact FnDen.le (Mini.L1.fd_70 _) (by decide)
  exact asg_local 1 (by kernel_rfl) (by kernel_rfl)
  refine' dss_cons ?_ ?_
  refine' ds_for ?_ ?_ ?_ (fun _ _ => rfl)
  refine' den_iter ?_
  refine' den_attrW (C := 171) (a := none) ⟨#[95, 104, 101, 97, 100, 101, 114, 115]⟩ (by kernel_rfl) ?_ (fun _ => rfl) (fun _ _ => rfl) (by kernel_rfl) (by kernel_rfl) (by kernel_rfl) (by kernel_rfl)
  exact den_local 0 (by kernel_rfl) (by kernel_rfl) (by kernel_rfl)
  refine' asg_tuple (n := 2) ?_ (fun _ => rfl) (fun _ => rfl)
  refine' asgs_cons ?_ ?_ (fun _ => rfl)
  exact asg_local 3 (by kernel_rfl) (by kernel_rfl)
  refine' asgs_cons ?_ ?_ (fun _ => rfl)
  exact asg_local 4 (by kernel_rfl) (by kernel_rfl)
  exact asgs_nil
  refine' dss_cons ?_ ?_
  refine' ds_if ?_ ?_ ?_
  refine' denB_cmp opB_eq ?_ ?_ (by decide) (by rfl)
  refine' den_meth (fun _ => rfl) ?_ (getM_str PySem.F.slot_str_lower (by rfl)) ?_ ?_ ?_ (fun _ _ => rfl) (fun _ _ => rfl) ?_
  exact den_local 3 (by kernel_rfl) (by kernel_rfl) (by kernel_rfl)
  exact keeps_builtin
  exact dens_nil
  exact dks_nil
  exact den_lower
  exact den_local 1 (by kernel_rfl) (by kernel_rfl) (by kernel_rfl)
  refine' dss_cons ?_ ?_
  refine' ds_ret ?_
  exact den_local 4 (by kernel_rfl) (by kernel_rfl) (by kernel_rfl)
  exact dss_nil
  exact dss_nil
  exact dss_nil
  refine' dss_cons ?_ ?_
  refine' ds_ret ?_
  exact den_local 2 (by kernel_rfl) (by kernel_rfl) (by kernel_rfl)
  exact dss_nil⟩
noncomputable def h_get_d (c : Cx) : St → Option (Fl × St) := (h_get_D c).1
theorem h_get_den (c : Cx) : DenSs c.G 24 h_get_sx h_get_body (h_get_d c) := (h_get_D c).2
noncomputable def h_get_f (c : Cx) : List MV → List (Str × MV) → MH → Option (MV × MH) := (fnD (fun xs ks H => (h_get_bnd xs ks).map fun r => (r, H)) h_get_m (h_get_d c))
theorem h_get_code (c : Cx) : FnC c.G 25 (.ref 118) (h_get_f c) := fn_code h_get_m (h_get_ok c) (h_get_bind c) (h_get_den c)
theorem fd_118 (c : Cx) : FnDen c.G 25 (.ref 118) (h_get_f c) := FnC.den (h_get_code c)
noncomputable def h_items_O : {o : Obj // lookO (Mini.hd1.heap_39 params0) 135 = some o} := ⟨_, rfl⟩
noncomputable def h_items_o : Obj := h_items_O.1
noncomputable def h_items_fd : FuncData := fdOf h_items_o
noncomputable def h_items_body : List Stmt := bodyOf h_items_fd
def h_items_params : List Str := [Str.ofString "self"]
noncomputable def h_items_sx : Sx := ⟨h_items_fd.scope, [Str.ofString "self"], [], h_items_fd.code, h_items_fd.qualname ++ Str.ofString ".<locals>."⟩
noncomputable def h_items_CO : {o : Obj // lookO (Mini.hd1.heap_39 params0) 134 = some o} := ⟨_, rfl⟩
noncomputable def h_items_co : Obj := h_items_CO.1
def h_items_ca : Nat := 134
def h_items_m : Nat := 0
theorem h_items_ok (c : Cx) : FnOk c.G 135 h_items_fd h_items_body h_items_sx h_items_params :=
  ⟨⟨h_items_o, by kernel_rfl, by kernel_rfl⟩, ⟨h_items_ca, h_items_co, _, _, by kernel_rfl, by kernel_rfl, rfl, rfl⟩, by kernel_rfl, by kernel_rfl, by kernel_rfl, by kernel_rfl, by kernel_rfl, by kernel_rfl, by kernel_rfl, by kernel_rfl,
    by decide +kernel, by decide +kernel, by decide +kernel, by decide +kernel, by kernel_rfl, by kernel_rfl, by kernel_rfl, by decide +kernel⟩
def h_items_bnd : List MV → List (Str × MV) → Option (List MV)
  | [s], [] => some [s]
  | _, _ => none
theorem h_items_bind (c : Cx) : BindD c.G h_items_fd h_items_params (fun xs ks H => (h_items_bnd xs ks).map fun r => (r, H)) := bind_peek fun v kv e => by
  unfold h_items_bnd at e
  split at e
  · cases e; cases kv
    cases v with | cons h0 v => ?_
    cases v
    refine ⟨[_], fun S => by rfl, rfl, (.cons h0 .nil)⟩
  · cases e
noncomputable def h_items_D (c : Cx) : {d : St → Option (Fl × St) // DenSs c.G 20 h_items_sx h_items_body d} := ⟨_, by
  refine' dss_cons ?_ ?_
  refine' ds_ret ?_
  refine' den_slice ?_ ?_ ?_
  refine' den_attrW (C := 171) (a := none) ⟨#[95, 104, 101, 97, 100, 101, 114, 115]⟩ (by kernel_rfl) ?_ (fun _ => rfl) (fun _ _ => rfl) (by kernel_rfl) (by kernel_rfl) (by kernel_rfl) (by kernel_rfl)
  exact den_local 0 (by kernel_rfl) (by kernel_rfl) (by kernel_rfl)
  exact denp_none
  exact denp_none
  exact dss_nil⟩
noncomputable def h_items_d (c : Cx) : St → Option (Fl × St) := (h_items_D c).1
theorem h_items_den (c : Cx) : DenSs c.G 20 h_items_sx h_items_body (h_items_d c) := (h_items_D c).2
noncomputable def h_items_f (c : Cx) : List MV → List (Str × MV) → MH → Option (MV × MH) := (fnD (fun xs ks H => (h_items_bnd xs ks).map fun r => (r, H)) h_items_m (h_items_d c))
theorem h_items_code (c : Cx) : FnC c.G 21 (.ref 135) (h_items_f c) := fn_code h_items_m (h_items_ok c) (h_items_bind c) (h_items_den c)
theorem fd_135 (c : Cx) : FnDen c.G 21 (.ref 135) (h_items_f c) := FnC.den (h_items_code c)
noncomputable def h_del_O : {o : Obj // lookO (Mini.hd1.heap_39 params0) 89 = some o} := ⟨_, rfl⟩
noncomputable def h_del_o : Obj := h_del_O.1
noncomputable def h_del_fd : FuncData := fdOf h_del_o
noncomputable def h_del_body : List Stmt := bodyOf h_del_fd
def h_del_params : List Str := [Str.ofString "self", Str.ofString "name"]
noncomputable def h_del_sx : Sx := ⟨h_del_fd.scope, [Str.ofString "self", Str.ofString "name"], [Str.ofString "name"], h_del_fd.code, h_del_fd.qualname ++ Str.ofString ".<locals>."⟩
noncomputable def h_del_CO : {o : Obj // lookO (Mini.hd1.heap_39 params0) 88 = some o} := ⟨_, rfl⟩
noncomputable def h_del_co : Obj := h_del_CO.1
def h_del_ca : Nat := 88
def h_del_m : Nat := 0
theorem h_del_ok (c : Cx) : FnOk c.G 89 h_del_fd h_del_body h_del_sx h_del_params :=
  ⟨⟨h_del_o, by kernel_rfl, by kernel_rfl⟩, ⟨h_del_ca, h_del_co, _, _, by kernel_rfl, by kernel_rfl, rfl, rfl⟩, by kernel_rfl, by kernel_rfl, by kernel_rfl, by kernel_rfl, by kernel_rfl, by kernel_rfl, by kernel_rfl, by kernel_rfl,
    by decide +kernel, by decide +kernel, by decide +kernel, by decide +kernel, by kernel_rfl, by kernel_rfl, by kernel_rfl, by decide +kernel⟩
def h_del_bnd : List MV → List (Str × MV) → Option (List MV)
  | [s, n], [] => some [s, n]
  | _, _ => none
theorem h_del_bind (c : Cx) : BindD c.G h_del_fd h_del_params (fun xs ks H => (h_del_bnd xs ks).map fun r => (r, H)) := bind_peek fun v kv e => by
  unfold h_del_bnd at e
  split at e
  · cases e; cases kv
    cases v with | cons h0 v => ?_
    cases v with | cons h1 v => ?_
    cases v
    refine ⟨[_, _], fun S => by rfl, rfl, (.cons h0 (.cons h1 .nil))⟩
  · cases e
noncomputable def h_del_D (c : Cx) : {d : St → Option (Fl × St) // DenSs c.G 24 h_del_sx h_del_body d} := ⟨_, by
  refine' dss_cons ?_ ?_
  refine' ds_assign ?_ ?_ (fun _ _ => rfl) (fun _ => rfl) (fun _ => rfl)
  refine' den_meth (fun _ => rfl) ?_ (getM_inst (C := 171) (f := 70) (by kernel_rfl) (by kernel_rfl) (by kernel_rfl)) ?_ ?_ ?_ (fun _ _ => rfl) (fun _ _ => rfl) ?_
  exact den_local 0 (by kernel_rfl) (by kernel_rfl) (by kernel_rfl)
  exact keeps_K' (by kernel_rfl)
  refine' dens_cons ?_ ?_ (fun _ => rfl)
  refine' den_meth (fun _ => rfl) ?_ (getM_str PySem.F.slot_str_lower (by rfl)) ?_ ?_ ?_ (fun _ _ => rfl) (fun _ _ => rfl) ?_
  exact den_cell 1 (by kernel_rfl) (Or.inl (by kernel_rfl)) (by kernel_rfl) (by kernel_rfl)
  exact keeps_builtin
  exact dens_nil
  exact dks_nil
  exact den_lower
  exact dens_nil
  refine' dks_consW ⟨#[110, 97, 109, 101]⟩ (by kernel_rfl) ?_ ?_
  exact den_bool
  exact dks_nil
  exact FnDen.le (Mini.L1.fd_70 _) (by decide)
  exact asg_cell 1 (by kernel_rfl) (by decide +kernel)
  refine' dss_cons ?_ ?_
  refine' ds_assign ?_ ?_ (fun _ _ => rfl) (fun _ => rfl) (fun _ => rfl)
  refine' den_comp (cap := [none, none, some 1]) ?_ ?_ (fun _ _ => rfl) ?_
  exact ⟨by rfl, by decide +kernel, by decide +kernel, by decide +kernel, by decide +kernel, capChk_ok (by kernel_rfl)⟩
  refine' den_iter ?_
  refine' den_attrW (C := 171) (a := none) ⟨#[95, 104, 101, 97, 100, 101, 114, 115]⟩ (by kernel_rfl) ?_ (fun _ => rfl) (fun _ _ => rfl) (by kernel_rfl) (by kernel_rfl) (by kernel_rfl) (by kernel_rfl)
  exact den_local 0 (by kernel_rfl) (by kernel_rfl) (by kernel_rfl)
  refine' loop_j rfl (by intro g' h; first | (cases h; done) | (cases h; rfl)) ?_ ?_ ?_
  exact asg_local 1 (by kernel_rfl) (by kernel_rfl)
  refine' ifs_one ?_
  refine' denB_cmp opB_ne ?_ ?_ (by decide) (by rfl)
  refine' den_meth (fun _ => rfl) ?_ (getM_str PySem.F.slot_str_lower (by rfl)) ?_ ?_ ?_ (fun _ _ => rfl) (fun _ _ => rfl) ?_
  refine' den_index ?_ ?_ (fun _ _ => rfl)
  exact den_local 1 (by kernel_rfl) (by kernel_rfl) (by kernel_rfl)
  exact den_int
  exact keeps_builtin
  exact dens_nil
  exact dks_nil
  exact den_lower
  exact den_cell 2 (by kernel_rfl) (Or.inl (by kernel_rfl)) (by kernel_rfl) (by kernel_rfl)
  refine' body_emit rfl ?_
  exact den_local 1 (by kernel_rfl) (by kernel_rfl) (by kernel_rfl)
  refine' asg_all ?_
  refine' den_attrW (C := 171) (a := none) ⟨#[95, 104, 101, 97, 100, 101, 114, 115]⟩ (by kernel_rfl) ?_ (fun _ => rfl) (fun _ _ => rfl) (by kernel_rfl) (by kernel_rfl) (by kernel_rfl) (by kernel_rfl)
  exact den_local 0 (by kernel_rfl) (by kernel_rfl) (by kernel_rfl)
  exact dss_nil⟩
noncomputable def h_del_d (c : Cx) : St → Option (Fl × St) := (h_del_D c).1
theorem h_del_den (c : Cx) : DenSs c.G 24 h_del_sx h_del_body (h_del_d c) := (h_del_D c).2
noncomputable def h_del_f (c : Cx) : List MV → List (Str × MV) → MH → Option (MV × MH) := (gcF (fnD (fun xs ks H => (h_del_bnd xs ks).map fun r => (r, H)) h_del_m (h_del_d c)))
theorem h_del_code (c : Cx) : FnC c.G 25 (.ref 89) (h_del_f c) := FnC.gc (fn_code h_del_m (h_del_ok c) (h_del_bind c) (h_del_den c))
theorem fd_89 (c : Cx) : FnDen c.G 25 (.ref 89) (h_del_f c) := FnC.den (h_del_code c)
noncomputable def h_set_O : {o : Obj // lookO (Mini.hd1.heap_39 params0) 84 = some o} := ⟨_, rfl⟩
noncomputable def h_set_o : Obj := h_set_O.1
noncomputable def h_set_fd : FuncData := fdOf h_set_o
noncomputable def h_set_body : List Stmt := bodyOf h_set_fd
def h_set_params : List Str := [Str.ofString "self", Str.ofString "name", Str.ofString "val"]
noncomputable def h_set_sx : Sx := ⟨h_set_fd.scope, [Str.ofString "self", Str.ofString "name", Str.ofString "val"], [], h_set_fd.code, h_set_fd.qualname ++ Str.ofString ".<locals>."⟩
noncomputable def h_set_CO : {o : Obj // lookO (Mini.hd1.heap_39 params0) 83 = some o} := ⟨_, rfl⟩
noncomputable def h_set_co : Obj := h_set_CO.1
def h_set_ca : Nat := 83
def h_set_m : Nat := 0
theorem h_set_ok (c : Cx) : FnOk c.G 84 h_set_fd h_set_body h_set_sx h_set_params :=
  ⟨⟨h_set_o, by kernel_rfl, by kernel_rfl⟩, ⟨h_set_ca, h_set_co, _, _, by kernel_rfl, by kernel_rfl, rfl, rfl⟩, by kernel_rfl, by kernel_rfl, by kernel_rfl, by kernel_rfl, by kernel_rfl, by kernel_rfl, by kernel_rfl, by kernel_rfl,
    by decide +kernel, by decide +kernel, by decide +kernel, by decide +kernel, by kernel_rfl, by kernel_rfl, by kernel_rfl, by decide +kernel⟩
def h_set_bnd : List MV → List (Str × MV) → Option (List MV)
  | [s, n, v], [] => some [s, n, v]
  | _, _ => none
theorem h_set_bind (c : Cx) : BindD c.G h_set_fd h_set_params (fun xs ks H => (h_set_bnd xs ks).map fun r => (r, H)) := bind_peek fun v kv e => by
  unfold h_set_bnd at e
  split at e
  · cases e; cases kv
    cases v with | cons h0 v => ?_
    cases v with | cons h1 v => ?_
    cases v with | cons h2 v => ?_
    cases v
    refine ⟨[_, _, _], fun S => by rfl, rfl, (.cons h0 (.cons h1 (.cons h2 .nil)))⟩
  · cases e
noncomputable def h_set_D (c : Cx) : {d : St → Option (Fl × St) // DenSs c.G 28 h_set_sx h_set_body d} := ⟨_, by
  refine' dss_cons ?_ ?_
  refine' ds_del (C := 171) (f := 89) ?_ ?_ (by kernel_rfl) (by kernel_rfl) (by kernel_rfl) ?_
  exact den_local 0 (by kernel_rfl) (by kernel_rfl) (by kernel_rfl)
  exact den_local 1 (by kernel_rfl) (by kernel_rfl) (by kernel_rfl)
  exact FnDen.le (Mini.L1.fd_89 _) (by decide)
  refine' dss_cons ?_ ?_
  refine' ds_expr ?_ (fun _ => rfl)
  refine' den_meth (fun _ => rfl) ?_ (getM_list slot_list_append (by rfl)) ?_ ?_ ?_ (fun _ _ => rfl) (fun _ _ => rfl) ?_
  refine' den_attrW (C := 171) (a := none) ⟨#[95, 104, 101, 97, 100, 101, 114, 115]⟩ (by kernel_rfl) ?_ (fun _ => rfl) (fun _ _ => rfl) (by kernel_rfl) (by kernel_rfl) (by kernel_rfl) (by kernel_rfl)
  exact den_local 0 (by kernel_rfl) (by kernel_rfl) (by kernel_rfl)
  exact keeps_builtin
  refine' dens_cons ?_ ?_ (fun _ => rfl)
  refine' den_tuple ?_
  refine' dens_cons ?_ ?_ (fun _ => rfl)
  refine' den_meth (fun _ => rfl) ?_ (getM_inst (C := 171) (f := 70) (by kernel_rfl) (by kernel_rfl) (by kernel_rfl)) ?_ ?_ ?_ (fun _ _ => rfl) (fun _ _ => rfl) ?_
  exact den_local 0 (by kernel_rfl) (by kernel_rfl) (by kernel_rfl)
  exact keeps_K' (by kernel_rfl)
  refine' dens_cons ?_ ?_ (fun _ => rfl)
  exact den_local 1 (by kernel_rfl) (by kernel_rfl) (by kernel_rfl)
  exact dens_nil
  refine' dks_consW ⟨#[110, 97, 109, 101]⟩ (by kernel_rfl) ?_ ?_
  exact den_bool
  exact dks_nil
  exact FnDen.le (Mini.L1.fd_70 _) (by decide)
  refine' dens_cons ?_ ?_ (fun _ => rfl)
  refine' den_meth (fun _ => rfl) ?_ (getM_inst (C := 171) (f := 70) (by kernel_rfl) (by kernel_rfl) (by kernel_rfl)) ?_ ?_ ?_ (fun _ _ => rfl) (fun _ _ => rfl) ?_
  exact den_local 0 (by kernel_rfl) (by kernel_rfl) (by kernel_rfl)
  exact keeps_K' (by kernel_rfl)
  refine' dens_cons ?_ ?_ (fun _ => rfl)
  exact den_local 2 (by kernel_rfl) (by kernel_rfl) (by kernel_rfl)
  exact dens_nil
  refine' dks_consW ⟨#[110, 97, 109, 101]⟩ (by kernel_rfl) ?_ ?_
  exact den_bool
  exact dks_nil
  exact FnDen.le (Mini.L1.fd_70 _) (by decide)
  exact dens_nil
  exact dens_nil
  exact dks_nil
  exact den_append
  exact dss_nil⟩
noncomputable def h_set_d (c : Cx) : St → Option (Fl × St) := (h_set_D c).1
theorem h_set_den (c : Cx) : DenSs c.G 28 h_set_sx h_set_body (h_set_d c) := (h_set_D c).2
noncomputable def h_set_f (c : Cx) : List MV → List (Str × MV) → MH → Option (MV × MH) := (fnD (fun xs ks H => (h_set_bnd xs ks).map fun r => (r, H)) h_set_m (h_set_d c))
theorem h_set_code (c : Cx) : FnC c.G 29 (.ref 84) (h_set_f c) := fn_code h_set_m (h_set_ok c) (h_set_bind c) (h_set_den c)
theorem fd_84 (c : Cx) : FnDen c.G 29 (.ref 84) (h_set_f c) := FnC.den (h_set_code c)
noncomputable def h_init_O : {o : Obj // lookO (Mini.hd1.heap_39 params0) 63 = some o} := ⟨_, rfl⟩
noncomputable def h_init_o : Obj := h_init_O.1
noncomputable def h_init_fd : FuncData := fdOf h_init_o
noncomputable def h_init_body : List Stmt := bodyOf h_init_fd
def h_init_params : List Str := [Str.ofString "self", Str.ofString "headers"]
noncomputable def h_init_sx : Sx := ⟨h_init_fd.scope, [Str.ofString "self", Str.ofString "headers", Str.ofString "k", Str.ofString "v"], [], h_init_fd.code, h_init_fd.qualname ++ Str.ofString ".<locals>."⟩
noncomputable def h_init_CO : {o : Obj // lookO (Mini.hd1.heap_39 params0) 62 = some o} := ⟨_, rfl⟩
noncomputable def h_init_co : Obj := h_init_CO.1
def h_init_ca : Nat := 62
def h_init_m : Nat := 2
theorem h_init_ok (c : Cx) : FnOk c.G 63 h_init_fd h_init_body h_init_sx h_init_params :=
  ⟨⟨h_init_o, by kernel_rfl, by kernel_rfl⟩, ⟨h_init_ca, h_init_co, _, _, by kernel_rfl, by kernel_rfl, rfl, rfl⟩, by kernel_rfl, by kernel_rfl, by kernel_rfl, by kernel_rfl, by kernel_rfl, by kernel_rfl, by kernel_rfl, by kernel_rfl,
    by decide +kernel, by decide +kernel, by decide +kernel, by decide +kernel, by kernel_rfl, by kernel_rfl, by kernel_rfl, by decide +kernel⟩
def h_init_bnd : List MV → List (Str × MV) → Option (List MV)
  | [s], [] => some [s, .val .none]
  | _, _ => none
theorem h_init_bind (c : Cx) : BindD c.G h_init_fd h_init_params (fun xs ks H => (h_init_bnd xs ks).map fun r => (r, H)) := bind_peek fun v kv e => by
  unfold h_init_bnd at e
  split at e
  · cases e; cases kv
    cases v with | cons h0 v => ?_
    cases v
    refine ⟨[_, _], fun S => by rfl, rfl, (.cons h0 (.cons ?_ .nil))⟩
    all_goals first | rfl | exact ⟨_, rfl⟩
  · cases e
noncomputable def h_init_D (c : Cx) : {d : St → Option (Fl × St) // DenSs c.G 24 h_init_sx h_init_body d} := ⟨_, by
  refine' dss_cons ?_ ?_
  refine' ds_assign ?_ ?_ (fun _ _ => rfl) (fun _ => rfl) (fun _ => rfl)
  refine' den_ifexp ?_ ?_ ?_
  refine' denB_cmp opB_isNot ?_ ?_ (by decide) (by rfl)
  exact den_local 1 (by kernel_rfl) (by kernel_rfl) (by kernel_rfl)
  exact den_none
  exact den_local 1 (by kernel_rfl) (by kernel_rfl) (by kernel_rfl)
  refine' den_list ?_
  exact dens_nil
  exact asg_local 1 (by kernel_rfl) (by kernel_rfl)
  refine' dss_cons ?_ ?_
  refine' ds_if ?_ ?_ ?_
  refine' denB_cmp opB_isNot ?_ ?_ (by decide) (by rfl)
  refine' den_call (fv := (PySem.Value.type "type")) ?_ ?_ ?_ ?_ (fun _ _ => rfl) (fun _ _ => rfl) ?_
  exact den_builtin (v := (PySem.Value.type "type")) (by kernel_rfl) (by kernel_rfl) (by kernel_rfl) (by decide +kernel) (by kernel_rfl)
  exact keeps_type
  refine' dens_cons ?_ ?_ (fun _ => rfl)
  exact den_local 1 (by kernel_rfl) (by kernel_rfl) (by kernel_rfl)
  exact dens_nil
  exact dks_nil
  exact den_typeOf
  exact den_builtin (v := (PySem.Value.type "list")) (by kernel_rfl) (by kernel_rfl) (by kernel_rfl) (by decide +kernel) (by kernel_rfl)
  refine' dss_cons ?_ ?_
  exact ds_never
  exact dss_nil
  exact dss_nil
  refine' dss_cons ?_ ?_
  refine' ds_assign ?_ ?_ (fun _ _ => rfl) (fun _ => rfl) (fun _ => rfl)
  exact den_local 1 (by kernel_rfl) (by kernel_rfl) (by kernel_rfl)
  refine' asg_attrW (C := 171) ⟨#[95, 104, 101, 97, 100, 101, 114, 115]⟩ (by kernel_rfl) ⟨by kernel_rfl, by kernel_rfl, by kernel_rfl, by kernel_rfl⟩ ?_
  exact den_local 0 (by kernel_rfl) (by kernel_rfl) (by kernel_rfl)
  refine' dss_cons ?_ ?_
  refine' ds_if ?_ ?_ ?_
  refine' denB_val ?_ (fun _ => rfl)
  exact den_bool
  refine' dss_cons ?_ ?_
  refine' ds_for ?_ ?_ ?_ (fun _ _ => rfl)
  refine' den_iter ?_
  exact den_local 1 (by kernel_rfl) (by kernel_rfl) (by kernel_rfl)
  refine' asg_tuple (n := 2) ?_ (fun _ => rfl) (fun _ => rfl)
  refine' asgs_cons ?_ ?_ (fun _ => rfl)
  exact asg_local 2 (by kernel_rfl) (by kernel_rfl)
  refine' asgs_cons ?_ ?_ (fun _ => rfl)
  exact asg_local 3 (by kernel_rfl) (by kernel_rfl)
  exact asgs_nil
  refine' dss_cons ?_ ?_
  refine' ds_expr ?_ (fun _ => rfl)
  refine' den_meth (fun _ => rfl) ?_ (getM_inst (C := 171) (f := 70) (by kernel_rfl) (by kernel_rfl) (by kernel_rfl)) ?_ ?_ ?_ (fun _ _ => rfl) (fun _ _ => rfl) ?_
  exact den_local 0 (by kernel_rfl) (by kernel_rfl) (by kernel_rfl)
  exact keeps_K' (by kernel_rfl)
  refine' dens_cons ?_ ?_ (fun _ => rfl)
  exact den_local 2 (by kernel_rfl) (by kernel_rfl) (by kernel_rfl)
  exact dens_nil
  refine' dks_consW ⟨#[110, 97, 109, 101]⟩ (by kernel_rfl) ?_ ?_
  exact den_bool
  exact dks_nil
  exact FnDen.le (Mini.L1.fd_70 _) (by decide)
  refine' dss_cons ?_ ?_
  refine' ds_expr ?_ (fun _ => rfl)
  refine' den_meth (fun _ => rfl) ?_ (getM_inst (C := 171) (f := 70) (by kernel_rfl) (by kernel_rfl) (by kernel_rfl)) ?_ ?_ ?_ (fun _ _ => rfl) (fun _ _ => rfl) ?_
  exact den_local 0 (by kernel_rfl) (by kernel_rfl) (by kernel_rfl)
  exact keeps_K' (by kernel_rfl)
  refine' dens_cons ?_ ?_ (fun _ => rfl)
  exact den_local 3 (by kernel_rfl) (by kernel_rfl) (by kernel_rfl)
  exact dens_nil
  refine' dks_consW ⟨#[110, 97, 109, 101]⟩ (by kernel_rfl) ?_ ?_
  exact den_bool
  exact dks_nil
  exact FnDen.le (Mini.L1.fd_70 _) (by decide)
  exact dss_nil
  exact dss_nil
  exact dss_nil
  exact dss_nil⟩
noncomputable def h_init_d (c : Cx) : St → Option (Fl × St) := (h_init_D c).1
theorem h_init_den (c : Cx) : DenSs c.G 24 h_init_sx h_init_body (h_init_d c) := (h_init_D c).2
noncomputable def h_init_f (c : Cx) : List MV → List (Str × MV) → MH → Option (MV × MH) := (fnD (fun xs ks H => (h_init_bnd xs ks).map fun r => (r, H)) h_init_m (h_init_d c))
theorem h_init_code (c : Cx) : FnC c.G 25 (.ref 63) (h_init_f c) := fn_code h_init_m (h_init_ok c) (h_init_bind c) (h_init_den c)
theorem fd_63 (c : Cx) : FnDen c.G 25 (.ref 63) (h_init_f c) := FnC.den (h_init_code c)
theorem fd_171 (c : Cx) : FnDen c.G 26 (.ref 171) (clsF 171 (h_init_f c)) := den_cls (by kernel_rfl) (by kernel_rfl) (by kernel_rfl) (h_init_code c)
noncomputable def w_init_O : {o : Obj // lookO (Mini.hd1.heap_39 params0) 219 = some o} := ⟨_, rfl⟩
noncomputable def w_init_o : Obj := w_init_O.1
noncomputable def w_init_fd : FuncData := fdOf w_init_o
noncomputable def w_init_body : List Stmt := bodyOf w_init_fd
def w_init_params : List Str := [Str.ofString "self", Str.ofString "ws"]
noncomputable def w_init_sx : Sx := ⟨w_init_fd.scope, [Str.ofString "self", Str.ofString "ws", Str.ofString "S", Str.ofString "T", Str.ofString "count", Str.ofString "b", Str.ofString "n", Str.ofString "nt", Str.ofString "ch"], [], w_init_fd.code, w_init_fd.qualname ++ Str.ofString ".<locals>."⟩
noncomputable def w_init_CO : {o : Obj // lookO (Mini.hd1.heap_39 params0) 218 = some o} := ⟨_, rfl⟩
noncomputable def w_init_co : Obj := w_init_CO.1
def w_init_ca : Nat := 218
def w_init_m : Nat := 7
theorem w_init_ok (c : Cx) : FnOk c.G 219 w_init_fd w_init_body w_init_sx w_init_params :=
  ⟨⟨w_init_o, by kernel_rfl, by kernel_rfl⟩, ⟨w_init_ca, w_init_co, _, _, by kernel_rfl, by kernel_rfl, rfl, rfl⟩, by kernel_rfl, by kernel_rfl, by kernel_rfl, by kernel_rfl, by kernel_rfl, by kernel_rfl, by kernel_rfl, by kernel_rfl,
    by decide +kernel, by decide +kernel, by decide +kernel, by decide +kernel, by kernel_rfl, by kernel_rfl, by kernel_rfl, by decide +kernel⟩
def w_init_bnd : List MV → List (Str × MV) → Option (List MV)
  | [s, x], [] => some [s, x]
  | _, _ => none
theorem w_init_bind (c : Cx) : BindD c.G w_init_fd w_init_params (fun xs ks H => (w_init_bnd xs ks).map fun r => (r, H)) := bind_peek fun v kv e => by
  unfold w_init_bnd at e
  split at e
  · cases e; cases kv
    cases v with | cons h0 v => ?_
    cases v with | cons h1 v => ?_
    cases v
    refine ⟨[_, _], fun S => by rfl, rfl, (.cons h0 (.cons h1 .nil))⟩
  · cases e
noncomputable def w_init_D (c : Cx) : {d : St → Option (Fl × St) // DenSs c.G 20 w_init_sx w_init_body d} := ⟨_, by
  refine' dss_cons ?_ ?_
  refine' ds_assign ?_ ?_ (fun _ _ => rfl) (fun _ => rfl) (fun _ => rfl)
  exact den_local 1 (by kernel_rfl) (by kernel_rfl) (by kernel_rfl)
  refine' asg_attrW (C := 264) ⟨#[114, 97, 119]⟩ (by kernel_rfl) ⟨by kernel_rfl, by kernel_rfl, by kernel_rfl, by kernel_rfl⟩ ?_
  exact den_local 0 (by kernel_rfl) (by kernel_rfl) (by kernel_rfl)
  refine' dss_cons ?_ ?_
  refine' ds_swap2 (x := (PySem.Str.ofString "S")) (y := (PySem.Str.ofString "T")) 2 3 (by kernel_rfl) (by kernel_rfl) (by kernel_rfl) (by kernel_rfl) (fun env h => (swapped_scope (env' := dummyEnv _) h).trans (by kernel_rfl)) ?_ (fun _ => rfl)
  refine' den_tuple ?_
  refine' dens_cons ?_ ?_ (fun _ => rfl)
  refine' den_clsattr (C := 264) (mc := .type "type") (x := (Str.ofString " ")) (t := (565)) ?_ (fun _ => rfl) (fun _ _ => rfl) (by kernel_rfl) (by kernel_rfl)
  exact den_glob (v := (PySem.Value.ref 264)) (by kernel_rfl) (by kernel_rfl) (by kernel_rfl)
  refine' dens_cons ?_ ?_ (fun _ => rfl)
  refine' den_clsattr (C := 264) (mc := .type "type") (x := (Str.ofString "\t")) (t := (566)) ?_ (fun _ => rfl) (fun _ _ => rfl) (by kernel_rfl) (by kernel_rfl)
  exact den_glob (v := (PySem.Value.ref 264)) (by kernel_rfl) (by kernel_rfl) (by kernel_rfl)
  exact dens_nil
  refine' dss_cons ?_ ?_
  refine' ds_assign ?_ ?_ (fun _ _ => rfl) (fun _ => rfl) (fun _ => rfl)
  refine' den_list ?_
  exact dens_nil
  exact asg_local 4 (by kernel_rfl) (by kernel_rfl)
  refine' dss_cons ?_ ?_
  refine' ds_assign3 ?_ ?_ ?_ ?_ (fun _ => rfl) (fun _ => rfl)
  exact den_int
  exact asg_local 5 (by kernel_rfl) (by kernel_rfl)
  exact asg_local 6 (by kernel_rfl) (by kernel_rfl)
  exact asg_local 7 (by kernel_rfl) (by kernel_rfl)
  refine' dss_cons ?_ ?_
  refine' ds_for ?_ ?_ ?_ (fun _ _ => rfl)
  refine' den_iter ?_
  refine' den_attrW (C := 264) (a := none) ⟨#[114, 97, 119]⟩ (by kernel_rfl) ?_ (fun _ => rfl) (fun _ _ => rfl) (by kernel_rfl) (by kernel_rfl) (by kernel_rfl) (by kernel_rfl)
  exact den_local 0 (by kernel_rfl) (by kernel_rfl) (by kernel_rfl)
  exact asg_local 8 (by kernel_rfl) (by kernel_rfl)
  refine' dss_cons ?_ ?_
  refine' ds_if ?_ ?_ ?_
  refine' denB_cmp opB_eq ?_ ?_ (by decide) (by rfl)
  exact den_local 8 (by kernel_rfl) (by kernel_rfl) (by kernel_rfl)
  exact den_local 2 (by kernel_rfl) (by kernel_rfl) (by kernel_rfl)
  refine' dss_cons ?_ ?_
  refine' ds_assign ?_ ?_ (fun _ _ => rfl) (fun _ => rfl) (fun _ => rfl)
  refine' den_bin addop_ok ?_ ?_
  exact den_local 6 (by kernel_rfl) (by kernel_rfl) (by kernel_rfl)
  exact den_int
  exact asg_local 6 (by kernel_rfl) (by kernel_rfl)
  refine' dss_cons ?_ ?_
  refine' ds_assign ?_ ?_ (fun _ _ => rfl) (fun _ => rfl) (fun _ => rfl)
  refine' den_bin addop_ok ?_ ?_
  exact den_local 5 (by kernel_rfl) (by kernel_rfl) (by kernel_rfl)
  exact den_int
  exact asg_local 5 (by kernel_rfl) (by kernel_rfl)
  exact dss_nil
  refine' dss_cons ?_ ?_
  refine' ds_if ?_ ?_ ?_
  refine' denB_cmp opB_eq ?_ ?_ (by decide) (by rfl)
  exact den_local 8 (by kernel_rfl) (by kernel_rfl) (by kernel_rfl)
  exact den_local 3 (by kernel_rfl) (by kernel_rfl) (by kernel_rfl)
  refine' dss_cons ?_ ?_
  refine' ds_assign ?_ ?_ (fun _ _ => rfl) (fun _ => rfl) (fun _ => rfl)
  refine' den_bin addop_ok ?_ ?_
  exact den_local 6 (by kernel_rfl) (by kernel_rfl) (by kernel_rfl)
  exact den_int
  exact asg_local 6 (by kernel_rfl) (by kernel_rfl)
  refine' dss_cons ?_ ?_
  refine' ds_assign ?_ ?_ (fun _ _ => rfl) (fun _ => rfl) (fun _ => rfl)
  refine' den_bin addop_ok ?_ ?_
  exact den_local 7 (by kernel_rfl) (by kernel_rfl) (by kernel_rfl)
  exact den_int
  exact asg_local 7 (by kernel_rfl) (by kernel_rfl)
  refine' dss_cons ?_ ?_
  refine' ds_if ?_ ?_ ?_
  refine' denB_cmp opB_ge ?_ ?_ (by decide) (by rfl)
  exact den_local 5 (by kernel_rfl) (by kernel_rfl) (by kernel_rfl)
  refine' den_call (fv := (PySem.Value.builtin "len")) ?_ ?_ ?_ ?_ (fun _ _ => rfl) (fun _ _ => rfl) ?_
  exact den_builtin (v := (PySem.Value.builtin "len")) (by kernel_rfl) (by kernel_rfl) (by kernel_rfl) (by decide +kernel) (by kernel_rfl)
  exact keeps_builtin
  refine' dens_cons ?_ ?_ (fun _ => rfl)
  exact den_local 4 (by kernel_rfl) (by kernel_rfl) (by kernel_rfl)
  exact dens_nil
  exact dks_nil
  exact den_lenS
  refine' dss_cons ?_ ?_
  refine' ds_assign ?_ ?_ (fun _ _ => rfl) (fun _ => rfl) (fun _ => rfl)
  refine' den_bin addop_ok ?_ ?_
  exact den_local 4 (by kernel_rfl) (by kernel_rfl) (by kernel_rfl)
  refine' den_bin mulop_ok ?_ ?_
  refine' den_list ?_
  refine' dens_cons ?_ ?_ (fun _ => rfl)
  exact den_int
  exact dens_nil
  refine' den_bin addop_ok ?_ ?_
  refine' den_bin subop_ok ?_ ?_
  exact den_local 5 (by kernel_rfl) (by kernel_rfl) (by kernel_rfl)
  refine' den_call (fv := (PySem.Value.builtin "len")) ?_ ?_ ?_ ?_ (fun _ _ => rfl) (fun _ _ => rfl) ?_
  exact den_builtin (v := (PySem.Value.builtin "len")) (by kernel_rfl) (by kernel_rfl) (by kernel_rfl) (by decide +kernel) (by kernel_rfl)
  exact keeps_builtin
  refine' dens_cons ?_ ?_ (fun _ => rfl)
  exact den_local 4 (by kernel_rfl) (by kernel_rfl) (by kernel_rfl)
  exact dens_nil
  exact dks_nil
  exact den_lenS
  exact den_int
  exact asg_local 4 (by kernel_rfl) (by kernel_rfl)
  exact dss_nil
  exact dss_nil
  refine' dss_cons ?_ ?_
  refine' ds_assign ?_ ?_ (fun _ _ => rfl) (fun _ => rfl) (fun _ => rfl)
  refine' den_bin addop_ok ?_ ?_
  refine' den_index ?_ ?_ (fun _ _ => rfl)
  exact den_local 4 (by kernel_rfl) (by kernel_rfl) (by kernel_rfl)
  exact den_local 5 (by kernel_rfl) (by kernel_rfl) (by kernel_rfl)
  exact den_int
  refine' asg_item ?_ ?_
  exact den_local 4 (by kernel_rfl) (by kernel_rfl) (by kernel_rfl)
  exact den_local 5 (by kernel_rfl) (by kernel_rfl) (by kernel_rfl)
  refine' dss_cons ?_ ?_
  refine' ds_assign ?_ ?_ (fun _ _ => rfl) (fun _ => rfl) (fun _ => rfl)
  exact den_int
  exact asg_local 5 (by kernel_rfl) (by kernel_rfl)
  exact dss_nil
  refine' dss_cons ?_ ?_
  exact ds_break
  exact dss_nil
  exact dss_nil
  exact dss_nil
  refine' dss_cons ?_ ?_
  refine' ds_assign ?_ ?_ (fun _ _ => rfl) (fun _ => rfl) (fun _ => rfl)
  exact den_local 6 (by kernel_rfl) (by kernel_rfl) (by kernel_rfl)
  refine' asg_attrW (C := 264) ⟨#[110]⟩ (by kernel_rfl) ⟨by kernel_rfl, by kernel_rfl, by kernel_rfl, by kernel_rfl⟩ ?_
  exact den_local 0 (by kernel_rfl) (by kernel_rfl) (by kernel_rfl)
  refine' dss_cons ?_ ?_
  refine' ds_assign ?_ ?_ (fun _ _ => rfl) (fun _ => rfl) (fun _ => rfl)
  exact den_local 7 (by kernel_rfl) (by kernel_rfl) (by kernel_rfl)
  refine' asg_attrW (C := 264) ⟨#[110, 116]⟩ (by kernel_rfl) ⟨by kernel_rfl, by kernel_rfl, by kernel_rfl, by kernel_rfl⟩ ?_
  exact den_local 0 (by kernel_rfl) (by kernel_rfl) (by kernel_rfl)
  refine' dss_cons ?_ ?_
  refine' ds_assign ?_ ?_ (fun _ _ => rfl) (fun _ => rfl) (fun _ => rfl)
  refine' den_tuple ?_
  refine' dens_cons ?_ ?_ (fun _ => rfl)
  refine' den_call (fv := (PySem.Value.type "tuple")) ?_ ?_ ?_ ?_ (fun _ _ => rfl) (fun _ _ => rfl) ?_
  exact den_builtin (v := (PySem.Value.type "tuple")) (by kernel_rfl) (by kernel_rfl) (by kernel_rfl) (by decide +kernel) (by kernel_rfl)
  exact keeps_type
  refine' dens_cons ?_ ?_ (fun _ => rfl)
  exact den_local 4 (by kernel_rfl) (by kernel_rfl) (by kernel_rfl)
  exact dens_nil
  exact dks_nil
  exact den_tupleL
  refine' dens_cons ?_ ?_ (fun _ => rfl)
  exact den_local 5 (by kernel_rfl) (by kernel_rfl) (by kernel_rfl)
  exact dens_nil
  refine' asg_attrW (C := 264) ⟨#[110, 111, 114, 109]⟩ (by kernel_rfl) ⟨by kernel_rfl, by kernel_rfl, by kernel_rfl, by kernel_rfl⟩ ?_
  exact den_local 0 (by kernel_rfl) (by kernel_rfl) (by kernel_rfl)
  refine' dss_cons ?_ ?_
  refine' ds_assign ?_ ?_ (fun _ _ => rfl) (fun _ => rfl) (fun _ => rfl)
  refine' den_cmp opB_le ?_ ?_ (by decide) (by rfl)
  refine' den_call (fv := (PySem.Value.builtin "len")) ?_ ?_ ?_ ?_ (fun _ _ => rfl) (fun _ _ => rfl) ?_
  exact den_builtin (v := (PySem.Value.builtin "len")) (by kernel_rfl) (by kernel_rfl) (by kernel_rfl) (by decide +kernel) (by kernel_rfl)
  exact keeps_builtin
  refine' dens_cons ?_ ?_ (fun _ => rfl)
  exact den_local 4 (by kernel_rfl) (by kernel_rfl) (by kernel_rfl)
  exact dens_nil
  exact dks_nil
  exact den_lenS
  exact den_int
  refine' asg_attrW (C := 264) ⟨#[105, 115, 95, 115, 105, 109, 112, 108, 101]⟩ (by kernel_rfl) ⟨by kernel_rfl, by kernel_rfl, by kernel_rfl, by kernel_rfl⟩ ?_
  exact den_local 0 (by kernel_rfl) (by kernel_rfl) (by kernel_rfl)
  exact dss_nil⟩
noncomputable def w_init_d (c : Cx) : St → Option (Fl × St) := (w_init_D c).1
theorem w_init_den (c : Cx) : DenSs c.G 20 w_init_sx w_init_body (w_init_d c) := (w_init_D c).2
noncomputable def w_init_f (c : Cx) : List MV → List (Str × MV) → MH → Option (MV × MH) := (fnD (fun xs ks H => (w_init_bnd xs ks).map fun r => (r, H)) w_init_m (w_init_d c))
theorem w_init_code (c : Cx) : FnC c.G 21 (.ref 219) (w_init_f c) := fn_code w_init_m (w_init_ok c) (w_init_bind c) (w_init_den c)
theorem fd_219 (c : Cx) : FnDen c.G 21 (.ref 219) (w_init_f c) := FnC.den (w_init_code c)
theorem fd_264 (c : Cx) : FnDen c.G 22 (.ref 264) (clsF 264 (w_init_f c)) := den_cls (by kernel_rfl) (by kernel_rfl) (by kernel_rfl) (w_init_code c)
noncomputable def w_long_O : {o : Obj // lookO (Mini.hd1.heap_39 params0) 226 = some o} := ⟨_, rfl⟩
noncomputable def w_long_o : Obj := w_long_O.1
noncomputable def w_long_fd : FuncData := fdOf w_long_o
noncomputable def w_long_body : List Stmt := bodyOf w_long_fd
def w_long_params : List Str := [Str.ofString "self"]
noncomputable def w_long_sx : Sx := ⟨w_long_fd.scope, [Str.ofString "self", Str.ofString "count", Str.ofString "trailing"], [], w_long_fd.code, w_long_fd.qualname ++ Str.ofString ".<locals>."⟩
noncomputable def w_long_CO : {o : Obj // lookO (Mini.hd1.heap_39 params0) 225 = some o} := ⟨_, rfl⟩
noncomputable def w_long_co : Obj := w_long_CO.1
def w_long_ca : Nat := 225
def w_long_m : Nat := 2
theorem w_long_ok (c : Cx) : FnOk c.G 226 w_long_fd w_long_body w_long_sx w_long_params :=
  ⟨⟨w_long_o, by kernel_rfl, by kernel_rfl⟩, ⟨w_long_ca, w_long_co, _, _, by kernel_rfl, by kernel_rfl, rfl, rfl⟩, by kernel_rfl, by kernel_rfl, by kernel_rfl, by kernel_rfl, by kernel_rfl, by kernel_rfl, by kernel_rfl, by kernel_rfl,
    by decide +kernel, by decide +kernel, by decide +kernel, by decide +kernel, by kernel_rfl, by kernel_rfl, by kernel_rfl, by decide +kernel⟩
def w_long_bnd : List MV → List (Str × MV) → Option (List MV)
  | [s], [] => some [s]
  | _, _ => none
theorem w_long_bind (c : Cx) : BindD c.G w_long_fd w_long_params (fun xs ks H => (w_long_bnd xs ks).map fun r => (r, H)) := bind_peek fun v kv e => by
  unfold w_long_bnd at e
  split at e
  · cases e; cases kv
    cases v with | cons h0 v => ?_
    cases v
    refine ⟨[_], fun S => by rfl, rfl, (.cons h0 .nil)⟩
  · cases e
noncomputable def w_long_D (c : Cx) : {d : St → Option (Fl × St) // DenSs c.G 20 w_long_sx w_long_body d} := ⟨_, by
  refine' dss_cons ?_ ?_
  refine' ds_assign ?_ ?_ (fun _ _ => rfl) (fun _ => rfl) (fun _ => rfl)
  refine' den_attrW (C := 264) (a := none) ⟨#[110, 111, 114, 109]⟩ (by kernel_rfl) ?_ (fun _ => rfl) (fun _ _ => rfl) (by kernel_rfl) (by kernel_rfl) (by kernel_rfl) (by kernel_rfl)
  exact den_local 0 (by kernel_rfl) (by kernel_rfl) (by kernel_rfl)
  refine' asg_tuple (n := 2) ?_ (fun _ => rfl) (fun _ => rfl)
  refine' asgs_cons ?_ ?_ (fun _ => rfl)
  exact asg_local 1 (by kernel_rfl) (by kernel_rfl)
  refine' asgs_cons ?_ ?_ (fun _ => rfl)
  exact asg_local 2 (by kernel_rfl) (by kernel_rfl)
  exact asgs_nil
  refine' dss_cons ?_ ?_
  refine' ds_ret ?_
  refine' den_call (fv := (PySem.Value.builtin "max")) ?_ ?_ ?_ ?_ (fun _ _ => rfl) (fun _ _ => rfl) ?_
  exact den_builtin (v := (PySem.Value.builtin "max")) (by kernel_rfl) (by kernel_rfl) (by kernel_rfl) (by decide +kernel) (by kernel_rfl)
  exact keeps_builtin
  refine' dens_cons ?_ ?_ (fun _ => rfl)
  refine' den_bin subop_ok ?_ ?_
  refine' den_call (fv := (PySem.Value.builtin "len")) ?_ ?_ ?_ ?_ (fun _ _ => rfl) (fun _ _ => rfl) ?_
  exact den_builtin (v := (PySem.Value.builtin "len")) (by kernel_rfl) (by kernel_rfl) (by kernel_rfl) (by decide +kernel) (by kernel_rfl)
  exact keeps_builtin
  refine' dens_cons ?_ ?_ (fun _ => rfl)
  exact den_local 1 (by kernel_rfl) (by kernel_rfl) (by kernel_rfl)
  exact dens_nil
  exact dks_nil
  exact den_lenS
  exact den_int
  refine' dens_cons ?_ ?_ (fun _ => rfl)
  exact den_local 2 (by kernel_rfl) (by kernel_rfl) (by kernel_rfl)
  exact dens_nil
  exact dks_nil
  exact den_max
  exact dss_nil⟩
noncomputable def w_long_d (c : Cx) : St → Option (Fl × St) := (w_long_D c).1
theorem w_long_den (c : Cx) : DenSs c.G 20 w_long_sx w_long_body (w_long_d c) := (w_long_D c).2
noncomputable def w_long_f (c : Cx) : List MV → List (Str × MV) → MH → Option (MV × MH) := (gcF (fnD (fun xs ks H => (w_long_bnd xs ks).map fun r => (r, H)) w_long_m (w_long_d c)))
theorem w_long_code (c : Cx) : FnC c.G 21 (.ref 226) (w_long_f c) := FnC.gc (fn_code w_long_m (w_long_ok c) (w_long_bind c) (w_long_den c))
theorem fd_226 (c : Cx) : FnDen c.G 21 (.ref 226) (w_long_f c) := FnC.den (w_long_code c)
noncomputable def w_ind_O : {o : Obj // lookO (Mini.hd1.heap_39 params0) 233 = some o} := ⟨_, rfl⟩
noncomputable def w_ind_o : Obj := w_ind_O.1
noncomputable def w_ind_fd : FuncData := fdOf w_ind_o
noncomputable def w_ind_body : List Stmt := bodyOf w_ind_fd
def w_ind_params : List Str := [Str.ofString "self", Str.ofString "tabsize"]
noncomputable def w_ind_sx : Sx := ⟨w_ind_fd.scope, [Str.ofString "self", Str.ofString "tabsize", Str.ofString "count", Str.ofString "trailing", Str.ofString "il", Str.ofString "i"], [], w_ind_fd.code, w_ind_fd.qualname ++ Str.ofString ".<locals>."⟩
noncomputable def w_ind_CO : {o : Obj // lookO (Mini.hd1.heap_39 params0) 232 = some o} := ⟨_, rfl⟩
noncomputable def w_ind_co : Obj := w_ind_CO.1
def w_ind_ca : Nat := 232
def w_ind_m : Nat := 4
theorem w_ind_ok (c : Cx) : FnOk c.G 233 w_ind_fd w_ind_body w_ind_sx w_ind_params :=
  ⟨⟨w_ind_o, by kernel_rfl, by kernel_rfl⟩, ⟨w_ind_ca, w_ind_co, _, _, by kernel_rfl, by kernel_rfl, rfl, rfl⟩, by kernel_rfl, by kernel_rfl, by kernel_rfl, by kernel_rfl, by kernel_rfl, by kernel_rfl, by kernel_rfl, by kernel_rfl,
    by decide +kernel, by decide +kernel, by decide +kernel, by decide +kernel, by kernel_rfl, by kernel_rfl, by kernel_rfl, by decide +kernel⟩
def w_ind_bnd : List MV → List (Str × MV) → Option (List MV)
  | [s, x], [] => some [s, x]
  | _, _ => none
theorem w_ind_bind (c : Cx) : BindD c.G w_ind_fd w_ind_params (fun xs ks H => (w_ind_bnd xs ks).map fun r => (r, H)) := bind_peek fun v kv e => by
  unfold w_ind_bnd at e
  split at e
  · cases e; cases kv
    cases v with | cons h0 v => ?_
    cases v with | cons h1 v => ?_
    cases v
    refine ⟨[_, _], fun S => by rfl, rfl, (.cons h0 (.cons h1 .nil))⟩
  · cases e
noncomputable def w_ind_D (c : Cx) : {d : St → Option (Fl × St) // DenSs c.G 20 w_ind_sx w_ind_body d} := ⟨_, by
  refine' dss_cons ?_ ?_
  refine' ds_assign ?_ ?_ (fun _ _ => rfl) (fun _ => rfl) (fun _ => rfl)
  refine' den_attrW (C := 264) (a := none) ⟨#[110, 111, 114, 109]⟩ (by kernel_rfl) ?_ (fun _ => rfl) (fun _ _ => rfl) (by kernel_rfl) (by kernel_rfl) (by kernel_rfl) (by kernel_rfl)
  exact den_local 0 (by kernel_rfl) (by kernel_rfl) (by kernel_rfl)
  refine' asg_tuple (n := 2) ?_ (fun _ => rfl) (fun _ => rfl)
  refine' asgs_cons ?_ ?_ (fun _ => rfl)
  exact asg_local 2 (by kernel_rfl) (by kernel_rfl)
  refine' asgs_cons ?_ ?_ (fun _ => rfl)
  exact asg_local 3 (by kernel_rfl) (by kernel_rfl)
  exact asgs_nil
  refine' dss_cons ?_ ?_
  refine' ds_assign ?_ ?_ (fun _ _ => rfl) (fun _ => rfl) (fun _ => rfl)
  exact den_int
  exact asg_local 4 (by kernel_rfl) (by kernel_rfl)
  refine' dss_cons ?_ ?_
  refine' ds_for ?_ ?_ ?_ (fun _ _ => rfl)
  refine' den_iter ?_
  refine' den_call (fv := (PySem.Value.type "range")) ?_ ?_ ?_ ?_ (fun _ _ => rfl) (fun _ _ => rfl) ?_
  exact den_builtin (v := (PySem.Value.type "range")) (by kernel_rfl) (by kernel_rfl) (by kernel_rfl) (by decide +kernel) (by kernel_rfl)
  exact keeps_type
  refine' dens_cons ?_ ?_ (fun _ => rfl)
  exact den_local 1 (by kernel_rfl) (by kernel_rfl) (by kernel_rfl)
  refine' dens_cons ?_ ?_ (fun _ => rfl)
  refine' den_call (fv := (PySem.Value.builtin "len")) ?_ ?_ ?_ ?_ (fun _ _ => rfl) (fun _ _ => rfl) ?_
  exact den_builtin (v := (PySem.Value.builtin "len")) (by kernel_rfl) (by kernel_rfl) (by kernel_rfl) (by decide +kernel) (by kernel_rfl)
  exact keeps_builtin
  refine' dens_cons ?_ ?_ (fun _ => rfl)
  exact den_local 2 (by kernel_rfl) (by kernel_rfl) (by kernel_rfl)
  exact dens_nil
  exact dks_nil
  exact den_lenS
  exact dens_nil
  exact dks_nil
  exact den_range
  exact asg_local 5 (by kernel_rfl) (by kernel_rfl)
  refine' dss_cons ?_ ?_
  refine' ds_assign ?_ ?_ (fun _ _ => rfl) (fun _ => rfl) (fun _ => rfl)
  refine' den_bin addop_ok ?_ ?_
  exact den_local 4 (by kernel_rfl) (by kernel_rfl) (by kernel_rfl)
  refine' den_bin mulop_ok ?_ ?_
  refine' den_bin fdivop_ok ?_ ?_
  exact den_local 5 (by kernel_rfl) (by kernel_rfl) (by kernel_rfl)
  exact den_local 1 (by kernel_rfl) (by kernel_rfl) (by kernel_rfl)
  refine' den_index ?_ ?_ (fun _ _ => rfl)
  exact den_local 2 (by kernel_rfl) (by kernel_rfl) (by kernel_rfl)
  exact den_local 5 (by kernel_rfl) (by kernel_rfl) (by kernel_rfl)
  exact asg_local 4 (by kernel_rfl) (by kernel_rfl)
  exact dss_nil
  refine' dss_cons ?_ ?_
  refine' ds_ret ?_
  refine' den_bin addop_ok ?_ ?_
  exact den_local 3 (by kernel_rfl) (by kernel_rfl) (by kernel_rfl)
  refine' den_bin mulop_ok ?_ ?_
  exact den_local 1 (by kernel_rfl) (by kernel_rfl) (by kernel_rfl)
  refine' den_bin addop_ok ?_ ?_
  exact den_local 4 (by kernel_rfl) (by kernel_rfl) (by kernel_rfl)
  refine' den_attrW (C := 264) (a := none) ⟨#[110, 116]⟩ (by kernel_rfl) ?_ (fun _ => rfl) (fun _ _ => rfl) (by kernel_rfl) (by kernel_rfl) (by kernel_rfl) (by kernel_rfl)
  exact den_local 0 (by kernel_rfl) (by kernel_rfl) (by kernel_rfl)
  exact dss_nil⟩
noncomputable def w_ind_d (c : Cx) : St → Option (Fl × St) := (w_ind_D c).1
theorem w_ind_den (c : Cx) : DenSs c.G 20 w_ind_sx w_ind_body (w_ind_d c) := (w_ind_D c).2
noncomputable def w_ind_f (c : Cx) : List MV → List (Str × MV) → MH → Option (MV × MH) := (gcF (fnD (fun xs ks H => (w_ind_bnd xs ks).map fun r => (r, H)) w_ind_m (w_ind_d c)))
theorem w_ind_code (c : Cx) : FnC c.G 21 (.ref 233) (w_ind_f c) := FnC.gc (fn_code w_ind_m (w_ind_ok c) (w_ind_bind c) (w_ind_den c))
theorem fd_233 (c : Cx) : FnDen c.G 21 (.ref 233) (w_ind_f c) := FnC.den (w_ind_code c)
noncomputable def w_new_O : {o : Obj // lookO (Mini.hd1.heap_39 params0) 247 = some o} := ⟨_, rfl⟩
noncomputable def w_new_o : Obj := w_new_O.1
noncomputable def w_new_fd : FuncData := fdOf w_new_o
noncomputable def w_new_body : List Stmt := bodyOf w_new_fd
def w_new_params : List Str := [Str.ofString "self", Str.ofString "other"]
noncomputable def w_new_sx : Sx := ⟨w_new_fd.scope, [Str.ofString "self", Str.ofString "other", Str.ofString "n", Str.ofString "a", Str.ofString "ts"], [], w_new_fd.code, w_new_fd.qualname ++ Str.ofString ".<locals>."⟩
noncomputable def w_new_CO : {o : Obj // lookO (Mini.hd1.heap_39 params0) 246 = some o} := ⟨_, rfl⟩
noncomputable def w_new_co : Obj := w_new_CO.1
def w_new_ca : Nat := 246
def w_new_m : Nat := 3
theorem w_new_ok (c : Cx) : FnOk c.G 247 w_new_fd w_new_body w_new_sx w_new_params :=
  ⟨⟨w_new_o, by kernel_rfl, by kernel_rfl⟩, ⟨w_new_ca, w_new_co, _, _, by kernel_rfl, by kernel_rfl, rfl, rfl⟩, by kernel_rfl, by kernel_rfl, by kernel_rfl, by kernel_rfl, by kernel_rfl, by kernel_rfl, by kernel_rfl, by kernel_rfl,
    by decide +kernel, by decide +kernel, by decide +kernel, by decide +kernel, by kernel_rfl, by kernel_rfl, by kernel_rfl, by decide +kernel⟩
def w_new_bnd : List MV → List (Str × MV) → Option (List MV)
  | [s, x], [] => some [s, x]
  | _, _ => none
theorem w_new_bind (c : Cx) : BindD c.G w_new_fd w_new_params (fun xs ks H => (w_new_bnd xs ks).map fun r => (r, H)) := bind_peek fun v kv e => by
  unfold w_new_bnd at e
  split at e
  · cases e; cases kv
    cases v with | cons h0 v => ?_
    cases v with | cons h1 v => ?_
    cases v
    refine ⟨[_, _], fun S => by rfl, rfl, (.cons h0 (.cons h1 .nil))⟩
  · cases e
noncomputable def w_new_D (c : Cx) : {d : St → Option (Fl × St) // DenSs c.G 24 w_new_sx w_new_body d} := ⟨_, by
  refine' dss_cons ?_ ?_
  refine' ds_assign ?_ ?_ (fun _ _ => rfl) (fun _ => rfl) (fun _ => rfl)
  refine' den_bin addop_ok ?_ ?_
  refine' den_call (fv := (PySem.Value.builtin "max")) ?_ ?_ ?_ ?_ (fun _ _ => rfl) (fun _ _ => rfl) ?_
  exact den_builtin (v := (PySem.Value.builtin "max")) (by kernel_rfl) (by kernel_rfl) (by kernel_rfl) (by decide +kernel) (by kernel_rfl)
  exact keeps_builtin
  refine' dens_cons ?_ ?_ (fun _ => rfl)
  refine' den_meth (fun _ => rfl) ?_ (getM_inst (C := 264) (f := 226) (by kernel_rfl) (by kernel_rfl) (by kernel_rfl)) ?_ ?_ ?_ (fun _ _ => rfl) (fun _ _ => rfl) ?_
  exact den_local 0 (by kernel_rfl) (by kernel_rfl) (by kernel_rfl)
  exact keeps_K' (by kernel_rfl)
  exact dens_nil
  exact dks_nil
  exact FnDen.le (Mini.L1.fd_226 _) (by decide)
  refine' dens_cons ?_ ?_ (fun _ => rfl)
  refine' den_meth (fun _ => rfl) ?_ (getM_inst (C := 264) (f := 226) (by kernel_rfl) (by kernel_rfl) (by kernel_rfl)) ?_ ?_ ?_ (fun _ _ => rfl) (fun _ _ => rfl) ?_
  exact den_local 1 (by kernel_rfl) (by kernel_rfl) (by kernel_rfl)
  exact keeps_K' (by kernel_rfl)
  exact dens_nil
  exact dks_nil
  exact FnDen.le (Mini.L1.fd_226 _) (by decide)
  exact dens_nil
  exact dks_nil
  exact den_max
  exact den_int
  exact asg_local 2 (by kernel_rfl) (by kernel_rfl)
  refine' dss_cons ?_ ?_
  refine' ds_assign ?_ ?_ (fun _ _ => rfl) (fun _ => rfl) (fun _ => rfl)
  refine' den_list ?_
  exact dens_nil
  exact asg_local 3 (by kernel_rfl) (by kernel_rfl)
  refine' dss_cons ?_ ?_
  refine' ds_for ?_ ?_ ?_ (fun _ _ => rfl)
  refine' den_iter ?_
  refine' den_call (fv := (PySem.Value.type "range")) ?_ ?_ ?_ ?_ (fun _ _ => rfl) (fun _ _ => rfl) ?_
  exact den_builtin (v := (PySem.Value.type "range")) (by kernel_rfl) (by kernel_rfl) (by kernel_rfl) (by decide +kernel) (by kernel_rfl)
  exact keeps_type
  refine' dens_cons ?_ ?_ (fun _ => rfl)
  exact den_int
  refine' dens_cons ?_ ?_ (fun _ => rfl)
  refine' den_bin addop_ok ?_ ?_
  exact den_local 2 (by kernel_rfl) (by kernel_rfl) (by kernel_rfl)
  exact den_int
  exact dens_nil
  exact dks_nil
  exact den_range
  exact asg_local 4 (by kernel_rfl) (by kernel_rfl)
  refine' dss_cons ?_ ?_
  refine' ds_if ?_ ?_ ?_
  refine' denB_cmp opB_ne ?_ ?_ (by decide) (by rfl)
  refine' den_meth (fun _ => rfl) ?_ (getM_inst (C := 264) (f := 233) (by kernel_rfl) (by kernel_rfl) (by kernel_rfl)) ?_ ?_ ?_ (fun _ _ => rfl) (fun _ _ => rfl) ?_
  exact den_local 0 (by kernel_rfl) (by kernel_rfl) (by kernel_rfl)
  exact keeps_K' (by kernel_rfl)
  refine' dens_cons ?_ ?_ (fun _ => rfl)
  exact den_local 4 (by kernel_rfl) (by kernel_rfl) (by kernel_rfl)
  exact dens_nil
  exact dks_nil
  exact FnDen.le (Mini.L1.fd_233 _) (by decide)
  refine' den_meth (fun _ => rfl) ?_ (getM_inst (C := 264) (f := 233) (by kernel_rfl) (by kernel_rfl) (by kernel_rfl)) ?_ ?_ ?_ (fun _ _ => rfl) (fun _ _ => rfl) ?_
  exact den_local 1 (by kernel_rfl) (by kernel_rfl) (by kernel_rfl)
  exact keeps_K' (by kernel_rfl)
  refine' dens_cons ?_ ?_ (fun _ => rfl)
  exact den_local 4 (by kernel_rfl) (by kernel_rfl) (by kernel_rfl)
  exact dens_nil
  exact dks_nil
  exact FnDen.le (Mini.L1.fd_233 _) (by decide)
  refine' dss_cons ?_ ?_
  refine' ds_expr ?_ (fun _ => rfl)
  refine' den_meth (fun _ => rfl) ?_ (getM_list slot_list_append (by rfl)) ?_ ?_ ?_ (fun _ _ => rfl) (fun _ _ => rfl) ?_
  exact den_local 3 (by kernel_rfl) (by kernel_rfl) (by kernel_rfl)
  exact keeps_builtin
  refine' dens_cons ?_ ?_ (fun _ => rfl)
  refine' den_tuple ?_
  refine' dens_cons ?_ ?_ (fun _ => rfl)
  exact den_local 4 (by kernel_rfl) (by kernel_rfl) (by kernel_rfl)
  refine' dens_cons ?_ ?_ (fun _ => rfl)
  refine' den_meth (fun _ => rfl) ?_ (getM_inst (C := 264) (f := 233) (by kernel_rfl) (by kernel_rfl) (by kernel_rfl)) ?_ ?_ ?_ (fun _ _ => rfl) (fun _ _ => rfl) ?_
  exact den_local 0 (by kernel_rfl) (by kernel_rfl) (by kernel_rfl)
  exact keeps_K' (by kernel_rfl)
  refine' dens_cons ?_ ?_ (fun _ => rfl)
  exact den_local 4 (by kernel_rfl) (by kernel_rfl) (by kernel_rfl)
  exact dens_nil
  exact dks_nil
  exact FnDen.le (Mini.L1.fd_233 _) (by decide)
  refine' dens_cons ?_ ?_ (fun _ => rfl)
  refine' den_meth (fun _ => rfl) ?_ (getM_inst (C := 264) (f := 233) (by kernel_rfl) (by kernel_rfl) (by kernel_rfl)) ?_ ?_ ?_ (fun _ _ => rfl) (fun _ _ => rfl) ?_
  exact den_local 1 (by kernel_rfl) (by kernel_rfl) (by kernel_rfl)
  exact keeps_K' (by kernel_rfl)
  refine' dens_cons ?_ ?_ (fun _ => rfl)
  exact den_local 4 (by kernel_rfl) (by kernel_rfl) (by kernel_rfl)
  exact dens_nil
  exact dks_nil
  exact FnDen.le (Mini.L1.fd_233 _) (by decide)
  exact dens_nil
  exact dens_nil
  exact dks_nil
  exact den_append
  exact dss_nil
  exact dss_nil
  exact dss_nil
  refine' dss_cons ?_ ?_
  refine' ds_ret ?_
  exact den_local 3 (by kernel_rfl) (by kernel_rfl) (by kernel_rfl)
  exact dss_nil⟩
noncomputable def w_new_d (c : Cx) : St → Option (Fl × St) := (w_new_D c).1
theorem w_new_den (c : Cx) : DenSs c.G 24 w_new_sx w_new_body (w_new_d c) := (w_new_D c).2
noncomputable def w_new_f (c : Cx) : List MV → List (Str × MV) → MH → Option (MV × MH) := (fnD (fun xs ks H => (w_new_bnd xs ks).map fun r => (r, H)) w_new_m (w_new_d c))
theorem w_new_code (c : Cx) : FnC c.G 25 (.ref 247) (w_new_f c) := fn_code w_new_m (w_new_ok c) (w_new_bind c) (w_new_den c)
theorem fd_247 (c : Cx) : FnDen c.G 25 (.ref 247) (w_new_f c) := FnC.den (w_new_code c)
end Mini.L1

open PySem PySem.W PySem.Calls PyProof.Rows
set_option maxRecDepth 100000
set_option maxHeartbeats 4000000
namespace Mini.L1


def lamx : Str := Str.ofString "k"
noncomputable def lam0_sx (code : Value) : Sx := ⟨lam0.scope, [Str.ofString "k", Str.ofString "worths"], [], code, lam0.qual ++ Str.ofString ".<locals>."⟩
theorem lam0_ok : LamOk lam0 lamx := ⟨fun _ _ _ _ _ => by rfl, by kernel_rfl, by kernel_rfl, by kernel_rfl, by decide +kernel, by kernel_rfl, by kernel_rfl, fun y h => by
  have key : ∀ y ∈ lam0.scope.names.map (·.1), lam0.scope.names.lookup y = some .free → y = lam0.cell := by decide +kernel
  exact key y (List.mem_map.mpr ⟨_, PySem.mem_of_lookup h, rfl⟩) h⟩
noncomputable def lam0_D (c : Cx) : {d : St → Option (MV × MH) // ∀ code, DenE c.G 20 (lam0_sx code) lam0.body d} := ⟨_, fun code => by
  refine' den_bin subop_ok ?_ ?_
  refine' den_index ?_ ?_ (fun _ _ => rfl)
  exact den_cell 1 (by kernel_rfl) (Or.inr (by kernel_rfl)) (by kernel_rfl) (by kernel_rfl)
  exact den_local 0 (by kernel_rfl) (by kernel_rfl) (by kernel_rfl)
  exact den_local 0 (by kernel_rfl) (by kernel_rfl) (by kernel_rfl)⟩
noncomputable def lam0_d (c : Cx) : St → Option (MV × MH) := (lam0_D c).1
theorem lam0_den (c : Cx) (code : Value) : DenE c.G 20 (lam0_sx code) lam0.body (lam0_d c) := (lam0_D c).2 code
theorem fd_lam (c : Cx) : LamDen c.G 21 0 (fun l v H => lam0_d c ⟨[some v, some (.ref l)], H⟩) := lam_den (x := lamx) lam0_ok (fun code => lam0_den c code)
noncomputable def bisect_leftK_D (c : Cx) : {d : St → Option (Fl × St) // DenSs c.G 24 bisect_left_sx bisect_left_body d} := ⟨_, by
  refine' dss_cons ?_ ?_
  refine' ds_if ?_ ?_ ?_
  refine' denB_cmp opB_lt ?_ ?_ (by decide) (by rfl)
  exact den_local 2 (by kernel_rfl) (by kernel_rfl) (by kernel_rfl)
  exact den_int
  refine' dss_cons ?_ ?_
  exact ds_never
  exact dss_nil
  exact dss_nil
  refine' dss_cons ?_ ?_
  refine' ds_if ?_ ?_ ?_
  refine' denB_isNone 3 (by kernel_rfl) (by kernel_rfl) (by kernel_rfl)
  refine' dss_cons ?_ ?_
  refine' ds_assign ?_ ?_ (fun _ _ => rfl) (fun _ => rfl) (fun _ => rfl)
  refine' den_call (fv := (PySem.Value.builtin "len")) ?_ ?_ ?_ ?_ (fun _ _ => rfl) (fun _ _ => rfl) ?_
  exact den_builtin (v := (PySem.Value.builtin "len")) (by kernel_rfl) (by kernel_rfl) (by kernel_rfl) (by decide +kernel) (by kernel_rfl)
  exact keeps_builtin
  refine' dens_cons ?_ ?_ (fun _ => rfl)
  exact den_local 0 (by kernel_rfl) (by kernel_rfl) (by kernel_rfl)
  exact dens_nil
  exact dks_nil
  exact den_lenS
  exact asg_local 3 (by kernel_rfl) (by kernel_rfl)
  exact dss_nil
  exact dss_nil
  refine' dss_cons ?_ ?_
  refine' ds_if ?_ ?_ ?_
  refine' denB_isNone 4 (by kernel_rfl) (by kernel_rfl) (by kernel_rfl)
  refine' dss_cons ?_ ?_
  refine' ds_while 64 ?_ ?_
  refine' denB_cmp opB_lt ?_ ?_ (by decide) (by rfl)
  exact den_local 2 (by kernel_rfl) (by kernel_rfl) (by kernel_rfl)
  exact den_local 3 (by kernel_rfl) (by kernel_rfl) (by kernel_rfl)
  refine' dss_cons ?_ ?_
  refine' ds_assign ?_ ?_ (fun _ _ => rfl) (fun _ => rfl) (fun _ => rfl)
  refine' den_bin fdivop_ok ?_ ?_
  refine' den_bin addop_ok ?_ ?_
  exact den_local 2 (by kernel_rfl) (by kernel_rfl) (by kernel_rfl)
  exact den_local 3 (by kernel_rfl) (by kernel_rfl) (by kernel_rfl)
  exact den_int
  exact asg_local 5 (by kernel_rfl) (by kernel_rfl)
  refine' dss_cons ?_ ?_
  refine' ds_if ?_ ?_ ?_
  refine' denB_cmp opB_lt ?_ ?_ (by decide) (by rfl)
  refine' den_index ?_ ?_ (fun _ _ => rfl)
  exact den_local 0 (by kernel_rfl) (by kernel_rfl) (by kernel_rfl)
  exact den_local 5 (by kernel_rfl) (by kernel_rfl) (by kernel_rfl)
  exact den_local 1 (by kernel_rfl) (by kernel_rfl) (by kernel_rfl)
  refine' dss_cons ?_ ?_
  refine' ds_assign ?_ ?_ (fun _ _ => rfl) (fun _ => rfl) (fun _ => rfl)
  refine' den_bin addop_ok ?_ ?_
  exact den_local 5 (by kernel_rfl) (by kernel_rfl) (by kernel_rfl)
  exact den_int
  exact asg_local 2 (by kernel_rfl) (by kernel_rfl)
  exact dss_nil
  refine' dss_cons ?_ ?_
  refine' ds_assign ?_ ?_ (fun _ _ => rfl) (fun _ => rfl) (fun _ => rfl)
  exact den_local 5 (by kernel_rfl) (by kernel_rfl) (by kernel_rfl)
  exact asg_local 3 (by kernel_rfl) (by kernel_rfl)
  exact dss_nil
  exact dss_nil
  exact dss_nil
  refine' dss_cons ?_ ?_
  refine' ds_while 64 ?_ ?_
  refine' denB_cmp opB_lt ?_ ?_ (by decide) (by rfl)
  exact den_local 2 (by kernel_rfl) (by kernel_rfl) (by kernel_rfl)
  exact den_local 3 (by kernel_rfl) (by kernel_rfl) (by kernel_rfl)
  refine' dss_cons ?_ ?_
  refine' ds_assign ?_ ?_ (fun _ _ => rfl) (fun _ => rfl) (fun _ => rfl)
  refine' den_bin fdivop_ok ?_ ?_
  refine' den_bin addop_ok ?_ ?_
  exact den_local 2 (by kernel_rfl) (by kernel_rfl) (by kernel_rfl)
  exact den_local 3 (by kernel_rfl) (by kernel_rfl) (by kernel_rfl)
  exact den_int
  exact asg_local 5 (by kernel_rfl) (by kernel_rfl)
  refine' dss_cons ?_ ?_
  refine' ds_if ?_ ?_ ?_
  refine' denB_cmp opB_lt ?_ ?_ (by decide) (by rfl)
  refine' den_callclo 4 (by kernel_rfl) (by kernel_rfl) (by kernel_rfl) ?_ (fun _ _ => rfl) (LamDen.le (Mini.L1.fd_lam _) (by decide))
  refine' dens_cons ?_ ?_ (fun _ => rfl)
  refine' den_index ?_ ?_ (fun _ _ => rfl)
  exact den_local 0 (by kernel_rfl) (by kernel_rfl) (by kernel_rfl)
  exact den_local 5 (by kernel_rfl) (by kernel_rfl) (by kernel_rfl)
  exact dens_nil
  exact den_local 1 (by kernel_rfl) (by kernel_rfl) (by kernel_rfl)
  refine' dss_cons ?_ ?_
  refine' ds_assign ?_ ?_ (fun _ _ => rfl) (fun _ => rfl) (fun _ => rfl)
  refine' den_bin addop_ok ?_ ?_
  exact den_local 5 (by kernel_rfl) (by kernel_rfl) (by kernel_rfl)
  exact den_int
  exact asg_local 2 (by kernel_rfl) (by kernel_rfl)
  exact dss_nil
  refine' dss_cons ?_ ?_
  refine' ds_assign ?_ ?_ (fun _ _ => rfl) (fun _ => rfl) (fun _ => rfl)
  exact den_local 5 (by kernel_rfl) (by kernel_rfl) (by kernel_rfl)
  exact asg_local 3 (by kernel_rfl) (by kernel_rfl)
  exact dss_nil
  exact dss_nil
  exact dss_nil
  refine' dss_cons ?_ ?_
  refine' ds_ret ?_
  exact den_local 2 (by kernel_rfl) (by kernel_rfl) (by kernel_rfl)
  exact dss_nil⟩
noncomputable def bisect_leftK_d (c : Cx) : St → Option (Fl × St) := (bisect_leftK_D c).1
theorem bisect_leftK_den (c : Cx) : DenSs c.G 24 bisect_left_sx bisect_left_body (bisect_leftK_d c) := (bisect_leftK_D c).2
def bisect_leftK_bnd : List MV → Option (List MV)
  | [a, x] => some [a, x, .int 0, .val .none]
  | _ => none
theorem bisect_leftK_bind (c : Cx) {ρ : Nat → Addr} {n : Nat} {xs : List MV} {vs : List Value} {bs : List MV} (v : VRs ρ n xs vs) (e : bisect_leftK_bnd xs = some bs) (fv : Value) :
    ∃ vals, (∀ S, peek c.G.K S (bindArgs bisect_left_fd ⟨vs, [(Str.ofString "key", fv)]⟩) = some (bisect_left_params.zip (vals ++ [fv]))) ∧ (vals ++ [fv]).length = bisect_left_params.length ∧ VRs ρ n bs vals := by
  unfold bisect_leftK_bnd at e
  split at e
  · cases e
    cases v with | cons h1 v => ?_
    cases v with | cons h2 v => ?_
    cases v
    refine ⟨[_, _, _, _], fun S => by rfl, rfl, .cons h1 (.cons h2 (.cons ?_ (.cons ?_ .nil)))⟩
    all_goals first | rfl | exact ⟨_, rfl⟩
  · cases e
theorem keycall (c : Cx) {sx : Sx} {args : List Expr} {ds : St → Option (List MV × MH)} {p pos kp lpos : Pos} {lparams : Arguments} {lbody : Expr} {lscope : Scope} (i : Nat)
    (hn : DenE c.G 40 sx (.Name (Str.ofString "bisect_left") p) (fun st => some (.val (.ref 202), st.H))) (ha : DenEs c.G 40 sx args ds) (hpl : ∀ env pos, (backTo pos (starEach args env)).any (·.1) = false) (Y : LamAt c.G sx 0 lparams lbody lscope i c0 t0) :
    DenE c.G 40 sx (.Call (.Name (Str.ofString "bisect_left") p) args [⟨some (Str.ofString "key"), .Lambda lparams lbody lscope lpos, kp⟩] pos) (callKeyD ds 0 lam0.qual lpos.line lpos.col i bisect_leftK_bnd bisect_left_m (bisect_leftK_d c)) :=
  den_callKey (G := c.G) (k := 39) (c := 0) bisect_left_m hn (keeps_K' (by kernel_rfl)) ha hpl Y (bisect_left_ok c) (DenSs.le (bisect_leftK_den c) (by decide)) (by decide +kernel) (fun v e fv => bisect_leftK_bind c v e fv)

theorem lawworth_ok (c : Cx) : FnOk c.G 273 lawworth_fd lawworth_body lawworth_sx lawworth_params :=
  ⟨⟨lawworth_o, by kernel_rfl, by kernel_rfl⟩, ⟨lawworth_ca, lawworth_co, _, _, by kernel_rfl, by kernel_rfl, rfl, rfl⟩, by kernel_rfl, by kernel_rfl, by kernel_rfl, by kernel_rfl, by kernel_rfl, by kernel_rfl, by kernel_rfl, by kernel_rfl,
    by decide +kernel, by decide +kernel, by decide +kernel, by decide +kernel, by kernel_rfl, by kernel_rfl, by kernel_rfl, by decide +kernel⟩
def lawworth_bnd : List MV → List (Str × MV) → Option (List MV)
  | [t, r], [] => some [t, r]
  | _, _ => none
theorem lawworth_bind (c : Cx) : BindD c.G lawworth_fd lawworth_params (fun xs ks H => (lawworth_bnd xs ks).map fun r => (r, H)) := bind_peek fun v kv e => by
  unfold lawworth_bnd at e
  split at e
  · cases e; cases kv
    cases v with | cons h0 v => ?_
    cases v with | cons h1 v => ?_
    cases v
    refine ⟨[_, _], fun S => by rfl, rfl, (.cons h0 (.cons h1 .nil))⟩
  · cases e
noncomputable def lawworth_D (c : Cx) : {d : St → Option (Fl × St) // DenSs c.G 40 lawworth_sx lawworth_body d} := ⟨_, by
  refine' dss_cons ?_ ?_
  refine' ds_assign ?_ ?_ (fun _ _ => rfl) (fun _ => rfl) (fun _ => rfl)
  refine' den_list ?_
  exact dens_nil
  exact asg_cell 8 (by kernel_rfl) (by decide +kernel)
  refine' dss_cons ?_ ?_
  refine' ds_for ?_ ?_ ?_ (fun _ _ => rfl)
  refine' den_iter ?_
  exact den_local 1 (by kernel_rfl) (by kernel_rfl) (by kernel_rfl)
  exact asg_cell 2 (by kernel_rfl) (by decide +kernel)
  refine' dss_cons ?_ ?_
  refine' ds_for ?_ ?_ ?_ (fun _ _ => rfl)
  refine' den_iter ?_
  refine' den_call (fv := (PySem.Value.type "range")) ?_ ?_ ?_ ?_ (fun _ _ => rfl) (fun _ _ => rfl) ?_
  exact den_builtin (v := (PySem.Value.type "range")) (by kernel_rfl) (by kernel_rfl) (by kernel_rfl) (by decide +kernel) (by kernel_rfl)
  exact keeps_type
  refine' dens_cons ?_ ?_ (fun _ => rfl)
  exact den_cell 2 (by kernel_rfl) (Or.inl (by kernel_rfl)) (by kernel_rfl) (by kernel_rfl)
  exact dens_nil
  exact dks_nil
  exact den_range
  exact asg_cell 3 (by kernel_rfl) (by decide +kernel)
  refine' dss_cons ?_ ?_
  refine' ds_if ?_ ?_ ?_
  refine' denB_cmp opB_notIn ?_ ?_ (by decide) (by rfl)
  exact den_cell 3 (by kernel_rfl) (Or.inl (by kernel_rfl)) (by kernel_rfl) (by kernel_rfl)
  exact den_local 1 (by kernel_rfl) (by kernel_rfl) (by kernel_rfl)
  refine' dss_cons ?_ ?_
  refine' ds_assign_comp (cap := [none, none, some 2]) 4 (by kernel_rfl) (by kernel_rfl) (fun env h => (swaps_scope (env' := dummyEnv _) h).trans (by kernel_rfl)) ?_ ?_ (fun _ _ => rfl) ?_
  exact ⟨by rfl, by decide +kernel, by decide +kernel, by decide +kernel, by decide +kernel, capChk_ok (by kernel_rfl)⟩
  refine' den_iter ?_
  exact den_local 1 (by kernel_rfl) (by kernel_rfl) (by kernel_rfl)
  refine' loop_j rfl (by intro g' h; first | (cases h; done) | (cases h; rfl)) ?_ ?_ ?_
  exact asg_local 1 (by kernel_rfl) (by kernel_rfl)
  refine' ifs_one ?_
  refine' denB_cmp opB_ne ?_ ?_ (by decide) (by rfl)
  exact den_local 1 (by kernel_rfl) (by kernel_rfl) (by kernel_rfl)
  exact den_cell 2 (by kernel_rfl) (Or.inl (by kernel_rfl)) (by kernel_rfl) (by kernel_rfl)
  refine' body_emit rfl ?_
  exact den_local 1 (by kernel_rfl) (by kernel_rfl) (by kernel_rfl)
  refine' dss_cons ?_ ?_
  refine' ds_expr ?_ (fun _ => rfl)
  refine' den_call (fv := (PySem.Value.ref 184)) ?_ ?_ ?_ ?_ (fun _ _ => rfl) (fun _ _ => rfl) ?_
  exact den_glob (v := (PySem.Value.ref 184)) (by kernel_rfl) (by kernel_rfl) (by kernel_rfl)
  exact keeps_K' (by kernel_rfl)
  refine' dens_cons ?_ ?_ (fun _ => rfl)
  exact den_local 4 (by kernel_rfl) (by kernel_rfl) (by kernel_rfl)
  refine' dens_cons ?_ ?_ (fun _ => rfl)
  exact den_cell 3 (by kernel_rfl) (Or.inl (by kernel_rfl)) (by kernel_rfl) (by kernel_rfl)
  exact dens_nil
  exact dks_nil
  exact FnDen.le (Mini.L1.fd_184 _) (by decide)
  refine' dss_cons ?_ ?_
  refine' ds_assign ?_ ?_ (fun _ _ => rfl) (fun _ => rfl) (fun _ => rfl)
  refine' den_meth (fun _ => rfl) ?_ (getM_str PySem.F.slot_str_join (by rfl)) ?_ ?_ ?_ (fun _ _ => rfl) (fun _ _ => rfl) ?_
  exact den_strW ⟨#[]⟩ (by kernel_rfl)
  exact keeps_builtin
  refine' dens_cons ?_ ?_ (fun _ => rfl)
  refine' den_comp (cap := [none, none, none, some 3]) ?_ ?_ (fun _ _ => rfl) ?_
  exact ⟨by rfl, by decide +kernel, by decide +kernel, by decide +kernel, by decide +kernel, capChk_ok (by kernel_rfl)⟩
  refine' den_iter ?_
  exact den_local 4 (by kernel_rfl) (by kernel_rfl) (by kernel_rfl)
  refine' loop_j rfl (by intro g' h; first | (cases h; done) | (cases h; rfl)) ?_ ?_ ?_
  exact asg_local 1 (by kernel_rfl) (by kernel_rfl)
  exact ifs_nil
  refine' body_emit rfl ?_
  refine' den_call (fv := (PySem.Value.builtin "chr")) ?_ ?_ ?_ ?_ (fun _ _ => rfl) (fun _ _ => rfl) ?_
  exact den_builtin (v := (PySem.Value.builtin "chr")) (by kernel_rfl) (by kernel_rfl) (by kernel_rfl) (by decide +kernel) (by kernel_rfl)
  exact keeps_builtin
  refine' dens_cons ?_ ?_ (fun _ => rfl)
  refine' den_bin addop_ok ?_ ?_
  refine' den_ifexp ?_ ?_ ?_
  refine' denB_cmp opB_eq ?_ ?_ (by decide) (by rfl)
  exact den_local 1 (by kernel_rfl) (by kernel_rfl) (by kernel_rfl)
  exact den_cell 3 (by kernel_rfl) (Or.inl (by kernel_rfl)) (by kernel_rfl) (by kernel_rfl)
  exact den_int
  exact den_int
  exact den_local 1 (by kernel_rfl) (by kernel_rfl) (by kernel_rfl)
  exact dens_nil
  exact dks_nil
  exact den_chr
  exact dens_nil
  exact dks_nil
  exact den_joinW
  exact asg_local 5 (by kernel_rfl) (by kernel_rfl)
  refine' dss_cons ?_ ?_
  refine' ds_assign ?_ ?_ (fun _ _ => rfl) (fun _ => rfl) (fun _ => rfl)
  refine' den_call (fv := (PySem.Value.type "int")) ?_ ?_ ?_ ?_ (fun _ _ => rfl) (fun _ _ => rfl) ?_
  exact den_builtin (v := (PySem.Value.type "int")) (by kernel_rfl) (by kernel_rfl) (by kernel_rfl) (by decide +kernel) (by kernel_rfl)
  exact keeps_type
  refine' dens_cons ?_ ?_ (fun _ => rfl)
  refine' den_meth (fun _ => rfl) ?_ (getM_inst (C := 171) (f := 118) (by kernel_rfl) (by kernel_rfl) (by kernel_rfl)) ?_ ?_ ?_ (fun _ _ => rfl) (fun _ _ => rfl) ?_
  exact den_local 0 (by kernel_rfl) (by kernel_rfl) (by kernel_rfl)
  exact keeps_K' (by kernel_rfl)
  refine' dens_cons ?_ ?_ (fun _ => rfl)
  exact den_local 5 (by kernel_rfl) (by kernel_rfl) (by kernel_rfl)
  refine' dens_cons ?_ ?_ (fun _ => rfl)
  exact den_strW ⟨#[57, 57]⟩ (by kernel_rfl)
  exact dens_nil
  exact dks_nil
  exact FnDen.le (Mini.L1.fd_118 _) (by decide)
  exact dens_nil
  exact dks_nil
  exact den_intW
  exact asg_local 6 (by kernel_rfl) (by kernel_rfl)
  refine' dss_cons ?_ ?_
  refine' ds_assign ?_ ?_ (fun _ _ => rfl) (fun _ => rfl) (fun _ => rfl)
  refine' den_call (fv := (PySem.Value.ref 202)) ?_ ?_ ?_ ?_ (fun _ _ => rfl) (fun _ _ => rfl) ?_
  exact den_glob (v := (PySem.Value.ref 202)) (by kernel_rfl) (by kernel_rfl) (by kernel_rfl)
  exact keeps_K' (by kernel_rfl)
  refine' dens_cons ?_ ?_ (fun _ => rfl)
  exact den_cell 8 (by kernel_rfl) (Or.inl (by kernel_rfl)) (by kernel_rfl) (by kernel_rfl)
  refine' dens_cons ?_ ?_ (fun _ => rfl)
  exact den_local 6 (by kernel_rfl) (by kernel_rfl) (by kernel_rfl)
  exact dens_nil
  exact dks_nil
  exact FnDen.le (Mini.L1.fd_202 _) (by decide)
  exact asg_local 7 (by kernel_rfl) (by kernel_rfl)
  refine' dss_cons ?_ ?_
  refine' ds_if ?_ ?_ ?_
  refine' denB_cmp opB_ne ?_ ?_ (by decide) (by rfl)
  refine' den_slice ?_ ?_ ?_
  exact den_cell 8 (by kernel_rfl) (Or.inl (by kernel_rfl)) (by kernel_rfl) (by kernel_rfl)
  refine' denp_some ?_
  exact den_local 7 (by kernel_rfl) (by kernel_rfl) (by kernel_rfl)
  refine' denp_some ?_
  refine' den_bin addop_ok ?_ ?_
  exact den_local 7 (by kernel_rfl) (by kernel_rfl) (by kernel_rfl)
  exact den_int
  refine' den_list ?_
  refine' dens_cons ?_ ?_ (fun _ => rfl)
  exact den_local 6 (by kernel_rfl) (by kernel_rfl) (by kernel_rfl)
  exact dens_nil
  refine' dss_cons ?_ ?_
  refine' ds_expr ?_ (fun _ => rfl)
  refine' den_meth (fun _ => rfl) ?_ (getM_list PySem.F.slot_list_insert (by rfl)) ?_ ?_ ?_ (fun _ _ => rfl) (fun _ _ => rfl) ?_
  exact den_cell 8 (by kernel_rfl) (Or.inl (by kernel_rfl)) (by kernel_rfl) (by kernel_rfl)
  exact keeps_builtin
  refine' dens_cons ?_ ?_ (fun _ => rfl)
  exact den_local 7 (by kernel_rfl) (by kernel_rfl) (by kernel_rfl)
  refine' dens_cons ?_ ?_ (fun _ => rfl)
  exact den_local 6 (by kernel_rfl) (by kernel_rfl) (by kernel_rfl)
  exact dens_nil
  exact dks_nil
  exact den_insert
  exact dss_nil
  exact dss_nil
  exact dss_nil
  exact dss_nil
  exact dss_nil
  exact dss_nil
  refine' dss_cons ?_ ?_
  refine' ds_ret ?_
  refine' Mini.L1.keycall _ 8 ?_ ?_ (fun _ _ => rfl) ?_
  exact den_glob (v := (PySem.Value.ref 202)) (by kernel_rfl) (by kernel_rfl) (by kernel_rfl)
  refine' dens_cons ?_ ?_ (fun _ => rfl)
  refine' den_call (fv := (PySem.Value.type "list")) ?_ ?_ ?_ ?_ (fun _ _ => rfl) (fun _ _ => rfl) ?_
  exact den_builtin (v := (PySem.Value.type "list")) (by kernel_rfl) (by kernel_rfl) (by kernel_rfl) (by decide +kernel) (by kernel_rfl)
  exact keeps_type
  refine' dens_cons ?_ ?_ (fun _ => rfl)
  refine' den_call (fv := (PySem.Value.type "range")) ?_ ?_ ?_ ?_ (fun _ _ => rfl) (fun _ _ => rfl) ?_
  exact den_builtin (v := (PySem.Value.type "range")) (by kernel_rfl) (by kernel_rfl) (by kernel_rfl) (by decide +kernel) (by kernel_rfl)
  exact keeps_type
  refine' dens_cons ?_ ?_ (fun _ => rfl)
  refine' den_call (fv := (PySem.Value.builtin "len")) ?_ ?_ ?_ ?_ (fun _ _ => rfl) (fun _ _ => rfl) ?_
  exact den_builtin (v := (PySem.Value.builtin "len")) (by kernel_rfl) (by kernel_rfl) (by kernel_rfl) (by decide +kernel) (by kernel_rfl)
  exact keeps_builtin
  refine' dens_cons ?_ ?_ (fun _ => rfl)
  exact den_cell 8 (by kernel_rfl) (Or.inl (by kernel_rfl)) (by kernel_rfl) (by kernel_rfl)
  exact dens_nil
  exact dks_nil
  exact den_lenS
  exact dens_nil
  exact dks_nil
  exact den_range
  exact dens_nil
  exact dks_nil
  exact den_listR
  refine' dens_cons ?_ ?_ (fun _ => rfl)
  exact den_int
  exact dens_nil
  exact ⟨by kernel_rfl, by kernel_rfl, Mini.L1.Cx.hd _, by kernel_rfl, by kernel_rfl, by kernel_rfl, by kernel_rfl, by kernel_rfl, by kernel_rfl, (by first | exact Or.inl (by kernel_rfl) | exact Or.inr (by kernel_rfl)), fun _ => by rfl, fun env cc h => closure_one (by kernel_rfl) h⟩
  exact dss_nil⟩
noncomputable def lawworth_d (c : Cx) : St → Option (Fl × St) := (lawworth_D c).1
theorem lawworth_den (c : Cx) : DenSs c.G 40 lawworth_sx lawworth_body (lawworth_d c) := (lawworth_D c).2
noncomputable def lawworth_f (c : Cx) : List MV → List (Str × MV) → MH → Option (MV × MH) := (gcF (fnD (fun xs ks H => (lawworth_bnd xs ks).map fun r => (r, H)) lawworth_m (lawworth_d c)))
theorem lawworth_code (c : Cx) : FnC c.G 41 (.ref 273) (lawworth_f c) := FnC.gc (fn_code lawworth_m (lawworth_ok c) (lawworth_bind c) (lawworth_den c))
theorem fd_273 (c : Cx) : FnDen c.G 41 (.ref 273) (lawworth_f c) := FnC.den (lawworth_code c)
end Mini.L1

open PySem PySem.W PySem.Calls PyProof.Rows
set_option maxRecDepth 100000
set_option maxHeartbeats 4000000
namespace Mini.L1

noncomputable def law_O : {o : Obj // lookO (Mini.hd1.heap_39 params0) 278 = some o} := ⟨_, rfl⟩
noncomputable def law_o : Obj := law_O.1
noncomputable def law_fd : FuncData := fdOf law_o
noncomputable def law_body : List Stmt := bodyOf law_fd
def law_params : List Str := [Str.ofString "script"]
noncomputable def law_sx : Sx := ⟨law_fd.scope, [Str.ofString "script", Str.ofString "coins", Str.ofString "v", Str.ofString "free", Str.ofString "table", Str.ofString "told", Str.ofString "z", Str.ofString "y", Str.ofString "x", Str.ofString "name", Str.ofString "plain", Str.ofString "gap", Str.ofString "gaps", Str.ofString "near", Str.ofString "far", Str.ofString "worth", Str.ofString "size", Str.ofString "low", Str.ofString "high"], [Str.ofString "coins"], .none, law_fd.qualname ++ Str.ofString ".<locals>."⟩
noncomputable def law_CO : {o : Obj // lookO (Mini.hd1.heap_39 params0) 277 = some o} := ⟨_, rfl⟩
noncomputable def law_co : Obj := law_CO.1
def law_ca : Nat := 277
def law_m : Nat := 18
noncomputable def law_s0 : Stmt := match law_body with
  | s :: _ => s
  | _ => default
noncomputable def law_for : Stmt := match law_body with
  | _ :: s :: _ => s
  | _ => default
noncomputable def law_rest : List Stmt := match law_body with
  | _ :: _ :: r => r
  | _ => []
noncomputable def law_tgt : Expr := match law_for with
  | .For t _ _ _ _ => t
  | _ => default
noncomputable def law_iter : Expr := match law_for with
  | .For _ t _ _ _ => t
  | _ => default
noncomputable def law_tbody : List Stmt := match law_for with
  | .For _ _ t _ _ => t
  | _ => default
noncomputable def law_fpos : Pos := match law_for with
  | .For _ _ _ _ p => p
  | _ => default
theorem law_body_eq : law_body = law_s0 :: .For law_tgt law_iter law_tbody [] law_fpos :: law_rest := by kernel_rfl
noncomputable def law_SD (c : Cx) : {d : St → Option (Fl × St) // DenS c.G 60 law_sx law_s0 d} := ⟨_, by
  refine' ds_assign ?_ ?_ (fun _ _ => rfl) (fun _ => rfl) (fun _ => rfl)
  refine' den_list ?_
  exact dens_nil
  exact asg_cell 1 (by kernel_rfl) (by decide +kernel)⟩
noncomputable def law_ID (c : Cx) : {d : St → Option (Src × MH) // DenI c.G 60 law_sx law_iter d} := ⟨_, by
  refine' den_iter ?_
  refine' den_bin addop_ok ?_ ?_
  refine' den_slice ?_ ?_ ?_
  exact den_local 0 (by kernel_rfl) (by kernel_rfl) (by kernel_rfl)
  exact denp_none
  refine' denp_some ?_
  exact den_int
  refine' den_slice ?_ ?_ ?_
  refine' den_list ?_
  refine' dens_cons ?_ ?_ (fun _ => rfl)
  exact den_int
  refine' dens_cons ?_ ?_ (fun _ => rfl)
  exact den_int
  refine' dens_cons ?_ ?_ (fun _ => rfl)
  exact den_int
  exact dens_nil
  refine' denp_some ?_
  refine' den_call (fv := (PySem.Value.builtin "len")) ?_ ?_ ?_ ?_ (fun _ _ => rfl) (fun _ _ => rfl) ?_
  exact den_builtin (v := (PySem.Value.builtin "len")) (by kernel_rfl) (by kernel_rfl) (by kernel_rfl) (by decide +kernel) (by kernel_rfl)
  exact keeps_builtin
  refine' dens_cons ?_ ?_ (fun _ => rfl)
  exact den_local 0 (by kernel_rfl) (by kernel_rfl) (by kernel_rfl)
  exact dens_nil
  exact dks_nil
  exact den_lenS
  exact denp_none⟩
theorem law_TG (c : Cx) : AsgT c.G 60 law_sx law_tgt (setv 2) := by
  exact asg_local 2 (by kernel_rfl) (by kernel_rfl)
noncomputable def law_ta : Stmt := match law_tbody with
  | s :: _ => s
  | _ => default
noncomputable def law_tb : Stmt := match law_tbody with
  | _ :: s :: _ => s
  | _ => default
theorem law_tbody_eq : law_tbody = [law_ta, law_tb] := by kernel_rfl
noncomputable def law_AD (c : Cx) : {d : St → Option (Fl × St) // DenS c.G 60 law_sx law_ta d} := ⟨_, by
  refine' ds_assign_comp (cap := [none, none, some 1]) 3 (by kernel_rfl) (by kernel_rfl) (fun env h => (swaps_scope (env' := dummyEnv _) h).trans (by kernel_rfl)) ?_ ?_ (fun _ _ => rfl) ?_
  exact ⟨by rfl, by decide +kernel, by decide +kernel, by decide +kernel, by decide +kernel, capChk_ok (by kernel_rfl)⟩
  refine' den_iter ?_
  refine' den_call (fv := (PySem.Value.type "range")) ?_ ?_ ?_ ?_ (fun _ _ => rfl) (fun _ _ => rfl) ?_
  exact den_builtin (v := (PySem.Value.type "range")) (by kernel_rfl) (by kernel_rfl) (by kernel_rfl) (by decide +kernel) (by kernel_rfl)
  exact keeps_type
  refine' dens_cons ?_ ?_ (fun _ => rfl)
  exact den_int
  exact dens_nil
  exact dks_nil
  exact den_range
  refine' loop_j rfl (by intro g' h; first | (cases h; done) | (cases h; rfl)) ?_ ?_ ?_
  exact asg_local 1 (by kernel_rfl) (by kernel_rfl)
  refine' ifs_one ?_
  refine' denB_cmp opB_notIn ?_ ?_ (by decide) (by rfl)
  exact den_local 1 (by kernel_rfl) (by kernel_rfl) (by kernel_rfl)
  exact den_cell 2 (by kernel_rfl) (Or.inl (by kernel_rfl)) (by kernel_rfl) (by kernel_rfl)
  refine' body_emit rfl ?_
  exact den_local 1 (by kernel_rfl) (by kernel_rfl) (by kernel_rfl)⟩
noncomputable def law_BD (c : Cx) : {d : St → Option (Fl × St) // DenS c.G 60 law_sx law_tb d} := ⟨_, by
  refine' ds_expr ?_ (fun _ => rfl)
  refine' den_call (fv := (PySem.Value.ref 184)) ?_ ?_ ?_ ?_ (fun _ _ => rfl) (fun _ _ => rfl) ?_
  exact den_glob (v := (PySem.Value.ref 184)) (by kernel_rfl) (by kernel_rfl) (by kernel_rfl)
  exact keeps_K' (by kernel_rfl)
  refine' dens_cons ?_ ?_ (fun _ => rfl)
  exact den_cell 1 (by kernel_rfl) (Or.inl (by kernel_rfl)) (by kernel_rfl) (by kernel_rfl)
  refine' dens_cons ?_ ?_ (fun _ => rfl)
  refine' den_index ?_ ?_ (fun _ _ => rfl)
  exact den_local 3 (by kernel_rfl) (by kernel_rfl) (by kernel_rfl)
  refine' den_bin modop_ok ?_ ?_
  exact den_local 2 (by kernel_rfl) (by kernel_rfl) (by kernel_rfl)
  refine' den_call (fv := (PySem.Value.builtin "len")) ?_ ?_ ?_ ?_ (fun _ _ => rfl) (fun _ _ => rfl) ?_
  exact den_builtin (v := (PySem.Value.builtin "len")) (by kernel_rfl) (by kernel_rfl) (by kernel_rfl) (by decide +kernel) (by kernel_rfl)
  exact keeps_builtin
  refine' dens_cons ?_ ?_ (fun _ => rfl)
  exact den_local 3 (by kernel_rfl) (by kernel_rfl) (by kernel_rfl)
  exact dens_nil
  exact dks_nil
  exact den_lenS
  exact dens_nil
  exact dks_nil
  exact FnDen.le (Mini.L1.fd_184 _) (by decide)⟩
noncomputable def law_RD (c : Cx) : {d : St → Option (Fl × St) // DenSs c.G 60 law_sx law_rest d} := ⟨_, by
  refine' dss_cons ?_ ?_
  refine' ds_assign ?_ ?_ (fun _ _ => rfl) (fun _ => rfl) (fun _ => rfl)
  refine' den_call (fv := (PySem.Value.ref 171)) ?_ ?_ ?_ ?_ (fun _ _ => rfl) (fun _ _ => rfl) ?_
  exact den_glob (v := (PySem.Value.ref 171)) (by kernel_rfl) (by kernel_rfl) (by kernel_rfl)
  exact keeps_K' (by kernel_rfl)
  exact dens_nil
  exact dks_nil
  exact FnDen.le (Mini.L1.fd_171 _) (by decide)
  exact asg_local 4 (by kernel_rfl) (by kernel_rfl)
  refine' dss_cons ?_ ?_
  refine' ds_assign ?_ ?_ (fun _ _ => rfl) (fun _ => rfl) (fun _ => rfl)
  refine' den_list ?_
  exact dens_nil
  exact asg_local 5 (by kernel_rfl) (by kernel_rfl)
  refine' dss_cons ?_ ?_
  refine' ds_for ?_ ?_ ?_ (fun _ _ => rfl)
  refine' den_iter ?_
  refine' den_call (fv := (PySem.Value.type "range")) ?_ ?_ ?_ ?_ (fun _ _ => rfl) (fun _ _ => rfl) ?_
  exact den_builtin (v := (PySem.Value.type "range")) (by kernel_rfl) (by kernel_rfl) (by kernel_rfl) (by decide +kernel) (by kernel_rfl)
  exact keeps_type
  refine' dens_cons ?_ ?_ (fun _ => rfl)
  refine' den_bin addop_ok ?_ ?_
  refine' den_index ?_ ?_ (fun _ _ => rfl)
  exact den_cell 1 (by kernel_rfl) (Or.inl (by kernel_rfl)) (by kernel_rfl) (by kernel_rfl)
  exact den_int
  exact den_int
  exact dens_nil
  exact dks_nil
  exact den_range
  exact asg_local 6 (by kernel_rfl) (by kernel_rfl)
  refine' dss_cons ?_ ?_
  refine' ds_for ?_ ?_ ?_ (fun _ _ => rfl)
  refine' den_iter ?_
  refine' den_call (fv := (PySem.Value.type "range")) ?_ ?_ ?_ ?_ (fun _ _ => rfl) (fun _ _ => rfl) ?_
  exact den_builtin (v := (PySem.Value.type "range")) (by kernel_rfl) (by kernel_rfl) (by kernel_rfl) (by decide +kernel) (by kernel_rfl)
  exact keeps_type
  refine' dens_cons ?_ ?_ (fun _ => rfl)
  refine' den_call (fv := (PySem.Value.builtin "min")) ?_ ?_ ?_ ?_ (fun _ _ => rfl) (fun _ _ => rfl) ?_
  exact den_builtin (v := (PySem.Value.builtin "min")) (by kernel_rfl) (by kernel_rfl) (by kernel_rfl) (by decide +kernel) (by kernel_rfl)
  exact keeps_builtin
  refine' dens_cons ?_ ?_ (fun _ => rfl)
  exact den_local 6 (by kernel_rfl) (by kernel_rfl) (by kernel_rfl)
  refine' dens_cons ?_ ?_ (fun _ => rfl)
  refine' den_bin addop_ok ?_ ?_
  refine' den_index ?_ ?_ (fun _ _ => rfl)
  exact den_cell 1 (by kernel_rfl) (Or.inl (by kernel_rfl)) (by kernel_rfl) (by kernel_rfl)
  exact den_int
  exact den_int
  exact dens_nil
  exact dks_nil
  exact den_min
  exact dens_nil
  exact dks_nil
  exact den_range
  exact asg_local 7 (by kernel_rfl) (by kernel_rfl)
  refine' dss_cons ?_ ?_
  refine' ds_for ?_ ?_ ?_ (fun _ _ => rfl)
  refine' den_iter ?_
  refine' den_call (fv := (PySem.Value.type "range")) ?_ ?_ ?_ ?_ (fun _ _ => rfl) (fun _ _ => rfl) ?_
  exact den_builtin (v := (PySem.Value.type "range")) (by kernel_rfl) (by kernel_rfl) (by kernel_rfl) (by decide +kernel) (by kernel_rfl)
  exact keeps_type
  refine' dens_cons ?_ ?_ (fun _ => rfl)
  refine' den_call (fv := (PySem.Value.builtin "min")) ?_ ?_ ?_ ?_ (fun _ _ => rfl) (fun _ _ => rfl) ?_
  exact den_builtin (v := (PySem.Value.builtin "min")) (by kernel_rfl) (by kernel_rfl) (by kernel_rfl) (by decide +kernel) (by kernel_rfl)
  exact keeps_builtin
  refine' dens_cons ?_ ?_ (fun _ => rfl)
  exact den_local 7 (by kernel_rfl) (by kernel_rfl) (by kernel_rfl)
  refine' dens_cons ?_ ?_ (fun _ => rfl)
  refine' den_bin addop_ok ?_ ?_
  refine' den_index ?_ ?_ (fun _ _ => rfl)
  exact den_cell 1 (by kernel_rfl) (Or.inl (by kernel_rfl)) (by kernel_rfl) (by kernel_rfl)
  exact den_int
  exact den_int
  exact dens_nil
  exact dks_nil
  exact den_min
  exact dens_nil
  exact dks_nil
  exact den_range
  exact asg_local 8 (by kernel_rfl) (by kernel_rfl)
  refine' dss_cons ?_ ?_
  refine' ds_assign ?_ ?_ (fun _ _ => rfl) (fun _ => rfl) (fun _ => rfl)
  refine' den_bin addop_ok ?_ ?_
  refine' den_bin addop_ok ?_ ?_
  refine' den_call (fv := (PySem.Value.builtin "chr")) ?_ ?_ ?_ ?_ (fun _ _ => rfl) (fun _ _ => rfl) ?_
  exact den_builtin (v := (PySem.Value.builtin "chr")) (by kernel_rfl) (by kernel_rfl) (by kernel_rfl) (by decide +kernel) (by kernel_rfl)
  exact keeps_builtin
  refine' dens_cons ?_ ?_ (fun _ => rfl)
  refine' den_bin addop_ok ?_ ?_
  exact den_int
  exact den_local 8 (by kernel_rfl) (by kernel_rfl) (by kernel_rfl)
  exact dens_nil
  exact dks_nil
  exact den_chr
  refine' den_call (fv := (PySem.Value.builtin "chr")) ?_ ?_ ?_ ?_ (fun _ _ => rfl) (fun _ _ => rfl) ?_
  exact den_builtin (v := (PySem.Value.builtin "chr")) (by kernel_rfl) (by kernel_rfl) (by kernel_rfl) (by decide +kernel) (by kernel_rfl)
  exact keeps_builtin
  refine' dens_cons ?_ ?_ (fun _ => rfl)
  refine' den_bin addop_ok ?_ ?_
  exact den_int
  exact den_local 7 (by kernel_rfl) (by kernel_rfl) (by kernel_rfl)
  exact dens_nil
  exact dks_nil
  exact den_chr
  refine' den_call (fv := (PySem.Value.builtin "chr")) ?_ ?_ ?_ ?_ (fun _ _ => rfl) (fun _ _ => rfl) ?_
  exact den_builtin (v := (PySem.Value.builtin "chr")) (by kernel_rfl) (by kernel_rfl) (by kernel_rfl) (by decide +kernel) (by kernel_rfl)
  exact keeps_builtin
  refine' dens_cons ?_ ?_ (fun _ => rfl)
  refine' den_bin addop_ok ?_ ?_
  exact den_int
  exact den_local 6 (by kernel_rfl) (by kernel_rfl) (by kernel_rfl)
  exact dens_nil
  exact dks_nil
  exact den_chr
  exact asg_local 9 (by kernel_rfl) (by kernel_rfl)
  refine' dss_cons ?_ ?_
  refine' ds_assign ?_ ?_ (fun _ _ => rfl) (fun _ => rfl) (fun _ => rfl)
  refine' den_call (fv := (PySem.Value.type "str")) ?_ ?_ ?_ ?_ (fun _ _ => rfl) (fun _ _ => rfl) ?_
  exact den_builtin (v := (PySem.Value.type "str")) (by kernel_rfl) (by kernel_rfl) (by kernel_rfl) (by decide +kernel) (by kernel_rfl)
  exact keeps_type
  refine' dens_cons ?_ ?_ (fun _ => rfl)
  refine' den_call (fv := (PySem.Value.ref 273)) ?_ ?_ ?_ ?_ (fun _ _ => rfl) (fun _ _ => rfl) ?_
  exact den_glob (v := (PySem.Value.ref 273)) (by kernel_rfl) (by kernel_rfl) (by kernel_rfl)
  exact keeps_K' (by kernel_rfl)
  refine' dens_cons ?_ ?_ (fun _ => rfl)
  exact den_local 4 (by kernel_rfl) (by kernel_rfl) (by kernel_rfl)
  refine' dens_cons ?_ ?_ (fun _ => rfl)
  refine' den_list ?_
  refine' dens_cons ?_ ?_ (fun _ => rfl)
  exact den_local 8 (by kernel_rfl) (by kernel_rfl) (by kernel_rfl)
  refine' dens_cons ?_ ?_ (fun _ => rfl)
  exact den_local 7 (by kernel_rfl) (by kernel_rfl) (by kernel_rfl)
  refine' dens_cons ?_ ?_ (fun _ => rfl)
  exact den_local 6 (by kernel_rfl) (by kernel_rfl) (by kernel_rfl)
  exact dens_nil
  exact dens_nil
  exact dks_nil
  exact FnDen.le (Mini.L1.fd_273 _) (by decide)
  exact dens_nil
  exact dks_nil
  exact den_strW2 (by decide)
  refine' asg_own (C := 171) (f := 84) ?_ ?_ (by kernel_rfl) (by kernel_rfl) (by kernel_rfl) ?_
  exact den_local 4 (by kernel_rfl) (by kernel_rfl) (by kernel_rfl)
  exact den_local 9 (by kernel_rfl) (by kernel_rfl) (by kernel_rfl)
  exact FnDen.le (Mini.L1.fd_84 _) (by decide)
  refine' dss_cons ?_ ?_
  refine' ds_assign ?_ ?_ (fun _ _ => rfl) (fun _ => rfl) (fun _ => rfl)
  refine' den_bin xorop_ok ?_ ?_
  refine' den_bin xorop_ok ?_ ?_
  exact den_local 8 (by kernel_rfl) (by kernel_rfl) (by kernel_rfl)
  exact den_local 7 (by kernel_rfl) (by kernel_rfl) (by kernel_rfl)
  exact den_local 6 (by kernel_rfl) (by kernel_rfl) (by kernel_rfl)
  exact asg_local 10 (by kernel_rfl) (by kernel_rfl)
  refine' dss_cons ?_ ?_
  refine' ds_for ?_ ?_ ?_ (fun _ _ => rfl)
  refine' den_iter ?_
  refine' den_list ?_
  refine' dens_cons ?_ ?_ (fun _ => rfl)
  refine' den_bin subop_ok ?_ ?_
  exact den_local 7 (by kernel_rfl) (by kernel_rfl) (by kernel_rfl)
  exact den_local 8 (by kernel_rfl) (by kernel_rfl) (by kernel_rfl)
  refine' dens_cons ?_ ?_ (fun _ => rfl)
  refine' den_bin subop_ok ?_ ?_
  exact den_local 6 (by kernel_rfl) (by kernel_rfl) (by kernel_rfl)
  exact den_local 8 (by kernel_rfl) (by kernel_rfl) (by kernel_rfl)
  refine' dens_cons ?_ ?_ (fun _ => rfl)
  refine' den_bin subop_ok ?_ ?_
  exact den_local 6 (by kernel_rfl) (by kernel_rfl) (by kernel_rfl)
  exact den_local 7 (by kernel_rfl) (by kernel_rfl) (by kernel_rfl)
  exact dens_nil
  exact asg_local 11 (by kernel_rfl) (by kernel_rfl)
  refine' dss_cons ?_ ?_
  refine' ds_assign ?_ ?_ (fun _ _ => rfl) (fun _ => rfl) (fun _ => rfl)
  refine' den_bin xorop_ok ?_ ?_
  refine' den_bin xorop_ok ?_ ?_
  exact den_local 10 (by kernel_rfl) (by kernel_rfl) (by kernel_rfl)
  exact den_local 11 (by kernel_rfl) (by kernel_rfl) (by kernel_rfl)
  refine' den_bin subop_ok ?_ ?_
  exact den_local 11 (by kernel_rfl) (by kernel_rfl) (by kernel_rfl)
  exact den_int
  exact asg_local 10 (by kernel_rfl) (by kernel_rfl)
  exact dss_nil
  refine' dss_cons ?_ ?_
  refine' ds_expr ?_ (fun _ => rfl)
  refine' den_meth (fun _ => rfl) ?_ (getM_list slot_list_append (by rfl)) ?_ ?_ ?_ (fun _ _ => rfl) (fun _ _ => rfl) ?_
  exact den_local 5 (by kernel_rfl) (by kernel_rfl) (by kernel_rfl)
  exact keeps_builtin
  refine' dens_cons ?_ ?_ (fun _ => rfl)
  refine' den_tuple ?_
  refine' dens_cons ?_ ?_ (fun _ => rfl)
  exact den_local 9 (by kernel_rfl) (by kernel_rfl) (by kernel_rfl)
  refine' dens_cons ?_ ?_ (fun _ => rfl)
  refine' den_call (fv := (PySem.Value.type "str")) ?_ ?_ ?_ ?_ (fun _ _ => rfl) (fun _ _ => rfl) ?_
  exact den_builtin (v := (PySem.Value.type "str")) (by kernel_rfl) (by kernel_rfl) (by kernel_rfl) (by decide +kernel) (by kernel_rfl)
  exact keeps_type
  refine' dens_cons ?_ ?_ (fun _ => rfl)
  exact den_local 10 (by kernel_rfl) (by kernel_rfl) (by kernel_rfl)
  exact dens_nil
  exact dks_nil
  exact den_strW2 (by decide)
  exact dens_nil
  exact dens_nil
  exact dks_nil
  exact den_append
  exact dss_nil
  exact dss_nil
  exact dss_nil
  refine' dss_cons ?_ ?_
  refine' ds_if ?_ ?_ ?_
  refine' denB_cmp opB_ne ?_ ?_ (by decide) (by rfl)
  refine' den_call (fv := (PySem.Value.type "str")) ?_ ?_ ?_ ?_ (fun _ _ => rfl) (fun _ _ => rfl) ?_
  exact den_builtin (v := (PySem.Value.type "str")) (by kernel_rfl) (by kernel_rfl) (by kernel_rfl) (by decide +kernel) (by kernel_rfl)
  exact keeps_type
  refine' dens_cons ?_ ?_ (fun _ => rfl)
  refine' den_meth (fun _ => rfl) ?_ (getM_inst (C := 171) (f := 135) (by kernel_rfl) (by kernel_rfl) (by kernel_rfl)) ?_ ?_ ?_ (fun _ _ => rfl) (fun _ _ => rfl) ?_
  exact den_local 4 (by kernel_rfl) (by kernel_rfl) (by kernel_rfl)
  exact keeps_K' (by kernel_rfl)
  exact dens_nil
  exact dks_nil
  exact FnDen.le (Mini.L1.fd_135 _) (by decide)
  exact dens_nil
  exact dks_nil
  exact den_strW2 (by decide)
  refine' den_call (fv := (PySem.Value.type "str")) ?_ ?_ ?_ ?_ (fun _ _ => rfl) (fun _ _ => rfl) ?_
  exact den_builtin (v := (PySem.Value.type "str")) (by kernel_rfl) (by kernel_rfl) (by kernel_rfl) (by decide +kernel) (by kernel_rfl)
  exact keeps_type
  refine' dens_cons ?_ ?_ (fun _ => rfl)
  exact den_local 5 (by kernel_rfl) (by kernel_rfl) (by kernel_rfl)
  exact dens_nil
  exact dks_nil
  exact den_strW2 (by decide)
  refine' dss_cons ?_ ?_
  refine' ds_ret ?_
  exact den_bool
  exact dss_nil
  exact dss_nil
  refine' dss_cons ?_ ?_
  refine' ds_assign ?_ ?_ (fun _ _ => rfl) (fun _ => rfl) (fun _ => rfl)
  refine' den_list ?_
  refine' dens_cons ?_ ?_ (fun _ => rfl)
  refine' den_bin subop_ok ?_ ?_
  refine' den_index ?_ ?_ (fun _ _ => rfl)
  exact den_cell 1 (by kernel_rfl) (Or.inl (by kernel_rfl)) (by kernel_rfl) (by kernel_rfl)
  exact den_int
  refine' den_index ?_ ?_ (fun _ _ => rfl)
  exact den_cell 1 (by kernel_rfl) (Or.inl (by kernel_rfl)) (by kernel_rfl) (by kernel_rfl)
  exact den_int
  refine' dens_cons ?_ ?_ (fun _ => rfl)
  refine' den_bin subop_ok ?_ ?_
  refine' den_index ?_ ?_ (fun _ _ => rfl)
  exact den_cell 1 (by kernel_rfl) (Or.inl (by kernel_rfl)) (by kernel_rfl) (by kernel_rfl)
  exact den_int
  refine' den_index ?_ ?_ (fun _ _ => rfl)
  exact den_cell 1 (by kernel_rfl) (Or.inl (by kernel_rfl)) (by kernel_rfl) (by kernel_rfl)
  exact den_int
  refine' dens_cons ?_ ?_ (fun _ => rfl)
  refine' den_bin subop_ok ?_ ?_
  refine' den_index ?_ ?_ (fun _ _ => rfl)
  exact den_cell 1 (by kernel_rfl) (Or.inl (by kernel_rfl)) (by kernel_rfl) (by kernel_rfl)
  exact den_int
  refine' den_index ?_ ?_ (fun _ _ => rfl)
  exact den_cell 1 (by kernel_rfl) (Or.inl (by kernel_rfl)) (by kernel_rfl) (by kernel_rfl)
  exact den_int
  exact dens_nil
  exact asg_local 12 (by kernel_rfl) (by kernel_rfl)
  refine' dss_cons ?_ ?_
  refine' ds_assign ?_ ?_ (fun _ _ => rfl) (fun _ => rfl) (fun _ => rfl)
  refine' den_call (fv := (PySem.Value.ref 264)) ?_ ?_ ?_ ?_ (fun _ _ => rfl) (fun _ _ => rfl) ?_
  exact den_glob (v := (PySem.Value.ref 264)) (by kernel_rfl) (by kernel_rfl) (by kernel_rfl)
  exact keeps_K' (by kernel_rfl)
  refine' dens_cons ?_ ?_ (fun _ => rfl)
  refine' den_meth (fun _ => rfl) ?_ (getM_str PySem.F.slot_str_join (by rfl)) ?_ ?_ ?_ (fun _ _ => rfl) (fun _ _ => rfl) ?_
  exact den_strW ⟨#[]⟩ (by kernel_rfl)
  exact keeps_builtin
  refine' dens_cons ?_ ?_ (fun _ => rfl)
  refine' den_comp (cap := [none, none]) ?_ ?_ (fun _ _ => rfl) ?_
  exact ⟨by rfl, by decide +kernel, by decide +kernel, by decide +kernel, by decide +kernel, capChk_ok (by kernel_rfl)⟩
  refine' den_iter ?_
  exact den_local 12 (by kernel_rfl) (by kernel_rfl) (by kernel_rfl)
  refine' loop_j rfl (by intro g' h; first | (cases h; done) | (cases h; rfl)) ?_ ?_ ?_
  exact asg_local 1 (by kernel_rfl) (by kernel_rfl)
  exact ifs_nil
  refine' body_emit rfl ?_
  refine' den_bin addop_ok ?_ ?_
  refine' den_bin mulop_ok ?_ ?_
  exact den_strW ⟨#[32]⟩ (by kernel_rfl)
  refine' den_bin subop_ok ?_ ?_
  exact den_local 1 (by kernel_rfl) (by kernel_rfl) (by kernel_rfl)
  exact den_int
  exact den_strW ⟨#[9]⟩ (by kernel_rfl)
  exact dens_nil
  exact dks_nil
  exact den_joinW
  exact dens_nil
  exact dks_nil
  exact FnDen.le (Mini.L1.fd_264 _) (by decide)
  exact asg_local 13 (by kernel_rfl) (by kernel_rfl)
  refine' dss_cons ?_ ?_
  refine' ds_assign ?_ ?_ (fun _ _ => rfl) (fun _ => rfl) (fun _ => rfl)
  refine' den_call (fv := (PySem.Value.ref 264)) ?_ ?_ ?_ ?_ (fun _ _ => rfl) (fun _ _ => rfl) ?_
  exact den_glob (v := (PySem.Value.ref 264)) (by kernel_rfl) (by kernel_rfl) (by kernel_rfl)
  exact keeps_K' (by kernel_rfl)
  refine' dens_cons ?_ ?_ (fun _ => rfl)
  refine' den_meth (fun _ => rfl) ?_ (getM_str PySem.F.slot_str_join (by rfl)) ?_ ?_ ?_ (fun _ _ => rfl) (fun _ _ => rfl) ?_
  exact den_strW ⟨#[]⟩ (by kernel_rfl)
  exact keeps_builtin
  refine' dens_cons ?_ ?_ (fun _ => rfl)
  refine' den_comp (cap := [none, none]) ?_ ?_ (fun _ _ => rfl) ?_
  exact ⟨by rfl, by decide +kernel, by decide +kernel, by decide +kernel, by decide +kernel, capChk_ok (by kernel_rfl)⟩
  refine' den_iter ?_
  exact den_local 12 (by kernel_rfl) (by kernel_rfl) (by kernel_rfl)
  refine' loop_j rfl (by intro g' h; first | (cases h; done) | (cases h; rfl)) ?_ ?_ ?_
  exact asg_local 1 (by kernel_rfl) (by kernel_rfl)
  exact ifs_nil
  refine' body_emit rfl ?_
  refine' den_bin addop_ok ?_ ?_
  refine' den_bin mulop_ok ?_ ?_
  exact den_strW ⟨#[32]⟩ (by kernel_rfl)
  exact den_local 1 (by kernel_rfl) (by kernel_rfl) (by kernel_rfl)
  exact den_strW ⟨#[9]⟩ (by kernel_rfl)
  exact dens_nil
  exact dks_nil
  exact den_joinW
  exact dens_nil
  exact dks_nil
  exact FnDen.le (Mini.L1.fd_264 _) (by decide)
  exact asg_local 14 (by kernel_rfl) (by kernel_rfl)
  refine' dss_cons ?_ ?_
  refine' ds_assign ?_ ?_ (fun _ _ => rfl) (fun _ => rfl) (fun _ => rfl)
  refine' den_bin xorop_ok ?_ ?_
  refine' den_bin xorop_ok ?_ ?_
  refine' den_index ?_ ?_ (fun _ _ => rfl)
  exact den_cell 1 (by kernel_rfl) (Or.inl (by kernel_rfl)) (by kernel_rfl) (by kernel_rfl)
  exact den_int
  refine' den_index ?_ ?_ (fun _ _ => rfl)
  exact den_cell 1 (by kernel_rfl) (Or.inl (by kernel_rfl)) (by kernel_rfl) (by kernel_rfl)
  exact den_int
  refine' den_index ?_ ?_ (fun _ _ => rfl)
  exact den_cell 1 (by kernel_rfl) (Or.inl (by kernel_rfl)) (by kernel_rfl) (by kernel_rfl)
  exact den_int
  exact asg_local 15 (by kernel_rfl) (by kernel_rfl)
  refine' dss_cons ?_ ?_
  refine' ds_for ?_ ?_ ?_ (fun _ _ => rfl)
  refine' den_iter ?_
  refine' den_meth (fun _ => rfl) ?_ (getM_inst (C := 264) (f := 247) (by kernel_rfl) (by kernel_rfl) (by kernel_rfl)) ?_ ?_ ?_ (fun _ _ => rfl) (fun _ _ => rfl) ?_
  exact den_local 13 (by kernel_rfl) (by kernel_rfl) (by kernel_rfl)
  exact keeps_K' (by kernel_rfl)
  refine' dens_cons ?_ ?_ (fun _ => rfl)
  exact den_local 14 (by kernel_rfl) (by kernel_rfl) (by kernel_rfl)
  exact dens_nil
  exact dks_nil
  exact FnDen.le (Mini.L1.fd_247 _) (by decide)
  refine' asg_tuple (n := 3) ?_ (fun _ => rfl) (fun _ => rfl)
  refine' asgs_cons ?_ ?_ (fun _ => rfl)
  exact asg_local 16 (by kernel_rfl) (by kernel_rfl)
  refine' asgs_cons ?_ ?_ (fun _ => rfl)
  exact asg_local 17 (by kernel_rfl) (by kernel_rfl)
  refine' asgs_cons ?_ ?_ (fun _ => rfl)
  exact asg_local 18 (by kernel_rfl) (by kernel_rfl)
  exact asgs_nil
  refine' dss_cons ?_ ?_
  refine' ds_if ?_ ?_ ?_
  refine' denB_and2 ?_ ?_
  refine' denB_cmp opB_in ?_ ?_ (by decide) (by rfl)
  exact den_local 16 (by kernel_rfl) (by kernel_rfl) (by kernel_rfl)
  refine' den_list ?_
  refine' dens_cons ?_ ?_ (fun _ => rfl)
  exact den_int
  refine' dens_cons ?_ ?_ (fun _ => rfl)
  exact den_int
  refine' dens_cons ?_ ?_ (fun _ => rfl)
  exact den_int
  exact dens_nil
  refine' denB_cmp opB_eq ?_ ?_ (by decide) (by rfl)
  refine' den_bin modop_ok ?_ ?_
  refine' den_bin fdivop_ok ?_ ?_
  refine' den_bin subop_ok ?_ ?_
  exact den_local 18 (by kernel_rfl) (by kernel_rfl) (by kernel_rfl)
  exact den_local 17 (by kernel_rfl) (by kernel_rfl) (by kernel_rfl)
  exact den_local 16 (by kernel_rfl) (by kernel_rfl) (by kernel_rfl)
  exact den_int
  exact den_int
  refine' dss_cons ?_ ?_
  refine' ds_assign ?_ ?_ (fun _ _ => rfl) (fun _ => rfl) (fun _ => rfl)
  refine' den_bin xorop_ok ?_ ?_
  exact den_local 15 (by kernel_rfl) (by kernel_rfl) (by kernel_rfl)
  exact den_local 16 (by kernel_rfl) (by kernel_rfl) (by kernel_rfl)
  exact asg_local 15 (by kernel_rfl) (by kernel_rfl)
  exact dss_nil
  exact dss_nil
  exact dss_nil
  refine' dss_cons ?_ ?_
  refine' ds_ret ?_
  refine' den_cmp opB_eq ?_ ?_ (by decide) (by rfl)
  refine' den_meth (fun _ => rfl) ?_ (getM_inst (C := 171) (f := 118) (by kernel_rfl) (by kernel_rfl) (by kernel_rfl)) ?_ ?_ ?_ (fun _ _ => rfl) (fun _ _ => rfl) ?_
  exact den_local 4 (by kernel_rfl) (by kernel_rfl) (by kernel_rfl)
  exact keeps_K' (by kernel_rfl)
  refine' dens_cons ?_ ?_ (fun _ => rfl)
  refine' den_meth (fun _ => rfl) ?_ (getM_str PySem.F.slot_str_join (by rfl)) ?_ ?_ ?_ (fun _ _ => rfl) (fun _ _ => rfl) ?_
  exact den_strW ⟨#[]⟩ (by kernel_rfl)
  exact keeps_builtin
  refine' dens_cons ?_ ?_ (fun _ => rfl)
  refine' den_comp (cap := [none, none, none]) ?_ ?_ (fun _ _ => rfl) ?_
  exact ⟨by rfl, by decide +kernel, by decide +kernel, by decide +kernel, by decide +kernel, capChk_ok (by kernel_rfl)⟩
  refine' den_iter ?_
  exact den_cell 1 (by kernel_rfl) (Or.inl (by kernel_rfl)) (by kernel_rfl) (by kernel_rfl)
  refine' loop_j rfl (by intro g' h; first | (cases h; done) | (cases h; rfl)) ?_ ?_ ?_
  exact asg_local 1 (by kernel_rfl) (by kernel_rfl)
  exact ifs_nil
  refine' body_emit rfl ?_
  refine' den_call (fv := (PySem.Value.builtin "chr")) ?_ ?_ ?_ ?_ (fun _ _ => rfl) (fun _ _ => rfl) ?_
  exact den_builtin (v := (PySem.Value.builtin "chr")) (by kernel_rfl) (by kernel_rfl) (by kernel_rfl) (by decide +kernel) (by kernel_rfl)
  exact keeps_builtin
  refine' dens_cons ?_ ?_ (fun _ => rfl)
  refine' den_bin addop_ok ?_ ?_
  exact den_int
  exact den_local 1 (by kernel_rfl) (by kernel_rfl) (by kernel_rfl)
  exact dens_nil
  exact dks_nil
  exact den_chr
  exact dens_nil
  exact dks_nil
  exact den_joinW
  exact dens_nil
  exact dks_nil
  exact FnDen.le (Mini.L1.fd_118 _) (by decide)
  refine' den_call (fv := (PySem.Value.type "str")) ?_ ?_ ?_ ?_ (fun _ _ => rfl) (fun _ _ => rfl) ?_
  exact den_builtin (v := (PySem.Value.type "str")) (by kernel_rfl) (by kernel_rfl) (by kernel_rfl) (by decide +kernel) (by kernel_rfl)
  exact keeps_type
  refine' dens_cons ?_ ?_ (fun _ => rfl)
  exact den_local 15 (by kernel_rfl) (by kernel_rfl) (by kernel_rfl)
  exact dens_nil
  exact dks_nil
  exact den_strW2 (by decide)
  exact dss_nil⟩
noncomputable def law_S (c : Cx) : St → Option (Fl × St) := (law_SD c).1
noncomputable def law_I (c : Cx) : St → Option (Src × MH) := (law_ID c).1
noncomputable def law_A (c : Cx) : St → Option (Fl × St) := (law_AD c).1
noncomputable def law_B (c : Cx) : St → Option (Fl × St) := (law_BD c).1
noncomputable def law_T (c : Cx) : St → Option (Fl × St) := seqS (law_A c) (seqS (law_B c) nilS)
theorem law_TT (c : Cx) : DenSs c.G 60 law_sx law_tbody (law_T c) := by
  rw [law_tbody_eq]
  exact dss_cons (law_AD c).2 (dss_cons (law_BD c).2 dss_nil)
noncomputable def law_R (c : Cx) : St → Option (Fl × St) := (law_RD c).1
noncomputable def law_d (c : Cx) : St → Option (Fl × St) := seqS (law_S c) (seqF 1 1 (forS law_tgt (law_I c) (setv 2) (law_T c)) (law_R c))
theorem law_den (c : Cx) : DenSs c.G 60 law_sx law_body (law_d c) := by
  rw [law_body_eq]
  exact dss_cons (law_SD c).2 (dss_forget 1 1 (ds_for (law_ID c).2 (law_TG c) (law_TT c) (fun _ _ => rfl)) (law_RD c).2)
end Mini.L1

open PySem PySem.W PySem.Calls PyProof.Rows
set_option maxRecDepth 1000000
set_option maxHeartbeats 4000000
namespace Mini.L1
noncomputable section Q
def lenE (c : Cx) (st : St) : Option (MV × MH) := ((fun st => ((fun st => (getv st 3).bind fun p => (some (([] : List MV), ({ vs := st.vs, H := p.2 } : St).H)).bind fun q => some (p.1 :: q.1, q.2)) st).bind fun p => (some (([] : List (Str × MV)), ({ vs := st.vs, H := p.2 } : St).H)).bind fun q => lenS c.G p.1 q.1 q.2) : St → Option (MV × MH)) st
def law_F (c : Cx) (d : St → Option (MV × MH)) (st : St) : Option (Fl × St) := exprS (fun st => ((fun st => (getv st 1).bind fun p => ((fun st => (seq2 (fun st => getv st 3) d (itemop c.G) st).bind fun p => (some (([] : List MV), ({ vs := st.vs, H := p.2 } : St).H)).bind fun q => some (p.1 :: q.1, q.2)) ({ vs := st.vs, H := p.2 } : St)).bind fun q => some (p.1 :: q.1, q.2)) st).bind fun p => (some (([] : List (Str × MV)), ({ vs := st.vs, H := p.2 } : St).H)).bind fun q => insort_right_f c p.1 q.1 q.2) st
theorem law_B_eq (c : Cx) : law_B c = law_F c (seq2 (fun st => getv st 2) (lenE c) modop) := by kernel_rfl
theorem F_congr (c : Cx) {d d' : St → Option (MV × MH)} {st : St} (h : d st = d' st) : law_F c d st = law_F c d' st := by
  obtain ⟨vs, H⟩ := st
  unfold law_F exprS
  dsimp only
  cases h1 : getv ⟨vs, H⟩ 1 with
  | none => rfl
  | some p =>
    obtain ⟨x, H1⟩ := p
    obtain ⟨_, e, _⟩ := getv_some h1
    have e : H1 = H := e
    subst H1
    show Option.map _ (Option.bind (Option.bind (Option.bind (seq2 _ d _ ⟨vs, H⟩) _) _) _) = Option.map _ (Option.bind (Option.bind (Option.bind (seq2 _ d' _ ⟨vs, H⟩) _) _) _)
    have : seq2 (fun st => getv st 3) d (itemop c.G) ⟨vs, H⟩ = seq2 (fun st => getv st 3) d' (itemop c.G) ⟨vs, H⟩ := by
      unfold seq2
      cases h3 : getv ⟨vs, H⟩ 3 with
      | none => dsimp only; rw [h3]; rfl
      | some p =>
        obtain ⟨y, H3⟩ := p
        obtain ⟨_, e, _⟩ := getv_some h3
        have e : H3 = H := e
        subst H3
        dsimp only; rw [h3]
        show Option.bind (d ⟨vs, H⟩) _ = Option.bind (d' ⟨vs, H⟩) _
        rw [h]
    rw [this]
def constE (r : Int) (st : St) : Option (MV × MH) := some (.int r, st.H)
def turnR (c : Cx) (r : Int) : St → Option (Fl × St) := seqS (law_A c) (seqS (law_F c (constE r)) nilS)
def runS (o : Option (Fl × St)) (st : St) : St := match o with
  | some (.next, s) => s
  | _ => st
def inSt (v : Int) (st : St) : St := ⟨setN st.vs 2 (some (.int v)), st.H⟩
def nx (c : Cx) (r v : Int) (st : St) : St := runS (turnR c r (inSt v st)) (inSt v st)
/-- one turn of the first loop -/
structure TurnOk (c : Cx) (i : Nat) (v m r : Int) (xs : List MV) (st : St) : Prop where
  ta : law_A c (inSt v st) = some (.next, runS (law_A c (inSt v st)) (inSt v st))
  tv : getv (runS (law_A c (inSt v st)) (inSt v st)) 2 = some (.int v, (runS (law_A c (inSt v st)) (inSt v st)).H)
  tl : lenE c (runS (law_A c (inSt v st)) (inSt v st)) = some (.int m, (runS (law_A c (inSt v st)) (inSt v st)).H)
  tt : turnR c r (inSt v st) = some (.next, nx c r v st)
  ts : st.H.get 5 = some (.list xs)
  tx : xs[i]? = some (.int v)
theorem turn_eq {c : Cx} {i : Nat} {v m r : Int} {xs : List MV} {st : St} (T : TurnOk c i v m r xs st) (hm : m ≠ 0) (hr : v.fmod m = r) : law_T c (inSt v st) = some (.next, nx c r v st) := by
  rw [← T.tt]
  unfold law_T turnR
  have key : law_B c (runS (law_A c (inSt v st)) (inSt v st)) = law_F c (constE r) (runS (law_A c (inSt v st)) (inSt v st)) := by
    rw [law_B_eq]
    refine F_congr c ?_
    unfold seq2
    dsimp only
    rw [T.tv]
    show Option.bind (lenE c (runS (law_A c (inSt v st)) (inSt v st))) _ = _
    rw [T.tl]
    show modop (.int v) (.int m) _ = _
    unfold modop
    dsimp only
    rw [if_pos hm, hr]; rfl
  show Option.bind (law_A c (inSt v st)) _ = Option.bind (law_A c (inSt v st)) _
  rw [T.ta]
  show Option.bind (law_B c (runS (law_A c (inSt v st)) (inSt v st))) _ = Option.bind (law_F c (constE r) (runS (law_A c (inSt v st)) (inSt v st))) _
  rw [key]
theorem forD_turn {c : Cx} {i n : Nat} {v m r : Int} {xs : List MV} {st : St} (T : TurnOk c i v m r xs st) (hm : m ≠ 0) (hr : v.fmod m = r) :
    forD (fun v st => (setv 2 v st).bind (law_T c)) (n + 1) (.list 5 i) st = forD (fun v st => (setv 2 v st).bind (law_T c)) n (.list 5 (i + 1)) (nx c r v st) := by
  have h1 : (Src.list 5 i).next st.H = some (some (.int v, .list 5 (i + 1), st.H)) := by
    unfold Src.next; simp only [T.ts, T.tx]
  show Option.bind ((Src.list 5 i).next st.H) _ = _
  rw [h1]
  show Option.bind (law_T c (inSt v st)) _ = _
  rw [turn_eq T hm hr]; rfl
theorem forD_end {c : Cx} {i n : Nat} {xs : List MV} {st : St} (h : st.H.get 5 = some (.list xs)) (hx : xs[i]? = none) :
    forD (fun v st => (setv 2 v st).bind (law_T c)) (n + 1) (.list 5 i) st = some (.next, st) := by
  have h1 : (Src.list 5 i).next st.H = some none := by
    unfold Src.next; simp only [h, hx]
  show Option.bind ((Src.list 5 i).next st.H) _ = _
  rw [h1]; rfl
def v0s (a : Addr) : List (Option MV) := some (.val (.ref a)) :: List.replicate 18 none
def v1s (a : Addr) : List (Option MV) := some (.val (.ref a)) :: some (.ref 1) :: List.replicate 17 none
def HI (T D xs : List MV) : MH := ⟨6, [(5, .list xs), (4, .list D), (3, .list [.int 1, .int 2, .int 2]), (2, .list T), (1, .list []), (0, .tab none)]⟩
theorem law_S_eq (c : Cx) (a : Addr) : law_S c ⟨v0s a, ⟨1, [(0, .tab none)]⟩⟩ = some (.next, ⟨v1s a, ⟨2, [(1, .list []), (0, .tab none)]⟩⟩) := by kernel_rfl
/-- what the first loop goes over -/
def part1 (c : Cx) (st : St) : Option (MV × MH) := (getv st 0).bind fun x => (some (MV.val Value.none, ({ vs := st.vs, H := x.2 } : St).H)).bind fun l => ((fun st : St => some (MV.int 3, st.H)) { vs := st.vs, H := l.2 }).bind fun u => sliceop c.G x.1 l.1 u.1 u.2
def part2 (c : Cx) (st : St) : Option (MV × MH) := (some (MV.ref st.H.n, st.H.push (.list [.int 1, .int 2, .int 2]))).bind fun x =>
  ((fun st => ((fun st => (getv st 0).bind fun p => (some (([] : List MV), ({ vs := st.vs, H := p.2 } : St).H)).bind fun q => some (p.1 :: q.1, q.2)) st).bind fun p => (some (([] : List (Str × MV)), ({ vs := st.vs, H := p.2 } : St).H)).bind fun q => lenS c.G p.1 q.1 q.2) ({ vs := st.vs, H := x.2 } : St)).bind fun l =>
    (some (MV.val Value.none, ({ vs := st.vs, H := l.2 } : St).H)).bind fun u => sliceop c.G x.1 l.1 u.1 u.2
theorem law_I_eq (c : Cx) (st : St) : law_I c st = (seq2 (part1 c) (part2 c) addop st).bind fun p => (iterOf p.1 p.2).map fun src => (src, p.2) := by kernel_rfl
end Q
end Mini.L1

open PySem PySem.W PySem.Calls PyProof.Rows
set_option maxRecDepth 1000000
namespace Mini.L1
noncomputable section Q
def smallS (a b d : Int) : St := ⟨none :: some (.ref 1) :: List.replicate 17 none, ⟨12, [(1, .list [.int a, .int b, .int d]), (0, .tab none)]⟩⟩
def okR : Option (Fl × St) → Bool
  | some (.ret (.val (.bool true)), st) => (match st.H.get 0 with | some (.tab _) => true | _ => false)
  | _ => false
theorem ev_012 (c : Cx) : okR (law_R c (smallS 0 1 2)) = true := by kernel_rfl
theorem ev_013 (c : Cx) : okR (law_R c (smallS 0 1 3)) = true := by kernel_rfl
theorem ev_023 (c : Cx) : okR (law_R c (smallS 0 2 3)) = true := by kernel_rfl
theorem ev_123 (c : Cx) : okR (law_R c (smallS 1 2 3)) = true := by kernel_rfl
theorem ev_014 (c : Cx) : okR (law_R c (smallS 0 1 4)) = true := by kernel_rfl
theorem ev_024 (c : Cx) : okR (law_R c (smallS 0 2 4)) = true := by kernel_rfl
theorem ev_124 (c : Cx) : okR (law_R c (smallS 1 2 4)) = true := by kernel_rfl
theorem ev_034 (c : Cx) : okR (law_R c (smallS 0 3 4)) = true := by kernel_rfl
theorem ev_134 (c : Cx) : okR (law_R c (smallS 1 3 4)) = true := by kernel_rfl
theorem ev_234 (c : Cx) : okR (law_R c (smallS 2 3 4)) = true := by kernel_rfl
theorem ev_015 (c : Cx) : okR (law_R c (smallS 0 1 5)) = true := by kernel_rfl
theorem ev_025 (c : Cx) : okR (law_R c (smallS 0 2 5)) = true := by kernel_rfl
theorem ev_125 (c : Cx) : okR (law_R c (smallS 1 2 5)) = true := by kernel_rfl
theorem ev_035 (c : Cx) : okR (law_R c (smallS 0 3 5)) = true := by kernel_rfl
theorem ev_135 (c : Cx) : okR (law_R c (smallS 1 3 5)) = true := by kernel_rfl
theorem ev_235 (c : Cx) : okR (law_R c (smallS 2 3 5)) = true := by kernel_rfl
theorem ev_045 (c : Cx) : okR (law_R c (smallS 0 4 5)) = true := by kernel_rfl
theorem ev_145 (c : Cx) : okR (law_R c (smallS 1 4 5)) = true := by kernel_rfl
theorem ev_245 (c : Cx) : okR (law_R c (smallS 2 4 5)) = true := by kernel_rfl
theorem ev_345 (c : Cx) : okR (law_R c (smallS 3 4 5)) = true := by kernel_rfl
end Q
end Mini.L1

open PySem PySem.W PySem.Calls PyProof.Rows
set_option maxRecDepth 1000000
set_option maxHeartbeats 4000000
namespace Mini.L1
noncomputable section Q
def tk (xs : List MV) : List MV := (xs.drop (kms_lo none xs.length)).take (kms_hi (some 3) xs.length - kms_lo none xs.length)
def dp (n : Nat) : List MV := (([.int 1, .int 2, .int 2] : List MV).drop (kms_lo (some n) 3)).take (kms_hi none 3 - kms_lo (some n) 3)
theorem tk_dp (ns : List Int) : ∃ v0 v1 v2 : Int, tk (ns.map .int) ++ dp (ns.map MV.int).length = [.int v0, .int v1, .int v2] := by
  match ns with
  | [] => exact ⟨1, 2, 2, rfl⟩
  | [a] => exact ⟨a, 2, 2, rfl⟩
  | [a, b] => exact ⟨a, b, 2, rfl⟩
  | a :: b :: d :: r =>
    refine ⟨a, b, d, ?_⟩
    have h1 : tk ((a :: b :: d :: r).map .int) = [.int a, .int b, .int d] := by
      unfold tk kms_lo kms_hi
      have : min (Int.toNat 3) ((a :: b :: d :: r).map MV.int).length - 0 = 3 := by
        simp only [List.length_map, List.length_cons]
        have : Int.toNat 3 = 3 := rfl
        omega
      dsimp only
      rw [if_neg (by decide), this]; rfl
    have h2 : dp ((a :: b :: d :: r).map MV.int).length = [] := by
      unfold dp kms_lo
      have : min (Int.toNat (((a :: b :: d :: r).map MV.int).length : Int)) 3 = 3 := by
        simp only [List.length_map, List.length_cons, Int.toNat_natCast]
        omega
      dsimp only
      rw [if_neg (by omega), this]; rfl
    rw [h1, h2]; rfl
theorem law_I_ev (c : Cx) (a : Addr) (ns : List Int) (h : c.lists a = some ns) (hlen : ns.length ≤ 63) :
    law_I c ⟨v1s a, ⟨2, [(1, .list []), (0, .tab none)]⟩⟩ = some (.list 5 0, HI (tk (ns.map .int)) (dp (ns.map MV.int).length) (tk (ns.map .int) ++ dp (ns.map MV.int).length)) := by
  have L : ∀ H, listAt c.G (.val (.ref a)) H = some (ns.map .int) := fun H => by
    show (c.lists a).map _ = _
    rw [h]; rfl
  have p1 : part1 c ⟨v1s a, ⟨2, [(1, .list []), (0, .tab none)]⟩⟩ = some (.ref 2, ⟨3, [(2, .list (tk (ns.map .int))), (1, .list []), (0, .tab none)]⟩) := by
    show sliceop c.G (.val (.ref a)) (.val .none) (.int 3) ⟨2, [(1, .list []), (0, .tab none)]⟩ = _
    unfold sliceop
    rw [L]
    show (Option.bind (partOf (.int 3)) fun h => if (ns.map MV.int).length ≤ 100000 then _ else none) = _
    have : partOf (.int 3) = some (some 3) := by decide +kernel
    rw [this]
    show (if (ns.map MV.int).length ≤ 100000 then _ else none) = _
    rw [if_pos (by rw [List.length_map]; omega)]
    rfl
  have p2 : part2 c ⟨v1s a, ⟨3, [(2, .list (tk (ns.map .int))), (1, .list []), (0, .tab none)]⟩⟩ = some (.ref 4, ⟨5, [(4, .list (dp (ns.map MV.int).length)), (3, .list [.int 1, .int 2, .int 2]), (2, .list (tk (ns.map .int))), (1, .list []), (0, .tab none)]⟩) := by
    have l1 : lenS c.G [.val (.ref a)] [] ⟨4, [(3, .list [.int 1, .int 2, .int 2]), (2, .list (tk (ns.map .int))), (1, .list []), (0, .tab none)]⟩ = some (.int (ns.map MV.int).length, ⟨4, [(3, .list [.int 1, .int 2, .int 2]), (2, .list (tk (ns.map .int))), (1, .list []), (0, .tab none)]⟩) := by
      unfold lenS
      dsimp only
      rw [L]
      show (if (ns.map MV.int).length ≤ 100000 then _ else none) = _
      rw [if_pos (by rw [List.length_map]; omega)]
    show Option.bind (lenS c.G [.val (.ref a)] [] ⟨4, [(3, .list [.int 1, .int 2, .int 2]), (2, .list (tk (ns.map .int))), (1, .list []), (0, .tab none)]⟩) _ = _
    rw [l1]
    have L3 : listAt c.G (.ref 3) ⟨4, [(3, .list [.int 1, .int 2, .int 2]), (2, .list (tk (ns.map .int))), (1, .list []), (0, .tab none)]⟩ = some [.int 1, .int 2, .int 2] := by kernel_rfl
    have P3 : partOf (.int ((ns.map MV.int).length : Int)) = some (some ((ns.map MV.int).length : Int)) := by
      unfold partOf
      dsimp only
      rw [if_pos]
      unfold small
      simp only [Bool.and_eq_true, decide_eq_true_eq, List.length_map]
      omega
    rw [Option.bind_some, Option.bind_some]
    dsimp only
    unfold sliceop
    rw [L3, Option.bind_some, P3, Option.bind_some]
    have PN : partOf (.val .none) = some none := rfl
    rw [PN, Option.bind_some, if_pos (by decide)]
    rfl
  rw [law_I_eq]
  unfold seq2
  rw [p1]
  show Option.bind (Option.bind (part2 c ⟨v1s a, ⟨3, [(2, .list (tk (ns.map .int))), (1, .list []), (0, .tab none)]⟩⟩) _) _ = _
  rw [p2]
  obtain ⟨v0, v1, v2, hv⟩ := tk_dp ns
  have hl : (tk (ns.map .int)).length + (dp (ns.map MV.int).length).length ≤ 100000 := by
    have := congrArg List.length hv
    rw [List.length_append] at this
    rw [this]; exact (by decide : 3 ≤ 100000)
  show Option.bind (if (tk (ns.map .int)).length + (dp (ns.map MV.int).length).length ≤ 100000 then _ else none) _ = _
  rw [if_pos hl]
  rfl
/-- the three turns -/
abbrev endsOk (c : Cx) (o : Option (Fl × St)) : Prop := ∃ (st' : St) (x y z : Int), o = some (.next, st') ∧ forgS 1 1 st' = smallS x y z ∧ okR (law_R c (smallS x y z)) = true
abbrev loopT (c : Cx) (n i : Nat) (st : St) : Option (Fl × St) := forD (fun v st => (setv 2 v st).bind (law_T c)) n (.list 5 i) st
abbrev stL (a : Addr) (T D : List MV) (v0 v1 v2 : Int) : St := ⟨v1s a, HI T D [.int v0, .int v1, .int v2]⟩
theorem ends_turn {c : Cx} {i n : Nat} {v m r : Int} {xs : List MV} {st : St} (T : TurnOk c i v m r xs st) (hm : m ≠ 0) (hr : v.fmod m = r) (h : endsOk c (loopT c n (i + 1) (nx c r v st))) : endsOk c (loopT c (n + 1) i st) := by
  have e : loopT c (n + 1) i st = loopT c n (i + 1) (nx c r v st) := forD_turn T hm hr
  rw [e]; exact h
theorem ends_end {c : Cx} {i n : Nat} {xs : List MV} {st : St} (x y z : Int) (h : st.H.get 5 = some (.list xs)) (hx : xs[i]? = none) (e : forgS 1 1 st = smallS x y z) (ev : okR (law_R c (smallS x y z)) = true) : endsOk c (loopT c (n + 1) i st) :=
  ⟨st, x, y, z, forD_end h hx, e, ev⟩
theorem path0 (c : Cx) (a : Addr) (T D : List MV) (v0 v1 v2 : Int) (h0 : v0.fmod 6 = 0) (h1 : v1.fmod 5 = 0 ∨ v1.fmod 5 = 1 ∨ v1.fmod 5 = 2 ∨ v1.fmod 5 = 3 ∨ v1.fmod 5 = 4) (h2 : v2.fmod 4 = 0 ∨ v2.fmod 4 = 1 ∨ v2.fmod 4 = 2 ∨ v2.fmod 4 = 3) : endsOk c (loopT c 4 0 (stL a T D v0 v1 v2)) := by
  refine ends_turn (m := 6) (xs := [.int v0, .int v1, .int v2]) ⟨by kernel_rfl, by kernel_rfl, by kernel_rfl, by kernel_rfl, by kernel_rfl, by kernel_rfl⟩ (by decide) h0 ?_
  rcases h1 with h1 | h1 | h1 | h1 | h1
  · refine ends_turn (m := 5) (xs := [.int v0, .int v1, .int v2]) ⟨by kernel_rfl, by kernel_rfl, by kernel_rfl, by kernel_rfl, by kernel_rfl, by kernel_rfl⟩ (by decide) h1 ?_
    rcases h2 with h2 | h2 | h2 | h2
    · refine ends_turn (m := 4) (xs := [.int v0, .int v1, .int v2]) ⟨by kernel_rfl, by kernel_rfl, by kernel_rfl, by kernel_rfl, by kernel_rfl, by kernel_rfl⟩ (by decide) h2 ?_
      exact ends_end (xs := [.int v0, .int v1, .int v2]) 0 1 2 (by kernel_rfl) (by kernel_rfl) (by kernel_rfl) (ev_012 c)
    · refine ends_turn (m := 4) (xs := [.int v0, .int v1, .int v2]) ⟨by kernel_rfl, by kernel_rfl, by kernel_rfl, by kernel_rfl, by kernel_rfl, by kernel_rfl⟩ (by decide) h2 ?_
      exact ends_end (xs := [.int v0, .int v1, .int v2]) 0 1 3 (by kernel_rfl) (by kernel_rfl) (by kernel_rfl) (ev_013 c)
    · refine ends_turn (m := 4) (xs := [.int v0, .int v1, .int v2]) ⟨by kernel_rfl, by kernel_rfl, by kernel_rfl, by kernel_rfl, by kernel_rfl, by kernel_rfl⟩ (by decide) h2 ?_
      exact ends_end (xs := [.int v0, .int v1, .int v2]) 0 1 4 (by kernel_rfl) (by kernel_rfl) (by kernel_rfl) (ev_014 c)
    · refine ends_turn (m := 4) (xs := [.int v0, .int v1, .int v2]) ⟨by kernel_rfl, by kernel_rfl, by kernel_rfl, by kernel_rfl, by kernel_rfl, by kernel_rfl⟩ (by decide) h2 ?_
      exact ends_end (xs := [.int v0, .int v1, .int v2]) 0 1 5 (by kernel_rfl) (by kernel_rfl) (by kernel_rfl) (ev_015 c)
  · refine ends_turn (m := 5) (xs := [.int v0, .int v1, .int v2]) ⟨by kernel_rfl, by kernel_rfl, by kernel_rfl, by kernel_rfl, by kernel_rfl, by kernel_rfl⟩ (by decide) h1 ?_
    rcases h2 with h2 | h2 | h2 | h2
    · refine ends_turn (m := 4) (xs := [.int v0, .int v1, .int v2]) ⟨by kernel_rfl, by kernel_rfl, by kernel_rfl, by kernel_rfl, by kernel_rfl, by kernel_rfl⟩ (by decide) h2 ?_
      exact ends_end (xs := [.int v0, .int v1, .int v2]) 0 1 2 (by kernel_rfl) (by kernel_rfl) (by kernel_rfl) (ev_012 c)
    · refine ends_turn (m := 4) (xs := [.int v0, .int v1, .int v2]) ⟨by kernel_rfl, by kernel_rfl, by kernel_rfl, by kernel_rfl, by kernel_rfl, by kernel_rfl⟩ (by decide) h2 ?_
      exact ends_end (xs := [.int v0, .int v1, .int v2]) 0 2 3 (by kernel_rfl) (by kernel_rfl) (by kernel_rfl) (ev_023 c)
    · refine ends_turn (m := 4) (xs := [.int v0, .int v1, .int v2]) ⟨by kernel_rfl, by kernel_rfl, by kernel_rfl, by kernel_rfl, by kernel_rfl, by kernel_rfl⟩ (by decide) h2 ?_
      exact ends_end (xs := [.int v0, .int v1, .int v2]) 0 2 4 (by kernel_rfl) (by kernel_rfl) (by kernel_rfl) (ev_024 c)
    · refine ends_turn (m := 4) (xs := [.int v0, .int v1, .int v2]) ⟨by kernel_rfl, by kernel_rfl, by kernel_rfl, by kernel_rfl, by kernel_rfl, by kernel_rfl⟩ (by decide) h2 ?_
      exact ends_end (xs := [.int v0, .int v1, .int v2]) 0 2 5 (by kernel_rfl) (by kernel_rfl) (by kernel_rfl) (ev_025 c)
  · refine ends_turn (m := 5) (xs := [.int v0, .int v1, .int v2]) ⟨by kernel_rfl, by kernel_rfl, by kernel_rfl, by kernel_rfl, by kernel_rfl, by kernel_rfl⟩ (by decide) h1 ?_
    rcases h2 with h2 | h2 | h2 | h2
    · refine ends_turn (m := 4) (xs := [.int v0, .int v1, .int v2]) ⟨by kernel_rfl, by kernel_rfl, by kernel_rfl, by kernel_rfl, by kernel_rfl, by kernel_rfl⟩ (by decide) h2 ?_
      exact ends_end (xs := [.int v0, .int v1, .int v2]) 0 1 3 (by kernel_rfl) (by kernel_rfl) (by kernel_rfl) (ev_013 c)
    · refine ends_turn (m := 4) (xs := [.int v0, .int v1, .int v2]) ⟨by kernel_rfl, by kernel_rfl, by kernel_rfl, by kernel_rfl, by kernel_rfl, by kernel_rfl⟩ (by decide) h2 ?_
      exact ends_end (xs := [.int v0, .int v1, .int v2]) 0 2 3 (by kernel_rfl) (by kernel_rfl) (by kernel_rfl) (ev_023 c)
    · refine ends_turn (m := 4) (xs := [.int v0, .int v1, .int v2]) ⟨by kernel_rfl, by kernel_rfl, by kernel_rfl, by kernel_rfl, by kernel_rfl, by kernel_rfl⟩ (by decide) h2 ?_
      exact ends_end (xs := [.int v0, .int v1, .int v2]) 0 3 4 (by kernel_rfl) (by kernel_rfl) (by kernel_rfl) (ev_034 c)
    · refine ends_turn (m := 4) (xs := [.int v0, .int v1, .int v2]) ⟨by kernel_rfl, by kernel_rfl, by kernel_rfl, by kernel_rfl, by kernel_rfl, by kernel_rfl⟩ (by decide) h2 ?_
      exact ends_end (xs := [.int v0, .int v1, .int v2]) 0 3 5 (by kernel_rfl) (by kernel_rfl) (by kernel_rfl) (ev_035 c)
  · refine ends_turn (m := 5) (xs := [.int v0, .int v1, .int v2]) ⟨by kernel_rfl, by kernel_rfl, by kernel_rfl, by kernel_rfl, by kernel_rfl, by kernel_rfl⟩ (by decide) h1 ?_
    rcases h2 with h2 | h2 | h2 | h2
    · refine ends_turn (m := 4) (xs := [.int v0, .int v1, .int v2]) ⟨by kernel_rfl, by kernel_rfl, by kernel_rfl, by kernel_rfl, by kernel_rfl, by kernel_rfl⟩ (by decide) h2 ?_
      exact ends_end (xs := [.int v0, .int v1, .int v2]) 0 1 4 (by kernel_rfl) (by kernel_rfl) (by kernel_rfl) (ev_014 c)
    · refine ends_turn (m := 4) (xs := [.int v0, .int v1, .int v2]) ⟨by kernel_rfl, by kernel_rfl, by kernel_rfl, by kernel_rfl, by kernel_rfl, by kernel_rfl⟩ (by decide) h2 ?_
      exact ends_end (xs := [.int v0, .int v1, .int v2]) 0 2 4 (by kernel_rfl) (by kernel_rfl) (by kernel_rfl) (ev_024 c)
    · refine ends_turn (m := 4) (xs := [.int v0, .int v1, .int v2]) ⟨by kernel_rfl, by kernel_rfl, by kernel_rfl, by kernel_rfl, by kernel_rfl, by kernel_rfl⟩ (by decide) h2 ?_
      exact ends_end (xs := [.int v0, .int v1, .int v2]) 0 3 4 (by kernel_rfl) (by kernel_rfl) (by kernel_rfl) (ev_034 c)
    · refine ends_turn (m := 4) (xs := [.int v0, .int v1, .int v2]) ⟨by kernel_rfl, by kernel_rfl, by kernel_rfl, by kernel_rfl, by kernel_rfl, by kernel_rfl⟩ (by decide) h2 ?_
      exact ends_end (xs := [.int v0, .int v1, .int v2]) 0 4 5 (by kernel_rfl) (by kernel_rfl) (by kernel_rfl) (ev_045 c)
  · refine ends_turn (m := 5) (xs := [.int v0, .int v1, .int v2]) ⟨by kernel_rfl, by kernel_rfl, by kernel_rfl, by kernel_rfl, by kernel_rfl, by kernel_rfl⟩ (by decide) h1 ?_
    rcases h2 with h2 | h2 | h2 | h2
    · refine ends_turn (m := 4) (xs := [.int v0, .int v1, .int v2]) ⟨by kernel_rfl, by kernel_rfl, by kernel_rfl, by kernel_rfl, by kernel_rfl, by kernel_rfl⟩ (by decide) h2 ?_
      exact ends_end (xs := [.int v0, .int v1, .int v2]) 0 1 5 (by kernel_rfl) (by kernel_rfl) (by kernel_rfl) (ev_015 c)
    · refine ends_turn (m := 4) (xs := [.int v0, .int v1, .int v2]) ⟨by kernel_rfl, by kernel_rfl, by kernel_rfl, by kernel_rfl, by kernel_rfl, by kernel_rfl⟩ (by decide) h2 ?_
      exact ends_end (xs := [.int v0, .int v1, .int v2]) 0 2 5 (by kernel_rfl) (by kernel_rfl) (by kernel_rfl) (ev_025 c)
    · refine ends_turn (m := 4) (xs := [.int v0, .int v1, .int v2]) ⟨by kernel_rfl, by kernel_rfl, by kernel_rfl, by kernel_rfl, by kernel_rfl, by kernel_rfl⟩ (by decide) h2 ?_
      exact ends_end (xs := [.int v0, .int v1, .int v2]) 0 3 5 (by kernel_rfl) (by kernel_rfl) (by kernel_rfl) (ev_035 c)
    · refine ends_turn (m := 4) (xs := [.int v0, .int v1, .int v2]) ⟨by kernel_rfl, by kernel_rfl, by kernel_rfl, by kernel_rfl, by kernel_rfl, by kernel_rfl⟩ (by decide) h2 ?_
      exact ends_end (xs := [.int v0, .int v1, .int v2]) 0 4 5 (by kernel_rfl) (by kernel_rfl) (by kernel_rfl) (ev_045 c)
theorem path1 (c : Cx) (a : Addr) (T D : List MV) (v0 v1 v2 : Int) (h0 : v0.fmod 6 = 1) (h1 : v1.fmod 5 = 0 ∨ v1.fmod 5 = 1 ∨ v1.fmod 5 = 2 ∨ v1.fmod 5 = 3 ∨ v1.fmod 5 = 4) (h2 : v2.fmod 4 = 0 ∨ v2.fmod 4 = 1 ∨ v2.fmod 4 = 2 ∨ v2.fmod 4 = 3) : endsOk c (loopT c 4 0 (stL a T D v0 v1 v2)) := by
  refine ends_turn (m := 6) (xs := [.int v0, .int v1, .int v2]) ⟨by kernel_rfl, by kernel_rfl, by kernel_rfl, by kernel_rfl, by kernel_rfl, by kernel_rfl⟩ (by decide) h0 ?_
  rcases h1 with h1 | h1 | h1 | h1 | h1
  · refine ends_turn (m := 5) (xs := [.int v0, .int v1, .int v2]) ⟨by kernel_rfl, by kernel_rfl, by kernel_rfl, by kernel_rfl, by kernel_rfl, by kernel_rfl⟩ (by decide) h1 ?_
    rcases h2 with h2 | h2 | h2 | h2
    · refine ends_turn (m := 4) (xs := [.int v0, .int v1, .int v2]) ⟨by kernel_rfl, by kernel_rfl, by kernel_rfl, by kernel_rfl, by kernel_rfl, by kernel_rfl⟩ (by decide) h2 ?_
      exact ends_end (xs := [.int v0, .int v1, .int v2]) 0 1 2 (by kernel_rfl) (by kernel_rfl) (by kernel_rfl) (ev_012 c)
    · refine ends_turn (m := 4) (xs := [.int v0, .int v1, .int v2]) ⟨by kernel_rfl, by kernel_rfl, by kernel_rfl, by kernel_rfl, by kernel_rfl, by kernel_rfl⟩ (by decide) h2 ?_
      exact ends_end (xs := [.int v0, .int v1, .int v2]) 0 1 3 (by kernel_rfl) (by kernel_rfl) (by kernel_rfl) (ev_013 c)
    · refine ends_turn (m := 4) (xs := [.int v0, .int v1, .int v2]) ⟨by kernel_rfl, by kernel_rfl, by kernel_rfl, by kernel_rfl, by kernel_rfl, by kernel_rfl⟩ (by decide) h2 ?_
      exact ends_end (xs := [.int v0, .int v1, .int v2]) 0 1 4 (by kernel_rfl) (by kernel_rfl) (by kernel_rfl) (ev_014 c)
    · refine ends_turn (m := 4) (xs := [.int v0, .int v1, .int v2]) ⟨by kernel_rfl, by kernel_rfl, by kernel_rfl, by kernel_rfl, by kernel_rfl, by kernel_rfl⟩ (by decide) h2 ?_
      exact ends_end (xs := [.int v0, .int v1, .int v2]) 0 1 5 (by kernel_rfl) (by kernel_rfl) (by kernel_rfl) (ev_015 c)
  · refine ends_turn (m := 5) (xs := [.int v0, .int v1, .int v2]) ⟨by kernel_rfl, by kernel_rfl, by kernel_rfl, by kernel_rfl, by kernel_rfl, by kernel_rfl⟩ (by decide) h1 ?_
    rcases h2 with h2 | h2 | h2 | h2
    · refine ends_turn (m := 4) (xs := [.int v0, .int v1, .int v2]) ⟨by kernel_rfl, by kernel_rfl, by kernel_rfl, by kernel_rfl, by kernel_rfl, by kernel_rfl⟩ (by decide) h2 ?_
      exact ends_end (xs := [.int v0, .int v1, .int v2]) 0 1 2 (by kernel_rfl) (by kernel_rfl) (by kernel_rfl) (ev_012 c)
    · refine ends_turn (m := 4) (xs := [.int v0, .int v1, .int v2]) ⟨by kernel_rfl, by kernel_rfl, by kernel_rfl, by kernel_rfl, by kernel_rfl, by kernel_rfl⟩ (by decide) h2 ?_
      exact ends_end (xs := [.int v0, .int v1, .int v2]) 1 2 3 (by kernel_rfl) (by kernel_rfl) (by kernel_rfl) (ev_123 c)
    · refine ends_turn (m := 4) (xs := [.int v0, .int v1, .int v2]) ⟨by kernel_rfl, by kernel_rfl, by kernel_rfl, by kernel_rfl, by kernel_rfl, by kernel_rfl⟩ (by decide) h2 ?_
      exact ends_end (xs := [.int v0, .int v1, .int v2]) 1 2 4 (by kernel_rfl) (by kernel_rfl) (by kernel_rfl) (ev_124 c)
    · refine ends_turn (m := 4) (xs := [.int v0, .int v1, .int v2]) ⟨by kernel_rfl, by kernel_rfl, by kernel_rfl, by kernel_rfl, by kernel_rfl, by kernel_rfl⟩ (by decide) h2 ?_
      exact ends_end (xs := [.int v0, .int v1, .int v2]) 1 2 5 (by kernel_rfl) (by kernel_rfl) (by kernel_rfl) (ev_125 c)
  · refine ends_turn (m := 5) (xs := [.int v0, .int v1, .int v2]) ⟨by kernel_rfl, by kernel_rfl, by kernel_rfl, by kernel_rfl, by kernel_rfl, by kernel_rfl⟩ (by decide) h1 ?_
    rcases h2 with h2 | h2 | h2 | h2
    · refine ends_turn (m := 4) (xs := [.int v0, .int v1, .int v2]) ⟨by kernel_rfl, by kernel_rfl, by kernel_rfl, by kernel_rfl, by kernel_rfl, by kernel_rfl⟩ (by decide) h2 ?_
      exact ends_end (xs := [.int v0, .int v1, .int v2]) 0 1 3 (by kernel_rfl) (by kernel_rfl) (by kernel_rfl) (ev_013 c)
    · refine ends_turn (m := 4) (xs := [.int v0, .int v1, .int v2]) ⟨by kernel_rfl, by kernel_rfl, by kernel_rfl, by kernel_rfl, by kernel_rfl, by kernel_rfl⟩ (by decide) h2 ?_
      exact ends_end (xs := [.int v0, .int v1, .int v2]) 1 2 3 (by kernel_rfl) (by kernel_rfl) (by kernel_rfl) (ev_123 c)
    · refine ends_turn (m := 4) (xs := [.int v0, .int v1, .int v2]) ⟨by kernel_rfl, by kernel_rfl, by kernel_rfl, by kernel_rfl, by kernel_rfl, by kernel_rfl⟩ (by decide) h2 ?_
      exact ends_end (xs := [.int v0, .int v1, .int v2]) 1 3 4 (by kernel_rfl) (by kernel_rfl) (by kernel_rfl) (ev_134 c)
    · refine ends_turn (m := 4) (xs := [.int v0, .int v1, .int v2]) ⟨by kernel_rfl, by kernel_rfl, by kernel_rfl, by kernel_rfl, by kernel_rfl, by kernel_rfl⟩ (by decide) h2 ?_
      exact ends_end (xs := [.int v0, .int v1, .int v2]) 1 3 5 (by kernel_rfl) (by kernel_rfl) (by kernel_rfl) (ev_135 c)
  · refine ends_turn (m := 5) (xs := [.int v0, .int v1, .int v2]) ⟨by kernel_rfl, by kernel_rfl, by kernel_rfl, by kernel_rfl, by kernel_rfl, by kernel_rfl⟩ (by decide) h1 ?_
    rcases h2 with h2 | h2 | h2 | h2
    · refine ends_turn (m := 4) (xs := [.int v0, .int v1, .int v2]) ⟨by kernel_rfl, by kernel_rfl, by kernel_rfl, by kernel_rfl, by kernel_rfl, by kernel_rfl⟩ (by decide) h2 ?_
      exact ends_end (xs := [.int v0, .int v1, .int v2]) 0 1 4 (by kernel_rfl) (by kernel_rfl) (by kernel_rfl) (ev_014 c)
    · refine ends_turn (m := 4) (xs := [.int v0, .int v1, .int v2]) ⟨by kernel_rfl, by kernel_rfl, by kernel_rfl, by kernel_rfl, by kernel_rfl, by kernel_rfl⟩ (by decide) h2 ?_
      exact ends_end (xs := [.int v0, .int v1, .int v2]) 1 2 4 (by kernel_rfl) (by kernel_rfl) (by kernel_rfl) (ev_124 c)
    · refine ends_turn (m := 4) (xs := [.int v0, .int v1, .int v2]) ⟨by kernel_rfl, by kernel_rfl, by kernel_rfl, by kernel_rfl, by kernel_rfl, by kernel_rfl⟩ (by decide) h2 ?_
      exact ends_end (xs := [.int v0, .int v1, .int v2]) 1 3 4 (by kernel_rfl) (by kernel_rfl) (by kernel_rfl) (ev_134 c)
    · refine ends_turn (m := 4) (xs := [.int v0, .int v1, .int v2]) ⟨by kernel_rfl, by kernel_rfl, by kernel_rfl, by kernel_rfl, by kernel_rfl, by kernel_rfl⟩ (by decide) h2 ?_
      exact ends_end (xs := [.int v0, .int v1, .int v2]) 1 4 5 (by kernel_rfl) (by kernel_rfl) (by kernel_rfl) (ev_145 c)
  · refine ends_turn (m := 5) (xs := [.int v0, .int v1, .int v2]) ⟨by kernel_rfl, by kernel_rfl, by kernel_rfl, by kernel_rfl, by kernel_rfl, by kernel_rfl⟩ (by decide) h1 ?_
    rcases h2 with h2 | h2 | h2 | h2
    · refine ends_turn (m := 4) (xs := [.int v0, .int v1, .int v2]) ⟨by kernel_rfl, by kernel_rfl, by kernel_rfl, by kernel_rfl, by kernel_rfl, by kernel_rfl⟩ (by decide) h2 ?_
      exact ends_end (xs := [.int v0, .int v1, .int v2]) 0 1 5 (by kernel_rfl) (by kernel_rfl) (by kernel_rfl) (ev_015 c)
    · refine ends_turn (m := 4) (xs := [.int v0, .int v1, .int v2]) ⟨by kernel_rfl, by kernel_rfl, by kernel_rfl, by kernel_rfl, by kernel_rfl, by kernel_rfl⟩ (by decide) h2 ?_
      exact ends_end (xs := [.int v0, .int v1, .int v2]) 1 2 5 (by kernel_rfl) (by kernel_rfl) (by kernel_rfl) (ev_125 c)
    · refine ends_turn (m := 4) (xs := [.int v0, .int v1, .int v2]) ⟨by kernel_rfl, by kernel_rfl, by kernel_rfl, by kernel_rfl, by kernel_rfl, by kernel_rfl⟩ (by decide) h2 ?_
      exact ends_end (xs := [.int v0, .int v1, .int v2]) 1 3 5 (by kernel_rfl) (by kernel_rfl) (by kernel_rfl) (ev_135 c)
    · refine ends_turn (m := 4) (xs := [.int v0, .int v1, .int v2]) ⟨by kernel_rfl, by kernel_rfl, by kernel_rfl, by kernel_rfl, by kernel_rfl, by kernel_rfl⟩ (by decide) h2 ?_
      exact ends_end (xs := [.int v0, .int v1, .int v2]) 1 4 5 (by kernel_rfl) (by kernel_rfl) (by kernel_rfl) (ev_145 c)
theorem path2 (c : Cx) (a : Addr) (T D : List MV) (v0 v1 v2 : Int) (h0 : v0.fmod 6 = 2) (h1 : v1.fmod 5 = 0 ∨ v1.fmod 5 = 1 ∨ v1.fmod 5 = 2 ∨ v1.fmod 5 = 3 ∨ v1.fmod 5 = 4) (h2 : v2.fmod 4 = 0 ∨ v2.fmod 4 = 1 ∨ v2.fmod 4 = 2 ∨ v2.fmod 4 = 3) : endsOk c (loopT c 4 0 (stL a T D v0 v1 v2)) := by
  refine ends_turn (m := 6) (xs := [.int v0, .int v1, .int v2]) ⟨by kernel_rfl, by kernel_rfl, by kernel_rfl, by kernel_rfl, by kernel_rfl, by kernel_rfl⟩ (by decide) h0 ?_
  rcases h1 with h1 | h1 | h1 | h1 | h1
  · refine ends_turn (m := 5) (xs := [.int v0, .int v1, .int v2]) ⟨by kernel_rfl, by kernel_rfl, by kernel_rfl, by kernel_rfl, by kernel_rfl, by kernel_rfl⟩ (by decide) h1 ?_
    rcases h2 with h2 | h2 | h2 | h2
    · refine ends_turn (m := 4) (xs := [.int v0, .int v1, .int v2]) ⟨by kernel_rfl, by kernel_rfl, by kernel_rfl, by kernel_rfl, by kernel_rfl, by kernel_rfl⟩ (by decide) h2 ?_
      exact ends_end (xs := [.int v0, .int v1, .int v2]) 0 1 2 (by kernel_rfl) (by kernel_rfl) (by kernel_rfl) (ev_012 c)
    · refine ends_turn (m := 4) (xs := [.int v0, .int v1, .int v2]) ⟨by kernel_rfl, by kernel_rfl, by kernel_rfl, by kernel_rfl, by kernel_rfl, by kernel_rfl⟩ (by decide) h2 ?_
      exact ends_end (xs := [.int v0, .int v1, .int v2]) 0 2 3 (by kernel_rfl) (by kernel_rfl) (by kernel_rfl) (ev_023 c)
    · refine ends_turn (m := 4) (xs := [.int v0, .int v1, .int v2]) ⟨by kernel_rfl, by kernel_rfl, by kernel_rfl, by kernel_rfl, by kernel_rfl, by kernel_rfl⟩ (by decide) h2 ?_
      exact ends_end (xs := [.int v0, .int v1, .int v2]) 0 2 4 (by kernel_rfl) (by kernel_rfl) (by kernel_rfl) (ev_024 c)
    · refine ends_turn (m := 4) (xs := [.int v0, .int v1, .int v2]) ⟨by kernel_rfl, by kernel_rfl, by kernel_rfl, by kernel_rfl, by kernel_rfl, by kernel_rfl⟩ (by decide) h2 ?_
      exact ends_end (xs := [.int v0, .int v1, .int v2]) 0 2 5 (by kernel_rfl) (by kernel_rfl) (by kernel_rfl) (ev_025 c)
  · refine ends_turn (m := 5) (xs := [.int v0, .int v1, .int v2]) ⟨by kernel_rfl, by kernel_rfl, by kernel_rfl, by kernel_rfl, by kernel_rfl, by kernel_rfl⟩ (by decide) h1 ?_
    rcases h2 with h2 | h2 | h2 | h2
    · refine ends_turn (m := 4) (xs := [.int v0, .int v1, .int v2]) ⟨by kernel_rfl, by kernel_rfl, by kernel_rfl, by kernel_rfl, by kernel_rfl, by kernel_rfl⟩ (by decide) h2 ?_
      exact ends_end (xs := [.int v0, .int v1, .int v2]) 0 1 2 (by kernel_rfl) (by kernel_rfl) (by kernel_rfl) (ev_012 c)
    · refine ends_turn (m := 4) (xs := [.int v0, .int v1, .int v2]) ⟨by kernel_rfl, by kernel_rfl, by kernel_rfl, by kernel_rfl, by kernel_rfl, by kernel_rfl⟩ (by decide) h2 ?_
      exact ends_end (xs := [.int v0, .int v1, .int v2]) 1 2 3 (by kernel_rfl) (by kernel_rfl) (by kernel_rfl) (ev_123 c)
    · refine ends_turn (m := 4) (xs := [.int v0, .int v1, .int v2]) ⟨by kernel_rfl, by kernel_rfl, by kernel_rfl, by kernel_rfl, by kernel_rfl, by kernel_rfl⟩ (by decide) h2 ?_
      exact ends_end (xs := [.int v0, .int v1, .int v2]) 1 2 4 (by kernel_rfl) (by kernel_rfl) (by kernel_rfl) (ev_124 c)
    · refine ends_turn (m := 4) (xs := [.int v0, .int v1, .int v2]) ⟨by kernel_rfl, by kernel_rfl, by kernel_rfl, by kernel_rfl, by kernel_rfl, by kernel_rfl⟩ (by decide) h2 ?_
      exact ends_end (xs := [.int v0, .int v1, .int v2]) 1 2 5 (by kernel_rfl) (by kernel_rfl) (by kernel_rfl) (ev_125 c)
  · refine ends_turn (m := 5) (xs := [.int v0, .int v1, .int v2]) ⟨by kernel_rfl, by kernel_rfl, by kernel_rfl, by kernel_rfl, by kernel_rfl, by kernel_rfl⟩ (by decide) h1 ?_
    rcases h2 with h2 | h2 | h2 | h2
    · refine ends_turn (m := 4) (xs := [.int v0, .int v1, .int v2]) ⟨by kernel_rfl, by kernel_rfl, by kernel_rfl, by kernel_rfl, by kernel_rfl, by kernel_rfl⟩ (by decide) h2 ?_
      exact ends_end (xs := [.int v0, .int v1, .int v2]) 0 2 3 (by kernel_rfl) (by kernel_rfl) (by kernel_rfl) (ev_023 c)
    · refine ends_turn (m := 4) (xs := [.int v0, .int v1, .int v2]) ⟨by kernel_rfl, by kernel_rfl, by kernel_rfl, by kernel_rfl, by kernel_rfl, by kernel_rfl⟩ (by decide) h2 ?_
      exact ends_end (xs := [.int v0, .int v1, .int v2]) 1 2 3 (by kernel_rfl) (by kernel_rfl) (by kernel_rfl) (ev_123 c)
    · refine ends_turn (m := 4) (xs := [.int v0, .int v1, .int v2]) ⟨by kernel_rfl, by kernel_rfl, by kernel_rfl, by kernel_rfl, by kernel_rfl, by kernel_rfl⟩ (by decide) h2 ?_
      exact ends_end (xs := [.int v0, .int v1, .int v2]) 2 3 4 (by kernel_rfl) (by kernel_rfl) (by kernel_rfl) (ev_234 c)
    · refine ends_turn (m := 4) (xs := [.int v0, .int v1, .int v2]) ⟨by kernel_rfl, by kernel_rfl, by kernel_rfl, by kernel_rfl, by kernel_rfl, by kernel_rfl⟩ (by decide) h2 ?_
      exact ends_end (xs := [.int v0, .int v1, .int v2]) 2 3 5 (by kernel_rfl) (by kernel_rfl) (by kernel_rfl) (ev_235 c)
  · refine ends_turn (m := 5) (xs := [.int v0, .int v1, .int v2]) ⟨by kernel_rfl, by kernel_rfl, by kernel_rfl, by kernel_rfl, by kernel_rfl, by kernel_rfl⟩ (by decide) h1 ?_
    rcases h2 with h2 | h2 | h2 | h2
    · refine ends_turn (m := 4) (xs := [.int v0, .int v1, .int v2]) ⟨by kernel_rfl, by kernel_rfl, by kernel_rfl, by kernel_rfl, by kernel_rfl, by kernel_rfl⟩ (by decide) h2 ?_
      exact ends_end (xs := [.int v0, .int v1, .int v2]) 0 2 4 (by kernel_rfl) (by kernel_rfl) (by kernel_rfl) (ev_024 c)
    · refine ends_turn (m := 4) (xs := [.int v0, .int v1, .int v2]) ⟨by kernel_rfl, by kernel_rfl, by kernel_rfl, by kernel_rfl, by kernel_rfl, by kernel_rfl⟩ (by decide) h2 ?_
      exact ends_end (xs := [.int v0, .int v1, .int v2]) 1 2 4 (by kernel_rfl) (by kernel_rfl) (by kernel_rfl) (ev_124 c)
    · refine ends_turn (m := 4) (xs := [.int v0, .int v1, .int v2]) ⟨by kernel_rfl, by kernel_rfl, by kernel_rfl, by kernel_rfl, by kernel_rfl, by kernel_rfl⟩ (by decide) h2 ?_
      exact ends_end (xs := [.int v0, .int v1, .int v2]) 2 3 4 (by kernel_rfl) (by kernel_rfl) (by kernel_rfl) (ev_234 c)
    · refine ends_turn (m := 4) (xs := [.int v0, .int v1, .int v2]) ⟨by kernel_rfl, by kernel_rfl, by kernel_rfl, by kernel_rfl, by kernel_rfl, by kernel_rfl⟩ (by decide) h2 ?_
      exact ends_end (xs := [.int v0, .int v1, .int v2]) 2 4 5 (by kernel_rfl) (by kernel_rfl) (by kernel_rfl) (ev_245 c)
  · refine ends_turn (m := 5) (xs := [.int v0, .int v1, .int v2]) ⟨by kernel_rfl, by kernel_rfl, by kernel_rfl, by kernel_rfl, by kernel_rfl, by kernel_rfl⟩ (by decide) h1 ?_
    rcases h2 with h2 | h2 | h2 | h2
    · refine ends_turn (m := 4) (xs := [.int v0, .int v1, .int v2]) ⟨by kernel_rfl, by kernel_rfl, by kernel_rfl, by kernel_rfl, by kernel_rfl, by kernel_rfl⟩ (by decide) h2 ?_
      exact ends_end (xs := [.int v0, .int v1, .int v2]) 0 2 5 (by kernel_rfl) (by kernel_rfl) (by kernel_rfl) (ev_025 c)
    · refine ends_turn (m := 4) (xs := [.int v0, .int v1, .int v2]) ⟨by kernel_rfl, by kernel_rfl, by kernel_rfl, by kernel_rfl, by kernel_rfl, by kernel_rfl⟩ (by decide) h2 ?_
      exact ends_end (xs := [.int v0, .int v1, .int v2]) 1 2 5 (by kernel_rfl) (by kernel_rfl) (by kernel_rfl) (ev_125 c)
    · refine ends_turn (m := 4) (xs := [.int v0, .int v1, .int v2]) ⟨by kernel_rfl, by kernel_rfl, by kernel_rfl, by kernel_rfl, by kernel_rfl, by kernel_rfl⟩ (by decide) h2 ?_
      exact ends_end (xs := [.int v0, .int v1, .int v2]) 2 3 5 (by kernel_rfl) (by kernel_rfl) (by kernel_rfl) (ev_235 c)
    · refine ends_turn (m := 4) (xs := [.int v0, .int v1, .int v2]) ⟨by kernel_rfl, by kernel_rfl, by kernel_rfl, by kernel_rfl, by kernel_rfl, by kernel_rfl⟩ (by decide) h2 ?_
      exact ends_end (xs := [.int v0, .int v1, .int v2]) 2 4 5 (by kernel_rfl) (by kernel_rfl) (by kernel_rfl) (ev_245 c)
theorem path3 (c : Cx) (a : Addr) (T D : List MV) (v0 v1 v2 : Int) (h0 : v0.fmod 6 = 3) (h1 : v1.fmod 5 = 0 ∨ v1.fmod 5 = 1 ∨ v1.fmod 5 = 2 ∨ v1.fmod 5 = 3 ∨ v1.fmod 5 = 4) (h2 : v2.fmod 4 = 0 ∨ v2.fmod 4 = 1 ∨ v2.fmod 4 = 2 ∨ v2.fmod 4 = 3) : endsOk c (loopT c 4 0 (stL a T D v0 v1 v2)) := by
  refine ends_turn (m := 6) (xs := [.int v0, .int v1, .int v2]) ⟨by kernel_rfl, by kernel_rfl, by kernel_rfl, by kernel_rfl, by kernel_rfl, by kernel_rfl⟩ (by decide) h0 ?_
  rcases h1 with h1 | h1 | h1 | h1 | h1
  · refine ends_turn (m := 5) (xs := [.int v0, .int v1, .int v2]) ⟨by kernel_rfl, by kernel_rfl, by kernel_rfl, by kernel_rfl, by kernel_rfl, by kernel_rfl⟩ (by decide) h1 ?_
    rcases h2 with h2 | h2 | h2 | h2
    · refine ends_turn (m := 4) (xs := [.int v0, .int v1, .int v2]) ⟨by kernel_rfl, by kernel_rfl, by kernel_rfl, by kernel_rfl, by kernel_rfl, by kernel_rfl⟩ (by decide) h2 ?_
      exact ends_end (xs := [.int v0, .int v1, .int v2]) 0 1 3 (by kernel_rfl) (by kernel_rfl) (by kernel_rfl) (ev_013 c)
    · refine ends_turn (m := 4) (xs := [.int v0, .int v1, .int v2]) ⟨by kernel_rfl, by kernel_rfl, by kernel_rfl, by kernel_rfl, by kernel_rfl, by kernel_rfl⟩ (by decide) h2 ?_
      exact ends_end (xs := [.int v0, .int v1, .int v2]) 0 2 3 (by kernel_rfl) (by kernel_rfl) (by kernel_rfl) (ev_023 c)
    · refine ends_turn (m := 4) (xs := [.int v0, .int v1, .int v2]) ⟨by kernel_rfl, by kernel_rfl, by kernel_rfl, by kernel_rfl, by kernel_rfl, by kernel_rfl⟩ (by decide) h2 ?_
      exact ends_end (xs := [.int v0, .int v1, .int v2]) 0 3 4 (by kernel_rfl) (by kernel_rfl) (by kernel_rfl) (ev_034 c)
    · refine ends_turn (m := 4) (xs := [.int v0, .int v1, .int v2]) ⟨by kernel_rfl, by kernel_rfl, by kernel_rfl, by kernel_rfl, by kernel_rfl, by kernel_rfl⟩ (by decide) h2 ?_
      exact ends_end (xs := [.int v0, .int v1, .int v2]) 0 3 5 (by kernel_rfl) (by kernel_rfl) (by kernel_rfl) (ev_035 c)
  · refine ends_turn (m := 5) (xs := [.int v0, .int v1, .int v2]) ⟨by kernel_rfl, by kernel_rfl, by kernel_rfl, by kernel_rfl, by kernel_rfl, by kernel_rfl⟩ (by decide) h1 ?_
    rcases h2 with h2 | h2 | h2 | h2
    · refine ends_turn (m := 4) (xs := [.int v0, .int v1, .int v2]) ⟨by kernel_rfl, by kernel_rfl, by kernel_rfl, by kernel_rfl, by kernel_rfl, by kernel_rfl⟩ (by decide) h2 ?_
      exact ends_end (xs := [.int v0, .int v1, .int v2]) 0 1 3 (by kernel_rfl) (by kernel_rfl) (by kernel_rfl) (ev_013 c)
    · refine ends_turn (m := 4) (xs := [.int v0, .int v1, .int v2]) ⟨by kernel_rfl, by kernel_rfl, by kernel_rfl, by kernel_rfl, by kernel_rfl, by kernel_rfl⟩ (by decide) h2 ?_
      exact ends_end (xs := [.int v0, .int v1, .int v2]) 1 2 3 (by kernel_rfl) (by kernel_rfl) (by kernel_rfl) (ev_123 c)
    · refine ends_turn (m := 4) (xs := [.int v0, .int v1, .int v2]) ⟨by kernel_rfl, by kernel_rfl, by kernel_rfl, by kernel_rfl, by kernel_rfl, by kernel_rfl⟩ (by decide) h2 ?_
      exact ends_end (xs := [.int v0, .int v1, .int v2]) 1 3 4 (by kernel_rfl) (by kernel_rfl) (by kernel_rfl) (ev_134 c)
    · refine ends_turn (m := 4) (xs := [.int v0, .int v1, .int v2]) ⟨by kernel_rfl, by kernel_rfl, by kernel_rfl, by kernel_rfl, by kernel_rfl, by kernel_rfl⟩ (by decide) h2 ?_
      exact ends_end (xs := [.int v0, .int v1, .int v2]) 1 3 5 (by kernel_rfl) (by kernel_rfl) (by kernel_rfl) (ev_135 c)
  · refine ends_turn (m := 5) (xs := [.int v0, .int v1, .int v2]) ⟨by kernel_rfl, by kernel_rfl, by kernel_rfl, by kernel_rfl, by kernel_rfl, by kernel_rfl⟩ (by decide) h1 ?_
    rcases h2 with h2 | h2 | h2 | h2
    · refine ends_turn (m := 4) (xs := [.int v0, .int v1, .int v2]) ⟨by kernel_rfl, by kernel_rfl, by kernel_rfl, by kernel_rfl, by kernel_rfl, by kernel_rfl⟩ (by decide) h2 ?_
      exact ends_end (xs := [.int v0, .int v1, .int v2]) 0 2 3 (by kernel_rfl) (by kernel_rfl) (by kernel_rfl) (ev_023 c)
    · refine ends_turn (m := 4) (xs := [.int v0, .int v1, .int v2]) ⟨by kernel_rfl, by kernel_rfl, by kernel_rfl, by kernel_rfl, by kernel_rfl, by kernel_rfl⟩ (by decide) h2 ?_
      exact ends_end (xs := [.int v0, .int v1, .int v2]) 1 2 3 (by kernel_rfl) (by kernel_rfl) (by kernel_rfl) (ev_123 c)
    · refine ends_turn (m := 4) (xs := [.int v0, .int v1, .int v2]) ⟨by kernel_rfl, by kernel_rfl, by kernel_rfl, by kernel_rfl, by kernel_rfl, by kernel_rfl⟩ (by decide) h2 ?_
      exact ends_end (xs := [.int v0, .int v1, .int v2]) 2 3 4 (by kernel_rfl) (by kernel_rfl) (by kernel_rfl) (ev_234 c)
    · refine ends_turn (m := 4) (xs := [.int v0, .int v1, .int v2]) ⟨by kernel_rfl, by kernel_rfl, by kernel_rfl, by kernel_rfl, by kernel_rfl, by kernel_rfl⟩ (by decide) h2 ?_
      exact ends_end (xs := [.int v0, .int v1, .int v2]) 2 3 5 (by kernel_rfl) (by kernel_rfl) (by kernel_rfl) (ev_235 c)
  · refine ends_turn (m := 5) (xs := [.int v0, .int v1, .int v2]) ⟨by kernel_rfl, by kernel_rfl, by kernel_rfl, by kernel_rfl, by kernel_rfl, by kernel_rfl⟩ (by decide) h1 ?_
    rcases h2 with h2 | h2 | h2 | h2
    · refine ends_turn (m := 4) (xs := [.int v0, .int v1, .int v2]) ⟨by kernel_rfl, by kernel_rfl, by kernel_rfl, by kernel_rfl, by kernel_rfl, by kernel_rfl⟩ (by decide) h2 ?_
      exact ends_end (xs := [.int v0, .int v1, .int v2]) 0 3 4 (by kernel_rfl) (by kernel_rfl) (by kernel_rfl) (ev_034 c)
    · refine ends_turn (m := 4) (xs := [.int v0, .int v1, .int v2]) ⟨by kernel_rfl, by kernel_rfl, by kernel_rfl, by kernel_rfl, by kernel_rfl, by kernel_rfl⟩ (by decide) h2 ?_
      exact ends_end (xs := [.int v0, .int v1, .int v2]) 1 3 4 (by kernel_rfl) (by kernel_rfl) (by kernel_rfl) (ev_134 c)
    · refine ends_turn (m := 4) (xs := [.int v0, .int v1, .int v2]) ⟨by kernel_rfl, by kernel_rfl, by kernel_rfl, by kernel_rfl, by kernel_rfl, by kernel_rfl⟩ (by decide) h2 ?_
      exact ends_end (xs := [.int v0, .int v1, .int v2]) 2 3 4 (by kernel_rfl) (by kernel_rfl) (by kernel_rfl) (ev_234 c)
    · refine ends_turn (m := 4) (xs := [.int v0, .int v1, .int v2]) ⟨by kernel_rfl, by kernel_rfl, by kernel_rfl, by kernel_rfl, by kernel_rfl, by kernel_rfl⟩ (by decide) h2 ?_
      exact ends_end (xs := [.int v0, .int v1, .int v2]) 3 4 5 (by kernel_rfl) (by kernel_rfl) (by kernel_rfl) (ev_345 c)
  · refine ends_turn (m := 5) (xs := [.int v0, .int v1, .int v2]) ⟨by kernel_rfl, by kernel_rfl, by kernel_rfl, by kernel_rfl, by kernel_rfl, by kernel_rfl⟩ (by decide) h1 ?_
    rcases h2 with h2 | h2 | h2 | h2
    · refine ends_turn (m := 4) (xs := [.int v0, .int v1, .int v2]) ⟨by kernel_rfl, by kernel_rfl, by kernel_rfl, by kernel_rfl, by kernel_rfl, by kernel_rfl⟩ (by decide) h2 ?_
      exact ends_end (xs := [.int v0, .int v1, .int v2]) 0 3 5 (by kernel_rfl) (by kernel_rfl) (by kernel_rfl) (ev_035 c)
    · refine ends_turn (m := 4) (xs := [.int v0, .int v1, .int v2]) ⟨by kernel_rfl, by kernel_rfl, by kernel_rfl, by kernel_rfl, by kernel_rfl, by kernel_rfl⟩ (by decide) h2 ?_
      exact ends_end (xs := [.int v0, .int v1, .int v2]) 1 3 5 (by kernel_rfl) (by kernel_rfl) (by kernel_rfl) (ev_135 c)
    · refine ends_turn (m := 4) (xs := [.int v0, .int v1, .int v2]) ⟨by kernel_rfl, by kernel_rfl, by kernel_rfl, by kernel_rfl, by kernel_rfl, by kernel_rfl⟩ (by decide) h2 ?_
      exact ends_end (xs := [.int v0, .int v1, .int v2]) 2 3 5 (by kernel_rfl) (by kernel_rfl) (by kernel_rfl) (ev_235 c)
    · refine ends_turn (m := 4) (xs := [.int v0, .int v1, .int v2]) ⟨by kernel_rfl, by kernel_rfl, by kernel_rfl, by kernel_rfl, by kernel_rfl, by kernel_rfl⟩ (by decide) h2 ?_
      exact ends_end (xs := [.int v0, .int v1, .int v2]) 3 4 5 (by kernel_rfl) (by kernel_rfl) (by kernel_rfl) (ev_345 c)
theorem path4 (c : Cx) (a : Addr) (T D : List MV) (v0 v1 v2 : Int) (h0 : v0.fmod 6 = 4) (h1 : v1.fmod 5 = 0 ∨ v1.fmod 5 = 1 ∨ v1.fmod 5 = 2 ∨ v1.fmod 5 = 3 ∨ v1.fmod 5 = 4) (h2 : v2.fmod 4 = 0 ∨ v2.fmod 4 = 1 ∨ v2.fmod 4 = 2 ∨ v2.fmod 4 = 3) : endsOk c (loopT c 4 0 (stL a T D v0 v1 v2)) := by
  refine ends_turn (m := 6) (xs := [.int v0, .int v1, .int v2]) ⟨by kernel_rfl, by kernel_rfl, by kernel_rfl, by kernel_rfl, by kernel_rfl, by kernel_rfl⟩ (by decide) h0 ?_
  rcases h1 with h1 | h1 | h1 | h1 | h1
  · refine ends_turn (m := 5) (xs := [.int v0, .int v1, .int v2]) ⟨by kernel_rfl, by kernel_rfl, by kernel_rfl, by kernel_rfl, by kernel_rfl, by kernel_rfl⟩ (by decide) h1 ?_
    rcases h2 with h2 | h2 | h2 | h2
    · refine ends_turn (m := 4) (xs := [.int v0, .int v1, .int v2]) ⟨by kernel_rfl, by kernel_rfl, by kernel_rfl, by kernel_rfl, by kernel_rfl, by kernel_rfl⟩ (by decide) h2 ?_
      exact ends_end (xs := [.int v0, .int v1, .int v2]) 0 1 4 (by kernel_rfl) (by kernel_rfl) (by kernel_rfl) (ev_014 c)
    · refine ends_turn (m := 4) (xs := [.int v0, .int v1, .int v2]) ⟨by kernel_rfl, by kernel_rfl, by kernel_rfl, by kernel_rfl, by kernel_rfl, by kernel_rfl⟩ (by decide) h2 ?_
      exact ends_end (xs := [.int v0, .int v1, .int v2]) 0 2 4 (by kernel_rfl) (by kernel_rfl) (by kernel_rfl) (ev_024 c)
    · refine ends_turn (m := 4) (xs := [.int v0, .int v1, .int v2]) ⟨by kernel_rfl, by kernel_rfl, by kernel_rfl, by kernel_rfl, by kernel_rfl, by kernel_rfl⟩ (by decide) h2 ?_
      exact ends_end (xs := [.int v0, .int v1, .int v2]) 0 3 4 (by kernel_rfl) (by kernel_rfl) (by kernel_rfl) (ev_034 c)
    · refine ends_turn (m := 4) (xs := [.int v0, .int v1, .int v2]) ⟨by kernel_rfl, by kernel_rfl, by kernel_rfl, by kernel_rfl, by kernel_rfl, by kernel_rfl⟩ (by decide) h2 ?_
      exact ends_end (xs := [.int v0, .int v1, .int v2]) 0 4 5 (by kernel_rfl) (by kernel_rfl) (by kernel_rfl) (ev_045 c)
  · refine ends_turn (m := 5) (xs := [.int v0, .int v1, .int v2]) ⟨by kernel_rfl, by kernel_rfl, by kernel_rfl, by kernel_rfl, by kernel_rfl, by kernel_rfl⟩ (by decide) h1 ?_
    rcases h2 with h2 | h2 | h2 | h2
    · refine ends_turn (m := 4) (xs := [.int v0, .int v1, .int v2]) ⟨by kernel_rfl, by kernel_rfl, by kernel_rfl, by kernel_rfl, by kernel_rfl, by kernel_rfl⟩ (by decide) h2 ?_
      exact ends_end (xs := [.int v0, .int v1, .int v2]) 0 1 4 (by kernel_rfl) (by kernel_rfl) (by kernel_rfl) (ev_014 c)
    · refine ends_turn (m := 4) (xs := [.int v0, .int v1, .int v2]) ⟨by kernel_rfl, by kernel_rfl, by kernel_rfl, by kernel_rfl, by kernel_rfl, by kernel_rfl⟩ (by decide) h2 ?_
      exact ends_end (xs := [.int v0, .int v1, .int v2]) 1 2 4 (by kernel_rfl) (by kernel_rfl) (by kernel_rfl) (ev_124 c)
    · refine ends_turn (m := 4) (xs := [.int v0, .int v1, .int v2]) ⟨by kernel_rfl, by kernel_rfl, by kernel_rfl, by kernel_rfl, by kernel_rfl, by kernel_rfl⟩ (by decide) h2 ?_
      exact ends_end (xs := [.int v0, .int v1, .int v2]) 1 3 4 (by kernel_rfl) (by kernel_rfl) (by kernel_rfl) (ev_134 c)
    · refine ends_turn (m := 4) (xs := [.int v0, .int v1, .int v2]) ⟨by kernel_rfl, by kernel_rfl, by kernel_rfl, by kernel_rfl, by kernel_rfl, by kernel_rfl⟩ (by decide) h2 ?_
      exact ends_end (xs := [.int v0, .int v1, .int v2]) 1 4 5 (by kernel_rfl) (by kernel_rfl) (by kernel_rfl) (ev_145 c)
  · refine ends_turn (m := 5) (xs := [.int v0, .int v1, .int v2]) ⟨by kernel_rfl, by kernel_rfl, by kernel_rfl, by kernel_rfl, by kernel_rfl, by kernel_rfl⟩ (by decide) h1 ?_
    rcases h2 with h2 | h2 | h2 | h2
    · refine ends_turn (m := 4) (xs := [.int v0, .int v1, .int v2]) ⟨by kernel_rfl, by kernel_rfl, by kernel_rfl, by kernel_rfl, by kernel_rfl, by kernel_rfl⟩ (by decide) h2 ?_
      exact ends_end (xs := [.int v0, .int v1, .int v2]) 0 2 4 (by kernel_rfl) (by kernel_rfl) (by kernel_rfl) (ev_024 c)
    · refine ends_turn (m := 4) (xs := [.int v0, .int v1, .int v2]) ⟨by kernel_rfl, by kernel_rfl, by kernel_rfl, by kernel_rfl, by kernel_rfl, by kernel_rfl⟩ (by decide) h2 ?_
      exact ends_end (xs := [.int v0, .int v1, .int v2]) 1 2 4 (by kernel_rfl) (by kernel_rfl) (by kernel_rfl) (ev_124 c)
    · refine ends_turn (m := 4) (xs := [.int v0, .int v1, .int v2]) ⟨by kernel_rfl, by kernel_rfl, by kernel_rfl, by kernel_rfl, by kernel_rfl, by kernel_rfl⟩ (by decide) h2 ?_
      exact ends_end (xs := [.int v0, .int v1, .int v2]) 2 3 4 (by kernel_rfl) (by kernel_rfl) (by kernel_rfl) (ev_234 c)
    · refine ends_turn (m := 4) (xs := [.int v0, .int v1, .int v2]) ⟨by kernel_rfl, by kernel_rfl, by kernel_rfl, by kernel_rfl, by kernel_rfl, by kernel_rfl⟩ (by decide) h2 ?_
      exact ends_end (xs := [.int v0, .int v1, .int v2]) 2 4 5 (by kernel_rfl) (by kernel_rfl) (by kernel_rfl) (ev_245 c)
  · refine ends_turn (m := 5) (xs := [.int v0, .int v1, .int v2]) ⟨by kernel_rfl, by kernel_rfl, by kernel_rfl, by kernel_rfl, by kernel_rfl, by kernel_rfl⟩ (by decide) h1 ?_
    rcases h2 with h2 | h2 | h2 | h2
    · refine ends_turn (m := 4) (xs := [.int v0, .int v1, .int v2]) ⟨by kernel_rfl, by kernel_rfl, by kernel_rfl, by kernel_rfl, by kernel_rfl, by kernel_rfl⟩ (by decide) h2 ?_
      exact ends_end (xs := [.int v0, .int v1, .int v2]) 0 3 4 (by kernel_rfl) (by kernel_rfl) (by kernel_rfl) (ev_034 c)
    · refine ends_turn (m := 4) (xs := [.int v0, .int v1, .int v2]) ⟨by kernel_rfl, by kernel_rfl, by kernel_rfl, by kernel_rfl, by kernel_rfl, by kernel_rfl⟩ (by decide) h2 ?_
      exact ends_end (xs := [.int v0, .int v1, .int v2]) 1 3 4 (by kernel_rfl) (by kernel_rfl) (by kernel_rfl) (ev_134 c)
    · refine ends_turn (m := 4) (xs := [.int v0, .int v1, .int v2]) ⟨by kernel_rfl, by kernel_rfl, by kernel_rfl, by kernel_rfl, by kernel_rfl, by kernel_rfl⟩ (by decide) h2 ?_
      exact ends_end (xs := [.int v0, .int v1, .int v2]) 2 3 4 (by kernel_rfl) (by kernel_rfl) (by kernel_rfl) (ev_234 c)
    · refine ends_turn (m := 4) (xs := [.int v0, .int v1, .int v2]) ⟨by kernel_rfl, by kernel_rfl, by kernel_rfl, by kernel_rfl, by kernel_rfl, by kernel_rfl⟩ (by decide) h2 ?_
      exact ends_end (xs := [.int v0, .int v1, .int v2]) 3 4 5 (by kernel_rfl) (by kernel_rfl) (by kernel_rfl) (ev_345 c)
  · refine ends_turn (m := 5) (xs := [.int v0, .int v1, .int v2]) ⟨by kernel_rfl, by kernel_rfl, by kernel_rfl, by kernel_rfl, by kernel_rfl, by kernel_rfl⟩ (by decide) h1 ?_
    rcases h2 with h2 | h2 | h2 | h2
    · refine ends_turn (m := 4) (xs := [.int v0, .int v1, .int v2]) ⟨by kernel_rfl, by kernel_rfl, by kernel_rfl, by kernel_rfl, by kernel_rfl, by kernel_rfl⟩ (by decide) h2 ?_
      exact ends_end (xs := [.int v0, .int v1, .int v2]) 0 4 5 (by kernel_rfl) (by kernel_rfl) (by kernel_rfl) (ev_045 c)
    · refine ends_turn (m := 4) (xs := [.int v0, .int v1, .int v2]) ⟨by kernel_rfl, by kernel_rfl, by kernel_rfl, by kernel_rfl, by kernel_rfl, by kernel_rfl⟩ (by decide) h2 ?_
      exact ends_end (xs := [.int v0, .int v1, .int v2]) 1 4 5 (by kernel_rfl) (by kernel_rfl) (by kernel_rfl) (ev_145 c)
    · refine ends_turn (m := 4) (xs := [.int v0, .int v1, .int v2]) ⟨by kernel_rfl, by kernel_rfl, by kernel_rfl, by kernel_rfl, by kernel_rfl, by kernel_rfl⟩ (by decide) h2 ?_
      exact ends_end (xs := [.int v0, .int v1, .int v2]) 2 4 5 (by kernel_rfl) (by kernel_rfl) (by kernel_rfl) (ev_245 c)
    · refine ends_turn (m := 4) (xs := [.int v0, .int v1, .int v2]) ⟨by kernel_rfl, by kernel_rfl, by kernel_rfl, by kernel_rfl, by kernel_rfl, by kernel_rfl⟩ (by decide) h2 ?_
      exact ends_end (xs := [.int v0, .int v1, .int v2]) 3 4 5 (by kernel_rfl) (by kernel_rfl) (by kernel_rfl) (ev_345 c)
theorem path5 (c : Cx) (a : Addr) (T D : List MV) (v0 v1 v2 : Int) (h0 : v0.fmod 6 = 5) (h1 : v1.fmod 5 = 0 ∨ v1.fmod 5 = 1 ∨ v1.fmod 5 = 2 ∨ v1.fmod 5 = 3 ∨ v1.fmod 5 = 4) (h2 : v2.fmod 4 = 0 ∨ v2.fmod 4 = 1 ∨ v2.fmod 4 = 2 ∨ v2.fmod 4 = 3) : endsOk c (loopT c 4 0 (stL a T D v0 v1 v2)) := by
  refine ends_turn (m := 6) (xs := [.int v0, .int v1, .int v2]) ⟨by kernel_rfl, by kernel_rfl, by kernel_rfl, by kernel_rfl, by kernel_rfl, by kernel_rfl⟩ (by decide) h0 ?_
  rcases h1 with h1 | h1 | h1 | h1 | h1
  · refine ends_turn (m := 5) (xs := [.int v0, .int v1, .int v2]) ⟨by kernel_rfl, by kernel_rfl, by kernel_rfl, by kernel_rfl, by kernel_rfl, by kernel_rfl⟩ (by decide) h1 ?_
    rcases h2 with h2 | h2 | h2 | h2
    · refine ends_turn (m := 4) (xs := [.int v0, .int v1, .int v2]) ⟨by kernel_rfl, by kernel_rfl, by kernel_rfl, by kernel_rfl, by kernel_rfl, by kernel_rfl⟩ (by decide) h2 ?_
      exact ends_end (xs := [.int v0, .int v1, .int v2]) 0 1 5 (by kernel_rfl) (by kernel_rfl) (by kernel_rfl) (ev_015 c)
    · refine ends_turn (m := 4) (xs := [.int v0, .int v1, .int v2]) ⟨by kernel_rfl, by kernel_rfl, by kernel_rfl, by kernel_rfl, by kernel_rfl, by kernel_rfl⟩ (by decide) h2 ?_
      exact ends_end (xs := [.int v0, .int v1, .int v2]) 0 2 5 (by kernel_rfl) (by kernel_rfl) (by kernel_rfl) (ev_025 c)
    · refine ends_turn (m := 4) (xs := [.int v0, .int v1, .int v2]) ⟨by kernel_rfl, by kernel_rfl, by kernel_rfl, by kernel_rfl, by kernel_rfl, by kernel_rfl⟩ (by decide) h2 ?_
      exact ends_end (xs := [.int v0, .int v1, .int v2]) 0 3 5 (by kernel_rfl) (by kernel_rfl) (by kernel_rfl) (ev_035 c)
    · refine ends_turn (m := 4) (xs := [.int v0, .int v1, .int v2]) ⟨by kernel_rfl, by kernel_rfl, by kernel_rfl, by kernel_rfl, by kernel_rfl, by kernel_rfl⟩ (by decide) h2 ?_
      exact ends_end (xs := [.int v0, .int v1, .int v2]) 0 4 5 (by kernel_rfl) (by kernel_rfl) (by kernel_rfl) (ev_045 c)
  · refine ends_turn (m := 5) (xs := [.int v0, .int v1, .int v2]) ⟨by kernel_rfl, by kernel_rfl, by kernel_rfl, by kernel_rfl, by kernel_rfl, by kernel_rfl⟩ (by decide) h1 ?_
    rcases h2 with h2 | h2 | h2 | h2
    · refine ends_turn (m := 4) (xs := [.int v0, .int v1, .int v2]) ⟨by kernel_rfl, by kernel_rfl, by kernel_rfl, by kernel_rfl, by kernel_rfl, by kernel_rfl⟩ (by decide) h2 ?_
      exact ends_end (xs := [.int v0, .int v1, .int v2]) 0 1 5 (by kernel_rfl) (by kernel_rfl) (by kernel_rfl) (ev_015 c)
    · refine ends_turn (m := 4) (xs := [.int v0, .int v1, .int v2]) ⟨by kernel_rfl, by kernel_rfl, by kernel_rfl, by kernel_rfl, by kernel_rfl, by kernel_rfl⟩ (by decide) h2 ?_
      exact ends_end (xs := [.int v0, .int v1, .int v2]) 1 2 5 (by kernel_rfl) (by kernel_rfl) (by kernel_rfl) (ev_125 c)
    · refine ends_turn (m := 4) (xs := [.int v0, .int v1, .int v2]) ⟨by kernel_rfl, by kernel_rfl, by kernel_rfl, by kernel_rfl, by kernel_rfl, by kernel_rfl⟩ (by decide) h2 ?_
      exact ends_end (xs := [.int v0, .int v1, .int v2]) 1 3 5 (by kernel_rfl) (by kernel_rfl) (by kernel_rfl) (ev_135 c)
    · refine ends_turn (m := 4) (xs := [.int v0, .int v1, .int v2]) ⟨by kernel_rfl, by kernel_rfl, by kernel_rfl, by kernel_rfl, by kernel_rfl, by kernel_rfl⟩ (by decide) h2 ?_
      exact ends_end (xs := [.int v0, .int v1, .int v2]) 1 4 5 (by kernel_rfl) (by kernel_rfl) (by kernel_rfl) (ev_145 c)
  · refine ends_turn (m := 5) (xs := [.int v0, .int v1, .int v2]) ⟨by kernel_rfl, by kernel_rfl, by kernel_rfl, by kernel_rfl, by kernel_rfl, by kernel_rfl⟩ (by decide) h1 ?_
    rcases h2 with h2 | h2 | h2 | h2
    · refine ends_turn (m := 4) (xs := [.int v0, .int v1, .int v2]) ⟨by kernel_rfl, by kernel_rfl, by kernel_rfl, by kernel_rfl, by kernel_rfl, by kernel_rfl⟩ (by decide) h2 ?_
      exact ends_end (xs := [.int v0, .int v1, .int v2]) 0 2 5 (by kernel_rfl) (by kernel_rfl) (by kernel_rfl) (ev_025 c)
    · refine ends_turn (m := 4) (xs := [.int v0, .int v1, .int v2]) ⟨by kernel_rfl, by kernel_rfl, by kernel_rfl, by kernel_rfl, by kernel_rfl, by kernel_rfl⟩ (by decide) h2 ?_
      exact ends_end (xs := [.int v0, .int v1, .int v2]) 1 2 5 (by kernel_rfl) (by kernel_rfl) (by kernel_rfl) (ev_125 c)
    · refine ends_turn (m := 4) (xs := [.int v0, .int v1, .int v2]) ⟨by kernel_rfl, by kernel_rfl, by kernel_rfl, by kernel_rfl, by kernel_rfl, by kernel_rfl⟩ (by decide) h2 ?_
      exact ends_end (xs := [.int v0, .int v1, .int v2]) 2 3 5 (by kernel_rfl) (by kernel_rfl) (by kernel_rfl) (ev_235 c)
    · refine ends_turn (m := 4) (xs := [.int v0, .int v1, .int v2]) ⟨by kernel_rfl, by kernel_rfl, by kernel_rfl, by kernel_rfl, by kernel_rfl, by kernel_rfl⟩ (by decide) h2 ?_
      exact ends_end (xs := [.int v0, .int v1, .int v2]) 2 4 5 (by kernel_rfl) (by kernel_rfl) (by kernel_rfl) (ev_245 c)
  · refine ends_turn (m := 5) (xs := [.int v0, .int v1, .int v2]) ⟨by kernel_rfl, by kernel_rfl, by kernel_rfl, by kernel_rfl, by kernel_rfl, by kernel_rfl⟩ (by decide) h1 ?_
    rcases h2 with h2 | h2 | h2 | h2
    · refine ends_turn (m := 4) (xs := [.int v0, .int v1, .int v2]) ⟨by kernel_rfl, by kernel_rfl, by kernel_rfl, by kernel_rfl, by kernel_rfl, by kernel_rfl⟩ (by decide) h2 ?_
      exact ends_end (xs := [.int v0, .int v1, .int v2]) 0 3 5 (by kernel_rfl) (by kernel_rfl) (by kernel_rfl) (ev_035 c)
    · refine ends_turn (m := 4) (xs := [.int v0, .int v1, .int v2]) ⟨by kernel_rfl, by kernel_rfl, by kernel_rfl, by kernel_rfl, by kernel_rfl, by kernel_rfl⟩ (by decide) h2 ?_
      exact ends_end (xs := [.int v0, .int v1, .int v2]) 1 3 5 (by kernel_rfl) (by kernel_rfl) (by kernel_rfl) (ev_135 c)
    · refine ends_turn (m := 4) (xs := [.int v0, .int v1, .int v2]) ⟨by kernel_rfl, by kernel_rfl, by kernel_rfl, by kernel_rfl, by kernel_rfl, by kernel_rfl⟩ (by decide) h2 ?_
      exact ends_end (xs := [.int v0, .int v1, .int v2]) 2 3 5 (by kernel_rfl) (by kernel_rfl) (by kernel_rfl) (ev_235 c)
    · refine ends_turn (m := 4) (xs := [.int v0, .int v1, .int v2]) ⟨by kernel_rfl, by kernel_rfl, by kernel_rfl, by kernel_rfl, by kernel_rfl, by kernel_rfl⟩ (by decide) h2 ?_
      exact ends_end (xs := [.int v0, .int v1, .int v2]) 3 4 5 (by kernel_rfl) (by kernel_rfl) (by kernel_rfl) (ev_345 c)
  · refine ends_turn (m := 5) (xs := [.int v0, .int v1, .int v2]) ⟨by kernel_rfl, by kernel_rfl, by kernel_rfl, by kernel_rfl, by kernel_rfl, by kernel_rfl⟩ (by decide) h1 ?_
    rcases h2 with h2 | h2 | h2 | h2
    · refine ends_turn (m := 4) (xs := [.int v0, .int v1, .int v2]) ⟨by kernel_rfl, by kernel_rfl, by kernel_rfl, by kernel_rfl, by kernel_rfl, by kernel_rfl⟩ (by decide) h2 ?_
      exact ends_end (xs := [.int v0, .int v1, .int v2]) 0 4 5 (by kernel_rfl) (by kernel_rfl) (by kernel_rfl) (ev_045 c)
    · refine ends_turn (m := 4) (xs := [.int v0, .int v1, .int v2]) ⟨by kernel_rfl, by kernel_rfl, by kernel_rfl, by kernel_rfl, by kernel_rfl, by kernel_rfl⟩ (by decide) h2 ?_
      exact ends_end (xs := [.int v0, .int v1, .int v2]) 1 4 5 (by kernel_rfl) (by kernel_rfl) (by kernel_rfl) (ev_145 c)
    · refine ends_turn (m := 4) (xs := [.int v0, .int v1, .int v2]) ⟨by kernel_rfl, by kernel_rfl, by kernel_rfl, by kernel_rfl, by kernel_rfl, by kernel_rfl⟩ (by decide) h2 ?_
      exact ends_end (xs := [.int v0, .int v1, .int v2]) 2 4 5 (by kernel_rfl) (by kernel_rfl) (by kernel_rfl) (ev_245 c)
    · refine ends_turn (m := 4) (xs := [.int v0, .int v1, .int v2]) ⟨by kernel_rfl, by kernel_rfl, by kernel_rfl, by kernel_rfl, by kernel_rfl, by kernel_rfl⟩ (by decide) h2 ?_
      exact ends_end (xs := [.int v0, .int v1, .int v2]) 3 4 5 (by kernel_rfl) (by kernel_rfl) (by kernel_rfl) (ev_345 c)
theorem paths (c : Cx) (a : Addr) (T D : List MV) (v0 v1 v2 : Int) : endsOk c (loopT c 4 0 (stL a T D v0 v1 v2)) := by
  have h1 : v1.fmod 5 = 0 ∨ v1.fmod 5 = 1 ∨ v1.fmod 5 = 2 ∨ v1.fmod 5 = 3 ∨ v1.fmod 5 = 4 := by
    have := Int.fmod_nonneg_of_pos v1 (b := 5) (by decide)
    have := Int.fmod_lt_of_pos v1 (b := 5) (by decide)
    omega
  have h2 : v2.fmod 4 = 0 ∨ v2.fmod 4 = 1 ∨ v2.fmod 4 = 2 ∨ v2.fmod 4 = 3 := by
    have := Int.fmod_nonneg_of_pos v2 (b := 4) (by decide)
    have := Int.fmod_lt_of_pos v2 (b := 4) (by decide)
    omega
  have h0 : v0.fmod 6 = 0 ∨ v0.fmod 6 = 1 ∨ v0.fmod 6 = 2 ∨ v0.fmod 6 = 3 ∨ v0.fmod 6 = 4 ∨ v0.fmod 6 = 5 := by
    have := Int.fmod_nonneg_of_pos v0 (b := 6) (by decide)
    have := Int.fmod_lt_of_pos v0 (b := 6) (by decide)
    omega
  rcases h0 with h0 | h0 | h0 | h0 | h0 | h0
  · exact path0 c a T D v0 v1 v2 h0 h1 h2
  · exact path1 c a T D v0 v1 v2 h0 h1 h2
  · exact path2 c a T D v0 v1 v2 h0 h1 h2
  · exact path3 c a T D v0 v1 v2 h0 h1 h2
  · exact path4 c a T D v0 v1 v2 h0 h1 h2
  · exact path5 c a T D v0 v1 v2 h0 h1 h2
theorem ok_ret {o : Option (Fl × St)} (h : okR o = true) : ∃ st t, o = some (.ret (.val (.bool true)), st) ∧ st.H.get 0 = some (.tab t) := by
  unfold okR at h
  split at h
  · split at h
    · rename_i t ht; exact ⟨_, t, rfl, ht⟩
    · cases h
  · cases h
/-- the law's code tells True -/
theorem law_true (c : Cx) (a : Addr) (ns : List Int) (h : c.lists a = some ns) (hlen : ns.length ≤ 63) : ∃ st t, law_d c ⟨v0s a, ⟨1, [(0, .tab none)]⟩⟩ = some (.ret (.val (.bool true)), st) ∧ st.H.get 0 = some (.tab t) := by
  obtain ⟨v0, v1, v2, hv⟩ := tk_dp ns
  have hI := law_I_ev c a ns h hlen
  rw [hv] at hI
  obtain ⟨st', x, y, z, e1, e2, e3⟩ := paths c a (tk (ns.map .int)) (dp (ns.map MV.int).length) v0 v1 v2
  obtain ⟨st, t, e4, e5⟩ := ok_ret e3
  refine ⟨st, t, ?_, e5⟩
  unfold law_d seqS
  rw [law_S_eq]
  show seqF 1 1 (forS law_tgt (law_I c) (setv 2) (law_T c)) (law_R c) ⟨v1s a, ⟨2, [(1, .list []), (0, .tab none)]⟩⟩ = _
  unfold seqF
  have hk : allK (kfun 1) (⟨v1s a, ⟨2, [(1, .list []), (0, .tab none)]⟩⟩ : St).H.os = true := by kernel_rfl
  rw [if_pos hk]
  have hf : forS law_tgt (law_I c) (setv 2) (law_T c) ⟨v1s a, ⟨2, [(1, .list []), (0, .tab none)]⟩⟩ = some (.next, st') := by
    unfold forS
    rw [hI]
    have ho : (Src.list 5 0).okT law_tgt = true := by kernel_rfl
    show (if (Src.list 5 0).okT law_tgt = true then _ else none) = _
    rw [if_pos ho]
    exact e1
  rw [hf]
  show law_R c (forgS 1 1 st') = _
  rw [e2, e4]
end Q
end Mini.L1

open PySem PySem.W PySem.Calls PyProof.Rows
set_option maxRecDepth 100000
set_option maxHeartbeats 8000000
namespace Mini.L1
theorem slots0 (a : Addr) {m : Str → Option Value} (hm : m (Str.ofString "script") = some (.ref a)) (P : Addr) : ∀ (i : Nat) (x : Str) (v : MV), law_sx.slots[i]? = some x → (v0s a)[i]? = some (some v) → law_sx.kindOf x = some .local ∧ ∃ w, m x = some w ∧ vr (fun _ => P) 1 v w := by
  intro i x v h1 h2
  match i with
  | 0 =>
    cases h1
    cases h2
    exact ⟨by kernel_rfl, _, hm, rfl⟩
  | i + 1 =>
    have h2 : (List.replicate 18 (none : Option MV))[i]? = some (some v) := h2
    rw [List.getElem?_replicate] at h2
    split at h2 <;> cases h2
theorem fin {prog : Program} {w : World} {h₀ : Heap} {p : Program} {loose : List Str} {mean : ExcName → Option Value} {mg mb : Str → Option Value} {a : Addr} {vs : List Value} {ns : List Int} {s : Shared} {L : Addr} {ob : Obj} {v : Option Value} {m : Str → Option Value} {body : List Stmt} {A : Around} {env : Env} {Q : Flow → Shared → Prop} {E : Value → Shared → Prop}
    (X : (K1 w.params).In h₀) (T : Top p loose mean mg mb h₀) (hd : CodeHd h₀ c0 t0) (hL : h₀.IsList a vs.toArray) (hI : IntsAre vs ns) (hlen : ns.length ≤ 63) (F : Fr h₀ L s.heap m) (N : News h₀ L s.heap [(L + 1, ob), (t0, tabObj #[])]) (hob : ob.data = .cell v)
    (hb : body = law_body) (B : Bud A 60) (hm : m (Str.ofString "script") = some (.ref a)) (hl : env.locals = L) (hc : env.cells = [(Str.ofString "coins", L + 1)]) (S1 : env.scope = law_sx.scope) (S2 : env.globals = mainGlobals) (S3 : env.builtins = builtinsNs) (S5 : env.qual = law_sx.qual)
    (q : ∀ h' tk' m', Fr h₀ L h' m' → GrownAt t0 h' → Q (.ret (.bool true)) { s with heap := h', toks := tk' }) : wpAny (model prog w) A (execs body env) Q E s := by
  subst hb
  have lk : ∀ x c, env.cells.lookup x = some c → x = Str.ofString "coins" ∧ c = L + 1 := fun x c e => by
    rw [hc, List.lookup_cons] at e
    split at e
    · rename_i h; cases e; exact ⟨beq_iff_eq.mp h, rfl⟩
    · cases e
  let c : Cx := ⟨prog, w, h₀, p, loose, mean, mg, mb, X, T, hd, fun b => if b = a then some ns else none, fun b ms e => by
    split at e
    · rename_i h; cases e; exact ⟨vs, h ▸ hL, hI⟩
    · cases e⟩
  obtain ⟨st, t, e1, e2⟩ := law_true c a ns (if_pos rfl) hlen
  refine run_fin (G := c.G) (P := t0) (law_den c) ?_ B F N (by simp) hl rfl ?_ (slots0 a hm t0) e1 e2 (fun _ _ _ h => h) q
  · exact {
      scope := S1
      kind := by kernel_rfl
      glo := S2
      bui := S3
      ownk := by decide +kernel
      owninj := fun x y c hx hy _ _ => by
        have hx := List.mem_singleton.mp hx
        have hy := List.mem_singleton.mp hy
        rw [hx, hy]
      nd := by decide +kernel
      code := .inl rfl
      qual := S5
      has := fun x h => by
        have key : ∀ p ∈ law_sx.scope.names, p.2 = .cell ∨ p.2 = .free → p.1 = Str.ofString "coins" := by decide +kernel
        have hx : x = Str.ofString "coins" := by
          rcases h with h | h
          · exact key _ (PySem.mem_of_lookup h) (.inl rfl)
          · exact key _ (PySem.mem_of_lookup h) (.inr rfl)
        subst hx
        exact ⟨L + 1, by rw [hc, List.lookup_cons]; simp⟩ }
  · intro x c e
    obtain ⟨rfl, rfl⟩ := lk x c e
    exact ⟨by decide +kernel, ob, v, by simp, hob⟩
theorem budA (env : Env) : Bud (callerA.deeper env) 60 := ⟨rfl, rfl, by show callerA.depth + 1 + 60 < recursionLimit; decide +kernel, by show callerA.units + 3 + 8 * 60 < cLine; decide +kernel⟩
theorem hold : PySem.Challenge.rw_pg0324_01.Holds := hd1 ⟨hl, by
  w_strict (k_go0
            refine fin (by assumption) (by assumption) (by assumption) (by assumption) (by assumption) (by omega) (by assumption) (by assumption) (by assumption) (by kernel_rfl) (budA _) (by kernel_rfl) (by kernel_rfl) (by kernel_rfl) (by kernel_rfl) (by kernel_rfl) (by kernel_rfl) (by kernel_rfl) (fun h' tk' m' F G => ⟨goodW_bool F (by assumption) (raisesW_false (by wrow_none_raised)) (by wrow_post), G, trivial⟩))⟩
end Mini.L1

set_option maxRecDepth 100000 in
set_option maxHeartbeats 8000000 in
theorem PySem.Challenge.cw_pg0324_01_holds : PySem.Challenge.rw_pg0324_01.Holds := by
  exact Mini.L1.hold
