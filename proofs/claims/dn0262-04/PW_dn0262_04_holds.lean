import PyProof.Rows.All
import Wide.All
import OpenK.AllK
import Wide.FinOn
import KE.KParD
import KE.KPairComp
import PyProof.DictCompW
import KE.KBoundM
import PyProof.ZipIter
import PyProof.Rows.ListMul
import PyProof.Rows.StrFirst
import Lean
import PySem.Challenge.RW_dn0262_04
open PySem PySem.W PySem.Calls PyProof.Rows
set_option Elab.async false
set_option linter.unusedVariables false
namespace Mine

/-! # values, objects -/
inductive PV where
  | none
  | bool (b : Bool)
  | int (i : Int)
  | str (x : Str)
  | bytes (b : Array UInt8)
  | tuple (ds : List PV)
  | ref (a : Addr)
  | ty (n : String)
  | bi (id : String)

abbrev tupO (vs : List Value) (n : Nat) : Obj := { cls := .type "tuple", data := .seq vs.toArray n }

mutual
inductive Rep (h : Heap) : PV → Value → Prop
  | none : Rep h .none .none
  | bool (b : Bool) : Rep h (.bool b) (.bool b)
  | int (i : Int) (t : Tok) : Rep h (.int i) (.int i t)
  | str (x : Str) (t : Tok) : Rep h (.str x) (.str x t)
  | bytes (b : Array UInt8) (t : Tok) : Rep h (.bytes b) (.bytes b t)
  | tuple {a : Addr} {vs : List Value} {n : Nat} {ds : List PV} : h.get? a = some (tupO vs n) → Reps h ds vs → Rep h (.tuple ds) (.ref a)
  | ref (a : Addr) : Rep h (.ref a) (.ref a)
  | ty (n : String) : Rep h (.ty n) (.type n)
  | bi (id : String) : Rep h (.bi id) (.builtin id)
inductive Reps (h : Heap) : List PV → List Value → Prop
  | nil : Reps h [] []
  | cons {d : PV} {v : Value} {ds : List PV} {vs : List Value} : Rep h d v → Reps h ds vs → Reps h (d :: ds) (v :: vs)
end

/-- what is a tuple stays -/
def IsT (o : Obj) : Prop := o.cls = .type "tuple" ∧ ∃ xs n, o.data = .seq xs n
def TK (h h' : Heap) : Prop := ∀ a o, h.get? a = some o → IsT o → h'.get? a = some o

mutual
theorem Rep.mono {h h' : Heap} (k : TK h h') : ∀ {d : PV} {v : Value}, Rep h d v → Rep h' d v
  | _, _, .none => .none
  | _, _, .bool b => .bool b
  | _, _, .int i t => .int i t
  | _, _, .str x t => .str x t
  | _, _, .bytes b t => .bytes b t
  | _, _, .tuple e r => .tuple (k _ _ e ⟨rfl, _, _, rfl⟩) (Reps.mono k r)
  | _, _, .ref a => .ref a
  | _, _, .ty n => .ty n
  | _, _, .bi n => .bi n
theorem Reps.mono {h h' : Heap} (k : TK h h') : ∀ {ds : List PV} {vs : List Value}, Reps h ds vs → Reps h' ds vs
  | _, _, .nil => .nil
  | _, _, .cons a r => .cons (Rep.mono k a) (Reps.mono k r)
end

theorem Reps.length {h : Heap} {ds : List PV} {vs : List Value} (r : Reps h ds vs) : vs.length = ds.length := by
  induction vs generalizing ds with
  | nil => cases r; rfl
  | cons v vs ih => cases r with | cons _ r => simp [ih r]
theorem Reps.append {h : Heap} {ds es : List PV} {vs ws : List Value} (r : Reps h ds vs) (q : Reps h es ws) : Reps h (ds ++ es) (vs ++ ws) := by
  induction vs generalizing ds with
  | nil => cases r; exact q
  | cons v vs ih => cases r with | cons a r => exact .cons a (ih r)
theorem Reps.get {h : Heap} {ds : List PV} {vs : List Value} (r : Reps h ds vs) {k : Nat} {d : PV} (hk : ds[k]? = some d) : ∃ v, vs[k]? = some v ∧ Rep h d v := by
  induction vs generalizing ds k with
  | nil => cases r; simp at hk
  | cons v vs ih =>
    cases r with
    | cons a r =>
      cases k with
      | zero => simp at hk; subst hk; exact ⟨v, rfl, a⟩
      | succ k => exact ih r (by simpa using hk)
theorem Reps.take {h : Heap} {ds : List PV} {vs : List Value} (r : Reps h ds vs) (k : Nat) : Reps h (ds.take k) (vs.take k) := by
  induction vs generalizing ds k with
  | nil => cases r; simp; exact .nil
  | cons u vs ih =>
    cases r with
    | cons a r =>
      cases k with
      | zero => exact .nil
      | succ k => exact .cons a (ih r k)
theorem Reps.drop {h : Heap} {ds : List PV} {vs : List Value} (r : Reps h ds vs) (k : Nat) : Reps h (ds.drop k) (vs.drop k) := by
  induction vs generalizing ds k with
  | nil => cases r; simp; exact .nil
  | cons u vs ih =>
    cases r with
    | cons a r =>
      cases k with
      | zero => exact .cons a r
      | succ k => exact ih r k
inductive AO where
  | list (xs : List PV)
  | inst (C dx : Addr)
  | dict (kvs : List (Str × PV))
  | obj (o : Obj)
  | rng (a b st : Int)

abbrev Mu := Addr → Option AO
abbrev Lm := List (Str × PV)

structure Cx where
  prog : Program
  w : World
  base : Heap
  mg : Str → Option Value
  mb : Str → Option Value
  nolim : base.NoLimit
  g : base.Ns mainGlobals mg
  b : base.Ns builtinsNs mb
  bi : ∀ x, x ≠ ("__name__" : Str) → mb x = bootBuiltins x

abbrev Cx.M (c : Cx) : Model := model c.prog c.w

inductive RepD (h : Heap) : List (Str × PV) → List (Str × Value) → Prop
  | nil : RepD h [] []
  | cons {k : Str} {d : PV} {v : Value} {ds : List (Str × PV)} {vs : List (Str × Value)} : Rep h d v → RepD h ds vs → RepD h ((k, d) :: ds) ((k, v) :: vs)
theorem RepD.mono {h h' : Heap} (k : TK h h') {ds : List (Str × PV)} {vs : List (Str × Value)} (r : RepD h ds vs) : RepD h' ds vs := by
  induction r with
  | nil => exact .nil
  | cons a _ ih => exact .cons (a.mono k) ih

def RepO (c : Cx) (h : Heap) (a : Addr) : AO → Prop
  | .list xs => ∃ vs n, h.get? a = some (listOf vs.toArray n) ∧ Reps h xs vs
  | .inst C dx => h.get? a = some (instObj C dx)
  | .dict kvs => ∃ vs es n, h.get? a = some (dictOf es n) ∧ h.DictOf (PySem.strKind c.prog c.w) a vs ∧ RepD h kvs vs
  | .obj o => h.get? a = some o ∧ ¬ IsT o
  | .rng a' b' st => ∃ t u v, h.get? a = some { cls := .type "range", data := .fields #[.int a' t, .int b' u, .int st v] }

/-- no object of the ledger is a tuple -/
theorem RepO.noTup {c : Cx} {h : Heap} {a : Addr} {x : AO} (r : RepO c h a x) : ∃ o, h.get? a = some o ∧ ¬ IsT o := by
  cases x with
  | list xs => obtain ⟨vs, n, e, _⟩ := r; exact ⟨_, e, by simp [IsT]⟩
  | inst C dx => exact ⟨_, r, by simp [IsT]⟩
  | dict kvs => obtain ⟨vs, es, n, e, _⟩ := r; exact ⟨_, e, by simp [IsT]⟩
  | obj o => exact ⟨o, r.1, r.2⟩
  | rng _ _ _ => obtain ⟨t, u, v, e⟩ := r; exact ⟨_, e, by simp [IsT]⟩

theorem dictOf_at {K : Type} [DecidableEq K] {prog : Program} {w : World} {knd : KeyKind prog w K} {h h' : Heap} {a : Addr} {kvs : List (K × Value)} (x : h.DictOf knd a kvs) (hk : ∀ o, h.get? a = some o → h'.get? a = some o) : h'.DictOf knd a kvs :=
  let ⟨o, es, ep, e, r⟩ := x; ⟨o, es, ep, hk _ e, r⟩

theorem RepO.mono {c : Cx} {h h' : Heap} {a : Addr} {x : AO} (r : RepO c h a x) (ha : ∀ o, h.get? a = some o → h'.get? a = some o) (k : TK h h') : RepO c h' a x := by
  cases x with
  | list xs => obtain ⟨vs, n, e, q⟩ := r; exact ⟨vs, n, ha _ e, q.mono k⟩
  | inst C dx => exact ha _ r
  | dict kvs => obtain ⟨vs, es, n, e, d, q⟩ := r; exact ⟨vs, es, n, ha _ e, dictOf_at d ha, q.mono k⟩
  | obj o => exact ⟨ha _ r.1, r.2⟩
  | rng _ _ _ => obtain ⟨t, u, v, e⟩ := r; exact ⟨t, u, v, ha _ e⟩

structure St (c : Cx) (mu : Mu) (h : Heap) : Prop where
  base : ∀ b o, c.base.get? b = some o → h.get? b = some o
  objs : ∀ a o, mu a = some o → RepO c h a o
  new : ∀ a, mu a ≠ none → c.base.get? a = none

theorem St.lt {c : Cx} {mu : Mu} {h : Heap} (S : St c mu h) {a : Addr} (ha : mu a ≠ none) : a < h.objs.size := by
  obtain ⟨o, e⟩ := Option.ne_none_iff_exists'.mp ha
  obtain ⟨o', e', _⟩ := (S.objs a o e).noTup
  exact Heap.lt_size e'
theorem St.off {c : Cx} {mu : Mu} {h : Heap} (S : St c mu h) {a : Addr} (ha : h.objs.size ≤ a) : mu a = none := by
  cases e : mu a with
  | none => rfl
  | some o => exact absurd (S.lt (by rw [e]; simp)) (Nat.not_lt.mpr ha)
theorem St.baseNone {c : Cx} {mu : Mu} {h : Heap} (S : St c mu h) {a : Addr} (ha : h.objs.size ≤ a) : c.base.get? a = none := by
  cases e : c.base.get? a with
  | none => rfl
  | some o => exact absurd (Heap.lt_size (S.base a o e)) (Nat.not_lt.mpr ha)
/-- a tuple's address is not of the ledger -/
theorem St.tupOff {c : Cx} {mu : Mu} {h : Heap} (S : St c mu h) {a : Addr} {o : Obj} (e : h.get? a = some o) (ht : IsT o) : mu a = none := by
  cases q : mu a with
  | none => rfl
  | some x =>
    obtain ⟨o', e', hn⟩ := (S.objs a x q).noTup
    rw [e] at e'; cases e'; exact absurd ht hn

def noT : Addr → Prop := fun _ => False

structure Step (c : Cx) (T : Addr → Prop) (mu : Mu) (s : Shared) (mu' : Mu) (s' : Shared) : Prop where
  shape : ∃ h tk, s' = { s with heap := h, toks := tk }
  st : St c mu' s'.heap
  keep : ∀ b o, s.heap.get? b = some o → mu b = none → ¬ T b → s'.heap.get? b = some o
  alive : ∀ b o, s.heap.get? b = some o → mu b = none → ∃ o', s'.heap.get? b = some o'
  dom : ∀ b, mu' b ≠ none → mu b ≠ none ∨ s.heap.get? b = none

theorem get_none {h : Heap} {a : Addr} (ha : h.objs.size ≤ a) : h.get? a = none := by
  cases e : h.get? a with
  | none => rfl
  | some o => exact absurd (Heap.lt_size e) (Nat.not_lt.mpr ha)

theorem Step.trans {c : Cx} {T : Addr → Prop} {mu mu1 mu2 : Mu} {s s1 s2 : Shared} (x : Step c T mu s mu1 s1) (y : Step c T mu1 s1 mu2 s2) : Step c T mu s mu2 s2 where
  shape := by obtain ⟨h, tk, rfl⟩ := x.shape; obtain ⟨h2, tk2, rfl⟩ := y.shape; exact ⟨h2, tk2, rfl⟩
  st := y.st
  keep := fun b o e hm hT => y.keep b o (x.keep b o e hm hT) (by
    cases q : mu1 b with
    | none => rfl
    | some z =>
      rcases x.dom b (by rw [q]; simp) with h | h
      · exact absurd hm h
      · rw [e] at h; cases h) hT
  alive := fun b o e hm => by
    obtain ⟨o1, e1⟩ := x.alive b o e hm
    refine y.alive b o1 e1 ?_
    cases q : mu1 b with
    | none => rfl
    | some z =>
      rcases x.dom b (by rw [q]; simp) with h | h
      · exact absurd hm h
      · rw [e] at h; cases h
  dom := fun b hb => by
    rcases y.dom b hb with h | h
    · exact x.dom b h
    · cases e : s.heap.get? b with
      | none => exact .inr rfl
      | some o =>
        cases q : mu b with
        | some z => exact .inl (by simp)
        | none => obtain ⟨o1, e1⟩ := x.alive b o e q; rw [h] at e1; cases e1
theorem Step.weaken {c : Cx} {T T' : Addr → Prop} {mu mu1 : Mu} {s s1 : Shared} (x : Step c T mu s mu1 s1) (h : ∀ b, T b → T' b) : Step c T' mu s mu1 s1 :=
  ⟨x.shape, x.st, fun b o e hm hT => x.keep b o e hm (fun q => hT (h b q)), x.alive, x.dom⟩
theorem Step.refl {c : Cx} {T : Addr → Prop} {mu : Mu} {s : Shared} (S : St c mu s.heap) : Step c T mu s mu s :=
  ⟨⟨s.heap, s.toks, rfl⟩, S, fun _ _ e _ _ => e, fun _ o e _ => ⟨o, e⟩, fun _ h => .inl h⟩
theorem Step.tok {c : Cx} {T : Addr → Prop} {mu : Mu} {s : Shared} {k : Nat} (S : St c mu s.heap) : Step c T mu s mu { s with toks := k } :=
  ⟨⟨s.heap, k, rfl⟩, S, fun _ _ e _ _ => e, fun _ o e _ => ⟨o, e⟩, fun _ h => .inl h⟩
/-- tuples stay -/
theorem Step.tk {c : Cx} {T : Addr → Prop} {mu mu1 : Mu} {s s1 : Shared} (S : St c mu s.heap) (x : Step c T mu s mu1 s1) (hT : ∀ b o, T b → s.heap.get? b = some o → ¬ IsT o) : TK s.heap s1.heap :=
  fun a o e ht => x.keep a o e (S.tupOff e ht) fun q => hT a o q e ht
theorem Step.tk0 {c : Cx} {mu mu1 : Mu} {s s1 : Shared} (S : St c mu s.heap) (x : Step c noT mu s mu1 s1) : TK s.heap s1.heap :=
  x.tk S fun _ _ h => h.elim
def upd (mu : Mu) (a : Addr) (o : AO) : Mu := fun b => if b = a then some o else mu b
@[simp] theorem upd_same (mu : Mu) (a : Addr) (o : AO) : upd mu a o a = some o := by simp [upd]
theorem upd_ne (mu : Mu) {a b : Addr} (o : AO) (h : b ≠ a) : upd mu a o b = mu b := by simp [upd, h]
@[simp] theorem upd_upd (mu : Mu) (a : Addr) (o o' : AO) : upd (upd mu a o) a o' = upd mu a o' := by
  funext b; unfold upd; split <;> rfl
theorem upd_comm (mu : Mu) {a b : Addr} (o o' : AO) (h : a ≠ b) : upd (upd mu a o) b o' = upd (upd mu b o') a o := by
  funext x; unfold upd
  by_cases h1 : x = b
  · subst h1; simp [Ne.symm h]
  · simp [h1]

/-- a new object -/
theorem Step.push {c : Cx} {T : Addr → Prop} {mu : Mu} {s : Shared} {o : Obj} {x : AO} (S : St c mu s.heap) (r : RepO c (s.heap.push o) s.heap.objs.size x) :
    Step c T mu s (upd mu s.heap.objs.size x) { s with heap := s.heap.push o } where
  shape := ⟨_, _, rfl⟩
  st := {
    base := fun b o' e => Heap.get?_push_of_some _ (S.base b o' e)
    objs := fun a y e => by
      by_cases h : a = s.heap.objs.size
      · subst h; simp at e; subst e; exact r
      · rw [upd_ne mu x h] at e
        exact (S.objs a y e).mono (fun o' q => Heap.get?_push_of_some _ q) fun b o' q _ => Heap.get?_push_of_some _ q
    new := fun a ha => by
      by_cases h : a = s.heap.objs.size
      · subst h; exact S.baseNone (Nat.le_refl _)
      · rw [upd_ne mu x h] at ha; exact S.new a ha }
  keep := fun b o' e _ _ => Heap.get?_push_of_some _ e
  alive := fun b o' e _ => ⟨o', Heap.get?_push_of_some _ e⟩
  dom := fun b hb => by
    by_cases h : b = s.heap.objs.size
    · subst h; exact .inr (get_none (Nat.le_refl _))
    · rw [upd_ne mu x h] at hb; exact .inl hb
/-- a new object that the ledger does not note (a tuple, an iterator) -/
theorem Step.pushOff {c : Cx} {T : Addr → Prop} {mu : Mu} {s : Shared} {o : Obj} (S : St c mu s.heap) :
    Step c T mu s mu { s with heap := s.heap.push o } where
  shape := ⟨_, _, rfl⟩
  st := ⟨fun b o' e => Heap.get?_push_of_some _ (S.base b o' e), fun a y e => (S.objs a y e).mono (fun o' q => Heap.get?_push_of_some _ q) fun b o' q _ => Heap.get?_push_of_some _ q, S.new⟩
  keep := fun b o' e _ _ => Heap.get?_push_of_some _ e
  alive := fun b o' e _ => ⟨o', Heap.get?_push_of_some _ e⟩
  dom := fun _ h => .inl h
/-- an object of the ledger changed -/
theorem Step.set {c : Cx} {T : Addr → Prop} {mu : Mu} {s : Shared} {a : Addr} {x : AO} {h' : Heap} {k : Nat} (S : St c mu s.heap) (ha : mu a ≠ none) (hs : Heap.SameBut a s.heap h') (r : RepO c h' a x) :
    Step c T mu s (upd mu a x) { s with heap := h', toks := k } := by
  have hk : TK s.heap h' := fun b o e ht => (hs.2 b (fun q => ha (q ▸ S.tupOff e ht))).trans e
  exact {
    shape := ⟨_, _, rfl⟩
    st := {
      base := fun b o e => (hs.2 b (fun q => by have := S.new a ha; rw [← q, e] at this; cases this)).trans (S.base b o e)
      objs := fun b y e => by
        by_cases h : b = a
        · subst h; simp at e; subst e; exact r
        · rw [upd_ne mu x h] at e
          exact (S.objs b y e).mono (fun o q => (hs.2 b h).trans q) hk
      new := fun b hb => by
        by_cases h : b = a
        · subst h; exact S.new b ha
        · rw [upd_ne mu x h] at hb; exact S.new b hb }
    keep := fun b o e hm _ => (hs.2 b (fun q => ha (q ▸ hm))).trans e
    alive := fun b o e _ => by
      by_cases h : b = a
      · subst h; obtain ⟨o', e', _⟩ := r.noTup; exact ⟨o', e'⟩
      · exact ⟨o, (hs.2 b h).trans e⟩
    dom := fun b hb => by
      by_cases h : b = a
      · subst h; exact .inl ha
      · rw [upd_ne mu x h] at hb; exact .inl hb }
/-- an object that is not of the ledger (an iterator, a frame) changed -/
theorem Step.turn {c : Cx} {T : Addr → Prop} {mu : Mu} {s : Shared} {a : Addr} {h' : Heap} {k : Nat} (S : St c mu s.heap) (ha : mu a = none) (hb : c.base.get? a = none) (ht : ∀ o, s.heap.get? a = some o → ¬ IsT o) (hs : Heap.SameBut a s.heap h') (hT : T a) (hal : ∃ o, h'.get? a = some o) :
    Step c T mu s mu { s with heap := h', toks := k } := by
  have hk : TK s.heap h' := fun b o e hto => (hs.2 b (fun q => by subst q; exact ht o e hto)).trans e
  exact {
    shape := ⟨_, _, rfl⟩
    st := {
      base := fun b o e => (hs.2 b (fun q => by rw [q, hb] at e; cases e)).trans (S.base b o e)
      objs := fun b y e => by
        have h : b ≠ a := fun q => by rw [q, ha] at e; cases e
        exact (S.objs b y e).mono (fun o q => (hs.2 b h).trans q) hk
      new := S.new }
    keep := fun b o e hm hn => (hs.2 b (fun q => hn (q ▸ hT))).trans e
    alive := fun b o e _ => by
      by_cases h : b = a
      · subst h; exact hal
      · exact ⟨o, (hs.2 b h).trans e⟩
    dom := fun _ h => .inl h }
/-- new objects that the ledger does not note -/
theorem Step.ext {c : Cx} {T : Addr → Prop} {mu : Mu} {s : Shared} {h' : Heap} {k : Nat} (S : St c mu s.heap) (hk : ∀ b o, s.heap.get? b = some o → h'.get? b = some o) :
    Step c T mu s mu { s with heap := h', toks := k } :=
  ⟨⟨_, _, rfl⟩, ⟨fun b o e => hk b o (S.base b o e), fun a o e => (S.objs a o e).mono (fun o' q => hk _ _ q) fun b o' q _ => hk _ _ q, S.new⟩, fun b o e _ _ => hk b o e, fun b o e _ => ⟨o, hk b o e⟩, fun _ h => .inl h⟩
/-- forget objects of the ledger -/
def Sub (mu' mu : Mu) : Prop := ∀ a o, mu' a = some o → mu a = some o
theorem Step.forget {c : Cx} {T : Addr → Prop} {mu mu1 mu2 : Mu} {s s1 : Shared} (x : Step c T mu s mu1 s1) (h : Sub mu2 mu1) : Step c T mu s mu2 s1 :=
  have hn : ∀ b, mu2 b ≠ none → mu1 b ≠ none := fun b hb => by
    obtain ⟨o, e⟩ := Option.ne_none_iff_exists'.mp hb
    rw [h b o e]; simp
  ⟨x.shape, ⟨x.st.base, fun a o e => x.st.objs a o (h a o e), fun a ha => x.st.new a (hn a ha)⟩, x.keep, x.alive, fun b hb => x.dom b (hn b hb)⟩

/-! # the frame -/
structure Fm (c : Cx) (mu : Mu) (h : Heap) (env : Env) (m : Lm) : Prop where
  fn : env.scope.kind = .function
  gl : env.globals = mainGlobals
  bu : env.builtins = builtinsNs
  loc : ∃ mc, h.Ns env.locals mc ∧ ∀ x pv, m.lookup x = some pv → env.kindOf x = some .local → ∃ v, mc x = some v ∧ Rep h pv v
  cel : ∀ x pv, m.lookup x = some pv → env.kindOf x = some .cell ∨ env.kindOf x = some .free → ∃ ca v, env.cells.lookup x = some ca ∧ h.IsCell ca (some v) ∧ Rep h pv v
  has : ∀ x, env.kindOf x = some .cell → ∃ ca, env.cells.lookup x = some ca
  cells : ∀ x ca, env.cells.lookup x = some ca → ∃ v, h.IsCell ca v
  offL : mu env.locals = none
  offC : ∀ x ca, env.cells.lookup x = some ca → mu ca = none ∧ ca ≠ env.locals ∧ c.base.get? ca = none
  apart : ∀ x y ca, env.cells.lookup x = some ca → env.cells.lookup y = some ca → x = y
  notB : c.base.get? env.locals = none

theorem keepNone {c : Cx} {T : Addr → Prop} {mu mu1 : Mu} {s s1 : Shared} (x : Step c T mu s mu1 s1) {a : Addr} {o : Obj} (e : s.heap.get? a = some o) (h : mu a = none) : mu1 a = none := by
  cases q : mu1 a with
  | none => rfl
  | some z =>
    rcases x.dom a (by rw [q]; simp) with h' | h'
    · exact absurd h h'
    · rw [e] at h'; cases h'

theorem Fm.step {c : Cx} {mu mu1 : Mu} {s s1 : Shared} {env : Env} {m : Lm} (F : Fm c mu s.heap env m) (S : St c mu s.heap) (x : Step c noT mu s mu1 s1) : Fm c mu1 s1.heap env m := by
  have tk := x.tk0 S
  obtain ⟨mc, hn, hv⟩ := F.loc
  have keepL : ∀ o, s.heap.get? env.locals = some o → s1.heap.get? env.locals = some o := fun o e => x.keep _ _ e F.offL id
  have keepC : ∀ y ca, env.cells.lookup y = some ca → ∀ o, s.heap.get? ca = some o → s1.heap.get? ca = some o := fun y ca hy o e => x.keep _ _ e (F.offC y ca hy).1 id
  exact {
    fn := F.fn
    gl := F.gl
    bu := F.bu
    loc := ⟨mc, hn.at' keepL, fun y pv e hk => let ⟨v, a, b⟩ := hv y pv e hk; ⟨v, a, b.mono tk⟩⟩
    cel := fun y pv e hk => let ⟨ca, v, a, ⟨o, b, d⟩, r⟩ := F.cel y pv e hk; ⟨ca, v, a, ⟨o, keepC y ca a o b, d⟩, r.mono tk⟩
    has := F.has
    cells := fun y ca e => let ⟨v, ⟨o, b, d⟩⟩ := F.cells y ca e; ⟨v, ⟨o, keepC y ca e o b, d⟩⟩
    offL := by obtain ⟨o, _, _, e, _⟩ := hn; exact keepNone x e F.offL
    offC := fun y ca e => ⟨by obtain ⟨v, o, b, _⟩ := F.cells y ca e; exact keepNone x b (F.offC y ca e).1, (F.offC y ca e).2⟩
    apart := F.apart
    notB := F.notB }
end Mine

open PySem PySem.W PySem.Calls PyProof.Rows
set_option Elab.async false
set_option linter.unusedVariables false
namespace Mine

structure AOk (n : Nat) (A : Around) : Prop where
  hd : A.handled = none
  dp : A.depth + n < recursionLimit
  un : A.units + 20 * n < cLine
theorem AOk.room {n : Nat} {A : Around} (h : AOk n A) : A.depth < recursionLimit := by have := h.dp; omega
theorem AOk.le {n k : Nat} {A : Around} (h : AOk n A) (hk : k ≤ n) : AOk k A := ⟨h.hd, by have := h.dp; omega, by have := h.un; omega⟩
theorem AOk.deeper {n : Nat} {A : Around} (h : AOk (n + 1) A) (env : Env) : AOk n (A.deeper env) :=
  ⟨h.hd, by show A.depth + 1 + n < _; have := h.dp; omega, by show A.units + 3 + 20 * n < _; have := h.un; omega⟩
theorem AOk.in1 {n : Nat} {A : Around} (h : AOk (n + 1) A) : AOk n A.in1 :=
  ⟨h.hd, by show A.depth + n < _; have := h.dp; omega, by show A.units + 1 + 20 * n < _; have := h.un; omega⟩

abbrev NoE : Value → Shared → Prop := fun _ _ => False

def Post (c : Cx) (mu : Mu) (s : Shared) (P : PV → Mu → Prop) (v : Value) (s' : Shared) : Prop :=
  ∃ pv mu', P pv mu' ∧ Step c noT mu s mu' s' ∧ Rep s'.heap pv v
def PostB (c : Cx) (mu : Mu) (s : Shared) (P : Bool → Mu → Prop) (v : Bool) (s' : Shared) : Prop :=
  ∃ mu', P v mu' ∧ Step c noT mu s mu' s'
def PostL (c : Cx) (mu : Mu) (s : Shared) (P : List PV → Mu → Prop) (v : List Value) (s' : Shared) : Prop :=
  ∃ pv mu', P pv mu' ∧ Step c noT mu s mu' s' ∧ Reps s'.heap pv v
def PostD (c : Cx) (mu : Mu) (s : Shared) (P : List (Str × PV) → Mu → Prop) (v : List (Str × Value)) (s' : Shared) : Prop :=
  ∃ pv mu', P pv mu' ∧ Step c noT mu s mu' s' ∧ RepD s'.heap pv v

theorem Post.after {c : Cx} {mu mu1 : Mu} {s s1 s2 : Shared} {P : PV → Mu → Prop} {v : Value} (x : Step c noT mu s mu1 s1) (p : Post c mu1 s1 P v s2) : Post c mu s P v s2 :=
  let ⟨pv, mu2, a, b, d⟩ := p; ⟨pv, mu2, a, x.trans b, d⟩
theorem PostB.after {c : Cx} {mu mu1 : Mu} {s s1 s2 : Shared} {P : Bool → Mu → Prop} {v : Bool} (x : Step c noT mu s mu1 s1) (p : PostB c mu1 s1 P v s2) : PostB c mu s P v s2 :=
  let ⟨mu2, a, b⟩ := p; ⟨mu2, a, x.trans b⟩
theorem Post.pure {c : Cx} {mu : Mu} {s : Shared} {P : PV → Mu → Prop} {v : Value} {pv : PV} {k : Nat} (S : St c mu s.heap) (h : P pv mu) (r : Rep s.heap pv v) : Post c mu s P v { s with toks := k } :=
  ⟨pv, mu, h, Step.tok S, r⟩
theorem Post.pure0 {c : Cx} {mu : Mu} {s : Shared} {P : PV → Mu → Prop} {v : Value} {pv : PV} (S : St c mu s.heap) (h : P pv mu) (r : Rep s.heap pv v) : Post c mu s P v s :=
  ⟨pv, mu, h, Step.refl S, r⟩
theorem PostB.pure0 {c : Cx} {mu : Mu} {s : Shared} {P : Bool → Mu → Prop} {v : Bool} (S : St c mu s.heap) (h : P v mu) : PostB c mu s P v s :=
  ⟨mu, h, Step.refl S⟩
theorem PostB.pure {c : Cx} {mu : Mu} {s : Shared} {P : Bool → Mu → Prop} {v : Bool} {k : Nat} (S : St c mu s.heap) (h : P v mu) : PostB c mu s P v { s with toks := k } :=
  ⟨mu, h, Step.tok S⟩

/-- the triples -/
def EvE (c : Cx) (n : Nat) (sc : Scope) (m : Lm) (mu : Mu) (e : PySem.Expr) (P : PV → Mu → Prop) : Prop :=
  ∀ env A s, env.scope = sc → AOk n A → 0 < s.toks → St c mu s.heap → Fm c mu s.heap env m → wpAny c.M A (eval e env) (Post c mu s P) NoE s
def Tst (c : Cx) (n : Nat) (sc : Scope) (m : Lm) (mu : Mu) (e : PySem.Expr) (P : Bool → Mu → Prop) : Prop :=
  ∀ env A s, env.scope = sc → AOk n A → 0 < s.toks → St c mu s.heap → Fm c mu s.heap env m → wpAny c.M A (isTrue e env (eval e env)) (PostB c mu s P) NoE s
def EvA (c : Cx) (n : Nat) (sc : Scope) (m : Lm) (mu : Mu) (es : List PySem.Expr) (P : List PV → Mu → Prop) : Prop :=
  ∀ env A s pos, env.scope = sc → AOk n A → 0 < s.toks → St c mu s.heap → Fm c mu s.heap env m → wpAny c.M A (spliced (backTo pos (starEach es env))) (PostL c mu s P) NoE s
/-- keywords, all named -/
def EvK (c : Cx) (n : Nat) (sc : Scope) (m : Lm) (mu : Mu) (ks : List Keyword) (P : List (Str × PV) → Mu → Prop) : Prop :=
  ∀ env A s pos, env.scope = sc → AOk n A → 0 < s.toks → St c mu s.heap → Fm c mu s.heap env m →
    wpAny c.M A (evalAll ((backToKw pos (keywordEach ks env)).map (·.2))) (fun vs s' => PostD c mu s P (((backToKw pos (keywordEach ks env)).filterMap (·.1)).zip vs) s') NoE s
/-- operations on values -/
def OpB (c : Cx) (n : Nat) (mu : Mu) (op : Operator) (a b : PV) (P : PV → Mu → Prop) : Prop :=
  ∀ A s va vb, AOk n A → 0 < s.toks → St c mu s.heap → Rep s.heap a va → Rep s.heap b vb → wpAny c.M A (binaryOp op va vb) (Post c mu s P) NoE s
def OpI (c : Cx) (n : Nat) (mu : Mu) (op : Operator) (a b : PV) (P : PV → Mu → Prop) : Prop :=
  ∀ A s va vb, AOk n A → 0 < s.toks → St c mu s.heap → Rep s.heap a va → Rep s.heap b vb → wpAny c.M A (inplaceOp op va vb) (Post c mu s P) NoE s
def OpC (c : Cx) (n : Nat) (mu : Mu) (op : CmpOp) (a b : PV) (P : PV → Mu → Prop) : Prop :=
  ∀ A s va vb, AOk n A → 0 < s.toks → St c mu s.heap → Rep s.heap a va → Rep s.heap b vb → wpAny c.M A (compareOp op va vb) (Post c mu s P) NoE s
def OpU (c : Cx) (n : Nat) (mu : Mu) (op : UnaryOp) (a : PV) (P : PV → Mu → Prop) : Prop :=
  ∀ A s va, AOk n A → 0 < s.toks → St c mu s.heap → Rep s.heap a va → wpAny c.M A (unaryOp op va) (Post c mu s P) NoE s
def OpT (c : Cx) (n : Nat) (mu : Mu) (a : PV) (P : Bool → Mu → Prop) : Prop :=
  ∀ A s va, AOk n A → 0 < s.toks → St c mu s.heap → Rep s.heap a va → wpAny c.M A (truthy va) (PostB c mu s P) NoE s
def OpG (c : Cx) (n : Nat) (mu : Mu) (a i : PV) (P : PV → Mu → Prop) : Prop :=
  ∀ A s va vi, AOk n A → 0 < s.toks → St c mu s.heap → Rep s.heap a va → Rep s.heap i vi → wpAny c.M A (getItem va vi) (Post c mu s P) NoE s
def CallV (c : Cx) (n : Nat) (mu : Mu) (f : Value) (args : List PV) (kw : List (Str × PV)) (P : PV → Mu → Prop) : Prop :=
  ∀ A s vs kvs, AOk n A → 0 < s.toks → St c mu s.heap → Reps s.heap args vs → RepD s.heap kw kvs → wpAny c.M A (call f vs kvs) (Post c mu s P) NoE s
def Keepr (c : Cx) (mu : Mu) (f : Value) : Prop :=
  ∀ A s (Q : Keeper → Shared → Prop) E, St c mu s.heap → (∀ k, Q k s) → wpAny c.M A (keeperOf f) Q E s
def Meth (c : Cx) (mu : Mu) (ov : PV) (name : Str) (f : Value) : Prop :=
  ∀ A s v pl (Q : Value × List Value → Shared → Prop) E, St c mu s.heap → Rep s.heap ov v → Q (f, [v]) s → wpAny c.M A (getMethod v name pl) Q E s

inductive FV where
  | next | brk | cont
  | ret (d : PV)
inductive RepF (h : Heap) : FV → Flow → Prop
  | next : RepF h .next .next
  | brk : RepF h .brk .brk
  | cont : RepF h .cont .cont
  | ret {d : PV} {v : Value} : Rep h d v → RepF h (.ret d) (.ret v)
def TchK (K : Bool) (env : Env) : Addr → Prop := fun b => b = env.locals ∨ (K = true ∧ ∃ x, env.cells.lookup x = some b)
abbrev Tch (env : Env) : Addr → Prop := TchK true env
def PostS (c : Cx) (env : Env) (mu : Mu) (s : Shared) (P : FV → Lm → Mu → Prop) (f : Flow) (s' : Shared) : Prop :=
  ∃ fv m' mu', P fv m' mu' ∧ Step c (Tch env) mu s mu' s' ∧ Fm c mu' s'.heap env m' ∧ RepF s'.heap fv f
def ExS (c : Cx) (n : Nat) (sc : Scope) (m : Lm) (mu : Mu) (ss : List Stmt) (P : FV → Lm → Mu → Prop) : Prop :=
  ∀ env A s, env.scope = sc → AOk n A → 0 < s.toks → St c mu s.heap → Fm c mu s.heap env m → wpAny c.M A (execs ss env) (PostS c env mu s P) NoE s
def Ex1 (c : Cx) (n : Nat) (sc : Scope) (m : Lm) (mu : Mu) (st : Stmt) (P : FV → Lm → Mu → Prop) : Prop :=
  ∀ env A s, env.scope = sc → AOk n A → 0 < s.toks → St c mu s.heap → Fm c mu s.heap env m → wpAny c.M A (exec st env) (PostS c env mu s P) NoE s
def AsgT (K : Bool) (c : Cx) (n : Nat) (sc : Scope) (m : Lm) (mu : Mu) (t : PySem.Expr) (d : PV) (P : Lm → Mu → Prop) : Prop :=
  ∀ env A s v, env.scope = sc → AOk n A → 0 < s.toks → St c mu s.heap → Fm c mu s.heap env m → Rep s.heap d v →
    wpAny c.M A (assign t env v) (fun _ s' => ∃ m' mu', P m' mu' ∧ Step c (TchK K env) mu s mu' s' ∧ Fm c mu' s'.heap env m') NoE s

theorem PostS.after {c : Cx} {env : Env} {mu mu1 : Mu} {s s1 s2 : Shared} {P : FV → Lm → Mu → Prop} {f : Flow} (x : Step c (Tch env) mu s mu1 s1) (p : PostS c env mu1 s1 P f s2) : PostS c env mu s P f s2 :=
  let ⟨fv, m, mu2, a, b, d⟩ := p; ⟨fv, m, mu2, a, x.trans b, d⟩

section
variable {c : Cx} {n : Nat} {sc : Scope} {m : Lm} {mu : Mu}

/-- monadic glue: an expression, then what follows on the state behind it -/
theorem EvE.bind {e : PySem.Expr} {P : PV → Mu → Prop} (h : EvE c n sc m mu e P) {env : Env} {A : Around} {s : Shared} (he : env.scope = sc) (hA : AOk n A) (ht : 0 < s.toks) (S : St c mu s.heap) (F : Fm c mu s.heap env m)
    {Q : Value → Shared → Prop} {E : Value → Shared → Prop}
    (k : ∀ v s1 d mu1, P d mu1 → Step c noT mu s mu1 s1 → 0 < s1.toks → St c mu1 s1.heap → Fm c mu1 s1.heap env m → Rep s1.heap d v → TK s.heap s1.heap → Q v s1) : wpAny c.M A (eval e env) Q E s := by
  refine wpAny_mono (wpAny_toks (h env A s he hA ht S F)) (fun v s1 p => ?_) fun _ _ x => x.2.elim
  obtain ⟨hle, d, mu1, hp, x, r⟩ := p
  exact k v s1 d mu1 hp x (Nat.lt_of_lt_of_le ht hle) x.st (F.step S x) r (x.tk0 S)
theorem Tst.bind {e : PySem.Expr} {P : Bool → Mu → Prop} (h : Tst c n sc m mu e P) {env : Env} {A : Around} {s : Shared} (he : env.scope = sc) (hA : AOk n A) (ht : 0 < s.toks) (S : St c mu s.heap) (F : Fm c mu s.heap env m)
    {Q : Bool → Shared → Prop} {E : Value → Shared → Prop}
    (k : ∀ b s1 mu1, P b mu1 → Step c noT mu s mu1 s1 → 0 < s1.toks → St c mu1 s1.heap → Fm c mu1 s1.heap env m → TK s.heap s1.heap → Q b s1) : wpAny c.M A (isTrue e env (eval e env)) Q E s := by
  refine wpAny_mono (wpAny_toks (h env A s he hA ht S F)) (fun v s1 p => ?_) fun _ _ x => x.2.elim
  obtain ⟨hle, mu1, hp, x⟩ := p
  exact k v s1 mu1 hp x (Nat.lt_of_lt_of_le ht hle) x.st (F.step S x) (x.tk0 S)
theorem EvA.bind {es : List PySem.Expr} {P : List PV → Mu → Prop} (h : EvA c n sc m mu es P) {env : Env} {A : Around} {s : Shared} {pos : Pos} (he : env.scope = sc) (hA : AOk n A) (ht : 0 < s.toks) (S : St c mu s.heap) (F : Fm c mu s.heap env m)
    {Q : List Value → Shared → Prop} {E : Value → Shared → Prop}
    (k : ∀ v s1 d mu1, P d mu1 → Step c noT mu s mu1 s1 → 0 < s1.toks → St c mu1 s1.heap → Fm c mu1 s1.heap env m → Reps s1.heap d v → TK s.heap s1.heap → Q v s1) : wpAny c.M A (spliced (backTo pos (starEach es env))) Q E s := by
  refine wpAny_mono (wpAny_toks (h env A s pos he hA ht S F)) (fun v s1 p => ?_) fun _ _ x => x.2.elim
  obtain ⟨hle, d, mu1, hp, x, r⟩ := p
  exact k v s1 d mu1 hp x (Nat.lt_of_lt_of_le ht hle) x.st (F.step S x) r (x.tk0 S)
/-- a tree of values whose end is a Post, then what follows -/
theorem post_bind {A : Around} {s : Shared} {t : Sem Value} {P : PV → Mu → Prop} (h : wpAny c.M A t (Post c mu s P) NoE s) (ht : 0 < s.toks) (S : St c mu s.heap)
    {Q : Value → Shared → Prop} {E : Value → Shared → Prop}
    (k : ∀ v s1 d mu1, P d mu1 → Step c noT mu s mu1 s1 → 0 < s1.toks → St c mu1 s1.heap → Rep s1.heap d v → TK s.heap s1.heap → Q v s1) : wpAny c.M A t Q E s := by
  refine wpAny_mono (wpAny_toks h) (fun v s1 p => ?_) fun _ _ x => x.2.elim
  obtain ⟨hle, d, mu1, hp, x, r⟩ := p
  exact k v s1 d mu1 hp x (Nat.lt_of_lt_of_le ht hle) x.st r (x.tk0 S)
theorem postB_bind {A : Around} {s : Shared} {t : Sem Bool} {P : Bool → Mu → Prop} (h : wpAny c.M A t (PostB c mu s P) NoE s) (ht : 0 < s.toks) (S : St c mu s.heap)
    {Q : Bool → Shared → Prop} {E : Value → Shared → Prop}
    (k : ∀ v s1 mu1, P v mu1 → Step c noT mu s mu1 s1 → 0 < s1.toks → St c mu1 s1.heap → TK s.heap s1.heap → Q v s1) : wpAny c.M A t Q E s := by
  refine wpAny_mono (wpAny_toks h) (fun v s1 p => ?_) fun _ _ x => x.2.elim
  obtain ⟨hle, mu1, hp, x⟩ := p
  exact k v s1 mu1 hp x (Nat.lt_of_lt_of_le ht hle) x.st (x.tk0 S)

theorem EvE.imp {e : PySem.Expr} {P Q : PV → Mu → Prop} (h : EvE c n sc m mu e P) (k : ∀ d mu', P d mu' → Q d mu') : EvE c n sc m mu e Q :=
  fun env A s he hA ht S F => wpAny_mono (h env A s he hA ht S F) (fun _ _ ⟨d, mu', a, b⟩ => ⟨d, mu', k _ _ a, b⟩) fun _ _ x => x
theorem ExS.imp {ss : List Stmt} {P Q : FV → Lm → Mu → Prop} (h : ExS c n sc m mu ss P) (k : ∀ f m' mu', P f m' mu' → Q f m' mu') : ExS c n sc m mu ss Q :=
  fun env A s he hA ht S F => wpAny_mono (h env A s he hA ht S F) (fun _ _ ⟨f, m', mu', a, b⟩ => ⟨f, m', mu', k _ _ _ a, b⟩) fun _ _ x => x

/-! ## expressions -/
theorem EvE.int {i : Int} {k : Nat} {pos : Pos} {P : PV → Mu → Prop} (h : P (.int i) mu) : EvE c n sc m mu (.Constant (.int i) k pos) P :=
  fun _ _ s _ _ _ S _ => wpAny_Constant_int (Post.pure (s := s) S h (.int i _))
theorem EvE.str {x : Str} {k : Nat} {pos : Pos} {P : PV → Mu → Prop} (h : P (.str x) mu) : EvE c n sc m mu (.Constant (.str x) k pos) P :=
  fun _ _ s _ _ _ S _ => Constant_str (Post.pure (s := s) S h (.str x _))
theorem EvE.nil {k : Nat} {pos : Pos} {P : PV → Mu → Prop} (h : P .none mu) : EvE c n sc m mu (.Constant .none k pos) P :=
  fun _ _ _ _ _ _ S _ => wpAny_pure (Post.pure0 S h .none)
theorem EvE.boolc {b : Bool} {k : Nat} {pos : Pos} {P : PV → Mu → Prop} (h : P (.bool b) mu) : EvE c n sc m mu (.Constant (.bool b) k pos) P :=
  fun _ _ _ _ _ _ S _ => wpAny_pure (Post.pure0 S h (.bool b))

theorem EvE.loc {x : Str} {pos : Pos} {d : PV} {P : PV → Mu → Prop} (hl : m.lookup x = some d) (hk : sc.names.lookup x = some .local) (h : P d mu) (hd : (x == ("__debug__" : Str)) = false := by decide) :
    EvE c n sc m mu (.Name x pos) P := by
  intro env A s he hA ht S F
  have hk' : env.kindOf x = some .local := by unfold Env.kindOf; rw [he]; exact hk
  obtain ⟨mc, hn, hv⟩ := F.loc
  obtain ⟨v, hv1, hv2⟩ := hv x d hl hk'
  exact wpAny_Name (wpAny_loadName_local F.fn hk' hn hv1 (Post.pure0 S h hv2)) hd
theorem EvE.cell {x : Str} {pos : Pos} {d : PV} {P : PV → Mu → Prop} (hl : m.lookup x = some d) (hk : sc.names.lookup x = some .cell) (h : P d mu) (hd : (x == ("__debug__" : Str)) = false := by decide) :
    EvE c n sc m mu (.Name x pos) P := by
  intro env A s he hA ht S F
  have hk' : env.kindOf x = some .cell := by unfold Env.kindOf; rw [he]; exact hk
  obtain ⟨ca, v, hc, hi, hv⟩ := F.cel x d hl (.inl hk')
  exact wpAny_Name (wpAny_loadName_cell F.fn hk' hc hi (Post.pure0 S h hv)) hd
theorem EvE.glob {x : Str} {pos : Pos} {v : Value} {d : PV} {P : PV → Mu → Prop} (hk : sc.names.lookup x = some .globalImplicit) (hv : c.mg x = some v) (hr : ∀ hp, Rep hp d v) (h : P d mu) (hd : (x == ("__debug__" : Str)) = false := by decide) :
    EvE c n sc m mu (.Name x pos) P := by
  intro env A s he hA ht S F
  have hk' : env.kindOf x = some .globalImplicit := by unfold Env.kindOf; rw [he]; exact hk
  refine Name_function_global F.fn hk' (loadGlobal_global (mg := c.mg) ?_ hv (Post.pure0 S h (hr _))) hd
  rw [F.gl]; exact c.g.keeps S.base
theorem EvE.builtin {x : Str} {pos : Pos} {v : Value} {d : PV} {P : PV → Mu → Prop} (hk : sc.names.lookup x = some .globalImplicit) (hg : c.mg x = none) (hn : x ≠ ("__name__" : Str)) (hv : bootBuiltins x = some v) (hr : ∀ hp, Rep hp d v) (h : P d mu) (hd : (x == ("__debug__" : Str)) = false := by decide) :
    EvE c n sc m mu (.Name x pos) P := by
  intro env A s he hA ht S F
  have hk' : env.kindOf x = some .globalImplicit := by unfold Env.kindOf; rw [he]; exact hk
  refine Name_function_global F.fn hk' (loadGlobal_builtin (mg := c.mg) (mb := c.mb) ?_ hg ?_ ((c.bi x hn).trans hv) (Post.pure0 S h (hr _))) hd
  · rw [F.gl]; exact c.g.keeps S.base
  · rw [F.bu]; exact c.b.keeps S.base

theorem EvE.binop {l r : PySem.Expr} {op : Operator} {pos : Pos} {P : PV → Mu → Prop}
    (h : EvE c n sc m mu l fun a mu1 => EvE c n sc m mu1 r fun b mu2 => OpB c n mu2 op a b P) : EvE c n sc m mu (.BinOp l op r pos) P := by
  intro env A s he hA ht S F
  refine wpAny_BinOp (EvE.bind h he hA ht S F fun va s1 a mu1 h1 x1 t1 S1 F1 r1 _ => ?_)
  refine EvE.bind h1 he hA t1 S1 F1 fun vb s2 b mu2 h2 x2 t2 S2 F2 r2 k2 => ?_
  exact wpAny_mono (h2 A s2 va vb hA t2 S2 (r1.mono k2) r2) (fun _ _ p => p.after x2 |>.after x1) fun _ _ x => x
theorem EvE.unop {e : PySem.Expr} {op : UnaryOp} {pos : Pos} {P : PV → Mu → Prop}
    (h : EvE c n sc m mu e fun a mu1 => OpU c n mu1 op a P) : EvE c n sc m mu (.UnaryOp op e pos) P := by
  intro env A s he hA ht S F
  show wpAny c.M A (do let v ← eval e env; standAt pos; holding [v] (unaryOp op v)) _ _ s
  refine wpAny_bind (EvE.bind h he hA ht S F fun va s1 a mu1 h1 x1 t1 S1 F1 r1 _ => wpAny_bind (wpAny_standAt (wpAny_holding ?_)))
  exact wpAny_mono (h1 A s1 va hA t1 S1 r1) (fun _ _ p => p.after x1) fun _ _ x => x
theorem EvE.cmp {l r : PySem.Expr} {op : CmpOp} {pos : Pos} {P : PV → Mu → Prop}
    (h : EvE c n sc m mu l fun a mu1 => EvE c n sc m mu1 r fun b mu2 => OpC c n mu2 op a b P) (hm : behindInMarks op r = false := by with_unfolding_all rfl) : EvE c n sc m mu (.Compare l [op] [r] pos) P := by
  intro env A s he hA ht S F
  refine wpAny_Compare1 (EvE.bind h he hA ht S F fun va s1 a mu1 h1 x1 t1 S1 F1 r1 _ => ?_) hm
  refine EvE.bind h1 he hA t1 S1 F1 fun vb s2 b mu2 h2 x2 t2 S2 F2 r2 k2 => ?_
  exact wpAny_mono (h2 A s2 va vb hA t2 S2 (r1.mono k2) r2) (fun _ _ p => p.after x2 |>.after x1) fun _ _ x => x
theorem Tst.cmp {l r : PySem.Expr} {op : CmpOp} {pos : Pos} {P : Bool → Mu → Prop}
    (h : EvE c n sc m mu l fun a mu1 => EvE c n sc m mu1 r fun b mu2 => OpC c n mu2 op a b fun d mu3 => OpT c n mu3 d P) (hm : behindInMarks op r = false := by with_unfolding_all rfl) : Tst c n sc m mu (.Compare l [op] [r] pos) P := by
  intro env A s he hA ht S F
  refine wpAny_isTrue_Compare1 (EvE.bind h he hA ht S F fun va s1 a mu1 h1 x1 t1 S1 F1 r1 _ => ?_) hm
  refine EvE.bind h1 he hA t1 S1 F1 fun vb s2 b mu2 h2 x2 t2 S2 F2 r2 k2 => ?_
  refine post_bind (h2 A s2 va vb hA t2 S2 (r1.mono k2) r2) t2 S2 fun vc s3 d mu3 h3 x3 t3 S3 r3 _ => ?_
  exact wpAny_mono (h3 A s3 vc hA t3 S3 r3) (fun _ _ p => p.after x3 |>.after x2 |>.after x1) fun _ _ x => x
/-- any other test -/
theorem Tst.of {e : PySem.Expr} {P : Bool → Mu → Prop} (h : EvE c n sc m mu e fun d mu1 => OpT c n mu1 d P)
    (hs : ∀ env whole, isTrue e env whole = (do let v ← whole; standAt e.pos; holding [v] (truthy v)) := by intro _ _; rfl) : Tst c n sc m mu e P := by
  intro env A s he hA ht S F
  rw [hs]
  refine wpAny_bind (EvE.bind h he hA ht S F fun va s1 a mu1 h1 x1 t1 S1 F1 r1 _ => wpAny_bind (wpAny_standAt (wpAny_holding ?_)))
  exact wpAny_mono (h1 A s1 va hA t1 S1 r1) (fun _ _ p => p.after x1) fun _ _ x => x
theorem Tst.not {e : PySem.Expr} {pos : Pos} {P : Bool → Mu → Prop} (h : Tst c n sc m mu e fun b mu1 => P (!b) mu1) : Tst c n sc m mu (.UnaryOp .Not e pos) P := by
  intro env A s he hA ht S F
  show wpAny c.M A (do return !(← isTrue e env (eval e env))) _ _ s
  refine wpAny_bind (Tst.bind h he hA ht S F fun b s1 mu1 h1 x1 t1 S1 F1 _ => wpAny_pure ⟨mu1, h1, x1⟩)
/-- and, or in a test -/
def TstL (c : Cx) (n : Nat) (sc : Scope) (m : Lm) (mu : Mu) (op : BoolOp) (es : List PySem.Expr) (P : Bool → Mu → Prop) : Prop :=
  ∀ env A s, env.scope = sc → AOk n A → 0 < s.toks → St c mu s.heap → Fm c mu s.heap env m → wpAny c.M A (allTrue op es env) (PostB c mu s P) NoE s
theorem Tst.boolop {op : BoolOp} {es : List PySem.Expr} {pos : Pos} {P : Bool → Mu → Prop} (h : TstL c n sc m mu op es P) : Tst c n sc m mu (.BoolOp op es pos) P :=
  fun env A s he hA ht S F => h env A s he hA ht S F
theorem TstL.and_nil {P : Bool → Mu → Prop} (h : P true mu) : TstL c n sc m mu .And [] P := fun _ _ _ _ _ _ S _ => wpAny_pure (PostB.pure0 S h)
theorem TstL.or_nil {P : Bool → Mu → Prop} (h : P false mu) : TstL c n sc m mu .Or [] P := fun _ _ _ _ _ _ S _ => wpAny_pure (PostB.pure0 S h)
theorem TstL.and_cons {e : PySem.Expr} {es : List PySem.Expr} {P : Bool → Mu → Prop} (h : Tst c n sc m mu e fun b mu1 => if b = true then TstL c n sc m mu1 .And es P else P false mu1) : TstL c n sc m mu .And (e :: es) P := by
  intro env A s he hA ht S F
  rw [allTrue]
  refine wpAny_bind (Tst.bind h he hA ht S F fun b s1 mu1 h1 x1 t1 S1 F1 _ => ?_)
  cases b with
  | true => exact wpAny_mono (h1 env A s1 he hA t1 S1 F1) (fun _ _ p => p.after x1) fun _ _ x => x
  | false => exact wpAny_pure ⟨mu1, h1, x1⟩
theorem TstL.or_cons {e : PySem.Expr} {es : List PySem.Expr} {P : Bool → Mu → Prop} (h : Tst c n sc m mu e fun b mu1 => if b = true then P true mu1 else TstL c n sc m mu1 .Or es P) : TstL c n sc m mu .Or (e :: es) P := by
  intro env A s he hA ht S F
  rw [allTrue]
  refine wpAny_bind (Tst.bind h he hA ht S F fun b s1 mu1 h1 x1 t1 S1 F1 _ => ?_)
  cases b with
  | false => exact wpAny_mono (h1 env A s1 he hA t1 S1 F1) (fun _ _ p => p.after x1) fun _ _ x => x
  | true => exact wpAny_pure ⟨mu1, h1, x1⟩
theorem EvE.ifexp {t a b : PySem.Expr} {pos : Pos} {P : PV → Mu → Prop} (h : Tst c n sc m mu t fun r mu1 => if r = true then EvE c n sc m mu1 a P else EvE c n sc m mu1 b P) : EvE c n sc m mu (.IfExp t a b pos) P := by
  intro env A s he hA ht S F
  show wpAny c.M A (do if ← isTrue t env (eval t env) then eval a env else eval b env) _ _ s
  refine wpAny_bind (Tst.bind h he hA ht S F fun r s1 mu1 h1 x1 t1 S1 F1 _ => ?_)
  cases r with
  | true => exact wpAny_mono (h1 env A s1 he hA t1 S1 F1) (fun _ _ p => p.after x1) fun _ _ x => x
  | false => exact wpAny_mono (h1 env A s1 he hA t1 S1 F1) (fun _ _ p => p.after x1) fun _ _ x => x
/-! ## arguments -/
theorem EvA.nil {P : List PV → Mu → Prop} (h : P [] mu) : EvA c n sc m mu [] P := fun _ _ _ _ _ _ _ S _ => wpAny_pure ⟨[], mu, h, Step.refl S, .nil⟩
theorem EvA.cons {e : PySem.Expr} {es : List PySem.Expr} {P : List PV → Mu → Prop} (h : EvE c n sc m mu e fun a mu1 => EvA c n sc m mu1 es fun as mu2 => P (a :: as) mu2)
    (hs : ∀ env, starEach (e :: es) env = (false, eval e env) :: starEach es env := by intro _; rfl) : EvA c n sc m mu (e :: es) P := by
  intro env A s pos he hA ht S F
  rw [hs]
  show wpAny c.M A (spliced ((false, eval e env) :: backTo pos (starEach es env))) _ _ s
  refine spliced_cons (EvE.bind h he hA ht S F fun va s1 d mu1 h1 x1 t1 S1 F1 r1 _ => ?_)
  refine EvA.bind h1 he hA t1 S1 F1 fun vs s2 ds mu2 h2 x2 t2 S2 F2 r2 k2 => ?_
  exact ⟨d :: ds, mu2, h2, x1.trans x2, .cons (r1.mono k2) r2⟩
theorem EvE.tuple {es : List PySem.Expr} {k : Nat} {pos : Pos} {P : PV → Mu → Prop} (h : EvA c n sc m mu es fun ds mu1 => ds.length ≤ sizeLine ∧ P (.tuple ds) mu1) : EvE c n sc m mu (.Tuple es k pos) P := by
  intro env A s he hA ht S F
  show wpAny c.M A (do standAt pos; newTuple (← spliced (backTo pos (starEach es env)))) _ _ s
  refine wpAny_bind (wpAny_standAt (wpAny_bind (EvA.bind h he hA ht S F fun vs s1 ds mu1 h1 x1 t1 S1 F1 r1 _ => ?_)))
  refine wpAny_newTuple ?_ (by rw [r1.length]; exact h1.1)
  have x2 : Step c noT mu1 s1 mu1 { s1 with heap := s1.heap.push { cls := .type "tuple", data := .seq vs.toArray } } := Step.pushOff S1
  exact ⟨.tuple ds, mu1, h1.2, x1.trans x2, .tuple (Heap.get?_push_size _ rfl) (r1.mono (x2.tk0 S1))⟩
theorem EvE.list {es : List PySem.Expr} {pos : Pos} {P : PV → Mu → Prop} (h : EvA c n sc m mu es fun ds mu1 => ds.length ≤ sizeLine ∧ ∀ a, mu1 a = none → P (.ref a) (upd mu1 a (.list ds))) : EvE c n sc m mu (.List es pos) P := by
  intro env A s he hA ht S F
  show wpAny c.M A (do standAt pos; newList (← spliced (backTo pos (starEach es env)))) _ _ s
  refine wpAny_bind (wpAny_standAt (wpAny_bind (EvA.bind h he hA ht S F fun vs s1 ds mu1 h1 x1 t1 S1 F1 r1 _ => ?_)))
  refine wpAny_newList ?_ (by rw [r1.length]; exact h1.1)
  have x0 : Step c noT mu1 s1 mu1 { s1 with heap := s1.heap.push { cls := .type "list", data := .seq vs.toArray } } := Step.pushOff S1
  have x2 : Step c noT mu1 s1 (upd mu1 s1.heap.objs.size (.list ds)) { s1 with heap := s1.heap.push { cls := .type "list", data := .seq vs.toArray } } := Step.push S1 ⟨vs, 0, Heap.get?_push_size _ rfl, r1.mono (x0.tk0 S1)⟩
  exact ⟨.ref s1.heap.objs.size, _, h1.2 _ (S1.off (Nat.le_refl _)), x1.trans x2, .ref _⟩
end
end Mine

open PySem PySem.W PySem.Calls PyProof.Rows
set_option Elab.async false
set_option linter.unusedVariables false
namespace Mine

/-! # calls of the text's own defs -/
def Binds (c : Cx) (mu : Mu) (fd : FuncData) (args : List PV) (kw : List (Str × PV)) (K : List (Str × PV) → Mu → Prop) : Prop :=
  ∀ A s vs kvs, AOk 0 A → St c mu s.heap → Reps s.heap args vs → RepD s.heap kw kvs → wpAny c.M A (bindArgs fd ⟨vs, kvs⟩) (PostD c mu s K) NoE s

theorem RepD.mem {h : Heap} {ds : List (Str × PV)} {vs : List (Str × Value)} (r : RepD h ds vs) {x : Str} {d : PV} (hx : ds.lookup x = some d) : ∃ v, vs.lookup x = some v ∧ Rep h d v := by
  induction r with
  | nil => simp at hx
  | @cons k d' v ds vs a _ ih =>
    rw [List.lookup_cons] at hx ⊢
    cases hb : x == k with
    | true => rw [hb] at hx; cases hx; exact ⟨v, rfl, a⟩
    | false => rw [hb] at hx; exact ih hx
theorem RepD.names {h : Heap} {ds : List (Str × PV)} {vs : List (Str × Value)} (r : RepD h ds vs) : vs.map (·.1) = ds.map (·.1) := by
  induction r with
  | nil => rfl
  | cons _ _ ih => simp [ih]

theorem bindL_keep {k : Str → Option NameKind} : ∀ (binds : List (Str × Value)) (m0 : Str → Option Value) (x : Str), (x ∉ binds.map (·.1)) → bindL k binds m0 x = m0 x
  | [], _, _, _ => rfl
  | (y, v) :: r, m0, x, h => by
    unfold bindL
    simp only [List.map_cons, List.mem_cons, not_or] at h
    rw [bindL_keep r _ x h.2]
    split
    · simp [h.1]
    · rfl
theorem bindC_keep {k : Str → Option NameKind} : ∀ (binds : List (Str × Value)) (m0 : Str → Option Value) (x : Str), (x ∉ binds.map (·.1)) → bindC k binds m0 x = m0 x
  | [], _, _, _ => rfl
  | (y, v) :: r, m0, x, h => by
    unfold bindC
    simp only [List.map_cons, List.mem_cons, not_or] at h
    rw [bindC_keep r _ x h.2]
    split
    · rfl
    · simp [h.1]
theorem bindL_at {k : Str → Option NameKind} : ∀ (binds : List (Str × Value)) (m0 : Str → Option Value) (x : Str) (v : Value), (binds.map (·.1)).Nodup → binds.lookup x = some v → k x = some .local → bindL k binds m0 x = some v
  | (y, w) :: r, m0, x, v, hn, hl, hk => by
    unfold bindL
    simp only [List.map_cons, List.nodup_cons] at hn
    rw [List.lookup_cons] at hl
    cases hb : x == y with
    | true =>
      rw [hb] at hl; cases hl
      have hxy := beq_iff_eq.mp hb
      subst hxy
      rw [bindL_keep r _ x hn.1, if_pos hk]; simp
    | false => rw [hb] at hl; exact bindL_at r _ x v hn.2 hl hk
theorem bindC_at {k : Str → Option NameKind} : ∀ (binds : List (Str × Value)) (m0 : Str → Option Value) (x : Str) (v : Value), (binds.map (·.1)).Nodup → binds.lookup x = some v → k x ≠ some .local → bindC k binds m0 x = some v
  | (y, w) :: r, m0, x, v, hn, hl, hk => by
    unfold bindC
    simp only [List.map_cons, List.nodup_cons] at hn
    rw [List.lookup_cons] at hl
    cases hb : x == y with
    | true =>
      rw [hb] at hl; cases hl
      have hxy := beq_iff_eq.mp hb
      subst hxy
      rw [bindC_keep r _ x hn.1, if_neg hk]; simp
    | false => rw [hb] at hl; exact bindC_at r _ x v hn.2 hl hk

/-- what a def's frame hands back -/
def retOf : FV → PV
  | .ret d => d
  | _ => .none

/-- the kinds of the bound names -/
def kindsOk (names : List (Str × NameKind)) (binds : List Str) : Bool := binds.all fun x => names.lookup x == some .local || names.lookup x == some .cell
theorem cellsFrom_has {x : Str} : ∀ (names : List (Str × NameKind)) (k : Nat) (acc : List (Str × Addr)), names.lookup x = some .cell ∨ (acc.lookup x).isSome = true → ((cellsFrom k names acc).lookup x).isSome = true :=
  fun names k acc h => cellsFrom_some names k acc h

structure FnOk (c : Cx) (a : Addr) (fd : FuncData) (body : List Stmt) : Prop where
  obj : ∃ o, c.base.get? a = some o ∧ o.data = .func fd
  co : fd.scope.isCoroutine = false
  gen : fd.scope.isGenerator = false
  kind : fd.scope.kind = .function
  body : fd.body = .stmts body
  code : c.base.CodeRec fd.code fd.qualname
  clos : fd.closure = []
  gl : fd.globals = mainGlobals
  bu : fd.builtins = builtinsNs

theorem fn_body {c : Cx} {n : Nat} {mu mu1 : Mu} {a : Addr} {fd : FuncData} {body : List Stmt} {binds : List (Str × PV)} {P : PV → Mu → Prop} (hf : FnOk c a fd body) {A : Around} {s s1 s2 : Shared} {bv : List (Str × Value)} (hA : AOk (n + 1) A)
    (x1 : Step c noT mu s mu1 s1) (rb : RepD s1.heap binds bv) (hnd : (binds.map (·.1)).Nodup) (hko : kindsOk fd.scope.names (binds.map (·.1)) = true) (hx : ExS c n fd.scope binds mu1 body fun fl _ mu2 => P (retOf fl) mu2)
    {env : Env} (he : env = newEnv fd.scope s1.heap.objs.size fd.globals (cellsFrom (s1.heap.objs.size + 1) fd.scope.names []) (fd.qualname ++ ".<locals>.") (some a) fd.code none fd.builtins)
    (I : InCallC s1 env.locals (bindL env.kindOf bv fun _ => none) env.cells (bindC env.kindOf bv fun _ => none) s2) (ht2 : 0 < s2.toks) :
    s2.heap.NoLimit ∧ codeAny c.M A (.func body env) (fun r s' => match r with | .ok (.ret v) => Post c mu s P v s' | .ok _ => False | .error e => NoE e s') s2 := by
  have S1 := x1.st
  have hnames := rb.names
  have hkb : ∀ y ∈ bv, fd.scope.names.lookup y.1 = some .local ∨ fd.scope.names.lookup y.1 = some .cell := fun y hy => by
    have := List.all_eq_true.mp hko y.1 (hnames ▸ List.mem_map_of_mem hy)
    simpa using this
  have hsc : env.scope = fd.scope := by rw [he]; rfl
  have hL : env.locals = s1.heap.objs.size := by rw [he]; rfl
  have hcl : env.cells = cellsFrom (s1.heap.objs.size + 1) fd.scope.names [] := by rw [he]; rfl
  obtain ⟨h2, tk2, rfl⟩ := I.toInCall.same
  have keep := I.toInCall.keep
  have hsz : s1.heap.objs.size < h2.objs.size := Nat.lt_of_le_of_lt I.toInCall.fresh I.toInCall.ns.lt
  have tkp : TK s1.heap h2 := fun b o e _ => keep b o e
  have S2 : St c mu1 h2 := ⟨fun b o e => keep b o (S1.base b o e), fun b o e => (S1.objs b o e).mono (fun o' q => keep _ _ q) tkp, S1.new⟩
  have F2 : Fm c mu1 h2 env binds := {
    fn := by rw [hsc]; exact hf.kind
    gl := by rw [he]; exact hf.gl
    bu := by rw [he]; exact hf.bu
    loc := ⟨_, I.toInCall.ns, fun y pv e hk => by
      obtain ⟨v, hv, rv⟩ := rb.mem e
      exact ⟨v, bindL_at bv _ y v (hnames ▸ hnd) hv hk, rv.mono tkp⟩⟩
    cel := fun y pv e hk => by
      obtain ⟨v, hv, rv⟩ := rb.mem e
      have hne : env.kindOf y ≠ some .local := by rcases hk with q | q <;> rw [q] <;> decide
      have hcell : fd.scope.names.lookup y = some .cell := by
        have := hkb (y, v) (mem_of_lookup hv)
        rcases this with q | q
        · exact absurd (by unfold Env.kindOf; rw [hsc]; exact q) hne
        · exact q
      obtain ⟨ca, hca⟩ := Option.isSome_iff_exists.mp (cellsFrom_has (x := y) fd.scope.names (s1.heap.objs.size + 1) [] (.inl hcell))
      have hca' : env.cells.lookup y = some ca := by rw [hcl]; exact hca
      have hi := I.cell y ca hca'
      rw [bindC_at bv _ y v (hnames ▸ hnd) hv hne] at hi
      exact ⟨ca, v, hca', hi, rv.mono tkp⟩
    has := fun y hk => by
      have hcell : fd.scope.names.lookup y = some .cell := by unfold Env.kindOf at hk; rw [hsc] at hk; exact hk
      obtain ⟨ca, hca⟩ := Option.isSome_iff_exists.mp (cellsFrom_has (x := y) fd.scope.names (s1.heap.objs.size + 1) [] (.inl hcell))
      exact ⟨ca, by rw [hcl]; exact hca⟩
    cells := fun y ca e => ⟨_, I.cell y ca e⟩
    offL := S1.off (by rw [hL]; exact Nat.le_refl _)
    offC := fun y ca e => by
      have := I.above y ca (mem_of_lookup e)
      rw [hL] at this
      exact ⟨S1.off (Nat.le_of_lt this), by rw [hL]; exact Nat.ne_of_gt this, S1.baseNone (Nat.le_of_lt this)⟩
    apart := fun y z ca h1 h2 => name_of_addr I.apart (mem_of_lookup h1) (mem_of_lookup h2)
    notB := by rw [hL]; exact S1.baseNone (Nat.le_refl _) }
  have above : ∀ b, Tch env b → s1.heap.objs.size ≤ b := fun b hb => by
    rcases hb with q | ⟨_, y, q⟩
    · rw [q, hL]; exact Nat.le_refl _
    · have := I.above y b (mem_of_lookup q); rw [hL] at this; exact Nat.le_of_lt this
  refine ⟨c.nolim.keeps S2.base, codeAny_func ?_⟩
  refine wpAny_mono (hx env _ _ hsc (hA.deeper env) ht2 S2 F2) (fun f s3 p => ?_) fun _ _ e => e.elim
  · obtain ⟨fl, m3, mu3, hp, x3, F3, rf⟩ := p
    have x13 : Step c noT mu1 s1 mu3 s3 := {
      shape := by obtain ⟨h, tk, e⟩ := x3.shape; exact ⟨h, tk, e⟩
      st := x3.st
      keep := fun b o e hm _ => x3.keep b o (keep b o e) hm fun q => absurd (Heap.lt_size e) (Nat.not_lt.mpr (above b q))
      alive := fun b o e hm => x3.alive b o (keep b o e) hm
      dom := fun b hb => by
        rcases x3.dom b hb with q | q
        · exact .inl q
        · cases e : s1.heap.get? b with
          | none => exact .inr rfl
          | some o => have := keep b o e; rw [q] at this; cases this }
    have fin : ∀ v, Rep s3.heap (retOf fl) v → Post c mu s P v s3 := fun v rv => ⟨retOf fl, mu3, hp, x1.trans x13, rv⟩
    cases rf with
    | next => exact fin _ .none
    | brk => exact fin _ .none
    | cont => exact fin _ .none
    | ret r => exact fin _ r

theorem CallV.fn {c : Cx} {n : Nat} {mu : Mu} {a : Addr} {fd : FuncData} {body : List Stmt} {args : List PV} {kw : List (Str × PV)} {P : PV → Mu → Prop} (hf : FnOk c a fd body)
    (h : Binds c mu fd args kw fun binds mu1 => (binds.map (·.1)).Nodup ∧ kindsOk fd.scope.names (binds.map (·.1)) = true ∧ ExS c n fd.scope binds mu1 body fun fl _ mu2 => P (retOf fl) mu2) :
    CallV c (n + 1) mu (.ref a) args kw P := by
  intro A s vs kvs hA ht S r rk
  refine wpAny_call ?_
  obtain ⟨o, ho, hd⟩ := hf.obj
  refine codeAny_call_function hA.room (S.base _ _ ho) hd hf.co hf.gen hf.body (hf.code.keeps S.base) ?_
  rw [hf.clos]
  refine wpAny_mono (wpAny_toks (h A.in1 s vs kvs (hA.in1.le (Nat.zero_le _)) S r rk)) (fun bv s1 p => ?_) fun _ _ x => x.2.elim
  obtain ⟨hle, binds, mu1, ⟨hnd, hko, hx⟩, x1, rb⟩ := p
  refine wpAny_with_toks (n := 1) (Nat.lt_of_lt_of_le ht hle) (wpAny_newFunctionEnv_cells hf.kind (fun y hy => ?_) fun env he s2 I ht2 => fn_body hf hA x1 rb hnd hko hx he I ht2)
  have := List.all_eq_true.mp hko y.1 (rb.names ▸ List.mem_map_of_mem hy)
  have q : fd.scope.names.lookup y.1 = some .local ∨ fd.scope.names.lookup y.1 = some .cell := by simpa using this
  exact q.imp id fun q => ⟨q, cellsFrom_has _ _ _ (.inl q)⟩
end Mine

open PySem PySem.W PySem.Calls PyProof.Rows
set_option Elab.async false
set_option linter.unusedVariables false
namespace Mine

def setL : Lm → Str → PV → Lm
  | [], x, d => [(x, d)]
  | (y, e) :: r, x, d => if y == x then (y, d) :: r else (y, e) :: setL r x d
theorem lookup_setL (m : Lm) (x : Str) (d : PV) (y : Str) : (setL m x d).lookup y = if y = x then some d else m.lookup y := by
  induction m with
  | nil =>
    simp only [setL, List.lookup_cons, List.lookup_nil]
    by_cases h : y = x
    · subst h; simp
    · have : (y == x) = false := beq_eq_false_iff_ne.mpr h
      simp [this, h]
  | cons p r ih =>
    obtain ⟨z, e⟩ := p
    simp only [setL]
    by_cases hz : z = x
    · subst hz
      simp only [beq_self_eq_true, if_true, List.lookup_cons]
      by_cases h : y = z
      · subst h; simp
      · have : (y == z) = false := beq_eq_false_iff_ne.mpr h
        simp [this, h]
    · have hz' : (z == x) = false := beq_eq_false_iff_ne.mpr hz
      simp only [hz', Bool.false_eq_true, if_false, List.lookup_cons]
      by_cases h : y = z
      · subst h; simp [hz]
      · have : (y == z) = false := beq_eq_false_iff_ne.mpr h
        simp only [this]
        exact ih

theorem ns_notT {h : Heap} {a : Addr} {m} (hn : h.Ns a m) : ∀ o, h.get? a = some o → ¬ IsT o := fun o e ht => by
  obtain ⟨o', es, ep, e', hd, _⟩ := hn
  rw [e] at e'; cases e'
  obtain ⟨_, xs, k, hq⟩ := ht
  rw [hd] at hq; cases hq
theorem cell_notT {h : Heap} {a : Addr} {v} (hn : h.IsCell a v) : ∀ o, h.get? a = some o → ¬ IsT o := fun o e ht => by
  obtain ⟨o', e', hd⟩ := hn
  rw [e] at e'; cases e'
  obtain ⟨_, xs, k, hq⟩ := ht
  rw [hd] at hq; cases hq

section
variable {c : Cx} {n : Nat} {sc : Scope} {m : Lm} {mu : Mu}

theorem Fm.weak {h : Heap} {env : Env} {m' : Lm} (F : Fm c mu h env m) (hw : ∀ x d, m'.lookup x = some d → m.lookup x = some d) : Fm c mu h env m' :=
  { F with
    loc := let ⟨mc, hn, hv⟩ := F.loc; ⟨mc, hn, fun x pv e hk => hv x pv (hw x pv e) hk⟩
    cel := fun x pv e hk => F.cel x pv (hw x pv e) hk }

/-- a name stored -/
theorem store {env : Env} {A : Around} {s : Shared} {x : Str} {v : Value} {d : PV} {K : Bool} (hk : env.kindOf x = some .local ∨ (K = true ∧ env.kindOf x = some .cell)) (S : St c mu s.heap) (F : Fm c mu s.heap env m) (r : Rep s.heap d v) :
    wpAny c.M A (storeName env x v) (fun _ s' => Step c (TchK K env) mu s mu s' ∧ Fm c mu s'.heap env (setL m x d)) NoE s := by
  obtain ⟨mc, hn, hv⟩ := F.loc
  rcases hk with hk | ⟨hK, hk⟩
  · refine wpAny_storeName_local hk hn (fun h' hn' hs' => ?_) (by rw [F.fn]; rfl)
    have hal : ∃ o, h'.get? env.locals = some o := let ⟨o, _, _, e, _⟩ := hn'; ⟨o, e⟩
    have x1 : Step c (TchK K env) mu s mu { s with heap := h', toks := s.toks + 1 } := Step.turn S F.offL F.notB (ns_notT hn) hs' (.inl rfl) hal
    have tk : TK s.heap h' := fun b o e ht => (hs'.2 b (fun q => by subst q; exact ns_notT hn o e ht)).trans e
    refine ⟨x1, ?_⟩
    exact { F with
      loc := ⟨_, hn', fun y pv e hky => by
        rw [lookup_setL] at e
        by_cases hy : y = x
        · rw [if_pos hy] at e; cases e; exact ⟨v, by simp [hy], r.mono tk⟩
        · rw [if_neg hy] at e
          obtain ⟨u, h1, h2⟩ := hv y pv e hky
          exact ⟨u, by simp [hy, h1], h2.mono tk⟩⟩
      cel := fun y pv e hky => by
        rw [lookup_setL] at e
        by_cases hy : y = x
        · rw [hy, hk] at hky; rcases hky with q | q <;> cases q
        · rw [if_neg hy] at e
          obtain ⟨ca, u, h1, h2, h3⟩ := F.cel y pv e hky
          exact ⟨ca, u, h1, h2.sameBut hs' (F.offC y ca h1).2.1, h3.mono tk⟩
      cells := fun y ca e => let ⟨u, h2⟩ := F.cells y ca e; ⟨u, h2.sameBut hs' (F.offC y ca e).2.1⟩ }
  · obtain ⟨ca, hca⟩ := F.has x hk
    obtain ⟨v0, hv0⟩ := F.cells x ca hca
    refine wpAny_storeName_cell F.fn hk hca hv0 fun h' hc' hs' => ?_
    have hal : ∃ o, h'.get? ca = some o := let ⟨o, e, _⟩ := hc'; ⟨o, e⟩
    have x1 : Step c (TchK K env) mu s mu { s with heap := h', toks := s.toks } := Step.turn S (F.offC x ca hca).1 (F.offC x ca hca).2.2 (cell_notT hv0) hs' (.inr ⟨hK, x, hca⟩) hal
    have tk : TK s.heap h' := fun b o e ht => (hs'.2 b (fun q => by subst q; exact cell_notT hv0 o e ht)).trans e
    refine ⟨x1, ?_⟩
    exact { F with
      loc := ⟨mc, hn.sameBut hs' (Ne.symm (F.offC x ca hca).2.1), fun y pv e hky => by
        rw [lookup_setL] at e
        by_cases hy : y = x
        · rw [hy, hk] at hky; cases hky
        · rw [if_neg hy] at e
          obtain ⟨u, h1, h2⟩ := hv y pv e hky
          exact ⟨u, h1, h2.mono tk⟩⟩
      cel := fun y pv e hky => by
        rw [lookup_setL] at e
        by_cases hy : y = x
        · rw [if_pos hy] at e; cases e; rw [hy]; exact ⟨ca, v, hca, hc', r.mono tk⟩
        · rw [if_neg hy] at e
          obtain ⟨cb, u, h1, h2, h3⟩ := F.cel y pv e hky
          exact ⟨cb, u, h1, h2.sameBut hs' (fun q => hy (F.apart y x ca (q ▸ h1) hca)), h3.mono tk⟩
      cells := fun y cb e => by
        by_cases hy : y = x
        · subst hy; rw [hca] at e; cases e; exact ⟨_, hc'⟩
        · obtain ⟨u, h2⟩ := F.cells y cb e
          exact ⟨u, h2.sameBut hs' (fun q => hy (F.apart y x ca (q ▸ e) hca))⟩ }

def kindB (K : Bool) (sc : Scope) (x : Str) : Bool := sc.names.lookup x == some .local || (K && sc.names.lookup x == some .cell)
theorem kind_of {K : Bool} {env : Env} (he : env.scope = sc) {x : Str} (h : kindB K sc x = true) : env.kindOf x = some .local ∨ (K = true ∧ env.kindOf x = some .cell) := by
  unfold Env.kindOf; rw [he]
  simpa [kindB] using h

/-! ## targets -/
theorem AsgT.name {K : Bool} {x : Str} {pos : Pos} {d : PV} {P : Lm → Mu → Prop} (hk : kindB K sc x = true) (h : P (setL m x d) mu) : AsgT K c n sc m mu (.Name x pos) d P := by
  intro env A s v he hA ht S F r
  show wpAny c.M A (do standAt pos; bindName env x v) _ _ s
  refine wpAny_bind (wpAny_standAt (wpAny_bindName ?_))
  exact wpAny_mono (store (kind_of he hk) S F r) (fun _ s' ⟨x1, F1⟩ => ⟨_, _, h, x1, F1⟩) fun _ _ x => x

theorem Step.toT {T : Addr → Prop} {mu1 : Mu} {s s1 : Shared} (x : Step c noT mu s mu1 s1) : Step c T mu s mu1 s1 := x.weaken fun _ h => h.elim
theorem Fm.tkT {K : Bool} {env : Env} {s s1 : Shared} {mu1 : Mu} (F : Fm c mu s.heap env m) (S : St c mu s.heap) (x : Step c (TchK K env) mu s mu1 s1) : TK s.heap s1.heap :=
  x.tk S fun b o hb e => by
    rcases hb with q | ⟨_, y, q⟩
    · subst q; obtain ⟨mc, hn, _⟩ := F.loc; exact ns_notT hn o e
    · obtain ⟨v, hv⟩ := F.cells y b q; exact cell_notT hv o e

/-- several targets in order -/
def AsgL (K : Bool) (c : Cx) (n : Nat) (sc : Scope) (m : Lm) (mu : Mu) (ts : List PySem.Expr) (ds : List PV) (P : Lm → Mu → Prop) : Prop :=
  ∀ env A s vs, env.scope = sc → AOk n A → 0 < s.toks → St c mu s.heap → Fm c mu s.heap env m → Reps s.heap ds vs →
    wpAny c.M A (assignInOrder ((assignEach ts env).map (·.2)) vs) (fun _ s' => ∃ m' mu', P m' mu' ∧ Step c (TchK K env) mu s mu' s' ∧ Fm c mu' s'.heap env m') NoE s
theorem AsgL.nil {K : Bool} {P : Lm → Mu → Prop} (h : P m mu) : AsgL K c n sc m mu [] [] P := fun env A s vs he hA ht S F r => by
  cases r
  exact wpAny_pure ⟨m, mu, h, Step.refl S, F⟩
theorem AsgL.cons {K : Bool} {t : PySem.Expr} {ts : List PySem.Expr} {d : PV} {ds : List PV} {P : Lm → Mu → Prop} (h : AsgT K c n sc m mu t d fun m1 mu1 => AsgL K c n sc m1 mu1 ts ds P)
    (hs : ∀ env, assignEach (t :: ts) env = (false, assign t env) :: assignEach ts env := by intro _; rfl) : AsgL K c n sc m mu (t :: ts) (d :: ds) P := by
  intro env A s vs he hA ht S F r
  cases r with
  | @cons _ v _ vs r0 rs =>
  rw [hs]
  show wpAny c.M A (do holding vs (assign t env v); assignInOrder ((assignEach ts env).map (·.2)) vs) _ _ s
  refine wpAny_bind (wpAny_holding (wpAny_mono (wpAny_toks (h env A s v he hA ht S F r0)) (fun _ s1 p => ?_) fun _ _ x => x.2))
  obtain ⟨hle, m1, mu1, h1, x1, F1⟩ := p
  refine wpAny_mono (h1 env A s1 vs he hA (Nat.lt_of_lt_of_le ht hle) x1.st F1 (rs.mono (F.tkT S x1))) (fun _ s2 p => ?_) fun _ _ x => x
  obtain ⟨m2, mu2, h2, x2, F2⟩ := p
  exact ⟨m2, mu2, h2, x1.trans x2, F2⟩
theorem AsgT.tuple {K : Bool} {ts : List PySem.Expr} {k : Nat} {pos : Pos} {ds : List PV} {P : Lm → Mu → Prop} (h : AsgL K c n sc m mu ts ds P) (hlen : ts.length = ds.length)
    (hst : ∀ env, (assignEach ts env).length = ts.length ∧ (assignEach ts env).findIdx? (·.1) = none := by intro _; exact ⟨rfl, rfl⟩) : AsgT K c n sc m mu (.Tuple ts k pos) (.tuple ds) P := by
  intro env A s v he hA ht S F r
  cases r with
  | @tuple a vs q _ e rs =>
  refine wpAny_assign_Tuple (items := vs.toArray) hA.hd ⟨_, e, rfl, _, rfl⟩ (by rw [(hst env).1, hlen]; simp [rs.length]) (hst env).2 fun h' hk => ?_
  have x1 : Step c noT mu s mu { s with heap := h', toks := s.toks } := Step.ext S fun b o q => hk b o (Nat.ne_of_lt (Heap.lt_size q)) q
  refine wpAny_mono (h env A _ vs he hA ht x1.st (F.step S x1) (rs.mono (x1.tk0 S))) (fun _ s2 p => ?_) fun _ _ x => x
  obtain ⟨m2, mu2, h2, x2, F2⟩ := p
  exact ⟨m2, mu2, h2, (x1.toT).trans x2, F2⟩

/-! ## statements -/
theorem ExS.nil {P : FV → Lm → Mu → Prop} (h : P .next m mu) : ExS c n sc m mu [] P := fun env A s he hA ht S F => wpAny_execs_nil ⟨.next, m, mu, h, Step.refl S, F, .next⟩
theorem ExS.cons {st : Stmt} {ss : List Stmt} {P : FV → Lm → Mu → Prop}
    (h : Ex1 c n sc m mu st fun fl m1 mu1 => match fl with | .next => ExS c n sc m1 mu1 ss P | fl => P fl m1 mu1) : ExS c n sc m mu (st :: ss) P := by
  intro env A s he hA ht S F
  refine wpAny_execs_cons (wpAny_mono (wpAny_toks (h env A s he hA ht S F)) (fun f s1 p => ?_) fun _ _ x => x.2)
  obtain ⟨hle, fl, m1, mu1, hp, x1, F1, rf⟩ := p
  cases rf with
  | next => exact wpAny_mono (hp env A s1 he hA (Nat.lt_of_lt_of_le ht hle) x1.st F1) (fun _ _ q => q.after x1) fun _ _ x => x
  | brk => exact ⟨.brk, m1, mu1, hp, x1, F1, .brk⟩
  | cont => exact ⟨.cont, m1, mu1, hp, x1, F1, .cont⟩
  | ret r => exact ⟨.ret _, m1, mu1, hp, x1, F1, .ret r⟩
theorem Ex1.assign {t value : PySem.Expr} {pos : Pos} {P : FV → Lm → Mu → Prop} (h : EvE c n sc m mu value fun d mu1 => AsgT true c n sc m mu1 t d fun m2 mu2 => P .next m2 mu2)
    (h1 : ∀ env, env.scope = sc → swapsWithSole [t] value pos.line env = pure false := by intro _ _; rfl) (h2 : ∀ env, swappedStores [t] value env = pure none := by intro _; rfl)
    (h3 : ∀ env, (assignEach [t] env).map (·.2) = [assign t env] := by intro _; rfl) : Ex1 c n sc m mu (.Assign [t] value pos) P := by
  intro env A s he hA ht S F
  show wpAny c.M A (do
    standAt pos
    if ← swapsWithSole [t] value pos.line env then do
      evalThenUse value env fun v => assignAll v ((assignEach [t] env).map (·.2))
      pure .next
    else do
      let v ← eval value env
      assignStores env v (← swappedStores [t] value env) ((assignEach [t] env).map (·.2))) _ _ s
  rw [h1 env he, h2, h3]
  refine wpAny_bind (wpAny_standAt (wpAny_bind (wpAny_pure ?_)))
  simp only [Bool.false_eq_true, if_false]
  refine wpAny_bind (EvE.bind h he hA ht S F fun v s1 d mu1 hp x1 t1 S1 F1 r1 _ => wpAny_bind (wpAny_pure ?_))
  unfold assignStores assignAll
  refine wpAny_bind (wpAny_mono (hp env A s1 v he hA t1 S1 F1 r1) (fun _ s2 p => ?_) fun _ _ x => x)
  obtain ⟨m2, mu2, h2, x2, F2⟩ := p
  exact wpAny_pure ⟨.next, m2, mu2, h2, (x1.toT).trans x2, F2, .next⟩
theorem Ex1.if {t : PySem.Expr} {b o : List Stmt} {pos : Pos} {P : FV → Lm → Mu → Prop} (h : Tst c n sc m mu t fun r mu1 => if r = true then ExS c n sc m mu1 b P else ExS c n sc m mu1 o P) : Ex1 c n sc m mu (.If t b o pos) P := by
  intro env A s he hA ht S F
  refine wpAny_If (Tst.bind h he hA ht S F fun r s1 mu1 hp x1 t1 S1 F1 _ => ?_)
  cases r with
  | true => exact wpAny_mono (hp env A s1 he hA t1 S1 F1) (fun _ _ q => q.after x1.toT) fun _ _ x => x
  | false => exact wpAny_mono (hp env A s1 he hA t1 S1 F1) (fun _ _ q => q.after x1.toT) fun _ _ x => x
theorem Ex1.ret {e : PySem.Expr} {pos : Pos} {P : FV → Lm → Mu → Prop} (h : EvE c n sc m mu e fun d mu1 => P (.ret d) m mu1) : Ex1 c n sc m mu (.Return (some e) pos) P := by
  intro env A s he hA ht S F
  refine wpAny_Return_some (EvE.bind h he hA ht S F fun v s1 d mu1 hp x1 t1 S1 F1 r1 _ => ?_)
  exact ⟨.ret d, m, mu1, hp, x1.toT, F1, .ret r1⟩
def PV.isRef : PV → Bool
  | .ref _ | .tuple _ => true
  | _ => false
theorem Ex1.expr {e : PySem.Expr} {pos : Pos} {P : FV → Lm → Mu → Prop} (h : EvE c n sc m mu e fun d mu1 => d.isRef = false ∧ P .next m mu1)
    (hs : ∀ env, swapsWith e none pos.line env = pure false := by intro _; rfl) : Ex1 c n sc m mu (.Expr e pos) P := by
  intro env A s he hA ht S F
  have hi : interactive env = false := by unfold interactive; rw [F.fn]; rfl
  rw [exec_Expr env e pos hi (hs env)]
  refine wpAny_bind (wpAny_standAt (wpAny_bind (EvE.bind h he hA ht S F fun v s1 d mu1 hp x1 t1 S1 F1 r1 _ => ?_)))
  have hv : ∀ a, v ≠ .ref a := fun a q => by subst q; cases r1 <;> cases hp.1
  rw [dropValue_plain hv]
  exact wpAny_pure ⟨.next, m, mu1, hp.2, x1.toT, F1, .next⟩
theorem loadN {env : Env} {A : Around} {s : Shared} {x : Str} {d : PV} {Q : Value → Shared → Prop} {E : Value → Shared → Prop} (hk : env.kindOf x = some .local ∨ env.kindOf x = some .cell) (hl : m.lookup x = some d) (F : Fm c mu s.heap env m)
    (h : ∀ v, Rep s.heap d v → Q v s) : wpAny c.M A (loadName env x) Q E s := by
  rcases hk with hk | hk
  · obtain ⟨mc, hn, hv⟩ := F.loc
    obtain ⟨v, h1, h2⟩ := hv x d hl hk
    exact wpAny_loadName_local F.fn hk hn h1 (h v h2)
  · obtain ⟨ca, v, h1, h2, h3⟩ := F.cel x d hl (.inl hk)
    exact wpAny_loadName_cell F.fn hk h1 h2 (h v h3)
theorem Ex1.aug {x : Str} {pos' pos : Pos} {op : Operator} {value : PySem.Expr} {a : PV} {P : FV → Lm → Mu → Prop} (hl : m.lookup x = some a) (hk : kindB true sc x = true)
    (h : EvE c n sc m mu value fun b mu2 => OpI c n mu2 op a b fun d mu3 => P .next (setL m x d) mu3) : Ex1 c n sc m mu (.AugAssign (.Name x pos') op value pos) P := by
  intro env A s he hA ht S F
  refine wpAny_AugAssign_Name (loadN ((kind_of he hk).imp id And.right) hl F fun va ra => ?_)
  refine EvE.bind h he hA ht S F fun vb s2 b mu2 h2 x2 t2 S2 F2 r2 k2 => ?_
  refine post_bind (h2 A s2 va vb hA t2 S2 (ra.mono k2) r2) t2 S2 fun vd s3 d mu3 h3 x3 t3 S3 r3 k3 => ?_
  refine wpAny_mono (store (kind_of he hk) S3 (F2.step S2 x3) r3) (fun _ s4 ⟨x4, F4⟩ => ?_) fun _ _ x => x
  exact ⟨.next, _, mu3, h3, ((x2.trans x3).toT).trans x4, F4, .next⟩
end
end Mine

open PySem PySem.W PySem.Calls PyProof.Rows
set_option Elab.async false
set_option linter.unusedVariables false
namespace Mine

/-! # iteration -/
structure Iter (c : Cx) (n : Nat) (okT : PySem.Expr → Prop) (I : Addr) (priv : List Addr) (src : Mu → Prop) (xs : List PV) (J : Nat → Heap → Prop) : Prop where
  frame : ∀ i h h', J i h → (∀ b ∈ priv, ∀ o, h.get? b = some o → h'.get? b = some o) → TK h h' → J i h'
  notT : ∀ i h, J i h → ∀ b ∈ priv, ∃ o, h.get? b = some o ∧ ¬ IsT o
  next : ∀ i d A s mu target, okT target → xs[i]? = some d → AOk n A → 0 < s.toks → St c mu s.heap → src mu → (∀ b ∈ priv, mu b = none) → J i s.heap →
    wpAny c.M A (pyNext (.ref I)) (fun r s1 => ∃ v, r = some v ∧ wpAny c.M A (letOwnedTupleGo target (.ref I) v)
      (fun _ s' => ∃ h' tk, s' = { s with heap := h', toks := tk } ∧ (∀ b o, b ∉ priv → s.heap.get? b = some o → h'.get? b = some o) ∧ Rep h' d v ∧ J (i + 1) h') NoE s1) NoE s
  self : ∀ i A s (Q : Value → Shared → Prop) E, AOk n A → J i s.heap → Q (.ref I) s → wpAny c.M A (pyIter (.ref I)) Q E s
  done : ∀ i A s mu, i = xs.length → AOk n A → 0 < s.toks → St c mu s.heap → src mu → (∀ b ∈ priv, mu b = none) → J i s.heap →
    wpAny c.M A (pyNext (.ref I)) (fun r s' => r = none ∧ ∃ h' tk, s' = { s with heap := h', toks := tk } ∧ (∀ b o, b ∉ priv → s.heap.get? b = some o → h'.get? b = some o)) NoE s

/-- what pyIter of a value gives: the items, the objects that go out of the ledger -/
def IterOf (c : Cx) (n : Nat) (okT : PySem.Expr → Prop) (mu : Mu) (d : PV) (xs : List PV) (src : Mu → Prop) (mu1 : Mu) : Prop :=
  Sub mu1 mu ∧ ∀ A s v, AOk n A → 0 < s.toks → St c mu s.heap → Rep s.heap d v →
    wpAny c.M A (pyIter v) (fun it s' => ∃ I priv J h' tk, it = .ref I ∧ s' = { s with heap := h', toks := tk } ∧ (∀ b o, b ∉ priv → s.heap.get? b = some o → h'.get? b = some o) ∧
      (∀ b ∈ priv, c.base.get? b = none ∧ mu1 b = none ∧ (s.heap.get? b = none ∨ mu b ≠ none)) ∧ Iter c n okT I priv src xs J ∧ J 0 h') NoE s

/-- behind a private step -/
theorem St.priv {c : Cx} {mu : Mu} {h h' : Heap} {priv : List Addr} (S : St c mu h) (hp : ∀ b ∈ priv, mu b = none ∧ c.base.get? b = none) (hk : ∀ b o, b ∉ priv → h.get? b = some o → h'.get? b = some o) (tk : TK h h') : St c mu h' :=
  ⟨fun b o e => hk b o (fun q => by have := (hp b q).2; rw [e] at this; cases this) (S.base b o e),
   fun a o e => (S.objs a o e).mono (fun o' q => hk a o' (fun p => by have := (hp a p).1; rw [e] at this; cases this) q) tk, S.new⟩

def LoopE (c : Cx) (n : Nat) (sc : Scope) (src : Mu → Prop) (target : PySem.Expr) (body orelse : List Stmt) (P : FV → Lm → Mu → Prop) : List PV → Lm → Mu → Prop
  | [], m, mu => src mu ∧ ExS c n sc m mu orelse P
  | x :: xs, m, mu => src mu ∧ AsgT true c n sc m mu target x fun m1 mu1 => ExS c n sc m1 mu1 body fun fl m2 mu2 => match fl with
    | .next | .cont => LoopE c n sc src target body orelse P xs m2 mu2
    | .brk => P .next m2 mu2
    | .ret r => P (.ret r) m2 mu2

section
variable {c : Cx} {n : Nat} {sc : Scope} {m : Lm} {mu : Mu}

theorem tk_priv {h h' : Heap} {priv : List Addr} (hn : ∀ b ∈ priv, ∃ o, h.get? b = some o ∧ ¬ IsT o) (hk : ∀ b o, b ∉ priv → h.get? b = some o → h'.get? b = some o) : TK h h' :=
  fun a o e ht => hk a o (fun q => by obtain ⟨o', e', hn'⟩ := hn a q; rw [e] at e'; cases e'; exact hn' ht) e

theorem Fm.priv {env : Env} {h h' : Heap} {priv : List Addr} (F : Fm c mu h env m) (hL : env.locals ∉ priv) (hC : ∀ x ca, env.cells.lookup x = some ca → ca ∉ priv) (hk : ∀ b o, b ∉ priv → h.get? b = some o → h'.get? b = some o) (tk : TK h h') : Fm c mu h' env m := by
  obtain ⟨mc, hn, hv⟩ := F.loc
  exact { F with
    loc := ⟨mc, hn.at' fun o e => hk _ o hL e, fun y pv e hky => let ⟨v, a, b⟩ := hv y pv e hky; ⟨v, a, b.mono tk⟩⟩
    cel := fun y pv e hky => let ⟨ca, v, a, ⟨o, b, d⟩, r⟩ := F.cel y pv e hky; ⟨ca, v, a, ⟨o, hk ca o (hC y ca a) b, d⟩, r.mono tk⟩
    cells := fun y ca e => let ⟨v, ⟨o, b, d⟩⟩ := F.cells y ca e; ⟨v, ⟨o, hk ca o (hC y ca e) b, d⟩⟩ }

/-- the running loop: what is known between two turns -/
structure Mid (c : Cx) (env : Env) (mu0 : Mu) (s0 : Shared) (priv : List Addr) (J : Nat → Heap → Prop) (i : Nat) (m : Lm) (mu : Mu) (s : Shared) : Prop where
  step : Step c (Tch env) mu0 s0 mu s
  fm : Fm c mu s.heap env m
  pv : ∀ b ∈ priv, mu b = none ∧ c.base.get? b = none
  j : J i s.heap
  toks : 0 < s.toks

theorem for_loop {okT : PySem.Expr → Prop} {I : Addr} {priv : List Addr} {src : Mu → Prop} {xs : List PV} {J : Nat → Heap → Prop} {target : PySem.Expr} {body orelse : List Stmt} {P : FV → Lm → Mu → Prop} {env : Env} {A : Around} {mu0 : Mu} {s0 : Shared}
    (W : Iter c n okT I priv src xs J) (hT : okT target) (he : env.scope = sc) (hA : AOk n A) (hL : env.locals ∉ priv) (hC : ∀ x ca, env.cells.lookup x = some ca → ca ∉ priv)
    (h0 : ∀ b ∈ priv, s0.heap.get? b = none ∨ mu0 b ≠ none)
    (i : Nat) (hi : i ≤ xs.length) (s : Shared) (hl : LoopE c n sc src target body orelse P (xs.drop i) m mu) (hm : Mid c env mu0 s0 priv J i m mu s) :
    codeAny c.M A (.forLoop target (.ref I) body orelse env) (fun r s' => match r with | .ok f => PostS c env mu0 s0 P f s' | .error e => cameBackBy c.M A env NoE e s') s := by
  refine codeAny_forLoop_any (fun k s' => ∃ i m mu, k = xs.length + 1 - i ∧ i ≤ xs.length ∧ LoopE c n sc src target body orelse P (xs.drop i) m mu ∧ Mid c env mu0 s0 priv J i m mu s') ?_ (xs.length + 1 - i) ⟨i, m, mu, rfl, hi, hl, hm⟩
  clear hl hm
  rintro k s ⟨i, m, mu, rfl, hi, hl, hm⟩
  have hpm : ∀ b ∈ priv, mu b = none := fun b hb => (hm.pv b hb).1
  cases hx : xs.drop i with
  | nil =>
    rw [hx] at hl
    have hxi : i = xs.length := by have := congrArg List.length hx; simp at this; omega
    refine wpAny_mono (wpAny_toks (W.done i A s mu hxi hA hm.toks hm.step.st hl.1 hpm hm.j)) (fun r s1 p => ?_) fun _ _ x => x.2.elim
    obtain ⟨hle, rfl, h', tk, rfl, hk⟩ := p
    have tkk := tk_priv (W.notT i _ hm.j) hk
    have S1 : St c mu h' := hm.step.st.priv hm.pv hk tkk
    have F1 : Fm c mu h' env m := hm.fm.priv hL hC hk tkk
    have x1 : Step c (Tch env) mu0 s0 mu { s with heap := h', toks := tk } := {
      shape := by obtain ⟨h2, tk2, e⟩ := hm.step.shape; rw [e]; exact ⟨_, _, rfl⟩
      st := S1
      keep := fun b o e hmb hTb => hk b o (fun q => by rcases h0 b q with z | z; rw [e] at z; cases z; exact z hmb) (hm.step.keep b o e hmb hTb)
      alive := fun b o e hmb => by
        obtain ⟨o1, e1⟩ := hm.step.alive b o e hmb
        exact ⟨o1, hk b o1 (fun q => by rcases h0 b q with z | z; rw [e] at z; cases z; exact z hmb) e1⟩
      dom := hm.step.dom }
    refine wpAny_mono (hl.2 env A _ he hA (Nat.lt_of_lt_of_le hm.toks hle) S1 F1) (fun f s3 p => p.after x1) fun _ _ x => x.elim
  | cons d rest =>
    rw [hx] at hl
    have hxi : xs[i]? = some d := by
      have := congrArg (fun l => l[0]?) hx
      simpa using this
    have hlt : i < xs.length := (List.getElem?_eq_some_iff.mp hxi).1
    have hrest : xs.drop (i + 1) = rest := by
      have := congrArg List.tail hx
      simpa [List.tail_drop] using this
    refine wpAny_mono (wpAny_toks (W.next i d A s mu target hT hxi hA hm.toks hm.step.st hl.1 hpm hm.j)) (fun r s1 p => ?_) fun _ _ x => x.2.elim
    obtain ⟨hle, v, rfl, p⟩ := p
    refine wpAny_mono (wpAny_toks p) (fun _ s2 p => ?_) fun _ _ x => x.2.elim
    obtain ⟨hle2, h', tk, rfl, hk, rd, hj⟩ := p
    have tkk := tk_priv (W.notT i _ hm.j) hk
    have S1 : St c mu h' := hm.step.st.priv hm.pv hk tkk
    have F1 : Fm c mu h' env m := hm.fm.priv hL hC hk tkk
    have t1 : 0 < tk := Nat.lt_of_lt_of_le (Nat.lt_of_lt_of_le hm.toks hle) hle2
    have x1 : Step c (Tch env) mu0 s0 mu { s with heap := h', toks := tk } := {
      shape := by obtain ⟨h2, tk2, e⟩ := hm.step.shape; rw [e]; exact ⟨_, _, rfl⟩
      st := S1
      keep := fun b o e hmb hTb => hk b o (fun q => by rcases h0 b q with z | z; rw [e] at z; cases z; exact z hmb) (hm.step.keep b o e hmb hTb)
      alive := fun b o e hmb => by
        obtain ⟨o1, e1⟩ := hm.step.alive b o e hmb
        exact ⟨o1, hk b o1 (fun q => by rcases h0 b q with z | z; rw [e] at z; cases z; exact z hmb) e1⟩
      dom := hm.step.dom }
    have offT : ∀ b ∈ priv, ¬ Tch env b := fun b hb q => by
      rcases q with q | ⟨_, y, q⟩
      · exact hL (q ▸ hb)
      · exact hC y b q hb
    have next : ∀ {mu2 : Mu} {sa sb : Shared}, Step c (Tch env) mu sa mu2 sb → J (i + 1) sa.heap → TK sa.heap sb.heap → J (i + 1) sb.heap ∧ ∀ b ∈ priv, mu2 b = none ∧ c.base.get? b = none := fun {mu2 sa sb} x hja tka => by
      refine ⟨W.frame _ _ _ hja (fun b hb o e => x.keep b o e (hpm b hb) (offT b hb)) tka, fun b hb => ⟨?_, (hm.pv b hb).2⟩⟩
      obtain ⟨o, e, _⟩ := W.notT _ _ hja b hb
      exact keepNone x e (hpm b hb)
    refine wpAny_mono (wpAny_toks (hl.2 env A _ v he hA t1 S1 F1 rd)) (fun _ s3 p => ?_) fun _ _ x => x.2.elim
    obtain ⟨hle3, m3, mu3, h3, x3, F3⟩ := p
    have t3 : 0 < s3.toks := Nat.lt_of_lt_of_le t1 hle3
    refine wpAny_mono (wpAny_toks (h3 env A s3 he hA t3 x3.st F3)) (fun f s4 p => ?_) fun _ _ x => x.2.elim
    obtain ⟨hle4, fl, m4, mu4, h4, x4, F4, rf⟩ := p
    have x34 := x3.trans x4
    have more : LoopE c n sc src target body orelse P (xs.drop (i + 1)) m4 mu4 → ∃ k', k' < xs.length + 1 - i ∧ ∃ i m mu, k' = xs.length + 1 - i ∧ i ≤ xs.length ∧ LoopE c n sc src target body orelse P (xs.drop i) m mu ∧ Mid c env mu0 s0 priv J i m mu s4 := fun hlo => by
      obtain ⟨hj4, hp4⟩ := next x34 hj (F1.tkT S1 x34)
      exact ⟨xs.length + 1 - (i + 1), by omega, i + 1, m4, mu4, rfl, hlt, hlo, x1.trans x34, F4, hp4, hj4, Nat.lt_of_lt_of_le t3 hle4⟩
    cases rf with
    | next => exact more (hrest ▸ h4)
    | cont => exact more (hrest ▸ h4)
    | brk => exact ⟨.next, m4, mu4, h4, x1.trans x34, F4, .next⟩
    | ret r => exact ⟨.ret _, m4, mu4, h4, x1.trans x34, F4, .ret r⟩

theorem Ex1.for {okT : PySem.Expr → Prop} {target iter : PySem.Expr} {body orelse : List Stmt} {pos : Pos} {P : FV → Lm → Mu → Prop} (hT : okT target)
    (h : EvE c n sc m mu iter fun d mu1 => ∃ xs src mu2, IterOf c n okT mu1 d xs src mu2 ∧ LoopE c n sc src target body orelse P xs m mu2)
    (hs : ∀ env x, foldedSetIterable iter env x = pure x := by intro _ _; rfl) : Ex1 c n sc m mu (.For target iter body orelse pos) P := by
  intro env A s he hA ht S F
  show wpAny c.M A (do
    standAt pos
    let x ← foldedSetIterable iter env (← eval iter env)
    standAt iter.pos
    runOwn (.forLoop target (← holding [x] (pyIter x)) body orelse env) env) _ _ s
  refine wpAny_bind (wpAny_standAt (wpAny_bind (EvE.bind h he hA ht S F fun v s1 d mu1 hp x1 t1 S1 F1 r1 _ => ?_)))
  rw [hs]
  obtain ⟨xs, src, mu2, ⟨hsub, hit⟩, hlo⟩ := hp
  refine wpAny_bind (wpAny_pure (wpAny_bind (wpAny_standAt (wpAny_bind (wpAny_holding (wpAny_mono (wpAny_toks (hit A s1 v hA t1 S1 r1)) (fun it s2 p => ?_) fun _ _ x => x.2.elim))))))
  obtain ⟨hle, I, priv, J, h', tk, rfl, rfl, hk, hpv, W, hj⟩ := p
  refine wpAny_runOwn ?_
  have hn1 : ∀ b ∈ priv, ∀ o, s1.heap.get? b = some o → mu1 b ≠ none := fun b hb o e => by
    rcases (hpv b hb).2.2 with z | z
    · rw [e] at z; cases z
    · exact z
  have hL : env.locals ∉ priv := fun q => by
    obtain ⟨mc, hn, _⟩ := F1.loc
    obtain ⟨o, _, _, e, _⟩ := hn
    exact hn1 _ q o e F1.offL
  have hC : ∀ x ca, env.cells.lookup x = some ca → ca ∉ priv := fun x ca hx q => by
    obtain ⟨_, o, e, _⟩ := F1.cells x ca hx
    exact hn1 _ q o e (F1.offC x ca hx).1
  have tkk : TK s1.heap h' := fun a o e hto => hk a o (fun q => hn1 a q o e (S1.tupOff e hto)) e
  have sub0 : ∀ b, mu2 b ≠ none → mu1 b ≠ none := fun b hb => by
    obtain ⟨o, e⟩ := Option.ne_none_iff_exists'.mp hb
    rw [hsub b o e]; simp
  have S1' : St c mu2 s1.heap := ⟨S1.base, fun a o e => S1.objs a o (hsub a o e), fun a ha => S1.new a (sub0 a ha)⟩
  have S2 : St c mu2 h' := S1'.priv (fun b hb => ⟨(hpv b hb).2.1, (hpv b hb).1⟩) hk tkk
  have off2 : ∀ b, mu1 b = none → mu2 b = none := fun b hb => by
    cases q : mu2 b with
    | none => rfl
    | some z => exact absurd hb (sub0 b (by rw [q]; simp))
  have F2 : Fm c mu2 h' env m := { (F1.priv hL hC hk tkk) with
    offL := off2 _ F1.offL
    offC := fun x ca e => ⟨off2 _ (F1.offC x ca e).1, (F1.offC x ca e).2⟩ }
  have x2 : Step c (Tch env) mu1 s1 mu2 { s1 with heap := h', toks := tk } := {
    shape := ⟨_, _, rfl⟩
    st := S2
    keep := fun b o e hm _ => hk b o (fun q => hn1 b q o e hm) e
    alive := fun b o e hm => ⟨o, hk b o (fun q => hn1 b q o e hm) e⟩
    dom := fun b hb => .inl (sub0 b hb) }
  exact codeAny_mono (for_loop W hT he hA hL hC (mu0 := mu1) (s0 := s1) (fun b hb => (hpv b hb).2.2) 0 (Nat.zero_le _) _ (by simpa using hlo)
    ⟨x2, F2, fun b hb => ⟨(hpv b hb).2.1, (hpv b hb).1⟩, hj, Nat.lt_of_lt_of_le t1 hle⟩) fun r s' q => by
      cases r with
      | ok f => exact q.after x1.toT
      | error e => exact q
end
end Mine

open PySem PySem.W PySem.Calls PyProof.Rows
set_option Elab.async false
set_option linter.unusedVariables false
namespace Mine

/-! # comprehensions -/
def relab (scope sc : Scope) : Scope :=
  { scope with names := scope.names.map fun (n, k) => if (k == .free && sc.kind == .function && sc.names.lookup n == some .cell) then (n, .cell) else (n, k) }
def capt (scope : Scope) (m : Lm) : Lm := m.filter fun p => scope.names.lookup p.1 == some .free
theorem lookup_capt {scope : Scope} {m : Lm} {x : Str} {d : PV} (h : (capt scope m).lookup x = some d) : scope.names.lookup x = some .free ∧ m.lookup x = some d := by
  unfold capt at h
  induction m with
  | nil => simp at h
  | cons p r ih =>
    obtain ⟨y, e⟩ := p
    by_cases hp : scope.names.lookup y = some .free
    · have hb : (scope.names.lookup y == some NameKind.free) = true := by rw [hp]; rfl
      rw [List.filter_cons_of_pos (by simpa using hp), List.lookup_cons] at h
      rw [List.lookup_cons]
      cases hxy : x == y with
      | true => rw [hxy] at h; exact ⟨by rw [beq_iff_eq.mp hxy]; exact hp, h⟩
      | false => rw [hxy] at h; exact ih h
    · rw [List.filter_cons_of_neg (by simpa using hp)] at h
      rw [List.lookup_cons]
      cases hxy : x == y with
      | true => have := (ih h).1; rw [beq_iff_eq.mp hxy] at this; exact absurd this hp
      | false => exact ih h
theorem lookup_relab {sc : Scope} : ∀ {names : List (Str × NameKind)} {x : Str} {k : NameKind}, names.lookup x = some k →
    (names.map fun (n, k) => if (k == NameKind.free && sc.kind == .function && sc.names.lookup n == some .cell) then (n, NameKind.cell) else (n, k)).lookup x = some (if (k == NameKind.free && sc.kind == .function && sc.names.lookup x == some .cell) = true then .cell else k)
  | [], _, _, h => by simp at h
  | (y, k') :: r, x, k, h => by
    rw [List.lookup_cons] at h
    simp only [List.map_cons]
    cases hxy : x == y with
    | true =>
      rw [hxy] at h; cases h
      have := beq_iff_eq.mp hxy; subst this
      by_cases hc : (k' == NameKind.free && sc.kind == .function && sc.names.lookup x == some .cell) = true
      · rw [if_pos hc, if_pos hc, List.lookup_cons, beq_self_eq_true]
      · rw [if_neg hc, if_neg hc, List.lookup_cons, beq_self_eq_true]
    | false =>
      rw [hxy] at h
      have ih := lookup_relab (sc := sc) h
      by_cases hc : (k' == NameKind.free && sc.kind == .function && sc.names.lookup y == some .cell) = true
      · rw [if_pos hc, List.lookup_cons, hxy]; exact ih
      · rw [if_neg hc, List.lookup_cons, hxy]; exact ih
theorem lookup_relab_none {sc : Scope} : ∀ {names : List (Str × NameKind)} {x : Str}, names.lookup x = none →
    (names.map fun (n, k) => if (k == NameKind.free && sc.kind == .function && sc.names.lookup n == some .cell) then (n, NameKind.cell) else (n, k)).lookup x = none
  | [], _, _ => rfl
  | (y, k') :: r, x, h => by
    rw [List.lookup_cons] at h
    simp only [List.map_cons]
    cases hxy : x == y with
    | true => rw [hxy] at h; cases h
    | false =>
      rw [hxy] at h
      have ih := lookup_relab_none (sc := sc) h
      by_cases hc : (k' == NameKind.free && sc.kind == .function && sc.names.lookup y == some .cell) = true
      · rw [if_pos hc, List.lookup_cons, hxy]; exact ih
      · rw [if_neg hc, List.lookup_cons, hxy]; exact ih

/-- the closure that a comprehension takes -/
theorem closure_go {env : Env} : ∀ (names : List (Str × NameKind)) (acc : List (Str × Addr)), (∀ x ∈ names, x.2 = .free → ∃ ca, env.cells.lookup x.1 = some ca) →
    ∃ cl : List (Str × Addr), (forIn names acc fun (x : Str × NameKind) (r : List (Str × Addr)) => if (x.2 == NameKind.free) = true then do let a ← cellOf env x.1; pure (ForInStep.yield ((x.1, a) :: r)) else pure (ForInStep.yield r)) = (pure cl : Sem (List (Str × Addr))) ∧
      (∀ p ∈ cl, p ∈ acc ∨ env.cells.lookup p.1 = some p.2) ∧ (∀ x ∈ names, x.2 = .free → (cl.lookup x.1).isSome = true) ∧ (∀ x, (acc.lookup x).isSome = true → (cl.lookup x).isSome = true)
  | [], acc, _ => ⟨acc, rfl, fun p hp => .inl hp, fun _ hx => (nomatch hx), fun _ h => h⟩
  | (y, k) :: r, acc, h => by
    have hr := fun x hx => h x (List.mem_cons_of_mem _ hx)
    by_cases hk : k = .free
    · subst hk
      obtain ⟨ca, hca⟩ := h (y, .free) List.mem_cons_self rfl
      obtain ⟨cl, e, h1, h2, h3⟩ := closure_go (env := env) r ((y, ca) :: acc) hr
      have hc : cellOf env y = pure ca := by unfold cellOf; rw [hca]
      refine ⟨cl, ?_, fun p hp => ?_, fun x hx hf => ?_, fun x hx => h3 x ?_⟩
      · rw [List.forIn_cons]
        show ((if (NameKind.free == NameKind.free) = true then do let a ← cellOf env y; pure (ForInStep.yield ((y, a) :: acc)) else pure (ForInStep.yield acc)) >>= _) = _
        rw [if_pos (by rfl), hc, pure_bind, pure_bind]; exact e
      · rcases h1 p hp with q | q
        · rcases List.mem_cons.mp q with q | q
          · subst q; exact .inr hca
          · exact .inl q
        · exact .inr q
      · rcases List.mem_cons.mp hx with q | q
        · subst q; exact h3 y (by rw [List.lookup_cons, beq_self_eq_true]; rfl)
        · exact h2 x q hf
      · rw [List.lookup_cons]; cases x == y <;> simp_all
    · obtain ⟨cl, e, h1, h2, h3⟩ := closure_go (env := env) r acc hr
      have hb : (k == NameKind.free) = false := by simpa using hk
      refine ⟨cl, ?_, h1, fun x hx hf => ?_, h3⟩
      · rw [List.forIn_cons]
        show ((if (k == NameKind.free) = true then do let a ← cellOf env y; pure (ForInStep.yield ((y, a) :: acc)) else pure (ForInStep.yield acc)) >>= _) = _
        rw [if_neg (by rw [hb]; exact Bool.false_ne_true), pure_bind]; exact e
      · rcases List.mem_cons.mp hx with q | q
        · subst q; exact absurd hf hk
        · exact h2 x q hf
theorem closure_is {env : Env} {scope : Scope} (h : ∀ x ∈ scope.names, x.2 = .free → ∃ ca, env.cells.lookup x.1 = some ca) :
    ∃ cl, closureFor scope env = pure cl ∧ (∀ x ca, cl.lookup x = some ca → env.cells.lookup x = some ca) ∧ (∀ x ∈ scope.names, x.2 = .free → (cl.lookup x.1).isSome = true) := by
  obtain ⟨cl, e, h1, h2, _⟩ := closure_go (env := env) scope.names [] h
  refine ⟨cl, ?_, fun x ca hx => ?_, h2⟩
  · unfold closureFor
    simp only [bind_pure]
    exact e
  · rcases h1 _ (mem_of_lookup hx) with q | q
    · cases q
    · exact q

/-- tests of a comprehension's clause -/
def IfsE (c : Cx) (n : Nat) (sc : Scope) (m : Lm) (mu : Mu) (ifs : List PySem.Expr) (P : Bool → Mu → Prop) : Prop :=
  ∀ env A s, env.scope = sc → AOk n A → 0 < s.toks → St c mu s.heap → Fm c mu s.heap env m →
    wpAny c.M A (forIn ifs true fun c r => if r = true then do let ok ← isTrue c env (eval c env); pure (ForInStep.yield ok) else pure (ForInStep.yield r)) (PostB c mu s P) NoE s
theorem IfsE.nil {c : Cx} {n : Nat} {sc : Scope} {m : Lm} {mu : Mu} {P : Bool → Mu → Prop} (h : P true mu) : IfsE c n sc m mu [] P := fun env A s he hA ht S F => wpAny_tests_nil (PostB.pure0 S h)
theorem IfsE.one {c : Cx} {n : Nat} {sc : Scope} {m : Lm} {mu : Mu} {t : PySem.Expr} {P : Bool → Mu → Prop} (h : Tst c n sc m mu t P) : IfsE c n sc m mu [t] P := fun env A s he hA ht S F => wpAny_tests_one (h env A s he hA ht S F)

def CompE (c : Cx) (n : Nat) (sc : Scope) (src : Mu → Prop) (target : PySem.Expr) (ifs : List PySem.Expr) (elt : PySem.Expr) (P : List PV → Mu → Prop) : List PV → List PV → Lm → Mu → Prop
  | [], acc, _, mu => src mu ∧ P acc mu
  | x :: xs, acc, m, mu => src mu ∧ acc.length ≤ sizeLine ∧ AsgT false c n sc m mu target x fun m1 mu1 => IfsE c n sc m1 mu1 ifs fun ok mu2 =>
      if ok = true then EvE c n sc m1 mu2 elt fun d mu3 => CompE c n sc src target ifs elt P xs (acc ++ [d]) m1 mu3 else CompE c n sc src target ifs elt P xs acc m1 mu2

/-- scopes of comprehensions: no cells of their own, every name once -/
def compOk (scope sc : Scope) : Bool :=
  scope.kind == .function && scope.names.all (fun x => x.2 != .cell) && scope.names.all (fun x => scope.names.lookup x.1 == some x.2) && scope.names.all (fun x => x.2 != .free || sc.names.lookup x.1 == some .cell)

structure MidC (c : Cx) (cenv : Env) (D : Addr) (mu0 : Mu) (s0 : Shared) (priv : List Addr) (J : Nat → Heap → Prop) (i : Nat) (acc : List PV) (m : Lm) (mu : Mu) (s : Shared) : Prop where
  step : Step c noT mu0 s0 mu s
  fm : Fm c mu s.heap cenv m
  pv : ∀ b ∈ priv, mu b = none ∧ c.base.get? b = none
  j : J i s.heap
  toks : 0 < s.toks
  accL : ∃ vs n, s.heap.get? D = some (listOf vs.toArray n) ∧ Reps s.heap acc vs
  muD : mu D = none

section
variable {c : Cx} {n : Nat} {sc : Scope} {m : Lm} {mu : Mu}

theorem list_notT {vs : List Value} {k : Nat} : ¬ IsT (listOf vs.toArray k) := by simp [IsT]

/-- a step in a comprehension's frame, seen from outside -/
theorem Step.outer {T : Addr → Prop} {mu0 mu1 mu2 : Mu} {s0 s1 s2 : Shared} (x : Step c noT mu0 s0 mu1 s1) (y : Step c T mu1 s1 mu2 s2) (hT : ∀ b, T b → s0.heap.get? b = none) : Step c noT mu0 s0 mu2 s2 where
  shape := by obtain ⟨h, tk, rfl⟩ := x.shape; obtain ⟨h2, tk2, rfl⟩ := y.shape; exact ⟨h2, tk2, rfl⟩
  st := y.st
  keep := fun b o e hm _ => y.keep b o (x.keep b o e hm id) (keepNone x e hm) fun q => by rw [hT b q] at e; cases e
  alive := fun b o e hm => y.alive b o (x.keep b o e hm id) (keepNone x e hm)
  dom := fun b hb => by
    rcases y.dom b hb with h | h
    · exact x.dom b h
    · cases e : s0.heap.get? b with
      | none => exact .inr rfl
      | some o =>
        cases q : mu0 b with
        | some z => exact .inl (by simp)
        | none => have := x.keep b o e q id; rw [h] at this; cases this

theorem compLoop_tests {elt target iter : PySem.Expr} {ifs : List PySem.Expr} {scope : Scope} {pos : Pos} {it acc : Value} {env : Env} {A : Around} {R : Result → Shared → Prop} {s : Shared} (I : Nat → Shared → Prop)
    (turn : ∀ n s, I n s → wpAny c.M A (pyNext it) (fun r s₁ => match r with
      | none => R (.ok .next) s₁
      | some v => wpAny c.M A (letOwnedTupleGo target it v) (fun _ s₁' => wpAny c.M A (assign target env v) (fun _ s₂ =>
          wpAny c.M A (forIn ifs true fun c r => if r = true then do let ok ← isTrue c env (eval c env); pure (ForInStep.yield ok) else pure (ForInStep.yield r)) (fun ok s₃ =>
            if ok = true then wpAny c.M A (eval elt env) (fun x s₄ =>
              wpAny c.M A (call (.builtin "list.append") [acc, x]) (fun _ s₅ => ∃ m, m < n ∧ I m s₅) NoE s₄) NoE s₃
            else ∃ m, m < n ∧ I m s₃) NoE s₂) NoE s₁') NoE s₁) NoE s)
    (n : Nat) (h : I n s) :
    codeAny c.M A (.compLoop (.ListComp elt [⟨target, iter, ifs, 0⟩] scope pos) 0 it acc env) R s := by
  refine codeAny_loop rfl I (fun n s hI => ?_) n h
  show wpAny _ A ((compTurn (.ListComp elt [⟨target, iter, ifs, 0⟩] scope pos) 0 it acc env).onRaise (fun x => do noteFrame x env; theTreesLotGoes x)) _ _ s
  refine wpAny_noted ?_
  rw [compTurn_list]
  refine wpAny_bind (wpAny_standAt (wpAny_bind (wpAny_mono (turn n s hI) (fun r s₁ h₁ => ?_) fun _ _ h' => h'.elim)))
  cases r with
  | none => exact wpAny_pure h₁
  | some v =>
    refine wpAny_bind (wpAny_mono h₁ (fun _ s₁' h₁' => ?_) fun _ _ h' => h'.elim)
    refine wpAny_bind (wpAny_mono h₁' (fun _ s₂ h₂ => wpAny_bind (wpAny_mono h₂ (fun ok s₃ h₃ => ?_) fun _ _ h' => h'.elim)) fun _ _ h' => h'.elim)
    cases ok with
    | false => exact wpAny_pure ⟨rfl, h₃⟩
    | true =>
      exact wpAny_bind (wpAny_bind (wpAny_mono h₃ (fun x s₄ h₄ => wpAny_bind (wpAny_mono h₄ (fun _ s₅ h₅ => wpAny_pure (wpAny_pure ⟨rfl, h₅⟩)) fun _ _ h' => h'.elim)) fun _ _ h' => h'.elim))

/-- what stands behind the loop -/
def CDone (c : Cx) (mu0 : Mu) (s0 : Shared) (C D : Addr) (P : List PV → Mu → Prop) (s' : Shared) : Prop :=
  ∃ ys mu3, P ys mu3 ∧ mu3 D = none ∧ Step c noT mu0 s0 (upd mu3 D (.list ys)) s' ∧ (∃ m, s'.heap.Ns C m) ∧ mu3 C = none ∧ 0 < s'.toks

theorem comp_loop {okT : PySem.Expr → Prop} {I : Addr} {priv : List Addr} {src : Mu → Prop} {xs : List PV} {J : Nat → Heap → Prop} {target elt iter : PySem.Expr} {ifs : List PySem.Expr} {scope : Scope} {pos : Pos} {P : List PV → Mu → Prop} {cenv : Env} {A : Around} {D : Addr} {mu0 : Mu} {s0 : Shared}
    (W : Iter c n okT I priv src xs J) (hT : okT target) (he : cenv.scope = sc) (hA : AOk n A) (hL : cenv.locals ∉ priv) (hC : ∀ x ca, cenv.cells.lookup x = some ca → ca ∉ priv)
    (h0 : ∀ b ∈ priv, s0.heap.get? b = none ∨ mu0 b ≠ none) (hL0 : s0.heap.get? cenv.locals = none) (hD0 : s0.heap.get? D = none) (hDb : c.base.get? D = none) (hDL : D ≠ cenv.locals) (hDp : D ∉ priv) (hDC : ∀ x, cenv.cells.lookup x ≠ some D)
    (s : Shared) (hl : CompE c n sc src target ifs elt P xs [] m mu) (hm : MidC c cenv D mu0 s0 priv J 0 [] m mu s) :
    codeAny c.M A (.compLoop (.ListComp elt [⟨target, iter, ifs, 0⟩] scope pos) 0 (.ref I) (.ref D) cenv) (fun r s' => r = .ok .next ∧ CDone c mu0 s0 cenv.locals D P s') s := by
  refine compLoop_tests (fun k s' => ∃ i acc m mu, k = xs.length + 1 - i ∧ i ≤ xs.length ∧ CompE c n sc src target ifs elt P (xs.drop i) acc m mu ∧ MidC c cenv D mu0 s0 priv J i acc m mu s') ?_ (xs.length + 1 - 0) ⟨0, [], m, mu, rfl, Nat.zero_le _, by simpa using hl, hm⟩
  clear hl hm
  rintro k s ⟨i, acc, m, mu, rfl, hi, hl, hm⟩
  have hpm : ∀ b ∈ priv, mu b = none := fun b hb => (hm.pv b hb).1
  have privStep : ∀ {h' : Heap} {tk : Nat}, (∀ b o, b ∉ priv → s.heap.get? b = some o → h'.get? b = some o) → St c mu h' → Step c noT mu0 s0 mu { s with heap := h', toks := tk } := fun {h' tk} hk S1 => {
      shape := by obtain ⟨h2, tk2, e⟩ := hm.step.shape; rw [e]; exact ⟨_, _, rfl⟩
      st := S1
      keep := fun b o e hmb hTb => hk b o (fun q => by rcases h0 b q with z | z; rw [e] at z; cases z; exact z hmb) (hm.step.keep b o e hmb hTb)
      alive := fun b o e hmb => ⟨o, hk b o (fun q => by rcases h0 b q with z | z; rw [e] at z; cases z; exact z hmb) (hm.step.keep b o e hmb id)⟩
      dom := hm.step.dom }
  obtain ⟨vs, nn, eD, rD⟩ := hm.accL
  cases hx : xs.drop i with
  | nil =>
    rw [hx] at hl
    have hxi : i = xs.length := by have := congrArg List.length hx; simp at this; omega
    refine wpAny_mono (wpAny_toks (W.done i A s mu hxi hA hm.toks hm.step.st hl.1 hpm hm.j)) (fun r s1 p => ?_) fun _ _ x => x.2.elim
    obtain ⟨hle, rfl, h', tk, rfl, hk⟩ := p
    have tkk := tk_priv (W.notT i _ hm.j) hk
    have S1 : St c mu h' := hm.step.st.priv hm.pv hk tkk
    have F1 : Fm c mu h' cenv m := hm.fm.priv hL hC hk tkk
    have x1 := privStep (tk := tk) hk S1
    have eD1 : h'.get? D = some (listOf vs.toArray nn) := hk D _ hDp eD
    refine ⟨rfl, acc, mu, hl.2, hm.muD, ?_, let ⟨mc, hn, _⟩ := F1.loc; ⟨mc, hn⟩, F1.offL, Nat.lt_of_lt_of_le hm.toks hle⟩
    refine ⟨x1.shape, ⟨S1.base, fun a o e => ?_, fun a ha => ?_⟩, x1.keep, x1.alive, fun b hb => ?_⟩
    · by_cases q : a = D
      · subst q; simp at e; subst e; exact ⟨vs, nn, eD1, rD.mono tkk⟩
      · rw [upd_ne mu _ q] at e; exact S1.objs a o e
    · by_cases q : a = D
      · subst q; exact hDb
      · rw [upd_ne mu _ q] at ha; exact S1.new a ha
    · by_cases q : b = D
      · subst q; exact .inr hD0
      · rw [upd_ne mu _ q] at hb; exact x1.dom b hb
  | cons d rest =>
    rw [hx] at hl
    have hxi : xs[i]? = some d := by
      have := congrArg (fun l => l[0]?) hx
      simpa using this
    have hlt : i < xs.length := (List.getElem?_eq_some_iff.mp hxi).1
    have hrest : xs.drop (i + 1) = rest := by
      have := congrArg List.tail hx
      simpa [List.tail_drop] using this
    refine wpAny_mono (wpAny_toks (W.next i d A s mu target hT hxi hA hm.toks hm.step.st hl.1 hpm hm.j)) (fun r s1 p => ?_) fun _ _ x => x.2.elim
    obtain ⟨hle, v, rfl, p⟩ := p
    refine wpAny_mono (wpAny_toks p) (fun _ s2 p => ?_) fun _ _ x => x.2.elim
    obtain ⟨hle2, h', tk, rfl, hk, rd, hj⟩ := p
    have tkk := tk_priv (W.notT i _ hm.j) hk
    have S1 : St c mu h' := hm.step.st.priv hm.pv hk tkk
    have F1 : Fm c mu h' cenv m := hm.fm.priv hL hC hk tkk
    have t1 : 0 < tk := Nat.lt_of_lt_of_le (Nat.lt_of_lt_of_le hm.toks hle) hle2
    have x1 := privStep (tk := tk) hk S1
    have eD1 : h'.get? D = some (listOf vs.toArray nn) := hk D _ hDp eD
    have rD1 : Reps h' acc vs := rD.mono tkk
    have offT : ∀ b ∈ priv, ¬ TchK false cenv b := fun b hb q => by
      rcases q with q | ⟨q, _⟩
      · exact hL (q ▸ hb)
      · cases q
    have dT : ¬ TchK false cenv D := fun q => by
      rcases q with q | ⟨q, _⟩
      · exact hDL q
      · cases q
    -- what a step of the frame's leaves
    have next : ∀ {mu2 : Mu} {sa sb : Shared}, Step c (TchK false cenv) mu sa mu2 sb → J (i + 1) sa.heap → TK sa.heap sb.heap → sa.heap.get? D = some (listOf vs.toArray nn) → J (i + 1) sb.heap ∧ (∀ b ∈ priv, mu2 b = none ∧ c.base.get? b = none) ∧ sb.heap.get? D = some (listOf vs.toArray nn) ∧ mu2 D = none := fun {mu2 sa sb} x hja tka ea => by
      refine ⟨W.frame _ _ _ hja (fun b hb o e => x.keep b o e (hpm b hb) (offT b hb)) tka, fun b hb => ⟨?_, (hm.pv b hb).2⟩, x.keep D _ ea hm.muD dT, keepNone x ea hm.muD⟩
      obtain ⟨o, e, _⟩ := W.notT _ _ hja b hb
      exact keepNone x e (hpm b hb)
    have hTL : ∀ b, TchK false cenv b → s0.heap.get? b = none := fun b q => by
      rcases q with q | ⟨q, _⟩
      · rw [q]; exact hL0
      · cases q
    refine wpAny_mono (wpAny_toks (hl.2.2 cenv A _ v he hA t1 S1 F1 rd)) (fun _ s3 p => ?_) fun _ _ x => x.2.elim
    obtain ⟨hle3, m3, mu3, h3, x3, F3⟩ := p
    have t3 : 0 < s3.toks := Nat.lt_of_lt_of_le t1 hle3
    refine wpAny_mono (wpAny_toks (h3 cenv A s3 he hA t3 x3.st F3)) (fun ok s4 p => ?_) fun _ _ x => x.2.elim
    obtain ⟨hle4, mu4, h4, x4⟩ := p
    have t4 : 0 < s4.toks := Nat.lt_of_lt_of_le t3 hle4
    have F4 : Fm c mu4 s4.heap cenv m3 := F3.step x3.st x4
    have x34 : Step c (TchK false cenv) mu { s with heap := h', toks := tk } mu4 s4 := x3.trans x4.toT
    cases ok with
    | false =>
      have h4' : CompE c n sc src target ifs elt P rest acc m3 mu4 := h4
      obtain ⟨hj4, hp4, eD4, mD4⟩ := next x34 hj (F1.tkT S1 x34) eD1
      exact ⟨xs.length + 1 - (i + 1), by omega, i + 1, acc, m3, mu4, rfl, hlt, hrest ▸ h4', x1.outer x34 hTL, F4, hp4, hj4, t4, ⟨vs, nn, eD4, rD1.mono (F1.tkT S1 x34)⟩, mD4⟩
    | true =>
      have h4' : EvE c n sc m3 mu4 elt fun d mu3 => CompE c n sc src target ifs elt P rest (acc ++ [d]) m3 mu3 := h4
      refine EvE.bind h4' he hA t4 x4.st F4 fun w s5 d5 mu5 h5 x5 t5 S5 F5 r5 k5 => ?_
      have x35 : Step c (TchK false cenv) mu { s with heap := h', toks := tk } mu5 s5 := x34.trans x5.toT
      obtain ⟨hj5, hp5, eD5, mD5⟩ := next x35 hj (F1.tkT S1 x35) eD1
      have rD5 : Reps s5.heap acc vs := rD1.mono (F1.tkT S1 x35)
      refine wpAny_list_append_plain (items := vs.toArray) ⟨nn, eD5⟩ (fun h6 hl6 hs6 => ?_) (by rw [List.size_toArray, rD.length]; exact hl.2.1)
      obtain ⟨n6, e6⟩ := hl6
      have notD : ∀ o, s5.heap.get? D = some o → ¬ IsT o := fun o e => by rw [eD5] at e; cases e; exact list_notT
      have tk6 : TK s5.heap h6 := fun b o e ht => (hs6.2 b (fun q => by subst q; exact notD o e ht)).trans e
      have x6 : Step c (fun b => b = D) mu5 s5 mu5 { s5 with heap := h6, toks := s5.toks } := Step.turn S5 mD5 hDb notD hs6 rfl ⟨_, e6⟩
      have hj6 : J (i + 1) h6 := W.frame _ _ _ hj5 (fun b hb o e => (hs6.2 b (fun q => hDp (q ▸ hb))).trans e) tk6
      have F6 : Fm c mu5 h6 cenv m3 := F5.priv (priv := [D]) (by simpa using Ne.symm hDL) (fun x ca hx q => hDC x (by simp at q; rw [← q]; exact hx)) (fun b o hb e => (hs6.2 b (by simpa using hb)).trans e) tk6
      refine ⟨xs.length + 1 - (i + 1), by omega, i + 1, acc ++ [d5], m3, mu5, rfl, hlt, hrest ▸ h5, ((x1.outer x35 hTL).outer x6 (fun b q => by rw [q]; exact hD0)), F6, hp5, hj6, t5, ⟨vs ++ [w], n6, ?_, (rD5.mono tk6).append (.cons (r5.mono tk6) .nil)⟩, mD5⟩
      rw [e6]; simp

theorem compOk_of {scope : Scope} (h : compOk scope sc = true) : scope.kind = .function ∧ (∀ x ∈ scope.names, x.2 ≠ .cell) ∧ (∀ x ∈ scope.names, scope.names.lookup x.1 = some x.2) ∧ (∀ x ∈ scope.names, x.2 = .free → sc.names.lookup x.1 = some .cell) := by
  unfold compOk at h
  simp only [Bool.and_eq_true, List.all_eq_true, beq_iff_eq, bne_iff_ne, Bool.or_eq_true, ne_eq] at h
  obtain ⟨⟨⟨h1, h2⟩, h3⟩, h4⟩ := h
  exact ⟨h1, h2, h3, fun x hx hf => (h4 x hx).resolve_left (fun q => q hf)⟩

/-- the frame of a comprehension -/
theorem Fm.comp {scope : Scope} {env : Env} {s s3 : Shared} {mu1 : Mu} {cl : List (Str × Addr)} {C : Addr} (hco : compOk scope sc = true) (he : env.scope = sc) (F : Fm c mu1 s.heap env m) (hcl : ∀ x ca, cl.lookup x = some ca → env.cells.lookup x = some ca)
    (hcl2 : ∀ x ∈ scope.names, x.2 = .free → (cl.lookup x.1).isSome = true) {cenv : Env} (h1 : cenv.scope = relab scope sc) (h2 : cenv.locals = C) (h3 : cenv.cells = cl) (h4 : cenv.globals = env.globals) (h5 : cenv.builtins = env.builtins)
    (hk : ∀ b o, mu1 b = none → s.heap.get? b = some o → s3.heap.get? b = some o) (hns : ∃ mc, s3.heap.Ns C mc) (hC : s.heap.get? C = none) (hCm : mu1 C = none) (hCb : c.base.get? C = none) (tk : TK s.heap s3.heap) {mu2 : Mu} (hsub : ∀ b, mu1 b = none → mu2 b = none) : Fm c mu2 s3.heap cenv (capt scope m) := by
  obtain ⟨ck, cn, cu, cf⟩ := compOk_of hco
  have kindIs : ∀ x k, scope.names.lookup x = some k → cenv.kindOf x = some (if (k == NameKind.free && sc.kind == .function && sc.names.lookup x == some .cell) = true then .cell else k) := fun x k hx => by
    unfold Env.kindOf; rw [h1]; exact lookup_relab hx
  obtain ⟨mc, hmc⟩ := hns
  exact {
    fn := by rw [h1]; exact ck
    gl := h4.trans F.gl
    bu := h5.trans F.bu
    loc := ⟨mc, h2 ▸ hmc, fun x pv e hk' => by
      obtain ⟨hf, _⟩ := lookup_capt e
      rw [kindIs x _ hf] at hk'
      split at hk' <;> cases hk'⟩
    cel := fun x pv e _ => by
      obtain ⟨hf, hm⟩ := lookup_capt e
      have hkx : env.kindOf x = some .cell := by unfold Env.kindOf; rw [he]; exact cf (x, .free) (mem_of_lookup hf) rfl
      obtain ⟨ca, v, q1, ⟨o, q2, q3⟩, q4⟩ := F.cel x pv hm (.inl hkx)
      obtain ⟨ca', q5⟩ := Option.isSome_iff_exists.mp (hcl2 (x, .free) (mem_of_lookup hf) rfl)
      have := hcl x ca' q5
      rw [q1] at this; cases this
      exact ⟨ca, v, by rw [h3]; exact q5, ⟨o, hk ca o (F.offC x ca q1).1 q2, q3⟩, q4.mono tk⟩
    has := fun x hk' => by
      have hsome : ∃ k, scope.names.lookup x = some k := by
        cases q : scope.names.lookup x with
        | some k => exact ⟨k, rfl⟩
        | none =>
          have : cenv.kindOf x = none := by unfold Env.kindOf; rw [h1]; exact lookup_relab_none q
          rw [this] at hk'; cases hk'
      obtain ⟨k, hkk⟩ := hsome
      have hfree : k = .free := by
        rw [kindIs x k hkk] at hk'
        split at hk'
        · rename_i hc; simp at hc; exact hc.1.1
        · cases hk'; exact absurd rfl (cn (x, .cell) (mem_of_lookup hkk))
      subst hfree
      obtain ⟨ca, q⟩ := Option.isSome_iff_exists.mp (hcl2 (x, .free) (mem_of_lookup hkk) rfl)
      exact ⟨ca, by rw [h3]; exact q⟩
    cells := fun x ca e => by
      rw [h3] at e
      obtain ⟨v, o, q2, q3⟩ := F.cells x ca (hcl x ca e)
      exact ⟨v, o, hk ca o (F.offC x ca (hcl x ca e)).1 q2, q3⟩
    offL := by rw [h2]; exact hsub _ hCm
    offC := fun x ca e => by
      rw [h3] at e
      have hc := hcl x ca e
      obtain ⟨a1, a2, a3⟩ := F.offC x ca hc
      refine ⟨hsub _ a1, fun q => ?_, a3⟩
      obtain ⟨v, o, q2, q3⟩ := F.cells x ca hc
      rw [q, h2, hC] at q2; cases q2
    apart := fun x y ca e1 e2 => by rw [h3] at e1 e2; exact F.apart x y ca (hcl x ca e1) (hcl y ca e2)
    notB := by rw [h2]; exact hCb }

/-- the comprehension up to what its list is used for -/
theorem comp_run {okT : PySem.Expr → Prop} {target iter elt : PySem.Expr} {ifs : List PySem.Expr} {scope : Scope} {pos pos' : Pos} {P : List PV → Mu → Prop} (hT : okT target) (hco : compOk scope sc = true)
    (h : EvE c n sc m mu iter fun d mu1 => ∃ xs src mu2, IterOf c n okT mu1 d xs src mu2 ∧ CompE c n (relab scope sc) src target ifs elt P xs [] (capt scope m) mu2)
    (hs : ∀ env x, foldedSetIterable iter env x = pure x) {env : Env} {A : Around} {s : Shared} (he : env.scope = sc) (hA : AOk n A) (ht : 0 < s.toks) (S : St c mu s.heap) (F : Fm c mu s.heap env m)
    {use : Option (Value → Sem Unit)} {Q : Value → Shared → Prop}
    (k : ∀ C D s', (mu C = none → s.heap.get? C = none) → C ≠ D → c.base.get? C = none → CDone c mu s C D P s' → compPost c.M A NoE use Q (.ref D) C (.ok .next) s') :
    wpAny c.M A (comprehension (.ListComp elt [⟨target, iter, ifs, 0⟩] scope pos) scope env pos' (newList []) false (eval iter env) use) Q NoE s := by
  obtain ⟨ck, cn, cu, cf⟩ := compOk_of hco
  obtain ⟨cl, hcl0, hcl, hcl2⟩ := closure_is (env := env) (scope := scope) fun x hx hf => by
    have hkx : env.kindOf x.1 = some .cell := by unfold Env.kindOf; rw [he]; exact cf x hx hf
    exact F.has _ hkx
  refine wpAny_comprehension_free (g := ⟨target, iter, ifs, 0⟩) (gs := []) rfl (hs env) hcl0 ck (fun x hx hl => by rw [cu x hx, hl]) ?_
  refine EvE.bind h he hA ht S F fun v s1 d mu1 hp x1 t1 S1 F1 r1 _ => ?_
  obtain ⟨xs, src, mu2, ⟨hsub, hit⟩, hlo⟩ := hp
  refine wpAny_mono (wpAny_toks (hit A s1 v hA t1 S1 r1)) (fun it s2 p => ?_) fun _ _ x => x.2.elim
  obtain ⟨hle, I, priv, J, h2, tk2, rfl, rfl, hk2, hpv, W, hj⟩ := p
  refine wpAny_newList ?_
  refine wpAny_with_toks (n := 1) (Nat.lt_of_lt_of_le t1 hle) (wpAny_newFunctionEnv cn (by intro y hy; cases hy) (fun h4 hns hsb ht4 => ?_) ck)
  have hn1 : ∀ b ∈ priv, ∀ o, s1.heap.get? b = some o → mu1 b ≠ none := fun b hb o e => by
    rcases (hpv b hb).2.2 with z | z
    · rw [e] at z; cases z
    · exact z
  dsimp only at hns hsb ht4 ⊢
  -- the new addresses
  have hDC : h2.objs.size ≠ (h2.push { cls := .type "list", data := .seq ([] : List Value).toArray }).objs.size := by rw [Heap.size_push]; exact Nat.ne_of_lt (Nat.lt_succ_self _)
  have below : ∀ b, b < h2.objs.size → b ≠ (h2.push { cls := .type "list", data := .seq ([] : List Value).toArray }).objs.size := fun b hb => by rw [Heap.size_push]; exact Nat.ne_of_lt (Nat.lt_succ_of_lt hb)
  generalize hCe : (h2.push { cls := .type "list", data := .seq ([] : List Value).toArray }).objs.size = C at *
  generalize hDe : h2.objs.size = D at *
  have keep4 : ∀ b o, h2.get? b = some o → h4.get? b = some o := fun b o e => hsb.extBut b o (below b (hDe ▸ Heap.lt_size e)) (Heap.get?_push_of_some _ (Heap.get?_push_of_some _ e))
  have D2 : h2.get? D = none := get_none (Nat.le_of_eq hDe)
  have C2 : h2.get? C = none := get_none (by rw [← hCe, Heap.size_push]; exact Nat.le_succ _)
  have old : ∀ b o, mu1 b = none → s1.heap.get? b = some o → h4.get? b = some o := fun b o hm e => keep4 b o (hk2 b o (fun q => hn1 b q o e hm) e)
  have jalive : ∀ b ∈ priv, ∃ o, h2.get? b = some o ∧ ¬ IsT o := W.notT 0 _ hj
  have fresh : ∀ b, h2.get? b = none → b ∉ priv := fun b hb q => by obtain ⟨o, e, _⟩ := jalive b q; rw [hb] at e; cases e
  have freshM : ∀ b, h2.get? b = none → s1.heap.get? b = none := fun b hb => by
    cases e : s1.heap.get? b with
    | none => rfl
    | some o => have := hk2 b o (fresh b hb) e; rw [hb] at this; cases this
  have nomu1 : ∀ b, h2.get? b = none → mu1 b = none := fun b hb => by
    cases e : mu1 b with
    | none => rfl
    | some o =>
      obtain ⟨o', e', _⟩ := (S1.objs b o e).noTup
      rw [freshM b hb] at e'; cases e'
  have nobase : ∀ b, h2.get? b = none → c.base.get? b = none := fun b hb => by
    cases e : c.base.get? b with
    | none => rfl
    | some o => have := S1.base b o e; rw [freshM b hb] at this; cases this
  have sub0 : ∀ b, mu2 b ≠ none → mu1 b ≠ none := fun b hb => by
    obtain ⟨o, e⟩ := Option.ne_none_iff_exists'.mp hb
    rw [hsub b o e]; simp
  have off2 : ∀ b, mu1 b = none → mu2 b = none := fun b hb => by
    cases q : mu2 b with
    | none => rfl
    | some z => exact absurd hb (sub0 b (by rw [q]; simp))
  have tk14 : TK s1.heap h4 := fun a o e hto => old a o (S1.tupOff e hto) e
  have S1' : St c mu2 s1.heap := ⟨S1.base, fun a o e => S1.objs a o (hsub a o e), fun a ha => S1.new a (sub0 a ha)⟩
  have S2 : St c mu2 h2 := S1'.priv (fun b hb => ⟨(hpv b hb).2.1, (hpv b hb).1⟩) hk2 (fun a o e hto => hk2 a o (fun q => hn1 a q o e (S1.tupOff e hto)) e)
  have S4 : St c mu2 h4 := ⟨fun b o e => keep4 b o (S2.base b o e), fun a o e => (S2.objs a o e).mono (fun o' q => keep4 a o' q) (fun b o' q _ => keep4 b o' q), S2.new⟩
  -- the steps seen from s
  have x14 : Step c noT mu1 s1 mu2 { s1 with heap := h4, toks := tk2 } := {
    shape := ⟨_, _, rfl⟩
    st := S4
    keep := fun b o e hm _ => old b o hm e
    alive := fun b o e hm => ⟨o, old b o hm e⟩
    dom := fun b hb => .inl (sub0 b hb) }
  have hCs : mu C = none → s.heap.get? C = none := fun hm => by
    cases q : s.heap.get? C with
    | none => rfl
    | some o => have := x1.keep C o q hm id; rw [freshM C C2] at this; cases this
  have hL : ∀ x ca, env.cells.lookup x = some ca → ca ∉ priv := fun x ca hx q => by
    obtain ⟨_, o, e, _⟩ := F1.cells x ca hx
    exact hn1 _ q o e (F1.offC x ca hx).1
  have D4 : h4.get? D = some (listOf ([] : List Value).toArray 0) := hsb.extBut D _ hDC (Heap.get?_push_of_some _ (hDe ▸ Heap.get?_push_size _ rfl))
  have hj4 : J 0 h4 := W.frame _ _ _ hj (fun b hb o e => keep4 b o e) fun b o e _ => keep4 b o e
  have loop : ∀ cenv : Env, cenv.scope = relab scope sc → cenv.locals = C → cenv.cells = cl → cenv.globals = env.globals → cenv.builtins = env.builtins →
      codeAny c.M A (.compLoop (.ListComp elt [⟨target, iter, ifs, 0⟩] scope pos) 0 (.ref I) (.ref D) cenv) (compPost c.M A NoE use Q (.ref D) C) { s1 with heap := h4, toks := tk2 } := fun cenv e1 e2 e3 e4 e5 => by
    have F4 : Fm c mu2 h4 cenv (capt scope m) := Fm.comp (s3 := { s1 with heap := h4, toks := tk2 }) hco he F1 hcl hcl2 e1 e2 e3 e4 e5 old ⟨_, hns⟩ (freshM C C2) (nomu1 C C2) (nobase C C2) tk14 off2
    refine codeAny_mono (comp_loop (sc := relab scope sc) (mu0 := mu1) (s0 := s1) (P := P) W hT e1 hA (by rw [e2]; exact fresh C C2) (fun x ca hx => by rw [e3] at hx; exact hL x ca (hcl x ca hx)) (fun b hb => (hpv b hb).2.2) (by rw [e2]; exact freshM C C2) (freshM D D2) (nobase D D2)
      (by rw [e2]; exact hDC) (fresh D D2) (fun x hx => ?_) _ hlo ⟨x14, F4, fun b hb => ⟨(hpv b hb).2.1, (hpv b hb).1⟩, hj4, ht4, ⟨[], 0, D4, .nil⟩, off2 _ (nomu1 D D2)⟩) fun r s' q => ?_
    · rw [e3] at hx
      obtain ⟨_, o, e, _⟩ := F1.cells x D (hcl x D hx)
      rw [freshM D D2] at e; cases e
    · obtain ⟨rfl, ys, mu3, p1, p2, p3, p4, p5, p6⟩ := q
      rw [e2] at p4 p5
      exact k C D s' hCs (Ne.symm hDC) (nobase C C2) ⟨ys, mu3, p1, p2, x1.trans p3, p4, p5, p6⟩
  have l0 := loop { newEnv scope C env.globals cl env.qual none .none (some env) 0 with scope := relabel scope env } (by rw [← he]; rfl) rfl rfl rfl rfl
  exact codeAny_compStart_list l0 (W.self 0 _ _ _ _ hA hj4 l0)

/-- behind a comprehension: its names go -/
theorem CDone.step {C D : Addr} {P : List PV → Mu → Prop} {s s' : Shared} {h' : Heap} (hC : mu C = none → s.heap.get? C = none) (hCD : C ≠ D) (hCb : c.base.get? C = none) {ys : List PV} {mu3 : Mu} (x : Step c noT mu s (upd mu3 D (.list ys)) s') (hns : ∃ m, s'.heap.Ns C m) (hC3 : mu3 C = none) (hs : Heap.SameBut C s'.heap h') :
    Step c noT mu s (upd mu3 D (.list ys)) { s' with heap := h' } := by
  obtain ⟨mc, hn⟩ := hns
  have hCu : upd mu3 D (.list ys) C = none := by rw [upd_ne _ _ hCD]; exact hC3
  have tk : TK s'.heap h' := fun b o e ht => (hs.2 b (fun q => by subst q; exact ns_notT hn o e ht)).trans e
  exact {
    shape := by obtain ⟨h, tk, rfl⟩ := x.shape; exact ⟨_, _, rfl⟩
    st := ⟨fun b o e => (hs.2 b (fun q => by rw [q, hCb] at e; cases e)).trans (x.st.base b o e), fun a o e => (x.st.objs a o e).mono (fun o' q => (hs.2 a (fun z => by rw [z, hCu] at e; cases e)).trans q) tk, x.st.new⟩
    keep := fun b o e hm hT => (hs.2 b (fun q => by subst q; rw [hC hm] at e; cases e)).trans (x.keep b o e hm hT)
    alive := fun b o e hm => ⟨o, (hs.2 b (fun q => by subst q; rw [hC hm] at e; cases e)).trans (x.keep b o e hm id)⟩
    dom := x.dom }

theorem EvE.listcomp {okT : PySem.Expr → Prop} {target iter elt : PySem.Expr} {ifs : List PySem.Expr} {scope : Scope} {pos : Pos} {P : PV → Mu → Prop} (hT : okT target) (hco : compOk scope sc = true)
    (h : EvE c n sc m mu iter fun d mu1 => ∃ xs src mu2, IterOf c n okT mu1 d xs src mu2 ∧ CompE c n (relab scope sc) src target ifs elt (fun ys mu3 => ∀ D, mu3 D = none → P (.ref D) (upd mu3 D (.list ys))) xs [] (capt scope m) mu2)
    (hs : ∀ env x, foldedSetIterable iter env x = pure x := by intro _ _; rfl) : EvE c n sc m mu (.ListComp elt [⟨target, iter, ifs, 0⟩] scope pos) P := by
  intro env A s he hA ht S F
  rw [eval_ListComp]
  refine comp_run hT hco h hs he hA ht S F fun C D s' hC hCD hCb q => ?_
  obtain ⟨ys, mu3, p1, p2, p3, p4, p5, p6⟩ := q
  obtain ⟨mc, hmc⟩ := p4
  exact ⟨mc, hmc, fun h' hs' => ⟨.ref D, _, p1 D p2, CDone.step (P := fun _ _ => True) hC hCD hCb p3 ⟨mc, hmc⟩ p5 hs', .ref D⟩⟩

/-- x = [.. for ..] whose store is exchanged with the going of the comprehension's names -/
theorem Ex1.assignComp {okT : PySem.Expr → Prop} {t target iter elt : PySem.Expr} {ifs : List PySem.Expr} {scope : Scope} {pos pos' : Pos} {P : FV → Lm → Mu → Prop} (hT : okT target) (hco : compOk scope sc = true)
    (h : EvE c n sc m mu iter fun d mu1 => ∃ xs src mu2, IterOf c n okT mu1 d xs src mu2 ∧ CompE c n (relab scope sc) src target ifs elt (fun ys mu3 => ∀ D, mu3 D = none → AsgT true c n sc m (upd mu3 D (.list ys)) t (.ref D) fun m2 mu4 => mu4 = upd mu3 D (.list ys) ∧ P .next m2 mu4) xs [] (capt scope m) mu2)
    (h1 : ∀ env, env.scope = sc → swapsWithSole [t] (.ListComp elt [⟨target, iter, ifs, 0⟩] scope pos) pos'.line env = pure true)
    (hs : ∀ env x, foldedSetIterable iter env x = pure x := by intro _ _; rfl) 
    (h3 : ∀ env, (assignEach [t] env).map (·.2) = [PySem.assign t env] := by intro _; rfl) : Ex1 c n sc m mu (.Assign [t] (.ListComp elt [⟨target, iter, ifs, 0⟩] scope pos) pos') P := by
  intro env A s he hA ht S F
  rw [arm_exec_Assign]
  rw [h1 env he, h3]
  refine wpAny_bind (wpAny_standAt (wpAny_bind (wpAny_pure ?_)))
  simp only [if_true]
  refine wpAny_bind ?_
  rw [arm_evalThenUse_ListComp]
  refine wpAny_bind (comp_run hT hco h hs he hA ht S F fun C D s' hC hCD hCb q => ?_)
  obtain ⟨ys, mu3, p1, p2, p3, ⟨mc, hmc⟩, p5, p6⟩ := q
  show wpAny c.M A (assignAll (.ref D) [PySem.assign t env]) _ _ s'
  unfold assignAll
  have F' := F.step S p3
  refine wpAny_mono (p1 D p2 env A s' (.ref D) he hA p6 p3.st F' (.ref D)) (fun _ s4 p => ?_) fun _ _ x => x
  obtain ⟨m2, mu4, ⟨rfl, q2⟩, x4, F4⟩ := p
  have hCT : ¬ Tch env C := fun q => by
    rcases q with q | ⟨_, y, q⟩
    · obtain ⟨mcl, hl, _⟩ := F.loc
      obtain ⟨o, _, _, e, _⟩ := hl
      rw [← q] at e; rw [hC (q ▸ F.offL)] at e; cases e
    · obtain ⟨v, o, e, _⟩ := F.cells y C q
      rw [hC (F.offC y C q).1] at e; cases e
  have hCu : upd mu3 D (.list ys) C = none := by rw [upd_ne _ _ hCD]; exact p5
  have hmc4 : s4.heap.Ns C mc := hmc.at' fun o e => x4.keep C o e hCu hCT
  refine ⟨mc, hmc4, fun h' hs' => wpAny_pure (wpAny_pure ?_)⟩
  have x04 : Step c (Tch env) mu s (upd mu3 D (.list ys)) s4 := p3.toT.trans x4
  have tk : TK s4.heap h' := fun b o e ht => (hs'.2 b (fun q => by subst q; exact ns_notT hmc4 o e ht)).trans e
  refine ⟨.next, m2, upd mu3 D (.list ys), q2, ?_, ?_, .next⟩
  · exact {
      shape := by obtain ⟨h, tk, rfl⟩ := x04.shape; exact ⟨_, _, rfl⟩
      st := ⟨fun b o e => (hs'.2 b (fun q => by rw [q, hCb] at e; cases e)).trans (x04.st.base b o e), fun a o e => (x04.st.objs a o e).mono (fun o' q => (hs'.2 a (fun z => by rw [z, hCu] at e; cases e)).trans q) tk, x04.st.new⟩
      keep := fun b o e hm hT => (hs'.2 b (fun q => by subst q; rw [hC hm] at e; cases e)).trans (x04.keep b o e hm hT)
      alive := fun b o e hm => by
        obtain ⟨o1, e1⟩ := x04.alive b o e hm
        exact ⟨o1, (hs'.2 b (fun q => by subst q; rw [hC hm] at e; cases e)).trans e1⟩
      dom := x04.dom }
  · exact F4.priv (priv := [C]) (by
      intro q; simp at q
      exact hCT (.inl q.symm)) (fun x ca hx q => by
      simp at q
      exact hCT (.inr ⟨rfl, x, q ▸ hx⟩)) (fun b o hb e => (hs'.2 b (by simpa using hb)).trans e) tk
end
end Mine

open PySem PySem.W PySem.Calls PyProof.Rows
set_option Elab.async false
set_option linter.unusedVariables false
namespace Mine

def noStar : List PySem.Expr → Bool
  | [] => true
  | .Starred _ _ :: _ => false
  | _ :: r => noStar r
def allNamed : List Keyword → Bool
  | [] => true
  | ⟨some _, _, _⟩ :: r => allNamed r
  | _ => false
theorem noStar_any : ∀ {es : List PySem.Expr} (env : Env) (pos : Pos), noStar es = true → (backTo pos (starEach es env)).any (·.1) = false
  | [], _, _, _ => rfl
  | e :: r, env, pos, h => by
    have ih := fun h => noStar_any (es := r) env pos h
    cases e <;> first | (simp [noStar] at h; done) | (simp only [noStar] at h; have := ih h; simpa [starEach, backTo] using this)
theorem allNamed_all : ∀ {ks : List Keyword} (env : Env) (pos : Pos), allNamed ks = true → (backToKw pos (keywordEach ks env)).all (·.1.isSome) = true
  | [], _, _, _ => rfl
  | ⟨some x, e, p⟩ :: r, env, pos, h => by
    have := allNamed_all (ks := r) env pos h
    simpa [keywordEach, backToKw] using this
  | ⟨none, e, p⟩ :: r, env, pos, h => by simp [allNamed] at h
section
variable {c : Cx} {n : Nat} {sc : Scope} {m : Lm} {mu : Mu}

/-! # calls -/
theorem evalArgs_go {f : Value} {args : List (Bool × Sem Value)} {kws : List (Option Str × Sem Value)} {M : Model} {A : Around} {E : Value → Shared → Prop} {s : Shared} {Q : Args → Shared → Prop} (hs : args.any (·.1) = false) (hall : kws.all (·.1.isSome) = true)
    (h : wpAny M A (spliced args) (fun vs s₁ => wpAny M A (evalAll (kws.map (·.2))) (fun ks s₂ => Q ⟨vs, (kws.filterMap (·.1)).zip ks⟩ s₂) E s₁) E s) :
    wpAny M A (evalArgs f true args kws) Q E s := by
  cases args with
  | nil =>
    unfold evalArgs
    show wpAny M A (spliced [] >>= _) Q E s
    refine wpAny_bind (wpAny_mono h (fun vs s₁ h₁ => wpAny_holding ?_) fun _ _ x => x)
    simp only [hall, if_true]
    exact wpAny_bind (wpAny_mono h₁ (fun ks s₂ h₂ => wpAny_bind (wpAny_pure (wpAny_pure h₂))) fun _ _ x => x)
  | cons a r =>
    obtain ⟨b, t⟩ := a
    have hb : b = false := by simp only [List.any_cons, Bool.or_eq_false_iff] at hs; exact hs.1
    subst hb
    exact evalArgs_kw hall h

theorem EvK.nil {P : List (Str × PV) → Mu → Prop} (h : P [] mu) : EvK c n sc m mu [] P := fun env A s pos he hA ht S F => wpAny_pure ⟨[], mu, h, Step.refl S, .nil⟩
theorem EvK.cons {x : Str} {e : PySem.Expr} {p : Pos} {ks : List Keyword} {P : List (Str × PV) → Mu → Prop} (h : EvE c n sc m mu e fun d mu1 => EvK c n sc m mu1 ks fun kw mu2 => P ((x, d) :: kw) mu2) : EvK c n sc m mu (⟨some x, e, p⟩ :: ks) P := by
  intro env A s pos he hA ht S F
  show wpAny c.M A (evalAll ((do let v ← eval e env; standAt pos; pure v) :: (backToKw pos (keywordEach ks env)).map (·.2))) _ _ s
  refine wpAny_evalAll_cons (wpAny_bind (EvE.bind h he hA ht S F fun va s1 d mu1 h1 x1 t1 S1 F1 r1 _ => wpAny_bind (wpAny_standAt (wpAny_pure ?_))))
  refine wpAny_mono (h1 env A s1 pos he hA t1 S1 F1) (fun vs s2 p => ?_) fun _ _ x => x
  obtain ⟨kw, mu2, h2, x2, r2⟩ := p
  exact ⟨(x, d) :: kw, mu2, h2, x1.trans x2, .cons (r1.mono (x2.tk0 S1)) r2⟩

/-- the call of a value with its arguments -/
theorem callWith_go {f : Value} {first : List PV} {vfirst : List Value} {es : List PySem.Expr} {ks : List Keyword} {P : PV → Mu → Prop} {env : Env} {A : Around} {s : Shared} {pos pos' : Pos}
    (h : EvA c n sc m mu es fun ds mu1 => EvK c n sc m mu1 ks fun kw mu2 => Keepr c mu2 f ∧ CallV c n mu2 f (first ++ ds) kw P)
    (hst : noStar es = true) (hks : allNamed ks = true)
    (he : env.scope = sc) (hA : AOk n A) (ht : 0 < s.toks) (S : St c mu s.heap) (F : Fm c mu s.heap env m) (rf : Reps s.heap first vfirst) :
    wpAny c.M A (callWith pos f vfirst (backTo pos' (starEach es env)) (backToKw pos' (keywordEach ks env))) (Post c mu s P) NoE s := by
  unfold callWith
  refine wpAny_bind (wpAny_holding (evalArgs_go (noStar_any env pos' hst) (allNamed_all env pos' hks) ?_))
  refine EvA.bind h he hA ht S F fun vs s1 ds mu1 h1 x1 t1 S1 F1 r1 k1 => ?_
  refine wpAny_mono (wpAny_toks (h1 env A s1 pos' he hA t1 S1 F1)) (fun kvs s2 p => ?_) fun _ _ x => x.2
  obtain ⟨hle, kw, mu2, ⟨hkp, hcl⟩, x2, r2⟩ := p
  have k2 := x2.tk0 S1
  refine wpAny_bind (wpAny_standAt (wpAny_bind (hkp A s2 _ _ x2.st fun k => ?_)))
  have hc := hcl A s2 (vfirst ++ vs) _ hA (Nat.lt_of_lt_of_le t1 hle) x2.st (((rf.mono k1).mono k2).append (r1.mono k2)) r2
  have tail : ∀ {t : Sem Value}, wpAny c.M A t (Post c mu2 s2 P) NoE s2 → wpAny c.M A (t >>= fun r => holding [r] point >>= fun _ => pure r) (Post c mu s P) NoE s2 :=
    fun ht => wpAny_bind (wpAny_mono ht (fun r s3 p => wpAny_bind (wpAny_holding (wpAny_point (wpAny_pure (p.after x2 |>.after x1))))) fun _ _ x => x)
  have hm : ∀ mark, wpAny c.M A (callMarked mark f (vfirst ++ vs) (((backToKw pos' (keywordEach ks env)).filterMap (·.1)).zip kvs)) (Post c mu2 s2 P) NoE s2 := fun mark => by unfold callMarked; exact wpAny_keep hc
  have ho : ∀ l, wpAny c.M A (operate l (call f (vfirst ++ vs) (((backToKw pos' (keywordEach ks env)).filterMap (·.1)).zip kvs))) (Post c mu2 s2 P) NoE s2 := fun l => wpAny_operating hc
  dsimp only
  generalize ((backTo pos' (starEach es env)).any (fun x => x.1) || (backToKw pos' (keywordEach ks env)).any fun x => x.1.isNone) = st
  cases k <;> cases st <;> dsimp only <;> first | exact tail hc | exact tail (hm _) | exact tail (ho _) | (split <;> first | exact tail hc | exact tail (hm _))

theorem Keepr.builtin {id : String} : Keepr c mu (.builtin id) := fun A s Q E S h => wpAny_pure (h _)
theorem Keepr.type {id : String} : Keepr c mu (.type id) := fun A s Q E S h => wpAny_pure (h _)
theorem Keepr.fn {a : Addr} {fd : FuncData} {body : List Stmt} (hf : FnOk c a fd body) : Keepr c mu (.ref a) := fun A s Q E S h => by
  obtain ⟨o, ho, hd⟩ := hf.obj
  unfold keeperOf
  refine wpAny_bind (wpAny_load (S.base _ _ ho) ?_)
  rw [hd]; exact wpAny_pure (h _)

/-- f(..), f no attribute -/
theorem EvE.call {fe : PySem.Expr} {f : Value} {fp : PV} {es : List PySem.Expr} {ks : List Keyword} {pos : Pos} {P : PV → Mu → Prop}
    (h : EvE c n sc m mu fe fun d mu0 => d = fp ∧ EvA c n sc m mu0 es fun ds mu1 => EvK c n sc m mu1 ks fun kw mu2 => Keepr c mu2 f ∧ CallV c n mu2 f ds kw P)
    (hfp : ∀ hp v, Rep hp fp v → v = f) (hst : noStar es = true := by rfl) (hks : allNamed ks = true := by rfl)
    (hev : ∀ env, eval (.Call fe es ks pos) env = (do callWith pos (← eval fe env) [] (backTo pos (starEach es env)) (backToKw pos (keywordEach ks env))) := by intro _; rfl) : EvE c n sc m mu (.Call fe es ks pos) P := by
  intro env A s he hA ht S F
  rw [hev]
  refine wpAny_bind (EvE.bind h he hA ht S F fun v s0 d mu0 h0 x0 t0 S0 F0 r0 _ => ?_)
  obtain ⟨rfl, h0⟩ := h0
  have := hfp _ _ r0
  subst this
  exact wpAny_mono (callWith_go (first := []) h0 hst hks he hA t0 S0 F0 .nil) (fun _ _ p => p.after x0) fun _ _ x => x

/-- o.name(..) -/
theorem EvE.method {o : PySem.Expr} {name : Str} {es : List PySem.Expr} {ks : List Keyword} {apos pos : Pos} {P : PV → Mu → Prop}
    (h : EvE c n sc m mu o fun d mu0 => ∃ f, Meth c mu0 d name f ∧ EvA c n sc m mu0 es fun ds mu1 => EvK c n sc m mu1 ks fun kw mu2 => Keepr c mu2 f ∧ CallV c n mu2 f (d :: ds) kw P)
    (hb : ∀ env, attributeBase o name env (eval o env) = eval o env := by intro _; rfl) (hst : noStar es = true := by rfl) (hks : allNamed ks = true := by rfl)
    (hlen : (es.length + ks.length + (if ks.isEmpty then 0 else 1) < 30) := by decide) (hline : (apos.endLine == pos.line) = true := by rfl) : EvE c n sc m mu (.Call (.Attribute o name apos) es ks pos) P := by
  intro env A s he hA ht S F
  rw [arm_eval_Call, hb]
  refine wpAny_bind (EvE.bind h he hA ht S F fun v s0 d mu0 h0 x0 t0 S0 F0 r0 _ => ?_)
  obtain ⟨f, hm, h0⟩ := h0
  refine wpAny_bind (wpAny_standAt ?_)
  have hform : methodCallForm (es.length + ks.length) (backTo pos (starEach es env)) (backToKw pos (keywordEach ks env)) = true := by
    have h1 := noStar_any env pos hst
    have h2 := allNamed_all env pos hks
    unfold methodCallForm
    simp only [Bool.and_eq_true, decide_eq_true_eq]
    refine ⟨⟨?_, h2⟩, ?_⟩
    · rw [List.all_eq_true]; intro x hx
      rw [List.any_eq_false] at h1
      simpa using h1 x hx
    · have : (backToKw pos (keywordEach ks env)).isEmpty = ks.isEmpty := by
        cases ks with
        | nil => rfl
        | cons k r => cases k; rfl
      rw [this]; exact hlen
  have hpos : methodCallPos true o env apos pos = pure pos := by unfold methodCallPos; simp [hline]
  unfold methodCall
  rw [hform]
  refine wpAny_bind (wpAny_holding ?_)
  show wpAny c.M A (getMethod v name _) _ _ s0
  refine hm A s0 v _ _ _ S0 r0 ?_
  refine wpAny_bind (wpAny_of_eq hpos ?_)
  exact wpAny_mono (callWith_go (first := [d]) h0 hst hks he hA t0 S0 F0 (.cons r0 .nil)) (fun _ _ p => p.after x0) fun _ _ x => x

/-! # subscripts -/
def OpSub (c : Cx) (n : Nat) (mu : Mu) (slice : PySem.Expr) (a i : PV) (P : PV → Mu → Prop) : Prop :=
  ∀ A s va vi value, AOk n A → 0 < s.toks → St c mu s.heap → Rep s.heap a va → Rep s.heap i vi → wpAny c.M A (subscriptTail value slice va vi) (Post c mu s P) NoE s
theorem EvE.sub {value slice : PySem.Expr} {pos : Pos} {P : PV → Mu → Prop} (h : EvE c n sc m mu value fun a mu1 => EvE c n sc m mu1 slice fun i mu2 => OpSub c n mu2 slice a i P) : EvE c n sc m mu (.Subscript value slice pos) P := by
  intro env A s he hA ht S F
  refine Subscript_ (EvE.bind h he hA ht S F fun va s1 a mu1 h1 x1 t1 S1 F1 r1 _ => ?_)
  refine EvE.bind h1 he hA t1 S1 F1 fun vb s2 b mu2 h2 x2 t2 S2 F2 r2 k2 => ?_
  exact wpAny_mono (h2 A s2 va vb value hA t2 S2 (r1.mono k2) r2) (fun _ _ p => p.after x2 |>.after x1) fun _ _ x => x
/-- the value is of a built-in type -/
def Ty (c : Cx) (mu : Mu) (a : PV) (T : String) : Prop := ∀ (s : Shared) (v : Value), St c mu s.heap → Rep s.heap a v → s.TypeIs v T
theorem OpSub.of {slice : PySem.Expr} {a i : PV} {T id : String} {P : PV → Mu → Prop} (hT : Ty c mu a T) (hl : typeLookup (.type T) "__getitem__" = pure (some (.builtin id))) (h : OpG c n mu a i P)
    (hs : ∀ o i, ∃ ops, subscripted slice false o i = operate ops (getItem o i) := by intro _ _; exact ⟨_, rfl⟩) : OpSub c n mu slice a i P := by
  intro A s va vi value hA ht S ra ri
  obtain ⟨ops, e⟩ := hs va vi
  exact tail_any (hT s va S ra) hl (h A s va vi hA ht S ra ri) e
end
end Mine

open PySem PySem.W PySem.Calls PyProof.Rows
set_option Elab.async false
set_option linter.unusedVariables false
namespace Mine

def anyT : PySem.Expr → Prop := fun _ => True

def ownIters : List String := ["enumerate", "zip", "dict_itemiterator", "dict_reverseitemiterator", "odict_iterator", "itertools.zip_longest", "itertools.pairwise"]
theorem letOwned_plain {M : Model} {A : Around} {E : Value → Shared → Prop} {s : Shared} {target : PySem.Expr} {I : Addr} {v : Value} {o : Obj} {T : String} {Q : Unit → Shared → Prop} (ho : s.heap.get? I = some o) (hc : o.cls = .type T) (hT : ownIters.contains T = false) (h : Q () s) :
    wpAny M A (letOwnedTupleGo target (.ref I) v) Q E s := by
  have go : wpAny M A (do
    let (.ref r, .ref a) := (Value.ref I, v) | return
    let o ← load r
    match o.cls, o.data with
    | .type n, .fields vs =>
      if ["enumerate", "zip", "dict_itemiterator", "dict_reverseitemiterator", "odict_iterator", "itertools.zip_longest", "itertools.pairwise"].contains n && vs[0]? == some (rawInt a) then
        rule "for.unpacks-the-owned-tuple"
        updateField r 0 .none
    | _, _ => pure ()) Q E s := by
    cases v with
    | ref a =>
      refine wpAny_bind (wpAny_load ho ?_)
      rw [hc]
      cases o.data with
      | fields vs =>
        show wpAny M A (if (ownIters.contains T && vs[0]? == some (rawInt a)) = true then _ else _) Q E s
        rw [hT, Bool.false_and, if_neg Bool.false_ne_true]
        exact wpAny_pure h
      | _ => exact wpAny_pure h
    | _ => exact wpAny_pure h
  unfold letOwnedTupleGo
  cases target <;> first | exact go | exact wpAny_pure h

section
variable {c : Cx} {n : Nat} {mu : Mu}

/-! ## lists -/
theorem iter_list {I l : Addr} {xs : List PV} {src : Mu → Prop} {priv : List Addr} {J : Nat → Heap → Prop} (hIl : I ≠ l)
    (hI : I ∈ priv) (hp : ∀ b ∈ priv, b = I ∨ b = l)
    (hJ : ∀ i h, J i h → h.IsListIter I l i)
    (hL : ∀ mu i (h : Heap), St c mu h → src mu → J i h → ∃ vs, h.IsList l vs.toArray ∧ Reps h xs vs)
    (hJ' : ∀ i j (h h' : Heap), J i h → h'.IsListIter I l j → (∀ b o, b ≠ I → h.get? b = some o → h'.get? b = some o) → TK h h' → J j h')
    (hfr : ∀ i h h', J i h → (∀ b ∈ priv, ∀ o, h.get? b = some o → h'.get? b = some o) → TK h h' → J i h')
    (hnt : ∀ i h, J i h → l ∈ priv → ∃ o, h.get? l = some o ∧ ¬ IsT o) : Iter c n anyT I priv src xs J where
  frame := hfr
  notT := fun i h hj b hb => by
    rcases hp b hb with q | q
    · subst q; obtain ⟨o, e, hc, _⟩ := hJ i h hj; exact ⟨o, e, fun ht => by have := ht.1; rw [hc] at this; simp at this⟩
    · subst q; exact hnt i h hj hb
  next := fun i d A s mu target _ hx hA ht S hs hm hj => by
    obtain ⟨vs, hl, rs⟩ := hL mu i s.heap S hs hj
    obtain ⟨v, hv, rv⟩ := rs.get hx
    have hit := hJ i s.heap hj
    refine wpAny_pyNext_list_item hit hl (x := v) (by simpa using hv) fun h' hit' hs' => ⟨v, rfl, ?_⟩
    obtain ⟨o, e, hc, _⟩ := id hit'
    refine letOwned_plain e hc (by decide) ⟨h', s.toks, rfl, fun b o' hb e' => hs'.extBut b o' (fun q => hb (q ▸ hI)) e', ?_, ?_⟩
    · exact rv.mono fun b o' e' hto => hs'.extBut b o' (fun q => by subst q; obtain ⟨o2, e2, hc2, _⟩ := hit; rw [e'] at e2; cases e2; have := hto.1; rw [hc2] at this; simp at this) e'
    · exact hJ' i (i + 1) _ _ hj hit' (fun b o' hb e' => hs'.extBut b o' hb e') fun b o' e' hto => hs'.extBut b o' (fun q => by subst q; obtain ⟨o2, e2, hc2, _⟩ := hit; rw [e'] at e2; cases e2; have := hto.1; rw [hc2] at this; simp at this) e'
  self := fun i A s Q E _ hj h => wpAny_pyIter_listiter (hJ i _ hj) h
  done := fun i A s mu hx hA ht S hs hm hj => by
    obtain ⟨vs, hl, rs⟩ := hL mu i s.heap S hs hj
    refine wpAny_pyNext_list_end hA.hd (hJ i _ hj) hl (by
      have := rs.length
      simp; omega) fun h' he' => ⟨rfl, h', s.toks, rfl, fun b o hb e => he' b o (fun q => hb (q ▸ hI)) e⟩

theorem sub_refl (mu : Mu) : Sub mu mu := fun _ _ e => e
theorem fresh_priv {h : Heap} (S : St c mu h) : ∀ b ∈ [h.objs.size], c.base.get? b = none ∧ mu b = none ∧ (h.get? b = none ∨ mu b ≠ none) := fun b hb => by
  rw [List.mem_singleton.mp hb]
  exact ⟨S.baseNone (Nat.le_refl _), S.off (Nat.le_refl _), .inl (get_none (Nat.le_refl _))⟩

/-- a list of the ledger that stays in it -/
theorem IterOf.list {l : Addr} {xs : List PV} (hl : mu l = some (.list xs)) : IterOf c n anyT mu (.ref l) xs (fun mu' => mu' l = some (.list xs)) mu := by
  refine ⟨sub_refl mu, fun A s v hA ht S r => ?_⟩
  cases r
  obtain ⟨vs, k, e, rs⟩ := S.objs l _ hl
  have hne : s.heap.objs.size ≠ l := Nat.ne_of_gt (Heap.lt_size e)
  refine wpAny_pyIter_list (items := vs.toArray) ⟨_, e, rfl, k, rfl⟩ ⟨_, [s.heap.objs.size], fun i h => h.IsListIter s.heap.objs.size l i, _, _, rfl, rfl, fun b o _ e' => Heap.get?_push_of_some _ e', fresh_priv S, ?_, ⟨_, Heap.get?_push_size _ rfl, rfl, rfl⟩⟩
  refine iter_list hne (by simp) (fun b hb => .inl (by simpa using hb)) (fun i h hj => hj) (fun mu' i h S' hs hj => ?_) (fun i j h h' _ hj _ _ => hj) (fun i h h' hj hk _ => hj.at fun o e => hk _ (by simp) o e) (fun i h hj hb => absurd (by simpa using hb) (Ne.symm hne))
  obtain ⟨vs', k', e', rs'⟩ := S'.objs l _ hs
  exact ⟨vs', ⟨_, e', rfl, k', rfl⟩, rs'⟩

/-- a list that nothing else holds: it goes out of the ledger -/
theorem IterOf.listTmp {l : Addr} {xs : List PV} {mu0 : Mu} (h0 : mu0 l = none) : IterOf c n anyT (upd mu0 l (.list xs)) (.ref l) xs (fun _ => True) mu0 := by
  refine ⟨fun a o e => by rw [upd_ne _ _ (fun q => by rw [q, h0] at e; cases e)]; exact e, fun A s v hA ht S r => ?_⟩
  cases r
  obtain ⟨vs, k, e, rs⟩ := S.objs l (.list xs) (by simp)
  have hne : s.heap.objs.size ≠ l := Nat.ne_of_gt (Heap.lt_size e)
  have tkp : TK s.heap (s.heap.push { cls := .type "list_iterator", data := .fields #[.ref l, .int 0 0] }) := fun b o e' _ => Heap.get?_push_of_some _ e'
  refine wpAny_pyIter_list (items := vs.toArray) ⟨_, e, rfl, k, rfl⟩ ⟨_, [s.heap.objs.size, l], fun i h => h.IsListIter s.heap.objs.size l i ∧ ∃ vs k, h.get? l = some (listOf vs.toArray k) ∧ Reps h xs vs, _, _, rfl, rfl, fun b o _ e' => Heap.get?_push_of_some _ e', ?_, ?_,
    ⟨⟨_, Heap.get?_push_size _ rfl, rfl, rfl⟩, vs, k, Heap.get?_push_of_some _ e, rs.mono tkp⟩⟩
  · intro b hb
    rcases List.mem_cons.mp hb with q | q
    · subst q
      have h1 := fresh_priv S s.heap.objs.size (by simp)
      exact ⟨h1.1, by have := h1.2.1; rwa [upd_ne _ _ hne] at this, h1.2.2⟩
    · rw [List.mem_singleton.mp q]
      exact ⟨S.new l (by simp), h0, .inr (by simp)⟩
  · refine iter_list hne (by simp) (fun b hb => by simpa using hb) (fun i h hj => hj.1) (fun mu' i h S' hs hj => ?_) (fun i j h h' hj hj' hk tk => ⟨hj', ?_⟩) (fun i h h' hj hk tk => ⟨hj.1.at fun o e => hk _ (by simp) o e, ?_⟩) (fun i h hj hb => ?_)
    · obtain ⟨_, vs', k', e', rs'⟩ := hj; exact ⟨vs', ⟨_, e', rfl, k', rfl⟩, rs'⟩
    · obtain ⟨_, vs', k', e', rs'⟩ := hj; exact ⟨vs', k', hk l _ (Ne.symm hne) e', rs'.mono tk⟩
    · obtain ⟨_, vs', k', e', rs'⟩ := hj; exact ⟨vs', k', hk l (by simp) _ e', rs'.mono tk⟩
    · obtain ⟨_, vs', k', e', rs'⟩ := hj; exact ⟨_, e', list_notT⟩

/-- a list of the base -/
def BaseList (c : Cx) (l : Addr) (xs : List PV) : Prop := ∃ vs, c.base.IsList l vs.toArray ∧ Reps c.base xs vs
theorem BaseList.at {l : Addr} {xs : List PV} (hb : BaseList c l xs) {h : Heap} (S : St c mu h) : ∃ vs, h.IsList l vs.toArray ∧ Reps h xs vs := by
  obtain ⟨vs, hl, rs⟩ := hb
  exact ⟨vs, hl.at fun o e => S.base _ _ e, rs.mono fun b o e _ => S.base b o e⟩
/-! ## from the library's walks: one private object -/
theorem iter_walk {I : Addr} {k : Nat} {Pw : Nat → Value → Prop} {Stw : Nat → Heap → Prop} {xs : List PV} {T : String} (W : ∀ A : Around, A.handled = none → Walks c.prog c.w A I [I] [I] k Pw Stw) (hk : xs.length = k)
    (hP : ∀ i v d (h : Heap), Pw i v → xs[i]? = some d → Rep h d v) (hO : ∀ i h, Stw i h → ∃ o, h.get? I = some o ∧ o.cls = .type T) (hT : ownIters.contains T = false) (hT2 : T ≠ "tuple") : Iter c n anyT I [I] (fun _ => True) xs Stw where
  frame := fun i h h' st hk _ => (W {} rfl).frame i h h' st hk
  notT := fun i h st b hb => by
    rw [List.mem_singleton.mp hb]
    obtain ⟨o, e, hc⟩ := hO i h st
    exact ⟨o, e, fun q => hT2 (by have := q.1; rw [hc] at this; exact Value.type.inj this)⟩
  next := fun i d A s mu target _ hx hA ht S hs hm st => by
    have hi : i < k := by rw [← hk]; exact (List.getElem?_eq_some_iff.mp hx).1
    refine (W A hA.hd).item i s _ _ hi st fun v h' tk hpv st' hkp => ⟨v, rfl, ?_⟩
    obtain ⟨o, e, hc⟩ := hO _ _ st'
    exact letOwned_plain (s := { s with heap := h', toks := tk }) e hc hT ⟨h', tk, rfl, hkp, hP i v d h' hpv hx, st'⟩
  self := fun i A s Q E hA st h => (W A hA.hd).self i s Q E st h
  done := fun i A s mu hx hA ht S hs hm st => by
    rw [hx, hk] at st
    exact (W A hA.hd).done s _ _ st fun h' tk hkp => ⟨rfl, h', tk, rfl, hkp⟩

def rangeL (a b st : Int) : List PV := (List.range (Builtin.Range.rangeSize a b st).toNat).map fun (i : Nat) => PV.int (a + (i : Int) * st)
theorem rangeSize_nonneg (a b st : Int) : 0 ≤ Builtin.Range.rangeSize a b st := by
  unfold Builtin.Range.rangeSize
  split
  · split
    · have := Int.ediv_nonneg (a := b - a - 1) (b := st) (by omega) (by omega); omega
    · omega
  · split
    · have := Int.ediv_nonneg (a := a - b - 1) (b := -st) (by omega) (by omega); omega
    · omega

theorem IterOf.range {r : Addr} {a b st : Int} (h0 : mu r = none) (hsm : Builtin.Range.small a b st = true) : IterOf c n anyT (upd mu r (.rng a b st)) (.ref r) (rangeL a b st) (fun _ => True) mu := by
  refine ⟨fun x o e => by rw [upd_ne _ _ (fun q => by rw [q, h0] at e; cases e)]; exact e, fun A s v hA ht S r0 => ?_⟩
  cases r0
  obtain ⟨t, u, w, e⟩ := S.objs r (.rng a b st) (by simp)
  have hne : s.heap.objs.size ≠ r := Nat.ne_of_gt (Heap.lt_size e)
  refine wpAny_pyIter_range e hsm ⟨_, [s.heap.objs.size], fun i h => IsRangeIter h s.heap.objs.size (a + (i : Nat) * st) (((Builtin.Range.rangeSize a b st).toNat : Int) - (i : Nat)) st, _, _, rfl, rfl, fun b o _ e' => Heap.get?_push_of_some _ e', ?_, ?_, ?_⟩
  · intro b hb
    have h1 := fresh_priv S b hb
    have hb' : b ≠ r := by rw [List.mem_singleton.mp hb]; exact hne
    exact ⟨h1.1, by have := h1.2.1; rwa [upd_ne _ _ hb'] at this, h1.2.2⟩
  · refine iter_walk (T := "range_iterator") (fun A' hA' => (Walks.range hA' _ a st (Builtin.Range.rangeSize a b st).toNat).bound) (by simp [rangeL]) (fun i v d h hp hd => ?_) (fun i h hh => ⟨_, hh, rfl⟩) (by decide) (by decide)
    obtain ⟨hi, tk, rfl⟩ := hp
    have : (rangeL a b st)[i]? = some (.int (a + (i : Int) * st)) := by simp [rangeL, hi]
    rw [this] at hd; cases hd
    exact .int _ _
  · show IsRangeIter _ _ _ _ _
    have e1 : ((Builtin.Range.rangeSize a b st).toNat : Int) - ((0 : Nat) : Int) = Builtin.Range.rangeSize a b st := by have := rangeSize_nonneg a b st; omega
    have e2 : a + ((0 : Nat) : Int) * st = a := by simp
    rw [e1, e2]
    exact Heap.get?_push_size _ rfl
end
end Mine

open PySem PySem.W PySem.Calls PyProof.Rows
set_option Elab.async false
set_option linter.unusedVariables false
namespace Mine

section
variable {c : Cx} {n : Nat} {sc : Scope} {m : Lm} {mu : Mu}

/-! # ints -/
theorem OpB.addI {a b : Int} {P : PV → Mu → Prop} (h : P (.int (a + b)) mu) : OpB c n mu .Add (.int a) (.int b) P := fun A s va vb hA ht S ra rb => by
  cases ra; cases rb; exact PySem.P.add_int (Post.pure S h (.int _ _))
theorem OpB.subI {a b : Int} {P : PV → Mu → Prop} (h : P (.int (a - b)) mu) : OpB c n mu .Sub (.int a) (.int b) P := fun A s va vb hA ht S ra rb => by
  cases ra; cases rb; exact PySem.P.sub_int (Post.pure S h (.int _ _))
theorem OpI.addI {a b : Int} {P : PV → Mu → Prop} (h : P (.int (a + b)) mu) : OpI c n mu .Add (.int a) (.int b) P := fun A s va vb hA ht S ra rb => by
  cases ra; cases rb; exact PySem.P.iadd_int (Post.pure S h (.int _ _))
theorem OpI.subI {a b : Int} {P : PV → Mu → Prop} (h : P (.int (a - b)) mu) : OpI c n mu .Sub (.int a) (.int b) P := fun A s va vb hA ht S ra rb => by
  cases ra; cases rb; exact PySem.P.isub_int (Post.pure S h (.int _ _))
theorem OpB.modI {a b : Int} {P : PV → Mu → Prop} (hb : b ≠ 0) (h : P (.int (a.fmod b)) mu) : OpB c n mu .Mod (.int a) (.int b) P := fun A s va vb hA ht S ra rb => by
  cases ra; cases rb; exact PyProof.Rows.mod_int' hb (Post.pure S h (.int _ _))
theorem OpB.divI {a b : Int} {P : PV → Mu → Prop} (hb : b ≠ 0) (hp : b.natAbs < 1000) (h : P (.int (a.fdiv b)) mu) : OpB c n mu .FloorDiv (.int a) (.int b) P := fun A s va vb hA ht S ra rb => by
  cases ra; cases rb; exact PyProof.Rows.floordiv_int hb (Post.pure S h (.int _ _)) (Or.inl (PyProof.noPylong_small (by omega)))
theorem OpI.divI {a b : Int} {P : PV → Mu → Prop} (hb : b ≠ 0) (hp : b.natAbs < 1000) (h : P (.int (a.fdiv b)) mu) : OpI c n mu .FloorDiv (.int a) (.int b) P := fun A s va vb hA ht S ra rb => by
  cases ra; cases rb; exact PyProof.Rows.ifloordiv_int hb (Post.pure S h (.int _ _)) (Or.inl (PyProof.noPylong_small (by omega)))
theorem OpU.negI {a : Int} {P : PV → Mu → Prop} (h : P (.int (-a)) mu) : OpU c n mu .USub (.int a) P := fun A s va hA ht S ra => by
  cases ra; exact PySem.P.neg_int (Post.pure S h (.int _ _))
theorem OpC.eqI {a b : Int} {P : PV → Mu → Prop} (h : P (.bool (decide (a = b))) mu) : OpC c n mu .Eq (.int a) (.int b) P := fun A s va vb hA ht S ra rb => by
  cases ra; cases rb; exact PySem.P.eq_int (Post.pure0 S h (by rw [show (a == b) = decide (a = b) from rfl]; exact .bool _))
theorem OpC.neI {a b : Int} {P : PV → Mu → Prop} (h : P (.bool (decide (a ≠ b))) mu) : OpC c n mu .NotEq (.int a) (.int b) P := fun A s va vb hA ht S ra rb => by
  cases ra; cases rb; exact PySem.P.ne_int (Post.pure0 S h (by rw [show (a != b) = decide (a ≠ b) from by simp [bne, BEq.beq]]; exact .bool _))
theorem OpC.ltI {a b : Int} {P : PV → Mu → Prop} (h : P (.bool (decide (a < b))) mu) : OpC c n mu .Lt (.int a) (.int b) P := fun A s va vb hA ht S ra rb => by
  cases ra; cases rb; exact PySem.P.lt_int (Post.pure0 S h (.bool _))
theorem OpC.leI {a b : Int} {P : PV → Mu → Prop} (h : P (.bool (decide (a ≤ b))) mu) : OpC c n mu .LtE (.int a) (.int b) P := fun A s va vb hA ht S ra rb => by
  cases ra; cases rb; exact PySem.P.le_int (Post.pure0 S h (.bool _))
theorem OpC.gtI {a b : Int} {P : PV → Mu → Prop} (h : P (.bool (decide (a > b))) mu) : OpC c n mu .Gt (.int a) (.int b) P := fun A s va vb hA ht S ra rb => by
  cases ra; cases rb; exact PySem.P.gt_int (Post.pure0 S h (.bool _))
theorem OpC.geI {a b : Int} {P : PV → Mu → Prop} (h : P (.bool (decide (a ≥ b))) mu) : OpC c n mu .GtE (.int a) (.int b) P := fun A s va vb hA ht S ra rb => by
  cases ra; cases rb; exact PySem.P.ge_int (Post.pure0 S h (.bool _))

/-! # truth -/
theorem OpT.bool {b : Bool} {P : Bool → Mu → Prop} (h : P b mu) : OpT c n mu (.bool b) P := fun A s va hA ht S ra => by
  cases ra; exact wpAny_truthy_bool (PostB.pure0 S h)
theorem OpT.int {a : Int} {P : Bool → Mu → Prop} (h : P (decide (a ≠ 0)) mu) : OpT c n mu (.int a) P := fun A s va hA ht S ra => by
  cases ra; exact PySem.P.truthy_int (PostB.pure0 S (by rw [show (a != 0) = decide (a ≠ 0) from by simp [bne, BEq.beq]]; exact h))
theorem OpT.str {x : Str} {P : Bool → Mu → Prop} (hsz : x.length < 2 ^ 62) (h : P (decide (x ≠ Str.empty)) mu) : OpT c n mu (.str x) P := fun A s va hA ht S ra => by
  cases ra
  refine PySem.P.truthy_str (by omega) (PostB.pure S ?_)
  have : ((x.length : Int) != 0) = decide (x ≠ Str.empty) := by
    obtain ⟨⟨l⟩⟩ := x
    cases l
    · simp [Str.length, Str.empty]
    · simp [Str.length, Str.empty]; omega
  rw [this]; exact h
theorem OpT.none {P : Bool → Mu → Prop} (h : P false mu) : OpT c n mu .none P := fun A s va hA ht S ra => by
  cases ra; exact wpAny_pure (PostB.pure0 S h)
/-! # is None -/
theorem OpC.isNone {a : PV} {P : PV → Mu → Prop} (ha : ∀ id, a ≠ .bi id) (h : P (.bool (match a with | .none => true | _ => false)) mu) : OpC c n mu .Is a .none P := fun A s va vb hA ht S ra rb => by
  cases rb
  cases ra <;> first | (exact wpAny_is_plain rfl (Post.pure0 S h (.bool _))) | (exact absurd rfl (ha _))
theorem OpC.isNotNone {a : PV} {P : PV → Mu → Prop} (ha : ∀ id, a ≠ .bi id) (h : P (.bool (match a with | .none => false | _ => true)) mu) : OpC c n mu .IsNot a .none P := fun A s va vb hA ht S ra rb => by
  cases rb
  cases ra <;> first | (exact wpAny_isNot_plain rfl (Post.pure0 S h (.bool _))) | (exact absurd rfl (ha _))

/-! # strs -/
theorem str_eq_empty {x : Str} (h : (x.length == 0) = true) : x = Str.empty := by
  obtain ⟨⟨l⟩⟩ := x
  cases l <;> simp_all [Str.length, Str.empty]
theorem OpB.addS {x y : Str} {P : PV → Mu → Prop} (hsz : x.length + y.length ≤ sizeLine) (h : P (.str (x ++ y)) mu) : OpB c n mu .Add (.str x) (.str y) P := fun A s va vb hA ht S ra rb => by
  cases ra; cases rb
  refine PySem.P.add_str ?_
  split
  · rename_i hx; have := str_eq_empty hx; subst this
    exact Post.pure0 S (by rw [Str.empty_append] at h; exact h) (.str _ _)
  · split
    · rename_i hy; have := str_eq_empty hy; subst this
      exact Post.pure0 S (by rw [Str.append_empty] at h; exact h) (.str _ _)
    · exact ⟨by rw [Str.length_append]; exact hsz, Post.pure S h (.str _ _)⟩
theorem OpI.addS {x y : Str} {P : PV → Mu → Prop} (hsz : x.length + y.length ≤ sizeLine) (h : P (.str (x ++ y)) mu) : OpI c n mu .Add (.str x) (.str y) P := fun A s va vb hA ht S ra rb => by
  cases ra; cases rb
  refine PySem.P.iadd_str ?_
  split
  · rename_i hx; have := str_eq_empty hx; subst this
    exact Post.pure0 S (by rw [Str.empty_append] at h; exact h) (.str _ _)
  · split
    · rename_i hy; have := str_eq_empty hy; subst this
      exact Post.pure0 S (by rw [Str.append_empty] at h; exact h) (.str _ _)
    · exact ⟨by rw [Str.length_append]; exact hsz, Post.pure S h (.str _ _)⟩
theorem OpC.eqS {x y : Str} {P : PV → Mu → Prop} (h : P (.bool (decide (x = y))) mu) : OpC c n mu .Eq (.str x) (.str y) P := fun A s va vb hA ht S ra rb => by
  cases ra; cases rb
  refine PySem.P.eq_str (Post.pure0 S h ?_)
  have : (x.cps.toList == y.cps.toList) = decide (x = y) := by
    obtain ⟨⟨l⟩⟩ := x; obtain ⟨⟨k⟩⟩ := y
    by_cases h : l = k <;> simp [h]
  rw [this]; exact .bool _
theorem OpC.neS {x y : Str} {P : PV → Mu → Prop} (h : P (.bool (decide (x ≠ y))) mu) : OpC c n mu .NotEq (.str x) (.str y) P := fun A s va vb hA ht S ra rb => by
  cases ra; cases rb
  refine PySem.P.ne_str (Post.pure0 S h ?_)
  have : (x.cps.toList != y.cps.toList) = decide (x ≠ y) := by
    obtain ⟨⟨l⟩⟩ := x; obtain ⟨⟨k⟩⟩ := y
    by_cases h : l = k <;> simp [h]
  rw [this]; exact .bool _
theorem OpC.inS {x y : Str} {P : PV → Mu → Prop} (h : P (.bool (Txt.contains x y)) mu) : OpC c n mu .In (.str y) (.str x) P := fun A s va vb hA ht S ra rb => by
  cases ra; cases rb
  exact PySem.P.in_str (Post.pure0 S h (.bool _))
theorem OpG.str {x : Str} {i : Int} {ch : Nat} {P : PV → Mu → Prop} (hr : -(2 ^ 63 : Int) ≤ i ∧ i < 2 ^ 63) (hc : (seqIndex? i x.length).bind (x.cps[·]?) = some ch) (h : P (.str ⟨#[ch]⟩) mu) : OpG c n mu (.str x) (.int i) P := fun A s va vb hA ht S ra rb => by
  cases ra; cases rb
  exact PySem.P.getItem_str (by simp; omega) hc (Post.pure S h (.str _ _))
theorem Ty.str {x : Str} : Ty c mu (.str x) "str" := fun s v S r => by cases r; exact typeIs_str _ _ _
theorem Ty.tuple {ds : List PV} : Ty c mu (.tuple ds) "tuple" := fun s v S r => by cases r with | tuple e _ => exact ⟨_, e, rfl⟩
theorem Ty.list {l : Addr} {xs : List PV} (hl : mu l = some (.list xs)) : Ty c mu (.ref l) "list" := fun s v S r => by
  cases r; obtain ⟨vs, k, e, rs⟩ := S.objs l _ hl; exact ⟨_, e, rfl⟩
theorem Ty.baseList {l : Addr} {xs : List PV} (hl : BaseList c l xs) : Ty c mu (.ref l) "list" := fun s v S r => by
  cases r; obtain ⟨vs, ⟨o, e, hc, _⟩, _⟩ := hl.at S; exact ⟨_, e, hc⟩
theorem CallV.lenS {x : Str} {P : PV → Mu → Prop} (hsz : x.length < 2 ^ 62) (h : P (.int x.length) mu) : CallV c n mu (.builtin "len") [.str x] [] P := fun A s vs kvs hA ht S r rk => by
  cases r with | cons r0 r =>
  cases r; cases rk; cases r0
  exact PySem.P.len_str (by omega) (Post.pure S h (.int _ _))
theorem CallV.chr {i : Int} {P : PV → Mu → Prop} (hi : 0 ≤ i ∧ i ≤ 0x10FFFF) (h : P (.str ⟨#[i.toNat]⟩) mu) : CallV c n mu (.builtin "chr") [.int i] [] P := fun A s vs kvs hA ht S r rk => by
  cases r with | cons r0 r =>
  cases r; cases rk; cases r0
  exact PySem.P.chr_of_int (by simp; omega) (Post.pure S h (.str _ _))

/-! # lists -/
theorem CallV.lenL {l : Addr} {xs : List PV} {P : PV → Mu → Prop} (hl : mu l = some (.list xs)) (hsz : xs.length < 2 ^ 62) (h : P (.int xs.length) mu) : CallV c n mu (.builtin "len") [.ref l] [] P := fun A s vs kvs hA ht S r rk => by
  cases r with | cons r0 r =>
  cases r; cases rk; cases r0
  obtain ⟨ws, k, e, rs⟩ := S.objs l _ hl
  have hlen := rs.length
  refine call_len_list (items := ws.toArray) ⟨_, e, rfl, k, rfl⟩ (by simp; omega) ?_
  exact Post.pure S h (by rw [show ((ws.toArray.size : Nat) : Int) = xs.length from by simp [hlen]]; exact .int _ _)
theorem OpG.base {l : Addr} {xs : List PV} {i : Int} {d : PV} {P : PV → Mu → Prop} (hl : BaseList c l xs) (h0 : 0 ≤ i) (h1 : i < 2 ^ 63) (hd : xs[i.toNat]? = some d) (h : P d mu) : OpG c n mu (.ref l) (.int i) P := fun A s va vi hA ht S ra ri => by
  cases ra; cases ri
  obtain ⟨ws, hli, rs⟩ := hl.at S
  obtain ⟨v, hv, rv⟩ := rs.get hd
  exact wpAny_getItem_list hli h0 h1 (by simpa using hv) (Post.pure0 S h rv)
theorem OpG.list {l : Addr} {xs : List PV} {i : Int} {d : PV} {P : PV → Mu → Prop} (hl : mu l = some (.list xs)) (h0 : 0 ≤ i) (h1 : i < 2 ^ 63) (hd : xs[i.toNat]? = some d) (h : P d mu) : OpG c n mu (.ref l) (.int i) P := fun A s va vi hA ht S ra ri => by
  cases ra; cases ri
  obtain ⟨ws, k, e, rs⟩ := S.objs l _ hl
  obtain ⟨v, hv, rv⟩ := rs.get hd
  exact wpAny_getItem_list (items := ws.toArray) ⟨_, e, rfl, k, rfl⟩ h0 h1 (by simpa using hv) (Post.pure0 S h rv)
theorem Step.pushT {T : Addr → Prop} {s : Shared} {o : Obj} {x : AO} {k : Nat} (S : St c mu s.heap) (r : RepO c (s.heap.push o) s.heap.objs.size x) : Step c T mu s (upd mu s.heap.objs.size x) { s with heap := s.heap.push o, toks := k } :=
  (Step.push S r).trans (Step.tok (Step.push (T := T) (s := s) S r).st)
theorem CallV.range1 {b : Int} {P : PV → Mu → Prop} (h : ∀ r, mu r = none → P (.ref r) (upd mu r (.rng 0 b 1))) : CallV c n mu (.type "range") [.int b] [] P := fun A s vs kvs hA ht S r rk => by
  cases r with | cons r0 r =>
  cases r; cases rk; cases r0
  refine call_range_1 ?_
  exact ⟨_, _, h _ (S.off (Nat.le_refl _)), Step.pushT S (by exact ⟨_, _, _, Heap.get?_push_size _ rfl⟩), .ref _⟩
theorem CallV.range2 {a b : Int} {P : PV → Mu → Prop} (h : ∀ r, mu r = none → P (.ref r) (upd mu r (.rng a b 1))) : CallV c n mu (.type "range") [.int a, .int b] [] P := fun A s vs kvs hA ht S r rk => by
  cases r with | cons r0 r =>
  cases r with | cons r1 r =>
  cases r; cases rk; cases r0; cases r1
  refine call_range_2 ?_
  exact ⟨_, _, h _ (S.off (Nat.le_refl _)), Step.pushT S (by exact ⟨_, _, _, Heap.get?_push_size _ rfl⟩), .ref _⟩
end
end Mine

open PySem PySem.W PySem.Calls PyProof.Rows PySem.Builtin.Re
set_option Elab.async false
set_option linter.unusedVariables false
set_option maxRecDepth 100000
namespace Mine
theorem slot_search : Slot "re.Pattern" "search" "re.Pattern.search" :=
  .of (owner := "re.Pattern") (n := "search") (by rw [typeLookup_type, builtinLookup_eq_fast]; kernel_rfl) (by decide +kernel) (by decide +kernel) (by decide +kernel)
    (by first | exact .inl (by decide +kernel) | exact .inr (by decide +kernel)) (by rw [isSubtype_type]; kernel_rfl)
theorem entry_search : entryFor table "re.Pattern.search" = some Builtin.«re.Pattern.search» := entryFor_of_fast (by kernel_rfl)
theorem args_search (a b : Value) : argsOk "re.Pattern.search" ⟨[a, b], []⟩ := by unfold argsOk; kernel_rfl
theorem plain_pattern : PlainAttrs "re.Pattern" := ⟨⟨"object.__getattribute__", by rw [typeLookup_type, builtinLookup_eq_fast]; kernel_rfl, by decide +kernel⟩, by rw [typeLookup_type, builtinLookup_eq_fast]; kernel_rfl⟩
theorem ty_search : typeOf (.builtin "re.Pattern.search") = pure (.type "method_descriptor") := by kernel_rfl

section
variable {M : Model} {A : Around} {E : Value → Shared → Prop} {s : Shared}
theorem named_eq (v : Value) : reNamed "re.Pattern.search" "search" ["string", "pos", "endpos"] 1 [v] [] = pure [some v, none, none] := by rfl

theorem wp_target {p T : Addr} {x : Str} {t : Tok} {fs ws : Array Value} {k : Nat} {Q : ReTarget → Shared → Prop} {o : Obj} (hp : s.heap.get? p = some o) (hd : o.data = .fields fs) (h6 : reRawNat (fs.getD 6 .none) = 0) (h5 : fs.getD 5 .none = .ref T) {oT : Obj} (hT : s.heap.get? T = some oT) (hdT : oT.data = .seq ws k)
    (hsz : x.cps.size ≤ 2 ^ 62)
    (h : Q { pattern := .ref p, string := .str x t, code := (ws.map reRawOf).map (·.toNat), text := x.cps, kind := 0, groups := reRawNat (fs.getD 2 .none), pos := 0, lim := x.cps.size } s) :
    wpAny M A (reTarget "re.Pattern.search" "search" ⟨[.ref p, .str x t], []⟩) Q E s := by
  unfold reTarget
  refine wpAny_bind (wpAny_of_eq (named_eq _) ?_)
  refine wpAny_bind (wpAny_pure (wpAny_bind (wpAny_pure (wpAny_bind (wpAny_fieldsOf hp hd ?_)))))
  refine wpAny_bind (wpAny_pure ?_)
  dsimp only
  rw [h6]
  simp only [beq_self_eq_true, Bool.true_and, Nat.reduceBEq, Bool.false_eq_true, if_false, Bool.and_true]
  refine wpAny_bind (wpAny_pure ?_)
  refine wpAny_bind ?_
  unfold reRawItems
  rw [h5]
  refine wpAny_bind (wpAny_seqItems hT hdT (wpAny_pure (wpAny_pure ?_)))
  have e : min ((2 ^ 63 - 1 : Int)).toNat x.cps.size = x.cps.size := by
    have : ((2 ^ 63 - 1 : Int)).toNat = 2 ^ 63 - 1 := by decide
    omega
  simp only [Option.getD_some]
  rw [show min (0 : Int).toNat x.cps.size = 0 from by simp]
  rw [e]
  exact h
end

/-! ## the machine over a first set -/
/-- a pattern that is one set of signs: the set by the header, the set by the body -/
structure SetCode (code : Array Nat) (f : Nat → Bool) : Prop where
  head : (Sre.header code) = (1, 15) ∨ (Sre.header code) = (1, 11)
  info : code.getD 2 0 = 4
  info0 : code.getD 0 0 = 14
  first : ∀ ch seen, ∃ seen', Sre.inSet code ch code.size 5 true seen = .ok (f ch, seen')
  body : ∀ ch seen, ∃ seen', Sre.accepts code (Sre.header code).2 ch seen = .ok (f ch, seen')
  isIn : code.getD (Sre.header code).2 0 = 13
  width : code.getD ((Sre.header code).2 + Sre.itemWidth code (Sre.header code).2) 0 = 1
  size : (Sre.header code).2 + Sre.itemWidth code (Sre.header code).2 < code.size

theorem admitted_spec {code : Array Nat} {f : Nat → Bool} (hc : SetCode code f) (m : Sre.M) (hm : m.code = code) (hl : m.lim = m.text.size) : ∀ (k s : Nat) (seen : Sre.Seen), m.lim + 1 - s ≤ k → s ≤ m.lim →
    (∃ seen', Sre.M.admitted m k s seen = .ok (none, seen') ∧ ∀ j, s ≤ j → j < m.text.size → f (m.text.getD j 0) = false) ∨
    (∃ i seen', Sre.M.admitted m k s seen = .ok (some i, seen') ∧ s ≤ i ∧ i < m.text.size ∧ f (m.text.getD i 0) = true)
  | 0, s, seen, hk, hs => by omega
  | k + 1, s, seen, hk, hs => by
    unfold Sre.M.admitted
    by_cases hge : s ≥ m.lim
    · rw [if_pos hge]; exact .inl ⟨seen, rfl, fun j h1 h2 => by omega⟩
    · rw [if_neg hge, hm]
      obtain ⟨seen', e⟩ := hc.first (m.text.getD s 0) seen
      rw [e]
      cases hf : f (m.text.getD s 0) with
      | true => exact .inr ⟨s, seen', rfl, Nat.le_refl _, by omega, hf⟩
      | false =>
        rcases admitted_spec hc m hm hl k (s + 1) seen' (by omega) (by omega) with ⟨s2, e2, h2⟩ | ⟨i, s2, e2, h3, h4, h5⟩
        · refine .inl ⟨s2, e2, fun j h1 h6 => ?_⟩
          by_cases hj : j = s
          · subst hj; exact hf
          · exact h2 j (by omega) h6
        · exact .inr ⟨i, s2, e2, by omega, h4, h5⟩


theorem forSearch_eq (code text : Array Nat) : Sre.forSearch code text 0 0 text.size false =
    (let m : Sre.M := { code, text, lim := text.size, start := 0, pc := (Sre.header code).2, pos := 0, handed := 0, marks := Array.replicate (2 * 0) none, mustAdvance := false, seen := if (Sre.header code).2 == 0 then {} else ({} : Sre.Seen).add 14 }
     let hinted := (Sre.header code).2 != 0 && code.getD 2 0 &&& 5 != 0
     if 0 > text.size || text.size - 0 < (Sre.header code).1 then m.say false
     else { m with lastStart := if (Sre.header code).1 > 1 && !hinted then max 0 (text.size - ((Sre.header code).1 - 1)) else text.size }.attemptFrom 0 true) := rfl

theorem run_said {m : Sre.M} (h1 : m.outcome = none) (h2 : m.frames = []) (h3 : m.answer = some false) : (m.runFor 4).outcome = some .failed := by
  have e : m.step = { m with outcome := some .failed } := by
    unfold Sre.M.step
    rw [h1, h2, h3]; rfl
  unfold Sre.M.runFor
  rw [h1, e]
  rfl

theorem step_in {code : Array Nat} {f : Nat → Bool} (hc : SetCode code f) {m : Sre.M} (h1 : m.outcome = none) (h2 : m.answer = none) (h3 : m.code = code) (h4 : m.pc = (Sre.header code).2) (h5 : m.pos < m.lim) (h6 : f (m.text.getD m.pos 0) = true) :
    ∃ seen', m.step = { m with seen := seen', pc := m.pc + Sre.itemWidth code (Sre.header code).2, pos := m.pos + 1 } := by
  obtain ⟨seen', e⟩ := hc.body (m.text.getD m.pos 0) (m.seen.add 13)
  refine ⟨seen', ?_⟩
  have hlt : m.pc < m.code.size := by have := hc.size; rw [h3, h4]; omega
  have hw : m.word 0 = 13 := by unfold Sre.M.word; rw [h3, h4]; exact hc.isIn
  unfold Sre.M.step
  rw [h1, h2]
  simp only [Option.isSome_none, Bool.false_eq_true, if_false, if_pos hlt]
  unfold Sre.M.exec
  rw [hw]
  have ho : Sre.ops[13]? = some Sre.Op.IN := rfl
  rw [ho]
  simp only [ge_iff_le, Nat.not_le.mpr h5, if_false, h3, h4, e, h6, h1, h2]

theorem step_ok {code : Array Nat} {f : Nat → Bool} (hc : SetCode code f) {m : Sre.M} (h1 : m.outcome = none) (h2 : m.answer = none) (h3 : m.code = code) (h4 : m.pc = (Sre.header code).2 + Sre.itemWidth code (Sre.header code).2) (h5 : m.wholeText = false) (h6 : m.mustAdvance = false) :
    ∃ seen', m.step = { m with seen := seen', handed := m.pos, answer := some true } := by
  have hlt : m.pc < m.code.size := by have := hc.size; rw [h3, h4]; omega
  have hw : m.word 0 = 1 := by unfold Sre.M.word; rw [h3, h4]; exact hc.width
  refine ⟨m.seen.add 1, ?_⟩
  unfold Sre.M.step
  rw [h1, h2]
  simp only [Option.isSome_none, Bool.false_eq_true, if_false, if_pos hlt]
  unfold Sre.M.exec
  rw [hw]
  have ho : Sre.ops[1]? = some Sre.Op.SUCCESS := rfl
  rw [ho]
  simp only [h5, h6, Bool.false_and, Bool.or_false, Bool.and_false, Bool.false_eq_true, if_false, Sre.M.say, h1, h2]

theorem search_run {code : Array Nat} {f : Nat → Bool} (hc : SetCode code f) (text : Array Nat) :
    (((Sre.forSearch code text 0 0 text.size false).runFor 4).outcome = some .failed ∧ ∀ j, j < text.size → f (text.getD j 0) = false) ∨
    (((Sre.forSearch code text 0 0 text.size false).runFor 4).outcome = some .matched ∧ ∃ j, j < text.size ∧ f (text.getD j 0) = true) := by
  rw [forSearch_eq]
  have h1 : (Sre.header code).1 = 1 := by rcases hc.head with h | h <;> rw [h]
  have hB : ((Sre.header code).2 == 0) = false := by rcases hc.head with h | h <;> rw [h] <;> rfl
  generalize hB' : (Sre.header code).2 = B at *
  simp only [h1, hB, hc.info, Bool.false_eq_true, if_false]
  by_cases hz : text.size = 0
  · left
    rw [if_pos (by simp [hz])]
    exact ⟨run_said rfl rfl rfl, fun j hj => by omega⟩
  rw [if_neg (by rw [Bool.or_eq_true, decide_eq_true_eq, decide_eq_true_eq]; omega)]
  rw [if_neg (by simp)]
  generalize hm : ({ code := code, text := text, lim := text.size, start := 0, lastStart := text.size, pc := B, pos := 0, handed := 0, marks := Array.replicate (2 * 0) none, seen := ({} : Sre.Seen).add 14 } : Sre.M) = m
  have hcode : m.code = code := by rw [← hm]
  have htext : m.text = text := by rw [← hm]
  have hlim : m.lim = text.size := by rw [← hm]
  have hfs : m.hasFirstSet = true := by
    unfold Sre.M.hasFirstSet
    rw [hcode, hc.info0, hc.info]; rfl
  unfold Sre.M.attemptFrom
  rw [hfs]
  simp only [Bool.not_true, Bool.false_eq_true, if_false]
  rcases admitted_spec hc m hcode (by rw [hlim, htext]) (m.lim + 1 - 0) 0 m.seen (Nat.le_refl _) (Nat.zero_le _) with ⟨seen', e, hn⟩ | ⟨i, seen', e, _, hi, hfi⟩
  · left
    rw [e]
    refine ⟨run_said (by rw [← hm]; rfl) (by rw [← hm]; rfl) rfl, fun j hj => by rw [← htext]; exact hn j (Nat.zero_le _) (by rw [htext]; exact hj)⟩
  · right
    rw [e]
    rw [htext] at hi hfi
    refine ⟨?_, i, hi, hfi⟩
    dsimp only
    have ha : ({ m with mustAdvance := false, seen := seen' } : Sre.M).attemptAt i true = { m with mustAdvance := false, seen := seen', start := i, pos := i, lastmark := -1, lastindex := -1, frames := [{ wait := .nextStart, pc := m.pc, pos := i, outermost := true }], weight := 1, handed := i, outermost := true } := by
      rw [← hm]; rfl
    rw [ha]
    generalize ha' : ({ m with mustAdvance := false, seen := seen', start := i, pos := i, lastmark := -1, lastindex := -1, frames := [{ wait := .nextStart, pc := m.pc, pos := i, outermost := true }], weight := 1, handed := i, outermost := true } : Sre.M) = m1
    have o1 : m1.outcome = none := by rw [← ha', ← hm]
    obtain ⟨s2, e2⟩ := step_in hc (m := m1) o1 (by rw [← ha', ← hm]) (by rw [← ha']; exact hcode) (by rw [← ha', ← hm]; exact hB'.symm) (by rw [← ha', ← hm]; exact hi) (by rw [← ha']; show f (m.text.getD i 0) = true; rw [htext]; exact hfi)
    generalize hm2 : ({ m1 with seen := s2, pc := m1.pc + Sre.itemWidth code (Sre.header code).2, pos := m1.pos + 1 } : Sre.M) = m2 at e2
    have o2 : m2.outcome = none := by rw [← hm2]; exact o1
    obtain ⟨s3, e3⟩ := step_ok hc (m := m2) o2 (by rw [← hm2, ← ha', ← hm]) (by rw [← hm2, ← ha']; exact hcode) (by rw [← hm2, ← ha', ← hm]; show B + _ = _; rw [hB']) (by rw [← hm2, ← ha', ← hm]) (by rw [← hm2, ← ha'])
    generalize hm3 : ({ m2 with seen := s3, handed := m2.pos, answer := some true } : Sre.M) = m3 at e3
    have o3 : m3.outcome = none := by rw [← hm3]; exact o2
    have e4 : ∃ m4, m3.step = m4 ∧ m4.outcome = none ∧ m4.answer = some true ∧ m4.frames = [] := by
      refine ⟨_, rfl, ?_⟩
      rw [← hm3, ← hm2, ← ha', ← hm]
      exact ⟨rfl, rfl, rfl⟩
    obtain ⟨m4, e4, o4, a4, f4⟩ := e4
    have e5 : m4.step.outcome = some .matched := by
      unfold Sre.M.step
      rw [o4, a4, f4]; rfl
    unfold Sre.M.runFor; rw [o1, e2]
    unfold Sre.M.runFor; rw [o2, e3]
    unfold Sre.M.runFor; rw [o3, e4]
    unfold Sre.M.runFor; rw [o4]
    simp only [Option.isSome_none, Bool.false_eq_true, if_false]
    unfold Sre.M.runFor
    exact e5

section
variable {c : Cx} {n : Nat} {mu : Mu}
theorem rules_go {M : Model} {A : Around} {E : Value → Shared → Prop} {s : Shared} {Q : PUnit → Shared → Prop} {b : Nat → PUnit → Sem (ForInStep PUnit)} (l : List Nat) (hb : ∀ i u, (∃ g, b i u = (rule g >>= fun _ => pure (ForInStep.yield PUnit.unit))) ∨ b i u = pure (ForInStep.yield PUnit.unit)) (h : Q ⟨⟩ s) :
    wpAny M A (forIn l PUnit.unit b) Q E s := by
  refine wpAny_forIn_list _ (fun _ _ s' => s' = s) _ (fun x rest u s' hs => ?_) (fun b s' hs => by subst hs; exact h) l _ rfl
  subst hs
  rcases hb x u with ⟨g, e⟩ | e
  · rw [e]; exact wpAny_bind (wpAny_rule (wpAny_pure rfl))
  · rw [e]; exact wpAny_pure rfl

theorem drive_go {M : Model} {A : Around} {E : Value → Shared → Prop} {s : Shared} {Q : Sre.M → Shared → Prop} {m : Sre.M} (ho : (m.runFor 4).outcome.isSome = true) (h : Q (m.runFor 4) s) : wpAny M A (reDrive (2 ^ 64) m) Q E s := by
  have e : ∀ k, reDrive (k + 1) m = pure (m.runFor 4) := fun k => by
    rw [reDrive]
    show (if (m.runFor 4).outcome.isSome = true then _ else _) = _
    rw [if_pos ho]; rfl
  rw [show (2 ^ 64 : Nat) = 18446744073709551615 + 1 from rfl, e]
  exact wpAny_pure h

/-- the search of a set of signs -/
theorem CallV.search {p T : Addr} {x : Str} {fs ws : Array Value} {k : Nat} {code : Array Nat} {f : Nat → Bool} {P : PV → Mu → Prop} (hp : c.base.get? p = some { cls := .type "re.Pattern", data := .fields fs }) (h6 : reRawNat (fs.getD 6 .none) = 0) (h5 : fs.getD 5 .none = .ref T) (h2 : reRawNat (fs.getD 2 .none) = 0)
    (hT : c.base.get? T = some { cls := .type "tuple", data := .seq ws k }) (hcode : (ws.map reRawOf).map (·.toNat) = code) (hc : SetCode code f) (hsz : x.length ≤ 2 ^ 62)
    (h0 : x.cps.any f = false → P .none mu) (h1 : x.cps.any f = true → ∀ a o, mu a = none → o.cls = .type "re.Match" → o.dict = none → P (.ref a) (upd mu a (.obj o))) : CallV c n mu (.builtin "re.Pattern.search") [.ref p, .str x] [] P := fun A s vs kvs hA ht S r rk => by
  cases r with | cons r0 r =>
  cases r with | cons r1 r =>
  cases r; cases rk; cases r0; cases r1
  rename_i t
  refine wpAny_call_entry slot_search ⟨_, S.base _ _ hp, rfl⟩ entry_search ?_ (args_search _ _)
  unfold Builtin.«re.Pattern.search»
  refine wpAny_bind (wp_target (S.base _ _ hp) rfl h6 h5 (S.base _ _ hT) rfl hsz ?_)
  dsimp only
  rw [h2, hcode]
  unfold reAnswer reRunToEnd
  have any_iff : x.cps.any f = true ↔ ∃ j, j < x.cps.size ∧ f (x.cps.getD j 0) = true := by
    rw [Array.any_eq_true]
    constructor
    · rintro ⟨i, hi, hf⟩; exact ⟨i, hi, by rw [Array.getD_eq_getD_getElem?, Array.getElem?_eq_getElem hi]; exact hf⟩
    · rintro ⟨i, hi, hf⟩; refine ⟨i, hi, ?_⟩; rw [Array.getD_eq_getD_getElem?, Array.getElem?_eq_getElem hi] at hf; exact hf
  rcases search_run hc x.cps with ⟨ho, hn⟩ | ⟨ho, j, hj, hfj⟩
  · refine wpAny_bind (wpAny_bind (drive_go (by rw [ho]; rfl) (wpAny_bind (rules_go _ (fun i u => by split <;> first | exact .inl ⟨_, rfl⟩ | exact .inr rfl) ?_))))
    rw [ho]
    refine wpAny_pure (wpAny_pure ⟨_, rfl, Post.pure0 S (h0 ?_) .none⟩)
    cases q : x.cps.any f with
    | false => rfl
    | true => obtain ⟨j, hj, hf⟩ := any_iff.mp q; rw [hn j hj] at hf; cases hf
  · refine wpAny_bind (wpAny_bind (drive_go (by rw [ho]; rfl) (wpAny_bind (rules_go _ (fun i u => by split <;> first | exact .inl ⟨_, rfl⟩ | exact .inr rfl) ?_))))
    rw [ho]
    refine wpAny_pure ?_
    refine wpAny_bind ?_
    unfold reNewMatch
    simp only [List.range_zero, List.flatMap_nil, List.any_nil, Bool.false_eq_true, if_false]
    refine wpAny_bind (wpAny_newTuple ?_)
    refine wpAny_newObj_type ?_
    refine wpAny_pure ⟨_, rfl, ?_⟩
    have x1 : Step c noT mu s mu { s with heap := s.heap.push { cls := .type "tuple", data := .seq ([rawInt ((Sre.forSearch code x.cps 0 0 x.cps.size false).runFor 4).start, rawInt ((Sre.forSearch code x.cps 0 0 x.cps.size false).runFor 4).handed] : List Value).toArray } } := Step.pushOff S
    refine ⟨.ref _, _, h1 (any_iff.mpr ⟨j, hj, hfj⟩) _ _ (x1.st.off (Nat.le_refl _)) ?_ ?_, x1.trans (Step.push x1.st ⟨Heap.get?_push_size _ rfl, ?_⟩), .ref _⟩
    · rfl
    · rfl
    · simp [IsT]
end
end Mine

open PySem PySem.W PySem.Calls PyProof.Rows
set_option Elab.async false
set_option linter.unusedVariables false
set_option maxRecDepth 100000
namespace Mine

section
variable {c : Cx} {n : Nat} {sc : Scope} {m : Lm} {mu : Mu}

theorem Meth.str {x : Str} {name : Str} {id : String} (slot : Slot "str" name id) (hty : typeOf (.builtin id) = pure (.type "method_descriptor")) : Meth c mu (.str x) name (.builtin id) := fun A s v pl Q E S r h => by
  cases r
  exact getMethod_builtin (typeIs_str _ _ _) F.plainAttrs_str slot hty (fun a q => by cases q) h
theorem Meth.list {l : Addr} {xs : List PV} {name : Str} {id : String} (hl : mu l = some (.list xs)) (slot : Slot "list" name id) (hty : typeOf (.builtin id) = pure (.type "method_descriptor")) : Meth c mu (.ref l) name (.builtin id) := fun A s v pl Q E S r h => by
  cases r
  obtain ⟨vs, k, e, rs⟩ := S.objs l _ hl
  exact getMethod_builtin ⟨_, e, rfl⟩ F.plainAttrs_list slot hty (fun a q => by cases q; exact ⟨_, e, rfl⟩) h
theorem Meth.pattern {p : Addr} {fs : Array Value} (hp : c.base.get? p = some { cls := .type "re.Pattern", data := .fields fs }) : Meth c mu (.ref p) "search" (.builtin "re.Pattern.search") := fun A s v pl Q E S r h => by
  cases r
  exact getMethod_builtin ⟨_, S.base _ _ hp, rfl⟩ plain_pattern slot_search ty_search (fun a q => by cases q; exact ⟨_, S.base _ _ hp, rfl⟩) h

/-! ## forgetting -/
theorem Step.sub {mu' mu2 : Mu} {s s2 : Shared} (hs : Sub mu mu') (x : Step c noT mu s mu2 s2) : Step c noT mu' s mu2 s2 :=
  have hn : ∀ b, mu' b = none → mu b = none := fun b hb => by
    cases q : mu b with
    | none => rfl
    | some o => rw [hs b o q] at hb; cases hb
  ⟨x.shape, x.st, fun b o e hm hT => x.keep b o e (hn b hm) hT, fun b o e hm => x.alive b o e (hn b hm), fun b hb => (x.dom b hb).imp (fun h => fun q => h (hn b q)) id⟩
theorem St.sub {mu' : Mu} {h : Heap} (hs : Sub mu mu') (S : St c mu' h) : St c mu h :=
  ⟨S.base, fun a o e => S.objs a o (hs a o e), fun a ha => S.new a (by obtain ⟨o, e⟩ := Option.ne_none_iff_exists'.mp ha; rw [hs a o e]; simp)⟩
theorem Fm.sub {mu' : Mu} {h : Heap} {env : Env} (hs : Sub mu mu') (F : Fm c mu' h env m) : Fm c mu h env m :=
  have hn : ∀ b, mu' b = none → mu b = none := fun b hb => by
    cases q : mu b with
    | none => rfl
    | some o => rw [hs b o q] at hb; cases hb
  { F with offL := hn _ F.offL, offC := fun x ca e => ⟨hn _ (F.offC x ca e).1, (F.offC x ca e).2⟩ }
theorem Step.subT {T : Addr → Prop} {mu' mu2 : Mu} {s s2 : Shared} (hs : Sub mu mu') (x : Step c T mu s mu2 s2) : Step c T mu' s mu2 s2 :=
  have hn : ∀ b, mu' b = none → mu b = none := fun b hb => by
    cases q : mu b with
    | none => rfl
    | some o => rw [hs b o q] at hb; cases hb
  ⟨x.shape, x.st, fun b o e hm hT => x.keep b o e (hn b hm) hT, fun b o e hm => x.alive b o e (hn b hm), fun b hb => (x.dom b hb).imp (fun h => fun q => h (hn b q)) id⟩
theorem ExS.forget {mu' : Mu} {ss : List Stmt} {P : FV → Lm → Mu → Prop} (hs : Sub mu mu') (h : ExS c n sc m mu ss P) : ExS c n sc m mu' ss P := fun env A s he hA ht S F =>
  wpAny_mono (h env A s he hA ht (S.sub hs) (F.sub hs)) (fun _ _ ⟨fl, m2, mu2, a, x, F2, r⟩ => ⟨fl, m2, mu2, a, Step.subT hs x, F2, r⟩) fun _ _ x => x
/-- forgetting names of the frame -/
theorem ExS.weak {m' : Lm} {ss : List Stmt} {P : FV → Lm → Mu → Prop} (hw : ∀ x d, m.lookup x = some d → m'.lookup x = some d) (h : ExS c n sc m mu ss P) : ExS c n sc m' mu ss P := fun env A s he hA ht S F => h env A s he hA ht S (F.weak hw)
theorem sub_upd {a : Addr} {o : AO} (h : mu a = none) : Sub mu (upd mu a o) := fun b x e => by
  rw [upd_ne _ _ (fun q => by rw [q, h] at e; cases e)]; exact e
theorem Sub.trans {mu1 mu2 mu3 : Mu} (h : Sub mu1 mu2) (k : Sub mu2 mu3) : Sub mu1 mu3 := fun a o e => k a o (h a o e)

/-! ## a match is true -/
/-! ## f-strings -/
def EvJ (c : Cx) (n : Nat) (sc : Scope) (m : Lm) (mu : Mu) (es : List PySem.Expr) (acc : Str) (P : PV → Mu → Prop) : Prop :=
  ∀ env A s, env.scope = sc → AOk n A → 0 < s.toks → St c mu s.heap → Fm c mu s.heap env m → wpAny c.M A (joinParts acc (evalEach es env)) (Post c mu s P) NoE s
theorem EvJ.nil {acc : Str} {P : PV → Mu → Prop} (hsz : acc.length ≤ sizeLine) (h : P (.str acc) mu) : EvJ c n sc m mu [] acc P := fun env A s he hA ht S F =>
  wpAny_mkStr (Post.pure S h (.str _ _)) hsz
theorem EvJ.cons {e : PySem.Expr} {es : List PySem.Expr} {acc : Str} {P : PV → Mu → Prop} (h : EvE c n sc m mu e fun d mu1 => ∃ y, d = .str y ∧ acc.length + y.length ≤ sizeLine ∧ EvJ c n sc m mu1 es (acc ++ y) P) : EvJ c n sc m mu (e :: es) acc P := by
  intro env A s he hA ht S F
  show wpAny c.M A (joinParts acc (eval e env :: evalEach es env)) _ _ s
  rw [joinParts]
  refine wpAny_bind (EvE.bind h he hA ht S F fun v s1 d mu1 hp x1 t1 S1 F1 r1 _ => ?_)
  obtain ⟨y, rfl, hz, h1⟩ := hp
  cases r1
  refine wpAny_bind (wpAny_pure ?_)
  show wpAny c.M A (if acc.length + y.length > sizeLine then _ else _) _ _ s1
  rw [if_neg (Nat.not_lt.mpr hz)]
  first
    | exact wpAny_mono (h1 env A s1 he hA t1 S1 F1) (fun _ _ p => p.after x1) fun _ _ x => x
    | exact wpAny_bind (wpAny_pure (wpAny_mono (h1 env A s1 he hA t1 S1 F1) (fun _ _ p => p.after x1) fun _ _ x => x))
theorem EvE.joined {e1 e2 : PySem.Expr} {es : List PySem.Expr} {pos : Pos} {P : PV → Mu → Prop} (h : EvJ c n sc m mu (e1 :: e2 :: es) Str.empty P) : EvE c n sc m mu (.JoinedStr (e1 :: e2 :: es) pos) P := fun env A s he hA ht S F => by
  rw [arm_eval_JoinedStr]
  exact h env A s he hA ht S F
theorem EvE.fmtS {e : PySem.Expr} {pos : Pos} {P : PV → Mu → Prop} (h : EvE c n sc m mu e fun d mu1 => ∃ y, d = .str y ∧ y.length ≤ sizeLine ∧ P (.str y) mu1) : EvE c n sc m mu (.FormattedValue e 115 none pos) P := fun env A s he hA ht S F => by
  rw [arm_eval_FormattedValue]
  refine wpAny_bind (EvE.bind h he hA ht S F fun v s1 d mu1 hp x1 t1 S1 F1 r1 _ => ?_)
  obtain ⟨y, rfl, hz, h1⟩ := hp
  cases r1
  refine wpAny_bind (wpAny_standAt (wpAny_bind (wpAny_holding ?_)))
  show wpAny c.M A (habitSame "fstring-hands-on-the-str" (.str y _)) _ _ s1
  have fin : ∀ t (s2 : Shared), Step c noT mu1 s1 mu1 s2 → wpAny c.M A (formatField (.str y t) Str.empty) (Post c mu s P) NoE s2 := fun t s2 x2 => by
    show wpAny _ _ (do rule "fstring.same-str"; habitSame "fstring-hands-on-the-str" (.str y t)) _ _ s2
    refine wpAny_bind (wpAny_rule (wpAny_habitSame_str ?_ ?_ hz))
    · exact ⟨_, mu1, h1, x1.trans x2, .str _ _⟩
    · exact ⟨_, mu1, h1, (x1.trans x2).trans (Step.tok x2.st), .str _ _⟩
  exact wpAny_habitSame_str (fin _ _ (Step.refl S1)) (fin _ _ (Step.tok S1)) hz

/-! ## join -/
theorem Reps.strs {h : Heap} : ∀ {xs : List Str} {vs : List Value}, Reps h (xs.map .str) vs → ∃ l : List (Str × Tok), strValues l = vs ∧ l.map (·.1) = xs
  | [], vs, r => by cases r; exact ⟨[], rfl, rfl⟩
  | x :: xs, vs, r => by
    cases r with
    | cons r0 r =>
      cases r0
      obtain ⟨l, e1, e2⟩ := Reps.strs r
      exact ⟨(x, _) :: l, by subst e1; rfl, by simp [e2]⟩
theorem CallV.joinL {l : Addr} {sep : Str} {xs : List Str} {P : PV → Mu → Prop} (hl : mu l = some (.list (xs.map .str))) (hok : JoinOk sep xs = true) (h : P (.str (Txt.join sep xs)) mu) : CallV c n mu (.builtin "str.join") [.str sep, .ref l] [] P := fun A s vs kvs hA ht S r rk => by
  cases r with | cons r0 r =>
  cases r with | cons r1 r =>
  cases r; cases rk; cases r0; cases r1
  obtain ⟨ws, k, e, rs⟩ := S.objs l _ hl
  obtain ⟨ps, e1, e2⟩ := rs.strs
  refine SC.join (l := ps) (texts := xs) ⟨_, by rw [e, ← e1], rfl, k, rfl⟩ e2 hok fun t' k' => Post.pure S h (.str _ _)
/-! ## replace by written texts -/
theorem EvE.replaceC {o : PySem.Expr} {y z : Str} {k1 k2 : Nat} {apos p1 p2 pos : Pos} {P : PV → Mu → Prop} (hyz : (y == z) = false)
    (h : EvE c n sc m mu o fun d mu1 => ∃ x, d = .str x ∧ x.length + (x.length + 1) * z.length ≤ 16777216 ∧ P (.str (Txt.replace x y z)) mu1)
    (hb : ∀ env, attributeBase o "replace" env (eval o env) = eval o env := by intro _; rfl) (hline : (apos.endLine == pos.line) = true := by rfl) :
    EvE c n sc m mu (.Call (.Attribute o "replace" apos) [.Constant (.str y) k1 p1, .Constant (.str z) k2 p2] [] pos) P := by
  intro env A s he hA ht S F
  rw [arm_eval_Call, hb]
  refine wpAny_bind (EvE.bind h he hA ht S F fun v s0 d mu0 h0 x0 t0 S0 F0 r0 _ => ?_)
  obtain ⟨x, rfl, hsz, h0⟩ := h0
  cases r0
  refine wpAny_bind (wpAny_standAt ?_)
  have hpos : methodCallPos true o env apos pos = pure pos := by unfold methodCallPos; simp [hline]
  unfold methodCall
  refine wpAny_bind (wpAny_holding ?_)
  show wpAny c.M A (getMethod _ "replace" _) _ _ s0
  refine GM.replace ?_
  refine wpAny_bind (wpAny_of_eq hpos ?_)
  refine callWith_builtin rfl ?_
  show wpAny c.M A (evalArgs (.builtin "str.replace") true [(false, eval (.Constant (.str y) k1 p1) env), (false, eval (.Constant (.str z) k2 p2) env)] []) _ _ s0
  refine evalArgs_plain (spliced_cons (Constant_str (spliced_cons (Constant_str (spliced_nil ?_)))))
  refine SC.replace (Nat.ne_of_gt t0) (Nat.succ_ne_zero _) (Nat.ne_of_lt (Nat.lt_succ_self _)) hyz hsz fun t' k => ?_
  exact ⟨_, mu0, h0, x0.trans (Step.tok (s := s0) S0), .str _ _⟩
end
end Mine

open PySem PySem.W PySem.Calls PyProof.Rows
set_option Elab.async false
set_option linter.unusedVariables false
set_option maxRecDepth 100000
namespace Mine

theorem env_split (scope : Scope) (g : Addr) (x : Str) (v : Value) (rest : List (Str × Value)) (q : Str) (f : Option Addr) (cd : Value) (b : Addr) :
    newFunctionEnv scope g [] ((x, v) :: rest) q f cd none b = (newFunctionEnv scope g [] [] q f cd none b >>= fun env => storeName env x v >>= fun _ => (forIn rest PUnit.unit fun (p : Str × Value) (_ : PUnit) => (do storeName env p.1 p.2; pure (ForInStep.yield PUnit.unit) : Sem (ForInStep PUnit))) >>= fun _ => pure env) := by
  unfold newFunctionEnv
  simp only [bind_assoc, List.forIn_cons, List.forIn_nil, pure_bind]

/-- a frame whose first name is a local: at least one token is spent -/
theorem newEnv_pos {M : Model} {A : Around} {E : Value → Shared → Prop} {s : Shared} {scope : Scope} {globals : Addr} {x : Str} {v : Value} {rest : List (Str × Value)} {qual : Str} {func : Option Addr} {code : Value} {builtins : Addr} {Q : Env → Shared → Prop}
    (hk : scope.kind = .function) (hx : scope.names.lookup x = some .local)
    (hkind : ∀ y ∈ rest, scope.names.lookup y.1 = some .local ∨ (scope.names.lookup y.1 = some .cell ∧ ((cellsFrom (s.heap.objs.size + 1) scope.names []).lookup y.1).isSome = true))
    (hQ : ∀ env, env = newEnv scope s.heap.objs.size globals (cellsFrom (s.heap.objs.size + 1) scope.names []) qual func code none builtins →
      ∀ s', InCallC s env.locals (bindL env.kindOf ((x, v) :: rest) fun _ => none) env.cells (bindC env.kindOf ((x, v) :: rest) fun _ => none) s' → 0 < s'.toks → Q env s') :
    wpAny M A (newFunctionEnv scope globals [] ((x, v) :: rest) qual func code none builtins) Q E s := by
  rw [env_split]
  refine wpAny_bind (wpAny_newFunctionEnv_cells hk (fun y hy => by cases hy) fun env he s1 I => ?_)
  have hkx : env.kindOf x = some .local := by rw [he]; exact hx
  have hkf : env.scope.kind = .function := by rw [he]; exact hk
  obtain ⟨h1, tk1, rfl⟩ := I.toInCall.same
  refine wpAny_bind (wpAny_storeName_local hkx I.toInCall.ns (fun h' hn' hs' => ?_) (by rw [hkf]; rfl))
  have I2 : InCallC s env.locals (fun y => if y = x then some v else none) env.cells (fun _ => none) { s with heap := h', toks := tk1 + 1 } := by
    refine ⟨⟨⟨_, _, rfl⟩, hn', fun b o e => hs'.extBut b o (Nat.ne_of_lt (Nat.lt_of_lt_of_le (Heap.lt_size e) I.toInCall.fresh)) (I.toInCall.keep b o e), I.toInCall.fresh⟩, fun k c hc => (I.cell k c hc).sameBut hs' (Nat.ne_of_gt (I.above k c (mem_of_lookup hc))), I.apart, I.above⟩
  refine wpAny_bind (wpAny_with_toks (n := 1) (by show 1 ≤ tk1 + 1; omega) (wpAny_bindParams (s₀ := s) (env := env) _ (fun _ _ _ => rfl) hkf rest _ _ _ _ I2 (fun y hy => by
    have := hkind y hy
    rw [he]; exact this) fun s' I3 ht => wpAny_pure (hQ env he s' ?_ ht)))
  have e1 : bindL env.kindOf ((x, v) :: rest) (fun _ => none) = bindL env.kindOf rest (fun y => if y = x then some v else none) := by
    rw [bindL, if_pos hkx]
  have e2 : bindC env.kindOf ((x, v) :: rest) (fun _ => none) = bindC env.kindOf rest (fun _ => none) := by
    rw [bindC, if_pos hkx]
  rw [e1, e2]; exact I3

/-- the call of the law -/
theorem law_fn {c : Cx} {n : Nat} {a l : Addr} {fd : FuncData} {body : List Stmt} {x : Str} {P : PV → Mu → Prop} (hf : FnOk c a fd body) (hb : ∀ v, bindArgs fd ⟨[v], []⟩ = pure [(x, v)]) (hx : fd.scope.names.lookup x = some .local)
    (h : ExS c n fd.scope [(x, .ref l)] (fun _ => none) body fun fl _ mu2 => P (retOf fl) mu2) {A : Around} {s : Shared} (hA : AOk (n + 1) A) (S : St c (fun _ => none) s.heap) :
    wpAny c.M A (call (.ref a) [.ref l]) (Post c (fun _ => none) s P) NoE s := by
  refine wpAny_call ?_
  obtain ⟨o, ho, hd⟩ := hf.obj
  refine codeAny_call_function hA.room (S.base _ _ ho) hd hf.co hf.gen hf.body (hf.code.keeps S.base) ?_
  rw [hf.clos, hb]
  refine wpAny_pure (newEnv_pos hf.kind hx (fun y hy => by cases hy) fun env he s2 I ht2 => ?_)
  exact fn_body hf hA (Step.refl S) (.cons (.ref l) .nil) (by simp) (by simp [kindsOk, hx]) h he I ht2

theorem St.empty {c : Cx} {h : Heap} (hk : ∀ b o, c.base.get? b = some o → h.get? b = some o) : St c (fun _ => none) h := ⟨hk, fun a o e => (nomatch e), fun a ha => absurd rfl ha⟩

/-- a law that gives back True -/
theorem law_good {c : Cx} {claim : ClaimW} {cl : Str → Option Addr} {mean : ExcName → Option Value} {args : List WData} {s s' : Shared} {v : Value} (hb : c.base = s.heap) (hg : s.gens = #[]) (hn : ∀ cls, claim.raises args cls = false) (hp : claim.post args (.bool true) args = true)
    (p : Post c (fun _ => none) s (fun d _ => d = .bool true) v s') : GoodWG claim cl mean args s (.ok (.ret v)) s' := by
  obtain ⟨d, mu', rfl, x, r⟩ := p
  cases r
  obtain ⟨h, tk, rfl⟩ := x.shape
  exact GoodW.toG ⟨.inl ⟨_, _, [], rfl, hn, .bool true, hp, fun _ => ⟨List.nodup_nil, fun a ha => (nomatch ha)⟩⟩, fun b o e => x.keep b o e rfl id, rfl, hg⟩
end Mine

open PySem PySem.W PySem.Calls PyProof.Rows
set_option Elab.async false
set_option linter.unusedVariables false
set_option maxRecDepth 100000
namespace Mine

theorem ifd {p : Prop} [Decidable p] {X Y : Prop} (h1 : p → X) (h2 : ¬ p → Y) : if decide p = true then X else Y := by
  by_cases h : p <;> simp [h] <;> first | exact h1 h | exact h2 h
theorem ifb {b : Bool} {X Y : Prop} (h1 : b = true → X) (h2 : b = false → Y) : if b = true then X else Y := by
  cases b <;> simp <;> first | exact h1 rfl | exact h2 rfl
theorem ifT {X Y : Prop} (h : X) : if true = true then X else Y := by simpa using h
theorem ifF {X Y : Prop} (h : Y) : if false = true then X else Y := by simpa using h

section
variable {c : Cx} {n : Nat} {sc : Scope} {m : Lm} {mu : Mu}

/-! ## binding -/
theorem Binds.p1 {fd : FuncData} {x : Str} {d : PV} {K : List (Str × PV) → Mu → Prop} (hb : ∀ v, bindArgs fd ⟨[v], []⟩ = pure [(x, v)]) (h : K [(x, d)] mu) : Binds c mu fd [d] [] K := fun A s vs kvs hA S r rk => by
  cases r with | cons r0 r =>
  cases r; cases rk
  rw [hb]; exact wpAny_pure ⟨_, mu, h, Step.refl S, .cons r0 .nil⟩
/-! ## calls by name -/
theorem EvE.callFn {x : Str} {p pos : Pos} {a : Addr} {es : List PySem.Expr} {ks : List Keyword} {P : PV → Mu → Prop} (hk : sc.names.lookup x = some .globalImplicit) (hv : c.mg x = some (.ref a))
    (h : EvA c n sc m mu es fun ds mu1 => EvK c n sc m mu1 ks fun kw mu2 => Keepr c mu2 (.ref a) ∧ CallV c n mu2 (.ref a) ds kw P) (hd : (x == ("__debug__" : Str)) = false := by decide) (hst : noStar es = true := by rfl) (hks : allNamed ks = true := by rfl) :
    EvE c n sc m mu (.Call (.Name x p) es ks pos) P :=
  EvE.call (fp := .ref a) (f := .ref a) (EvE.glob hk hv (fun _ => .ref a) ⟨rfl, h⟩ hd) (fun _ _ r => by cases r; rfl) hst hks
theorem EvE.callBi {x : Str} {p pos : Pos} {id : String} {es : List PySem.Expr} {P : PV → Mu → Prop} (hk : sc.names.lookup x = some .globalImplicit) (hg : c.mg x = none) (hn : x ≠ ("__name__" : Str)) (hv : bootBuiltins x = some (.builtin id))
    (h : EvA c n sc m mu es fun ds mu1 => CallV c n mu1 (.builtin id) ds [] P) (hd : (x == ("__debug__" : Str)) = false := by decide) (hst : noStar es = true := by rfl) :
    EvE c n sc m mu (.Call (.Name x p) es [] pos) P :=
  EvE.call (fp := .bi id) (f := .builtin id) (EvE.builtin hk hg hn hv (fun _ => .bi id) ⟨rfl, fun env A s pos he hA ht S F => wpAny_mono (h env A s pos he hA ht S F) (fun _ _ ⟨ds, mu1, q, x, r⟩ => ⟨ds, mu1, EvK.nil ⟨Keepr.builtin, q⟩, x, r⟩) fun _ _ x => x⟩ hd) (fun _ _ r => by cases r; rfl) hst rfl
theorem EvE.callTy {x : Str} {p pos : Pos} {id : String} {es : List PySem.Expr} {P : PV → Mu → Prop} (hk : sc.names.lookup x = some .globalImplicit) (hg : c.mg x = none) (hn : x ≠ ("__name__" : Str)) (hv : bootBuiltins x = some (.type id))
    (h : EvA c n sc m mu es fun ds mu1 => CallV c n mu1 (.type id) ds [] P) (hd : (x == ("__debug__" : Str)) = false := by decide) (hst : noStar es = true := by rfl) :
    EvE c n sc m mu (.Call (.Name x p) es [] pos) P :=
  EvE.call (fp := .ty id) (f := .type id) (EvE.builtin hk hg hn hv (fun _ => .ty id) ⟨rfl, fun env A s pos he hA ht S F => wpAny_mono (h env A s pos he hA ht S F) (fun _ _ ⟨ds, mu1, q, x, r⟩ => ⟨ds, mu1, EvK.nil ⟨Keepr.type, q⟩, x, r⟩) fun _ _ x => x⟩ hd) (fun _ _ r => by cases r; rfl) hst rfl

/-! ## methods without keywords -/
theorem EvE.methB {o : PySem.Expr} {name : Str} {es : List PySem.Expr} {apos pos : Pos} {P : PV → Mu → Prop}
    (h : EvE c n sc m mu o fun d mu0 => ∃ id, Meth c mu0 d name (.builtin id) ∧ EvA c n sc m mu0 es fun ds mu1 => CallV c n mu1 (.builtin id) (d :: ds) [] P)
    (hb : ∀ env, attributeBase o name env (eval o env) = eval o env := by intro _; rfl) (hst : noStar es = true := by rfl)
    (hlen : (es.length + ([] : List Keyword).length + (if ([] : List Keyword).isEmpty then 0 else 1) < 30) := by decide) (hline : (apos.endLine == pos.line) = true := by rfl) : EvE c n sc m mu (.Call (.Attribute o name apos) es [] pos) P :=
  EvE.method (h.imp fun d mu0 ⟨id, hm, q⟩ => ⟨.builtin id, hm, fun env A s pos he hA ht S F => wpAny_mono (q env A s pos he hA ht S F) (fun _ _ ⟨ds, mu1, q, x, r⟩ => ⟨ds, mu1, EvK.nil ⟨Keepr.builtin, q⟩, x, r⟩) fun _ _ x => x⟩) hb hst rfl hlen hline

/-! ## statements, in a row -/
def SeqP (c : Cx) (n : Nat) (sc : Scope) (ss : List Stmt) (P : FV → Lm → Mu → Prop) (fl : FV) (m : Lm) (mu : Mu) : Prop := match fl with
  | .next => ExS c n sc m mu ss P
  | fl => P fl m mu
theorem SeqP.next {ss : List Stmt} {P : FV → Lm → Mu → Prop} (h : ExS c n sc m mu ss P) : SeqP c n sc ss P .next m mu := h
theorem SeqP.ret {ss : List Stmt} {P : FV → Lm → Mu → Prop} {d : PV} (h : P (.ret d) m mu) : SeqP c n sc ss P (.ret d) m mu := h
theorem ExS.seq {st : Stmt} {ss : List Stmt} {P : FV → Lm → Mu → Prop} (h : Ex1 c n sc m mu st (SeqP c n sc ss P)) : ExS c n sc m mu (st :: ss) P :=
  ExS.cons (fun env A s he hA ht S F => wpAny_mono (h env A s he hA ht S F) (fun _ _ ⟨fl, m', mu', a, b⟩ => ⟨fl, m', mu', by cases fl <;> exact a, b⟩) fun _ _ x => x)
theorem ExS.asg {t value : PySem.Expr} {pos : Pos} {ss : List Stmt} {P : FV → Lm → Mu → Prop} (h : EvE c n sc m mu value fun d mu1 => AsgT true c n sc m mu1 t d fun m2 mu2 => ExS c n sc m2 mu2 ss P)
    (h1 : ∀ env, env.scope = sc → swapsWithSole [t] value pos.line env = pure false := by intro _ _; rfl) (h2 : ∀ env, swappedStores [t] value env = pure none := by intro _; rfl)
    (h3 : ∀ env, (assignEach [t] env).map (·.2) = [PySem.assign t env] := by intro _; rfl) : ExS c n sc m mu (.Assign [t] value pos :: ss) P := ExS.seq (Ex1.assign h h1 h2 h3)
theorem ExS.if {t : PySem.Expr} {b o : List Stmt} {pos : Pos} {ss : List Stmt} {P : FV → Lm → Mu → Prop} (h : Tst c n sc m mu t fun r mu1 => if r = true then ExS c n sc m mu1 b (SeqP c n sc ss P) else ExS c n sc m mu1 o (SeqP c n sc ss P)) : ExS c n sc m mu (.If t b o pos :: ss) P := ExS.seq (Ex1.if h)
theorem ExS.ret {e : PySem.Expr} {pos : Pos} {ss : List Stmt} {P : FV → Lm → Mu → Prop} (h : EvE c n sc m mu e fun d mu1 => P (.ret d) m mu1) : ExS c n sc m mu (.Return (some e) pos :: ss) P := ExS.seq (Ex1.ret h)
theorem ExS.expr {e : PySem.Expr} {pos : Pos} {ss : List Stmt} {P : FV → Lm → Mu → Prop} (h : EvE c n sc m mu e fun d mu1 => d.isRef = false ∧ ExS c n sc m mu1 ss P)
    (hs : ∀ env, swapsWith e none pos.line env = pure false := by intro _; rfl) : ExS c n sc m mu (.Expr e pos :: ss) P := ExS.seq (Ex1.expr h hs)
theorem ExS.aug {x : Str} {pos' pos : Pos} {op : Operator} {value : PySem.Expr} {a : PV} {ss : List Stmt} {P : FV → Lm → Mu → Prop} (hl : m.lookup x = some a) (hk : kindB true sc x = true)
    (h : EvE c n sc m mu value fun b mu2 => OpI c n mu2 op a b fun d mu3 => ExS c n sc (setL m x d) mu3 ss P) : ExS c n sc m mu (.AugAssign (.Name x pos') op value pos :: ss) P := ExS.seq (Ex1.aug hl hk h)
theorem ExS.for {okT : PySem.Expr → Prop} {target iter : PySem.Expr} {body orelse : List Stmt} {pos : Pos} {ss : List Stmt} {P : FV → Lm → Mu → Prop} (hT : okT target)
    (h : EvE c n sc m mu iter fun d mu1 => ∃ xs src mu2, IterOf c n okT mu1 d xs src mu2 ∧ LoopE c n sc src target body orelse (SeqP c n sc ss P) xs m mu2)
    (hs : ∀ env x, foldedSetIterable iter env x = pure x := by intro _ _; rfl) : ExS c n sc m mu (.For target iter body orelse pos :: ss) P := ExS.seq (Ex1.for hT h hs)

/-! ## chained comparisons of ints in a test -/
theorem Tst.cmp2 {l r1 r2 : PySem.Expr} {op1 op2 : CmpOp} {pos : Pos} {P : Bool → Mu → Prop}
    (h : EvE c n sc m mu l fun a mu1 => EvE c n sc m mu1 r1 fun b mu2 => OpC c n mu2 op1 a b fun d mu3 => OpT c n mu3 d fun t mu4 => if t = true then EvE c n sc m mu4 r2 fun e mu5 => OpC c n mu5 op2 b e fun d2 mu6 => OpT c n mu6 d2 P else P false mu4)
    (hm : lastMarks [op1, op2] [r1, r2] = false := by with_unfolding_all rfl) : Tst c n sc m mu (.Compare l [op1, op2] [r1, r2] pos) P := by
  intro env A s he hA ht S F
  refine isTrue_chain (EvE.bind h he hA ht S F fun va s1 a mu1 h1 x1 t1 S1 F1 ra _ => ?_) hm
  refine test_link (EvE.bind h1 he hA t1 S1 F1 fun vb s2 b mu2 h2 x2 t2 S2 F2 rb k2 => ?_)
  refine post_bind (h2 A s2 va vb hA t2 S2 (ra.mono k2) rb) t2 S2 fun vc s3 d mu3 h3 x3 t3 S3 rc k3 => ?_
  refine postB_bind (h3 A s3 vc hA t3 S3 rc) t3 S3 fun t s4 mu4 h4 x4 t4 S4 k4 => ?_
  cases t with
  | false => exact ⟨mu4, h4, ((x1.trans x2).trans x3).trans x4⟩
  | true =>
    simp only [if_true] at h4 ⊢
    have F4 := (F2.step S2 x3).step S3 x4
    refine test_last (EvE.bind h4 he hA t4 S4 F4 fun ve s5 e mu5 h5 x5 t5 S5 F5 re k5 => ?_)
    refine post_bind (h5 A s5 vb ve hA t5 S5 (((rb.mono k3).mono k4).mono k5) re) t5 S5 fun vd s6 d2 mu6 h6 x6 t6 S6 rd k6 => ?_
    exact wpAny_mono (h6 A s6 vd hA t6 S6 rd) (fun _ _ p => p.after ((((x1.trans x2).trans x3).trans x4).trans (x5.trans x6))) fun _ _ x => x

/-! ## signs of a text -/
theorem seqIndex_nat {i : Int} {k : Nat} (h0 : 0 ≤ i) (h1 : i.toNat < k) : seqIndex? i k = some i.toNat := by
  unfold seqIndex?
  have h2 : i < (k : Int) := by omega
  have h3 : ¬ i < 0 := by omega
  simp only [h3, if_false, h0, h2, decide_true, Bool.and_self, if_true]
theorem OpSub.strN {slice : PySem.Expr} {x : Str} {i : Int} {ch : Nat} {P : PV → Mu → Prop} (h0 : 0 ≤ i) (h1 : i < 2 ^ 62) (hx : x.cps[i.toNat]? = some ch) (h : P (.str ⟨#[ch]⟩) mu)
    (hs : ∀ o i, ∃ ops, subscripted slice false o i = operate ops (getItem o i) := by intro _ _; exact ⟨_, rfl⟩) : OpSub c n mu slice (.str x) (.int i) P :=
  OpSub.of Ty.str F.slot_str_getitem.lookup (OpG.str ⟨by omega, by omega⟩ (by
    have hlt := (Array.getElem?_eq_some_iff.mp hx).1
    rw [seqIndex_nat (k := x.length) h0 hlt]; exact hx) h) hs
end
end Mine

open PySem PySem.W PySem.Calls PyProof.Rows
set_option Elab.async false
set_option linter.unusedVariables false
set_option maxRecDepth 100000
namespace Mine

/-! # texts as lists of numbers -/
abbrev S (l : List Nat) : Str := ⟨l.toArray⟩
theorem S_append (a b : List Nat) : S a ++ S b = S (a ++ b) := by
  show Str.mk (a.toArray ++ b.toArray) = _
  simp
theorem S_length (a : List Nat) : (S a).length = a.length := by simp [Str.length]
theorem S_of (x : Str) : S x.cps.toList = x := by obtain ⟨⟨l⟩⟩ := x; rfl
theorem S_inj {a b : List Nat} : S a = S b ↔ a = b := by
  constructor
  · intro h; have := congrArg (fun x => x.cps.toList) h; simpa using this
  · intro h; rw [h]
theorem S_cps (a : List Nat) : (S a).cps.toList = a := by simp

/-- a backslash ahead of quotation marks and backslashes -/
def escL (l : List Nat) : List Nat := l.flatMap fun ch => if ch = 34 ∨ ch = 92 then [92, ch] else [ch]
theorem escL_append (a b : List Nat) : escL (a ++ b) = escL a ++ escL b := by simp [escL]
theorem escL_nil : escL [] = [] := rfl
theorem escL_cons (a : Nat) (b : List Nat) : escL (a :: b) = (if a = 34 ∨ a = 92 then [92, a] else [a]) ++ escL b := by simp [escL]
theorem escL_length (l : List Nat) : (escL l).length ≤ 2 * l.length := by
  induction l with
  | nil => simp [escL]
  | cons a r ih => rw [escL_cons]; split <;> simp <;> omega

/-- one sign replaced -/
def replL (ch : Nat) (z : List Nat) (l : List Nat) : List Nat := l.flatMap fun k => if k = ch then z else [k]
theorem replL_free (ch : Nat) (z : List Nat) : ∀ l : List Nat, ch ∉ l → replL ch z l = l
  | [], _ => rfl
  | k :: r, h => by
    have h1 : k ≠ ch := fun e => h (e ▸ List.mem_cons_self ..)
    have h2 : ch ∉ r := fun m => h (List.mem_cons_of_mem _ m)
    have ih := replL_free ch z r h2
    unfold replL at ih ⊢
    rw [List.flatMap_cons, ih, if_neg h1]; rfl
theorem replL_join (ch : Nat) (z : List Nat) : ∀ parts : List Str, (∀ p ∈ parts, ch ∉ p.cps.toList) → replL ch z (Str.join ⟨#[ch]⟩ parts).cps.toList = (Str.join (S z) parts).cps.toList
  | [], _ => rfl
  | [p], h => replL_free ch z _ (h p (List.mem_singleton.mpr rfl))
  | p :: q :: r, h => by
    have ih := replL_join ch z (q :: r) fun a ha => h a (List.mem_cons_of_mem _ ha)
    show replL ch z (p ++ ⟨#[ch]⟩ ++ Str.join ⟨#[ch]⟩ (q :: r)).cps.toList = (p ++ S z ++ Str.join (S z) (q :: r)).cps.toList
    simp only [Str.cps_append, Array.toList_append]
    have e : ∀ a b, replL ch z (a ++ b) = replL ch z a ++ replL ch z b := fun a b => by simp [replL]
    rw [e, e, ih, replL_free ch z _ (h p (List.mem_cons_self ..))]
    simp [replL]
theorem replace_list (x : Str) (ch : Nat) (z : List Nat) : Txt.replace x ⟨#[ch]⟩ (S z) = S (replL ch z x.cps.toList) := by
  have h := StrLaws.replace_one x (S z) ch
  have h2 := replL_join ch z _ (StrLaws.split_free x ch)
  rw [StrLaws.join_split] at h2
  rw [h, h2, S_of]
theorem esc_two (l : List Nat) : replL 34 [92, 34] (replL 92 [92, 92] l) = escL l := by
  induction l with
  | nil => rfl
  | cons a r ih =>
    unfold replL escL at *
    rw [List.flatMap_cons, List.flatMap_append, ih, List.flatMap_cons]
    congr 1
    by_cases h1 : a = 92
    · subst h1; simp
    · by_cases h2 : a = 34
      · subst h2; simp
      · simp [h1, h2]

/-! # frames: fewer names -/
def SubL : Lm → Lm → Prop
  | [], _ => True
  | p :: r, m' => m'.lookup p.1 = some p.2 ∧ SubL r m'
theorem SubL.look {m m' : Lm} (h : SubL m m') : ∀ x d, m.lookup x = some d → m'.lookup x = some d := by
  induction m with
  | nil => intro x d e; simp at e
  | cons p r ih =>
    intro x d e
    obtain ⟨y, d'⟩ := p
    rw [List.lookup_cons] at e
    cases hxy : x == y with
    | true => rw [hxy] at e; cases e; rw [beq_iff_eq.mp hxy]; exact h.1
    | false => rw [hxy] at e; exact ih h.2 x d e

section
variable {c : Cx} {n : Nat} {sc : Scope} {m : Lm} {mu : Mu}
theorem AsgT.weak {K : Bool} {m' : Lm} {t : PySem.Expr} {d : PV} {P : Lm → Mu → Prop} (hw : SubL m m') (h : AsgT K c n sc m mu t d P) : AsgT K c n sc m' mu t d P := fun env A s v he hA ht S F r => h env A s v he hA ht S (F.weak hw.look) r
theorem ExS.weakL {m' : Lm} {ss : List Stmt} {P : FV → Lm → Mu → Prop} (hw : SubL m m') (h : ExS c n sc m mu ss P) : ExS c n sc m' mu ss P := ExS.weak hw.look h
end
/-! # outcomes that do not hang on the way -/
section
variable {c : Cx} {n : Nat} {sc : Scope} {m : Lm} {mu : Mu}
theorem Tst.det {e : PySem.Expr} {b : Bool} {P : Bool → Mu → Prop} (h : Tst c n sc m mu e fun r mu1 => r = b ∧ mu1 = mu) (h2 : P b mu) : Tst c n sc m mu e P := fun env A s he hA ht S F =>
  wpAny_mono (h env A s he hA ht S F) (fun r s' ⟨mu1, ⟨e1, e2⟩, x⟩ => by subst e1; subst e2; exact ⟨_, h2, x⟩) fun _ _ x => x
theorem EvJ.lit {x : Str} {k : Nat} {pos : Pos} {es : List PySem.Expr} {acc : Str} {P : PV → Mu → Prop} (hz : acc.length + x.length ≤ sizeLine) (h : EvJ c n sc m mu es (acc ++ x) P) : EvJ c n sc m mu (.Constant (.str x) k pos :: es) acc P :=
  EvJ.cons (EvE.str ⟨_, rfl, hz, h⟩)
theorem EvJ.fmt {e : PySem.Expr} {pos : Pos} {es : List PySem.Expr} {acc : Str} {P : PV → Mu → Prop} (h : EvE c n sc m mu e fun d mu1 => ∃ y, d = .str y ∧ acc.length + y.length ≤ sizeLine ∧ EvJ c n sc m mu1 es (acc ++ y) P) : EvJ c n sc m mu (.FormattedValue e 115 none pos :: es) acc P :=
  EvJ.cons (EvE.fmtS (h.imp fun d mu1 ⟨y, e, hz, h⟩ => ⟨y, e, by omega, y, rfl, hz, h⟩))
end
end Mine

open PySem PySem.W PySem.Calls PyProof.Rows
set_option Elab.async false
set_option linter.unusedVariables false
set_option maxRecDepth 100000
namespace Mine

section
variable {c : Cx} {n : Nat} {sc : Scope} {m : Lm} {mu : Mu}

/-! ## ways that meet again -/
theorem ExS.join {st : Stmt} {ss : List Stmt} {P : FV → Lm → Mu → Prop} {m1 : Lm} {mu1 : Mu} (h : Ex1 c n sc m mu st fun fl m' mu' => fl = .next ∧ mu' = mu1 ∧ SubL m1 m') (h2 : ExS c n sc m1 mu1 ss P) : ExS c n sc m mu (st :: ss) P :=
  ExS.seq fun env A s he hA ht S F => wpAny_mono (h env A s he hA ht S F) (fun _ _ ⟨fl, m', mu', ⟨e1, e2, e3⟩, b⟩ => ⟨fl, m', mu', by subst e1; subst e2; exact ExS.weakL e3 h2, b⟩) fun _ _ x => x

/-! ## comprehensions, item by item -/
theorem CompE.all {src : Mu → Prop} {target elt : PySem.Expr} {ifs : List PySem.Expr} {P : List PV → Mu → Prop} {m0 : Lm} (p : PV → Bool) (g : PV → PV) (hs : src mu) (xs acc : List PV) (m : Lm) (hl : acc.length + xs.length ≤ sizeLine) (hm : SubL m0 m)
    (hstep : ∀ x ∈ xs, AsgT false c n sc m0 mu target x fun m1 mu1 => mu1 = mu ∧ SubL m0 m1 ∧ IfsE c n sc m1 mu ifs fun ok mu2 => ok = p x ∧ mu2 = mu ∧ (p x = true → EvE c n sc m1 mu elt fun d mu3 => d = g x ∧ mu3 = mu))
    (hP : P (acc ++ (xs.filter p).map g) mu) : CompE c n sc src target ifs elt P xs acc m mu := by
  induction xs generalizing acc m with
  | nil => exact ⟨hs, by simpa using hP⟩
  | cons x xs ih0 =>
    refine ⟨hs, by simp at hl; omega, AsgT.weak hm fun env A s v he hA ht S F r => wpAny_mono (hstep x (List.mem_cons_self ..) env A s v he hA ht S F r) (fun _ _ ⟨m1, mu1, ⟨e1, e2, q⟩, b⟩ => ⟨m1, mu1, ?_, b⟩) fun _ _ x => x⟩
    subst e1
    intro env A s he hA ht S F
    refine wpAny_mono (q env A s he hA ht S F) (fun ok _ ⟨mu2, ⟨a1, a2, a3⟩, b⟩ => ⟨mu2, ?_, b⟩) fun _ _ x => x
    subst a2; subst a1
    have ih := fun acc' => ih0 acc' m1
    have hst := fun x hx => hstep x (List.mem_cons_of_mem _ hx)
    cases hp : p x with
    | true =>
      simp only [if_true]
      refine (a3 hp).imp fun d mu' ⟨d1, d2⟩ => ?_
      subst d1; subst d2
      refine ih _ (by simp at hl ⊢; omega) e2 hst ?_
      rw [List.filter_cons_of_pos hp] at hP
      simpa using hP
    | false =>
      simp only [Bool.false_eq_true, if_false]
      refine ih _ (by simp at hl ⊢; omega) e2 hst ?_
      rw [List.filter_cons_of_neg (by simp [hp])] at hP
      exact hP

/-! ## loops, item by item -/
theorem LoopE.from {src : Mu → Prop} {target : PySem.Expr} {body orelse : List Stmt} {P : FV → Lm → Mu → Prop} (Inv : Nat → Lm) (hs : src mu) (xs : List PV) (k : Nat) (m : Lm) (hm : SubL (Inv k) m)
    (hstep : ∀ i x, xs[i]? = some x → AsgT true c n sc (Inv (k + i)) mu target x fun m1 mu1 => ExS c n sc m1 mu1 body fun fl m2 mu2 => (fl = .next ∨ fl = .cont) ∧ mu2 = mu ∧ SubL (Inv (k + i + 1)) m2)
    (hP : ExS c n sc (Inv (k + xs.length)) mu orelse P) : LoopE c n sc src target body orelse P xs m mu := by
  induction xs generalizing k m with
  | nil => exact ⟨hs, ExS.weakL hm hP⟩
  | cons x xs ih0 =>
    refine ⟨hs, AsgT.weak hm fun env A s v he hA ht S F r => wpAny_mono (hstep 0 x rfl env A s v he hA ht S F r) (fun _ _ ⟨m1, mu1, q, b⟩ => ⟨m1, mu1, ?_, b⟩) fun _ _ x => x⟩
    refine ExS.imp q fun fl m2 mu2 ⟨e1, e2, e3⟩ => ?_
    subst e2
    have := ih0 (k + 1) m2 e3 (fun i x hx => by
      have := hstep (i + 1) x (by simpa using hx)
      rwa [show k + (i + 1) = k + 1 + i from by omega] at this) (by rwa [show k + (x :: xs).length = k + 1 + xs.length from by simp; omega] at hP)
    rcases e1 with e | e <;> subst e <;> exact this
theorem LoopE.ind {src : Mu → Prop} {target : PySem.Expr} {body orelse : List Stmt} {P : FV → Lm → Mu → Prop} {xs : List PV} (Inv : Nat → Lm) (hs : src mu) (hm : SubL (Inv 0) m)
    (hstep : ∀ i x, xs[i]? = some x → AsgT true c n sc (Inv i) mu target x fun m1 mu1 => ExS c n sc m1 mu1 body fun fl m2 mu2 => (fl = .next ∨ fl = .cont) ∧ mu2 = mu ∧ SubL (Inv (i + 1)) m2)
    (hP : ExS c n sc (Inv xs.length) mu orelse P) : LoopE c n sc src target body orelse P xs m mu :=
  LoopE.from Inv hs xs 0 m hm (fun i x hx => by rw [Nat.zero_add]; exact hstep i x hx) (by rw [Nat.zero_add]; exact hP)

/-! ## ranges -/
theorem CallV.range3 {a b st : Int} {P : PV → Mu → Prop} (hst : st ≠ 0) (hs : st.natAbs < 1000) (h : ∀ r, mu r = none → P (.ref r) (upd mu r (.rng a b st))) : CallV c n mu (.type "range") [.int a, .int b, .int st] [] P := fun A s vs kvs hA ht S r rk => by
  cases r with | cons r0 r =>
  cases r with | cons r1 r =>
  cases r with | cons r2 r =>
  cases r; cases rk; cases r0; cases r1; cases r2
  refine call_range_3 hst ?_ (Or.inl (PyProof.noPylong_small (by omega)))
  exact ⟨_, _, h _ (S.off (Nat.le_refl _)), Step.pushT S (by exact ⟨_, _, _, Heap.get?_push_size _ rfl⟩), .ref _⟩
theorem fitsLong {a : Int} (h : -1000000000 ≤ a ∧ a ≤ 1000000000) : Builtin.Range.rangeFitsLong a = true := by
  unfold Builtin.Range.rangeFitsLong; simp; omega
theorem small_up {a b : Int} (ha : -1000000 ≤ a ∧ a ≤ 1000000) (hb : -1000000 ≤ b ∧ b ≤ 1000000) : Builtin.Range.small a b 1 = true := by
  unfold Builtin.Range.small
  rw [fitsLong (by omega), fitsLong (by omega), fitsLong (by omega), fitsLong (by
    unfold Builtin.Range.rangeSize; simp only [show (1 : Int) > 0 from by decide, if_true, Int.ediv_one]; split <;> omega)]
  simp [fitsLong (a := b) (by omega)]
theorem small_down {a b : Int} (ha : -1000000 ≤ a ∧ a ≤ 1000000) (hb : -1000000 ≤ b ∧ b ≤ 1000000) : Builtin.Range.small a b (-1) = true := by
  unfold Builtin.Range.small
  rw [fitsLong (by omega), fitsLong (by omega), fitsLong (by omega), fitsLong (by
    unfold Builtin.Range.rangeSize; simp only [show ¬ (-1 : Int) > 0 from by decide, if_false, Int.neg_neg, Int.ediv_one]; split <;> omega)]
  simp [fitsLong (a := b) (by omega)]
theorem rangeL_up {a : Int} {k : Nat} : rangeL a (a + k) 1 = (List.range k).map fun (i : Nat) => PV.int (a + i) := by
  unfold rangeL
  have : (Builtin.Range.rangeSize a (a + k) 1).toNat = k := by
    unfold Builtin.Range.rangeSize; simp only [show (1 : Int) > 0 from by decide, if_true, Int.ediv_one]; split <;> omega
  rw [this]; simp
theorem rangeL_down {a : Int} {k : Nat} : rangeL a (a - k) (-1) = (List.range k).map fun (i : Nat) => PV.int (a - i) := by
  unfold rangeL
  have : (Builtin.Range.rangeSize a (a - k) (-1)).toNat = k := by
    unfold Builtin.Range.rangeSize; simp only [show ¬ (-1 : Int) > 0 from by decide, if_false, Int.neg_neg, Int.ediv_one]; split <;> omega
  rw [this]
  refine List.map_congr_left fun i _ => ?_
  congr 1; omega
theorem get_range {f : Nat → PV} {k i : Nat} {x : PV} (h : ((List.range k).map f)[i]? = some x) : i < k ∧ x = f i := by
  by_cases hi : i < k
  · simp [hi] at h; exact ⟨hi, h.symm⟩
  · simp [hi] at h

/-! ## one sign, many times -/
theorem rangeL_up0 {k : Nat} : rangeL 0 (k : Int) 1 = (List.range k).map fun (i : Nat) => PV.int (i : Int) := by
  have := rangeL_up (a := 0) (k := k)
  rw [Int.zero_add] at this
  rw [this]
  exact List.map_congr_left fun i _ => by rw [Int.zero_add]
theorem contains_one (x : Str) (ch : Nat) : Txt.contains x (S [ch]) = decide (ch ∈ x.cps.toList) := StrLaws.found_one x ch
end
end Mine

open PySem PySem.W PySem.Calls PyProof.Rows
set_option Elab.async false
set_option linter.unusedVariables false
set_option maxRecDepth 100000
namespace Mine
theorem ints_rep {h : Heap} : ∀ {vs : List Value} {ns : List Int}, IntsAre vs ns → Reps h (ns.map .int) vs := by
  intro vs ns hI
  induction ns generalizing vs with
  | nil => cases vs with
    | nil => exact .nil
    | cons v r => cases hI
  | cons a r ih => cases vs with
    | nil => cases hI
    | cons v rs => cases hI with | cons n t hI => exact .cons (.int _ _) (ih hI)
theorem law_close {c : Cx} {claim : ClaimW} {cl : Str → Option Addr} {mean : ExcName → Option Value} {args : List WData} {s : Shared} {fv : Value} {l : Addr} {A : Around} (hb : c.base = s.heap) (hg : s.gens = #[]) (hn : ∀ cls, claim.raises args cls = false) (hp : claim.post args (.bool true) args = true)
    (h : wpAny c.M A (call fv [.ref l]) (Post c (fun _ => none) s fun d _ => d = .bool true) NoE s) :
    wpAny c.M A ((fun f vs => call f vs) fv [.ref l]) (fun v s' => GoodWG claim cl mean args s (.ok (.ret v)) s') (fun e s' => GoodWG claim cl mean args s (.error e) s') s :=
  wpAny_mono h (fun v s' p => law_good hb hg hn hp p) fun _ _ x => x.elim
end Mine

open PySem PySem.W PySem.Calls PyProof.Rows
set_option Elab.async false
set_option linter.unusedVariables false
set_option maxRecDepth 100000
namespace Mine

/-! # while -/
def WhE (c : Cx) (n : Nat) (sc : Scope) (test : PySem.Expr) (body orelse : List Stmt) (P : FV → Lm → Mu → Prop) : Nat → Lm → Mu → Prop
  | 0, _, _ => False
  | k + 1, m, mu => Tst c n sc m mu test fun b mu1 => if b = true then ExS c n sc m mu1 body fun fl m2 mu2 => match fl with
    | .next | .cont => WhE c n sc test body orelse P k m2 mu2
    | .brk => P .next m2 mu2
    | .ret r => P (.ret r) m2 mu2
    else ExS c n sc m mu1 orelse P

section
variable {c : Cx} {n : Nat} {sc : Scope} {m : Lm} {mu : Mu}

theorem Ex1.while {test : PySem.Expr} {body orelse : List Stmt} {pos : Pos} {P : FV → Lm → Mu → Prop} (k : Nat) (h : WhE c n sc test body orelse P k m mu) : Ex1 c n sc m mu (.While test body orelse pos) P := by
  intro env A s0 he hA ht S F
  refine wpAny_While (codeAny_whileLoop (fun k s => ∃ m1 mu1, WhE c n sc test body orelse P k m1 mu1 ∧ Step c (Tch env) mu s0 mu1 s ∧ Fm c mu1 s.heap env m1 ∧ 0 < s.toks) ?_ k ⟨m, mu, h, Step.refl S, F, ht⟩)
  rintro k s ⟨m1, mu1, h1, x1, F1, t1⟩
  cases k with
  | zero => exact h1.elim
  | succ k =>
    refine Tst.bind h1 he hA t1 x1.st F1 (E := _) fun b s2 mu2 h2 x2 t2 S2 F2 _ => ?_
    cases b with
    | false =>
      simp only [Bool.false_eq_true, if_false] at h2 ⊢
      exact wpAny_mono (h2 env A s2 he hA t2 S2 F2) (fun f s3 p => p.after (x1.trans x2.toT)) fun _ _ x => x.elim
    | true =>
      simp only [if_true] at h2 ⊢
      refine wpAny_mono (wpAny_toks (h2 env A s2 he hA t2 S2 F2)) (fun f s3 p => ?_) fun _ _ x => x.2.elim
      obtain ⟨hle, fl, m3, mu3, h3, x3, F3, rf⟩ := p
      have x := (x1.trans x2.toT).trans x3
      cases rf with
      | next => exact ⟨k, Nat.lt_succ_self _, m3, mu3, h3, x, F3, Nat.lt_of_lt_of_le t2 hle⟩
      | cont => exact ⟨k, Nat.lt_succ_self _, m3, mu3, h3, x, F3, Nat.lt_of_lt_of_le t2 hle⟩
      | brk => exact ⟨.next, m3, mu3, h3, x, F3, .next⟩
      | ret r => exact ⟨.ret _, m3, mu3, h3, x, F3, .ret r⟩

theorem ExS.while {test : PySem.Expr} {body orelse : List Stmt} {pos : Pos} {ss : List Stmt} {P : FV → Lm → Mu → Prop} (k : Nat) (h : WhE c n sc test body orelse (SeqP c n sc ss P) k m mu) : ExS c n sc m mu (.While test body orelse pos :: ss) P := ExS.seq (Ex1.while k h)

/-! # slices -/
def EvP (c : Cx) (n : Nat) (sc : Scope) (m : Lm) (mu : Mu) (e : Option PySem.Expr) (P : Option Nat → Mu → Prop) : Prop := match e with
  | none => P none mu
  | some e => EvE c n sc m mu e fun d mu1 => ∃ k : Nat, d = .int (k : Int) ∧ P (some k) mu1
theorem EvP.none {P : Option Nat → Mu → Prop} (h : P .none mu) : EvP c n sc m mu .none P := h
theorem EvP.some {e : PySem.Expr} {P : Option Nat → Mu → Prop} (h : EvE c n sc m mu e fun d mu1 => ∃ k : Nat, d = .int (k : Int) ∧ P (.some k) mu1) : EvP c n sc m mu (.some e) P := h
def pk {α : Type} (l : List α) (lo hi : Option Nat) : List α := (l.take (hi.getD l.length)).drop (lo.getD 0)

theorem EvP.bind {e : Option PySem.Expr} {P : Option Nat → Mu → Prop} (h : EvP c n sc m mu e P) {env : Env} {A : Around} {s : Shared} (he : env.scope = sc) (hA : AOk n A) (ht : 0 < s.toks) (S : St c mu s.heap) (F : Fm c mu s.heap env m)
    {Q : Value → Shared → Prop} {E : Value → Shared → Prop}
    (k : ∀ (o : Option (Int × Tok)) s1 (p : Option Nat) mu1, P p mu1 → o.map (·.1) = Option.map (fun k : Nat => (k : Int)) p → Step c noT mu s mu1 s1 → 0 < s1.toks → St c mu1 s1.heap → Fm c mu1 s1.heap env m → TK s.heap s1.heap → Q (partValue o) s1) : wpAny c.M A (evalPart e env) Q E s := by
  cases e with
  | none => exact wpAny_evalPart_none (k .none s .none mu h rfl (Step.refl S) ht S F (fun _ _ e _ => e))
  | some e =>
    refine wpAny_evalPart_some (EvE.bind h he hA ht S F fun v s1 d mu1 hp x t S1 F1 r tk => ?_)
    obtain ⟨j, rfl, hp⟩ := hp
    cases r with | int _ t => exact k (.some (_, _)) s1 (.some j) mu1 hp rfl x ‹_› S1 F1 tk
theorem slice_pk (l : List Nat) (lo hi : Option Nat) : Txt.slice (S l) (Option.map (fun k : Nat => (k : Int)) lo) (Option.map (fun k : Nat => (k : Int)) hi) = S (pk l lo hi) := by
  obtain ⟨a, ha, ha'⟩ : ∃ a : Nat, a ≤ l.length ∧ (min (lo.getD 0) l.length) = a := ⟨_, Nat.min_le_right .., rfl⟩
  obtain ⟨b, hb, hb'⟩ : ∃ b : Nat, b ≤ l.length ∧ (min (hi.getD l.length) l.length) = b := ⟨_, Nat.min_le_right .., rfl⟩
  have hi' : Builtin.Str.strSliceIndices (Option.map (fun k : Nat => (k : Int)) lo) (Option.map (fun k : Nat => (k : Int)) hi) 1 (S l).length = (List.range (b - a)).map (a + ·) := by
    have : Builtin.Str.strSliceIndices (Option.map (fun k : Nat => (k : Int)) lo) (Option.map (fun k : Nat => (k : Int)) hi) 1 (S l).length = sliceRange (a : Nat) (b : Nat) 1 := by
      rw [S_length]
      unfold Builtin.Str.strSliceIndices
      cases lo <;> cases hi <;> simp only [Option.map_none, Option.map_some, show (1 : Int) > 0 from by decide, if_true, Option.getD_none, Option.getD_some] at ha' hb' ⊢ <;> subst ha' <;> subst hb' <;> congr 1 <;> first | (split <;> omega) | omega
    rw [this, sliceRange_one]
  have hpk : pk l lo hi = (l.drop a).take (b - a) := by
    unfold pk
    generalize hi.getD l.length = q at hb'
    generalize lo.getD 0 = r at ha'
    apply List.ext_getElem?
    intro i
    rw [List.getElem?_drop, List.getElem?_take, List.getElem?_take, List.getElem?_drop]
    split <;> split
    · rw [show r + i = a + i from by omega]
    · exact List.getElem?_eq_none (by omega)
    · omega
    · rfl
  unfold Txt.slice
  rw [hi']
  have hlen : ((List.range (b - a)).map (a + ·)).length = b - a := by simp
  rw [hlen]
  split
  · rename_i h
    have h2 : b - a = l.length := by simpa [S_length] using h
    have : a = 0 ∧ b = l.length := by omega
    rw [hpk, this.1, this.2]; simp
  · rw [hpk]
    congr 1
    have := StrLaws.picks l (b - a) a (by omega)
    simpa using this
theorem EvE.sliceS {value : PySem.Expr} {lower upper : Option PySem.Expr} {p pos : Pos} {P : PV → Mu → Prop}
    (h : EvE c n sc m mu value fun d mu1 => EvP c n sc m mu1 lower fun lo mu2 => EvP c n sc m mu2 upper fun hi mu3 => ∃ l : List Nat, d = .str (S l) ∧ l.length ≤ sizeLine ∧ P (.str (S (pk l lo hi))) mu3)
    (ht : ∀ o r, letTemporaryGo value o r = pure () := by intro _ _; rfl) : EvE c n sc m mu (.Subscript value (.Slice lower upper none p) pos) P := by
  intro env A s he hA htk S F
  refine wpAny_Subscript_str_slice (EvE.bind h he hA htk S F fun v s1 d mu1 h1 x1 t1 S1 F1 r1 _ => ?_) ht
  refine EvP.bind h1 he hA t1 S1 F1 fun o1 s2 lo mu2 h2 e1 x2 t2 S2 F2 k2 => ?_
  refine EvP.bind h2 he hA t2 S2 F2 fun o2 s3 hi mu3 h3 e2 x3 t3 S3 F3 k3 => ?_
  obtain ⟨l, rfl, hl, h3⟩ := h3
  cases r1 with | str _ t =>
  refine ⟨_, t, o1, o2, rfl, rfl, rfl, ?_⟩
  have hp := slice_pk l lo hi
  rw [← e1, ← e2] at hp
  have hlen : (pk l lo hi).length ≤ sizeLine := by
    refine Nat.le_trans ?_ hl
    unfold pk; simp; omega
  have go : ∀ t' k, Post c mu s P (.str (Mine.S (pk l lo hi)) t') { s3 with heap := s3.heap.push { cls := .type "slice", data := .fields #[partValue o1, partValue o2, .none] }, toks := k } := fun t' k =>
    ⟨_, mu3, h3, ((x1.trans x2).trans x3).trans ((Step.pushOff S3).trans (Step.tok (Step.pushOff (T := noT) (s := s3) S3).st)), .str _ _⟩
  rw [← hp] at go
  exact post_val_or_str ⟨by show (Txt.slice _ _ _).length ≤ _; rw [hp, S_length]; exact hlen, go⟩

/-! # slices of lists -/
def ListAt (c : Cx) (mu : Mu) (l : Addr) (xs : List PV) : Prop := mu l = some (.list xs) ∨ BaseList c l xs
theorem ListAt.at {l : Addr} {xs : List PV} (h : ListAt c mu l xs) {hp : Heap} (S : St c mu hp) : ∃ vs, hp.IsList l vs.toArray ∧ Reps hp xs vs := by
  rcases h with h | h
  · obtain ⟨vs, k, e, rs⟩ := S.objs l _ h; exact ⟨vs, ⟨_, e, rfl, k, rfl⟩, rs⟩
  · exact h.at S
theorem part_is {o : Option (Int × Tok)} : IsPart (partValue o) (o.map (·.1)) := by
  cases o with
  | none => exact .none
  | some p => exact .int _ _
theorem pick_pk (vs : List Value) (lo hi : Option Nat) (hh : lo = none ∨ hi = none) : slicePick vs.toArray (Option.map (fun k : Nat => (k : Int)) lo) (Option.map (fun k : Nat => (k : Int)) hi) none = (pk vs lo hi).toArray := by
  cases lo with
  | none => cases hi with
    | none => rw [Option.map_none, slicePick_all]; simp [pk]
    | some b => rw [Option.map_none, Option.map_some, slicePick_upto']; simp [pk]
  | some a => cases hi with
    | none => rw [Option.map_none, Option.map_some, slicePick_from']; simp [pk]
    | some b => rcases hh with h | h <;> cases h
/-! # lists -/
theorem CallV.append {l : Addr} {xs : List PV} {d : PV} {P : PV → Mu → Prop} (hl : mu l = some (.list xs)) (hsz : xs.length ≤ sizeLine) (h : P .none (upd mu l (.list (xs ++ [d])))) : CallV c n mu (.builtin "list.append") [.ref l, d] [] P := fun A s vs kvs hA ht S r rk => by
  cases r with | cons r0 r =>
  cases r with | cons r1 r =>
  cases r; cases rk; cases r0
  rename_i v
  obtain ⟨ws, k, e, rs⟩ := S.objs l _ hl
  refine wpAny_list_append_plain (items := ws.toArray) ⟨k, e⟩ (fun h' hl' hs' => ?_) (by rw [List.size_toArray, rs.length]; exact hsz)
  obtain ⟨k', e'⟩ := hl'
  have tk : TK s.heap h' := fun b o eb hto => hs'.extBut b o (fun q => by subst q; rw [e] at eb; cases eb; exact list_notT hto) eb
  refine ⟨.none, _, h, Step.set (k := s.toks) S (by rw [hl]; simp) hs' ⟨ws ++ [v], k', by rw [e']; simp, (rs.mono tk).append (.cons (r1.mono tk) .nil)⟩, .none⟩
theorem EvE.appendC {o e : PySem.Expr} {apos pos : Pos} {P : PV → Mu → Prop} (h : EvE c n sc m mu o fun d mu0 => ∃ l ys, d = .ref l ∧ mu0 l = some (.list ys) ∧ EvE c n sc m mu0 e fun x mu1 => ∃ xs, mu1 l = some (.list xs) ∧ xs.length ≤ sizeLine ∧ P .none (upd mu1 l (.list (xs ++ [x]))))
    (hb : ∀ env, attributeBase o "append" env (eval o env) = eval o env := by intro _; rfl) (hse : ∀ env, starEach [e] env = (false, eval e env) :: starEach [] env := by intro _; rfl) (hst : noStar [e] = true := by rfl) (hline : (apos.endLine == pos.line) = true := by rfl) : EvE c n sc m mu (.Call (.Attribute o "append" apos) [e] [] pos) P := by
  refine EvE.methB (h.imp fun d mu0 ⟨l, ys, e1, hl, q⟩ => ⟨"list.append", ?_, EvA.cons (q.imp fun x mu1 ⟨xs, h1, h2, h3⟩ => EvA.nil ?_) ?_⟩) hb hst (by simp) hline
  · subst e1; exact Meth.list hl F.slot_list_append F.type_list_append
  · subst e1; exact CallV.append h1 h2 h3
  · exact hse
theorem OpB.addL {l b : Addr} {xs ys : List PV} {P : PV → Mu → Prop} (hl : ListAt c mu l xs) (hb : ListAt c mu b ys) (hsz : xs.length + ys.length ≤ sizeLine) (h : ∀ D, mu D = none → P (.ref D) (upd mu D (.list (xs ++ ys)))) : OpB c n mu .Add (.ref l) (.ref b) P := fun A s va vb hA ht S ra rb => by
  cases ra; cases rb
  obtain ⟨vs, hli, rs⟩ := hl.at S
  obtain ⟨ws, hlb, rb⟩ := hb.at S
  obtain ⟨⟨cls, dd, data, sl⟩, ho, hc, k, hd⟩ := id hli
  obtain ⟨⟨cls2, dd2, data2, sl2⟩, ho2, hc2, k2, hd2⟩ := id hlb
  simp only at hc hd hc2 hd2
  subst hc hd hc2 hd2
  have e : vs.toArray ++ ws.toArray = (vs ++ ws).toArray := by simp
  refine concat_meets ⟨_, ho, rfl⟩ ⟨_, ho2, rfl⟩ noFill_list_add seq_list_add PySem.F.slot_list_add PySem.F.entry_list_add (PySem.F.args_list_add_2 _ _) (list_addW l b vs.toArray ws.toArray k k2 dd dd2 sl sl2 (by simpa [rs.length, rb.length] using hsz)) ⟨ho, ho2, ?_⟩
  rw [e]
  exact ⟨_, _, h _ (S.off (Nat.le_refl _)), Step.pushT S ⟨_, 0, Heap.get?_push_size _ rfl, (rs.append rb).mono fun b o e _ => Heap.get?_push_of_some _ e⟩, .ref _⟩
end
end Mine

open PySem PySem.W PySem.Calls PyProof.Rows
set_option Elab.async false
set_option linter.unusedVariables false
set_option maxRecDepth 100000
namespace Mine
section
variable {c : Cx} {n : Nat} {sc : Scope} {m : Lm} {mu : Mu}

/-! # tuples -/
/-! # equality -/
def atom : PV → Bool
  | .none | .int _ | .str _ => true
  | _ => false
def atomEq : PV → PV → Bool
  | .str x, .str y => decide (x = y)
  | .int a, .int b => decide (a = b)
  | .none, .none => true
  | _, _ => false
open SeqAt in
theorem atom_eqAt {A : Around} {s : Shared} {d e : PV} {v w : Value} (hd : atom d = true) (he : atom e = true) (rd : Rep s.heap d v) (re : Rep s.heap e w) : EqAt A s v w (atomEq d e) := by
  have hs : ∀ a b : Str, (a == b) = decide (a = b) := fun a b => by rw [Bool.eq_iff_iff]; simp
  have hi : ∀ a b : Int, (a == b) = decide (a = b) := fun a b => by rw [Bool.eq_iff_iff]; simp
  cases rd with
  | none => cases re with
    | none => exact EqAt.same _
    | int b u => exact EqAt.none_int b u
    | str b u => exact EqAt.none_str b u
    | _ => exact absurd he (by simp [atom])
  | int a t => cases re with
    | none => exact EqAt.int_none a t
    | int b u => show EqAt A s _ _ (decide (a = b)); rw [← hi]; exact EqAt.int_int a t b u
    | str b u => exact EqAt.int_str a t b u
    | _ => exact absurd he (by simp [atom])
  | str a t => cases re with
    | none => exact EqAt.str_none a t
    | int b u => exact EqAt.str_int a t b u
    | str b u => show EqAt A s _ _ (decide (a = b)); rw [← hs]; exact EqAt.str_str a t b u
    | _ => exact absurd he (by simp [atom])
  | _ => exact absurd hd (by simp [atom])
theorem Reps.get' {h : Heap} {ds : List PV} {vs : List Value} (r : Reps h ds vs) {j : Nat} (hj : j < vs.length) : ∃ d, ds[j]? = some d ∧ Rep h d vs[j] := by
  have hl : j < ds.length := by rw [← r.length]; exact hj
  obtain ⟨v, hv, rv⟩ := r.get (List.getElem?_eq_getElem hl)
  have : vs[j] = v := by rw [List.getElem?_eq_getElem hj] at hv; exact Option.some.inj hv
  exact ⟨_, List.getElem?_eq_getElem hl, this ▸ rv⟩
open SeqAt in
open SeqAt in
theorem any_strs {h : Heap} {x : Str} {u : Tok} {ys : List Str} {vs : List Value} (r : Reps h (ys.map .str) vs) : vs.toArray.any (fun v => match v with | .str y _ => decide (y = x) | _ => false) = ys.any (fun y => decide (y = x)) := by
  induction ys generalizing vs with
  | nil => cases r; simp
  | cons y ys ih =>
    cases r with | cons a r =>
    cases a
    have := ih r
    simp only [List.any_toArray, List.any_cons] at this ⊢
    rw [this]
theorem OpC.notInT {x : Str} {ys : List Str} {P : PV → Mu → Prop} (h : P (.bool (!ys.any fun y => decide (y = x))) mu) : OpC c n mu .NotIn (.str x) (.tuple (ys.map .str)) P := fun A s va vb hA ht S ra rb => by
  cases ra with | str _ u =>
  cases rb with | tuple e2 r2 =>
  rename_i a vs k
  refine SeqAt.notIn_tupleAt (items := vs.toArray) (fun v => match v with | .str y _ => decide (y = x) | _ => false) ⟨_, e2, rfl, _, rfl⟩ (fun v hv => ?_) (Post.pure0 S h ?_)
  · obtain ⟨j, hj, rfl⟩ := List.mem_iff_getElem.mp (List.mem_toArray.mp hv)
    obtain ⟨d, hd, rd⟩ := r2.get' hj
    rw [List.getElem?_map] at hd
    obtain ⟨y, hy, rfl⟩ := Option.map_eq_some_iff.mp hd
    have q := atom_eqAt (A := A.in1) (d := .str y) (e := .str x) rfl rfl rd (.str x u)
    generalize vs[j] = v at rd q
    cases rd
    exact q
  · rw [any_strs (u := u) r2]; exact .bool _
end
end Mine

open PySem PySem.W PySem.Calls PyProof.Rows
set_option Elab.async false
set_option linter.unusedVariables false
set_option maxRecDepth 100000
namespace Mine
section
variable {c : Cx} {n : Nat} {sc : Scope} {m : Lm} {mu : Mu}

theorem WhE.from {test : PySem.Expr} {body orelse : List Stmt} {P : FV → Lm → Mu → Prop} (Inv : Nat → Lm) (Mi : Nat → Mu) (K : Nat)
    (hstep : ∀ i, i < K → Tst c n sc (Inv i) (Mi i) test fun b mu1 => b = true ∧ mu1 = Mi i ∧ ExS c n sc (Inv i) (Mi i) body fun fl m2 mu2 => (fl = .next ∨ fl = .cont) ∧ mu2 = Mi (i + 1) ∧ SubL (Inv (i + 1)) m2)
    (hend : Tst c n sc (Inv K) (Mi K) test fun b mu1 => b = false ∧ mu1 = Mi K) (hP : ExS c n sc (Inv K) (Mi K) orelse P) :
    ∀ (k i : Nat) (m : Lm), i + k = K → SubL (Inv i) m → WhE c n sc test body orelse P (k + 1) m (Mi i)
  | 0, i, m, e, hm => by
    have : i = K := by omega
    subst this
    intro env A s he hA ht S F
    refine wpAny_mono (hend env A s he hA ht S (F.weak hm.look)) (fun b s' ⟨mu1, ⟨e1, e2⟩, x⟩ => ?_) fun _ _ x => x
    subst e1; subst e2
    exact ⟨_, by simp only [Bool.false_eq_true, if_false]; exact ExS.weakL hm hP, x⟩
  | k + 1, i, m, e, hm => by
    intro env A s he hA ht S F
    refine wpAny_mono (hstep i (by omega) env A s he hA ht S (F.weak hm.look)) (fun b s' ⟨mu1, ⟨e1, e2, q⟩, x⟩ => ?_) fun _ _ x => x
    subst e1; subst e2
    refine ⟨_, ?_, x⟩
    simp only [if_true]
    refine ExS.weakL hm (ExS.imp q fun fl m2 mu2 ⟨h1, h2, h3⟩ => ?_)
    subst h2
    have := WhE.from Inv Mi K hstep hend hP k (i + 1) m2 (by omega) h3
    rcases h1 with h | h <;> subst h <;> exact this
theorem WhE.ind {test : PySem.Expr} {body orelse : List Stmt} {P : FV → Lm → Mu → Prop} (Inv : Nat → Lm) (Mi : Nat → Mu) (K : Nat) (hmu : mu = Mi 0) (hm : SubL (Inv 0) m)
    (hstep : ∀ i, i < K → Tst c n sc (Inv i) (Mi i) test fun b mu1 => b = true ∧ mu1 = Mi i ∧ ExS c n sc (Inv i) (Mi i) body fun fl m2 mu2 => (fl = .next ∨ fl = .cont) ∧ mu2 = Mi (i + 1) ∧ SubL (Inv (i + 1)) m2)
    (hend : Tst c n sc (Inv K) (Mi K) test fun b mu1 => b = false ∧ mu1 = Mi K) (hP : ExS c n sc (Inv K) (Mi K) orelse P) : WhE c n sc test body orelse P (K + 1) m mu := by
  rw [hmu]; exact WhE.from Inv Mi K hstep hend hP K 0 m (by omega) hm

/-- two lists that nothing else holds -/
theorem OpB.addTmp {mu0 : Mu} {l b : Addr} {xs ys : List PV} {P : PV → Mu → Prop} (h0 : mu0 l = none) (h1 : upd mu0 l (.list xs) b = none) (hsz : xs.length + ys.length ≤ sizeLine) (h : ∀ D, mu0 D = none → P (.ref D) (upd mu0 D (.list (xs ++ ys)))) : OpB c n (upd (upd mu0 l (.list xs)) b (.list ys)) .Add (.ref l) (.ref b) P := fun A s va vb hA ht S ra rb => by
  have hbl : b ≠ l := fun q => by rw [q] at h1; simp at h1
  have hl : upd (upd mu0 l (.list xs)) b (.list ys) l = some (.list xs) := by rw [upd_ne _ _ (Ne.symm hbl)]; simp
  have hb : upd (upd mu0 l (.list xs)) b (.list ys) b = some (.list ys) := by simp
  have hs1 : Sub mu0 (upd (upd mu0 l (.list xs)) b (.list ys)) := (sub_upd h0).trans (sub_upd h1)
  refine wpAny_mono (OpB.addL (n := n) (P := fun d mu2 => ∃ D, upd (upd mu0 l (.list xs)) b (.list ys) D = none ∧ d = .ref D ∧ mu2 = upd (upd (upd mu0 l (.list xs)) b (.list ys)) D (.list (xs ++ ys))) (.inl hl) (.inl hb) hsz (fun D hD => ⟨D, hD, rfl, rfl⟩) A s va vb hA ht S ra rb) (fun v s' ⟨d, mu2, ⟨D, hD, e1, e2⟩, x, r⟩ => ?_) fun _ _ x => x
  subst e1; subst e2
  have hD0 : mu0 D = none := by
    cases q : mu0 D with
    | none => rfl
    | some z => rw [hs1 D z q] at hD; cases hD
  refine ⟨_, _, h D hD0, x.forget fun a o e => ?_, r⟩
  by_cases hq : a = D
  · subst hq; simp at e ⊢; exact e
  · rw [upd_ne _ _ hq] at e ⊢; exact hs1 a o e
theorem pk_both {α : Type} (l : List α) (a k : Nat) : pk l (some a) (some (a + k)) = (l.drop a).take k := by
  unfold pk
  simp only [Option.getD_some]
  rw [List.drop_take, Nat.add_sub_cancel_left]
theorem pk_to {α : Type} (l : List α) (k : Nat) : pk l none (some k) = l.take k := by simp [pk]
end
end Mine

open PySem PySem.W PySem.Calls PyProof.Rows
set_option Elab.async false
set_option linter.unusedVariables false
set_option maxRecDepth 100000
namespace Mine
section
variable {c : Cx} {n : Nat} {sc : Scope} {m : Lm} {mu : Mu}

/-! # objects of own classes -/
theorem inst_at {x C dx : Addr} {es : List DictEntry} {k : Nat} (hx : mu x = some (.inst C dx)) (hd : mu dx = some (.obj (dictOf es k))) {h : Heap} (S : St c mu h) : PySem.W.InstAt h x (instObj C dx) C (some (dictOf es k)) :=
  ⟨S.objs x _ hx, rfl, rfl, (S.objs dx _ hd).1⟩
theorem Meth.inst {K : Frag} {x C dx f : Addr} {es : List DictEntry} {k : Nat} {name : Str} (hK : K.In c.base) (hx : mu x = some (.inst C dx)) (hd : mu dx = some (.obj (dictOf es k))) (hg : plainGet K C name = true)
    (hf : findIn K (.ref C) name = some (some (.ref f))) (ht : isFn K (.ref f) = true) (hl : getL name es = some none) : Meth c mu (.ref x) name (.ref f) := fun A s v pl Q E S r h => by
  cases r
  exact method_fn (hK.keeps S.base) (inst_at hx hd S) (plainGet_of hg).1 (plainGet_of hg).2 hf (beq_iff_eq.mp ht) (by show (lookIn name (dictOf es k)).map _ = _; rw [lookIn_dict, hl]; rfl) h
theorem EvE.attrOwn {K : Frag} {value : PySem.Expr} {name : Str} {pos : Pos} {P : PV → Mu → Prop} (hK : K.In c.base)
    (h : EvE c n sc m mu value fun d mu1 => ∃ x C dx es k v dv attr, d = .ref x ∧ mu1 x = some (.inst C dx) ∧ mu1 dx = some (.obj (dictOf es k)) ∧ plainGet K C name = true ∧ hasDictIn K C = true ∧ findIn K (.ref C) name = some attr ∧ noGet K attr = true ∧ getL name es = some (some v) ∧ handedIn v = true ∧ (∀ h, Rep h dv v) ∧ P dv mu1)
    (hb : ∀ env, attributeBase value name env (eval value env) = eval value env := by intro _; rfl) (ht : ∀ o r, letTemporaryGo value o r = pure () := by intro _ _; rfl) : EvE c n sc m mu (.Attribute value name pos) P := by
  intro env A s he hA htk S F
  rw [arm_eval_Attribute, hb]
  refine wpAny_bind (EvE.bind h he hA htk S F fun v0 s1 d mu1 h1 x1 t1 S1 F1 r1 _ => ?_)
  obtain ⟨x, C, dx, es, k, v, dv, attr, rfl, hx, hd, hg, hh, ha, hn, hl, hv, hr, hP⟩ := h1
  cases r1
  refine wpAny_bind (wpAny_standAt (wpAny_bind (wpAny_holding ?_)))
  refine get_value (hK.keeps S1.base) (inst_at hx hd S1) (plainGet_of hg).1 (findObj_own hh ha hn hl) hv ?_
  refine wpAny_bind (wpAny_of_eq (ht _ _) (wpAny_pure ?_))
  exact ⟨dv, mu1, hP, x1.trans (Step.tok S1), hr _⟩

/-! # making -/
def CallK (c : Cx) (n : Nat) (mu : Mu) (f : Value) (args : List PV) (kw : List (Str × PV)) (P : PV → Mu → Prop) : Prop :=
  ∀ A s vs kvs, AOk n A → 0 < s.toks → St c mu s.heap → Reps s.heap args vs → RepD s.heap kw kvs →
    codeAny c.M A (.call f ⟨vs, kvs⟩) (fun r s' => match r with | .ok (.ret v) => Post c mu s P v s' | .ok _ => False | .error e => False) s
theorem CallK.fn {a : Addr} {fd : FuncData} {body : List Stmt} {args : List PV} {kw : List (Str × PV)} {P : PV → Mu → Prop} (hf : FnOk c a fd body)
    (h : Binds c mu fd args kw fun binds mu1 => (binds.map (·.1)).Nodup ∧ kindsOk fd.scope.names (binds.map (·.1)) = true ∧ ExS c n fd.scope binds mu1 body fun fl _ mu2 => P (retOf fl) mu2) :
    CallK c (n + 1) mu (.ref a) args kw P := by
  intro A s vs kvs hA ht S r rk
  obtain ⟨o, ho, hd⟩ := hf.obj
  refine codeAny_call_function hA.room (S.base _ _ ho) hd hf.co hf.gen hf.body (hf.code.keeps S.base) ?_
  rw [hf.clos]
  refine wpAny_mono (wpAny_toks (h A.in1 s vs kvs (hA.in1.le (Nat.zero_le _)) S r rk)) (fun bv s1 p => ?_) fun _ _ x => x.2.elim
  obtain ⟨hle, binds, mu1, ⟨hnd, hko, hx⟩, x1, rb⟩ := p
  refine wpAny_with_toks (n := 1) (Nat.lt_of_lt_of_le ht hle) (wpAny_newFunctionEnv_cells hf.kind (fun y hy => ?_) fun env he s2 I ht2 => fn_body hf hA x1 rb hnd hko hx he I ht2)
  have := List.all_eq_true.mp hko y.1 (rb.names ▸ List.mem_map_of_mem hy)
  have q : fd.scope.names.lookup y.1 = some .local ∨ fd.scope.names.lookup y.1 = some .cell := by simpa using this
  exact q.imp id fun q => ⟨q, cellsFrom_has _ _ _ (.inl q)⟩
theorem AOk.typeCall {A : Around} {C : Addr} {rest : List Value} {kw : List (Str × Value)} (h : AOk (n + 1) A) : AOk n (A.under (.builtin "type.__call__" ⟨.ref C :: rest, kw⟩)) := by
  have hw : (Code.builtin "type.__call__" ⟨.ref C :: rest, kw⟩).weight = 1 := by kernel_rfl
  have hu : (Code.builtin "type.__call__" ⟨.ref C :: rest, kw⟩).cUnits = 1 := by kernel_rfl
  refine ⟨h.hd, ?_, ?_⟩
  · show A.depth + (Code.builtin "type.__call__" _).weight + n < _
    have := h.dp; rw [hw]; omega
  · show A.units + (Code.builtin "type.__call__" _).cUnits + 20 * n < _
    have := h.un; rw [hu]; omega
theorem CallV.make {K : Frag} {C fI : Addr} {args : List PV} {kw : List (Str × PV)} {P : PV → Mu → Prop} (hK : K.In c.base) (hm : makesIn K C = true) (hi : findIn K (.ref C) "__init__" = some (some (.ref fI))) (hf : typeIn K (.ref fI) = some (.type "function"))
    (h : ∀ x dx, mu x = none → mu dx = none → x ≠ dx → CallK c n (upd (upd mu dx (.obj (dictOf [] 0))) x (.inst C dx)) (.ref fI) (.ref x :: args) kw fun d mu2 => d = .none ∧ P (.ref x) mu2) : CallV c (n + 1) mu (.ref C) args kw P := by
  intro A s vs kvs hA ht S r rk
  refine wpAny_call ?_
  have X := hK.keeps S.base
  have x1 : Step c noT mu s (upd mu s.heap.objs.size (.obj (dictOf [] 0))) { s with heap := s.heap.push emptyDict } := Step.push S ⟨Heap.get?_push_size _ rfl, by simp [IsT]⟩
  have x2 := Step.push (T := noT) (s := { s with heap := s.heap.push emptyDict }) (o := instObj C s.heap.objs.size) (x := .inst C s.heap.objs.size) x1.st (Heap.get?_push_size _ rfl)
  have hsz : (s.heap.push emptyDict).objs.size = s.heap.objs.size + 1 := Heap.size_push ..
  obtain ⟨hp, g, d, t, os⟩ := s
  simp only at *
  rw [hsz] at x2
  refine make_core (makes_of X hm) (looks_findIn X hi) (fun self => bind_fn X self hf) (.inl rfl) ?_
  have tk : TK hp ((hp.push emptyDict).push (instObj C hp.objs.size)) := fun b o e _ => Heap.get?_push_of_some _ (Heap.get?_push_of_some _ e)
  refine codeAny_mono (h (hp.objs.size + 1) hp.objs.size (S.off (Nat.le_succ _)) (S.off (Nat.le_refl _)) (Nat.ne_of_gt (Nat.lt_succ_self _)) _ ⟨(hp.push emptyDict).push (instObj C hp.objs.size), g, d, t, os⟩ (.ref (hp.objs.size + 1) :: vs) kvs hA.typeCall ht x2.st (.cons (.ref _) (r.mono tk)) (rk.mono tk)) fun r' s' q => ?_
  match r', q with
  | .ok (.ret v), q =>
    obtain ⟨d', mu2, ⟨e1, hP⟩, x3, r3⟩ := q
    subst e1; cases r3
    exact ⟨rfl, _, mu2, hP, (x1.trans x2).trans x3, .ref _⟩

/-! # storing an attribute -/
theorem osa_own {K : Frag} {A : Around} {s : Shared} {x C dx : Addr} {es : List DictEntry} {k : Nat} {name : Str} {tk : Tok} {v : Value} {R : Result → Shared → Prop} (X : K.In s.heap) (I : PySem.W.InstAt s.heap x (instObj C dx) C (some (dictOf es k)))
    (hp : plainOver K C = true) (ht : takerIn K C name = some none) (hh : hasDictIn K C = true) (hl : (getL name es).isSome = true) (hz : (putL name (PyData.keyHash c.w.params name) (.str name s.toks) v es).length ≤ 1000)
    (h : ∀ h', h'.get? dx = some (dictOf (putL name (PyData.keyHash c.w.params name) (.str name s.toks) v es) (putN name es k)) → Heap.SameBut dx s.heap h' → R (.ok (.ret .none)) { s with heap := h', toks := s.toks + 1 }) :
    codeAny c.M A (.call (.builtin "object.__setattr__") ⟨[.ref x, .str name tk, v], []⟩) R s := by
  refine osa_open X I hp ht fun b => ?_
  obtain ⟨cd, hc, hd'⟩ := any_some hh
  have D : s.heap.get? dx = some (dictOf es k) := I.dict
  have hput := putName_dict name (PyData.keyHash c.w.params name) (.str name s.toks) v es k
  have D' : (s.heap.update dx (Obj.putName name (PyData.keyHash c.w.params name) (.str name s.toks) v)).get? dx = some (dictOf (putL name (PyData.keyHash c.w.params name) (.str name s.toks) v es) (putN name es k)) := by
    rw [← hput]
    exact Heap.get?_update_self _ D (by rw [hput]; rfl)
  refine wpAny_bind (wpAny_pure (wpAny_bind (wpAny_bind (wpAny_loadPart I.at_ (wpAny_bind ((looks_clsIn X hc).here ?_))))))
  rw [hd']
  refine wpAny_pure (a := some dx) (wpAny_bind (wpAny_pure (wpAny_bind ?_)))
  unfold nsSet
  refine wpAny_bind (wpAny_bind (wpAny_askSetting (wpAny_pure (wpAny_bind (wpAny_mkText (wpAny_bind (wpAny_loadPart D ?_)))))))
  have cc : (!es.toArray.any (·.key.isStr name) && es.toArray.any (·.refKey)) = false := by
    rw [List.any_toArray, List.any_toArray]
    unfold getL at hl
    split at hl
    · rename_i en he
      rw [List.any_eq_true.mpr ⟨en, List.mem_of_find?_eq_some he, List.find?_some he⟩]; rfl
    · split at hl
      · cases hl
      · rename_i z; rw [Bool.not_eq_true] at z; rw [z, Bool.and_false]
  dsimp only
  rw [aRefKeyMayBeTheName_at, cc]
  refine wpAny_updatePart D ?_
  refine wpAny_bind (wpAny_lookBehind D' (pastItsLine_dict (by rw [List.size_toArray, sizeLine_eq]; omega)) ?_)
  exact wpAny_pure (h _ D' (Heap.SameBut.update ..))
theorem AsgT.attrRef {Kb : Bool} {K : Frag} {o : PySem.Expr} {name : Str} {pos : Pos} {l : Addr} {P : Lm → Mu → Prop} (hK : K.In c.base)
    (h : EvE c n sc m mu o fun dv mu1 => ∃ x C dx es k, dv = .ref x ∧ mu1 x = some (.inst C dx) ∧ mu1 dx = some (.obj (dictOf es k)) ∧ findIn K (.ref C) "__setattr__" = some (some (.builtin "object.__setattr__")) ∧ plainOver K C = true ∧ takerIn K C name = some none ∧ hasDictIn K C = true ∧ (getL name es).isSome = true ∧
      ∀ tok, (putL name (PyData.keyHash c.w.params name) (.str name tok) (.ref l) es).length ≤ 1000 ∧ P m (upd mu1 dx (.obj (dictOf (putL name (PyData.keyHash c.w.params name) (.str name tok) (.ref l) es) (putN name es k))))) : AsgT Kb c n sc m mu (.Attribute o name pos) (.ref l) P := by
  intro env A s v he hA ht S F r
  cases r
  rw [arm_assign_Attribute]
  refine wpAny_bind (wpAny_holding (EvE.bind h he hA ht S F fun v0 s1 d mu1 h1 x1 t1 S1 F1 r1 _ => ?_))
  obtain ⟨x, C, dx, es, k, rfl, hx, hd, hs, hp, htk, hh, hl, hP⟩ := h1
  cases r1
  refine wpAny_bind (wpAny_standAt (wpAny_bind (wpAny_holding ?_)))
  have X := hK.keeps S1.base
  have I := inst_at hx hd S1
  refine set_plain X I hs (osa_own (s := { s1 with toks := s1.toks + 1 }) X I hp htk hh hl (hP _).1 fun h' e' hs' => ?_)
  have x2 : Step c (TchK Kb env) mu1 s1 _ { s1 with heap := h', toks := s1.toks + 1 + 1 } := Step.set (k := s1.toks + 1 + 1) S1 (by rw [hd]; simp) hs' (x := .obj (dictOf (putL name (PyData.keyHash c.w.params name) (.str name (s1.toks + 1)) (.ref l) es) (putN name es k))) ⟨e', by simp [IsT]⟩
  have F2 : Fm c (upd mu1 dx (.obj (dictOf (putL name (PyData.keyHash c.w.params name) (.str name (s1.toks + 1)) (.ref l) es) (putN name es k)))) h' env m := F1.step S1 (s1 := { s1 with heap := h', toks := s1.toks + 1 + 1 }) (Step.set (T := noT) (k := s1.toks + 1 + 1) S1 (by rw [hd]; simp) hs' ⟨e', by simp [IsT]⟩)
  refine wpAny_release ?_
  exact ⟨m, _, (hP _).2, x1.toT.trans x2, F2⟩
end
end Mine

open PySem PySem.W PySem.Calls PyProof.Rows
set_option Elab.async false
set_option linter.unusedVariables false
set_option maxRecDepth 100000
namespace Mine
def isCtl (ch : Nat) : Bool := decide (ch ≤ 31) || decide (ch = 127)
def ctlCode : Array Nat := #[14, 10, 4, 1, 1, 22, 0, 31, 16, 127, 0, 13, 7, 22, 0, 31, 16, 127, 0, 1]
theorem ctl_at (ch : Nat) (seen : Sre.Seen) : Sre.inSet ctlCode ch 20 5 true seen = if (decide (0 ≤ ch) && decide (ch ≤ 31)) = true then .ok (true, seen.add 22) else if (ch == 127) = true then .ok (true, (seen.add 22).add 16) else .ok (false, ((seen.add 22).add 16).add 0) := by rfl
theorem ctl_in (ch : Nat) (seen : Sre.Seen) : Sre.accepts ctlCode 11 ch seen = if (decide (0 ≤ ch) && decide (ch ≤ 31)) = true then .ok (true, seen.add 22) else if (ch == 127) = true then .ok (true, (seen.add 22).add 16) else .ok (false, ((seen.add 22).add 16).add 0) := by rfl
theorem ctl_go (ch : Nat) (seen : Sre.Seen) {r : Except String (Bool × Sre.Seen)} (h : r = if (decide (0 ≤ ch) && decide (ch ≤ 31)) = true then .ok (true, seen.add 22) else if (ch == 127) = true then .ok (true, (seen.add 22).add 16) else .ok (false, ((seen.add 22).add 16).add 0)) : ∃ seen', r = .ok (isCtl ch, seen') := by
  rw [h]
  unfold isCtl
  by_cases h1 : ch ≤ 31
  · simp [h1]
  · by_cases h2 : ch = 127
    · simp [h2]
    · simp [h1, h2]
theorem ctl_set : SetCode ctlCode isCtl where
  head := .inr (by decide +kernel)
  info := by decide +kernel
  info0 := by decide +kernel
  first := fun ch seen => ctl_go ch seen (ctl_at ch seen)
  body := fun ch seen => by
    have e : (Sre.header ctlCode).2 = 11 := by decide +kernel
    rw [e]
    exact ctl_go ch seen (ctl_in ch seen)
  isIn := by decide +kernel
  width := by decide +kernel
  size := by decide +kernel
def isCtlV (ch : Nat) : Bool := decide (ch ≤ 8) || (decide (10 ≤ ch) && decide (ch ≤ 31)) || decide (ch = 127)
def ctlVCode : Array Nat := #[14, 14, 4, 1, 1, 9, 4294966783, 0, 0, 2147483648, 0, 0, 0, 0, 0, 13, 11, 9, 4294966783, 0, 0, 2147483648, 0, 0, 0, 0, 0, 1]
def setBitV (ch : Nat) : Bool := decide (ch < 256) && (ctlVCode.getD (5 + (1 + ch / 32)) 0).testBit (ch % 32)
theorem setBitV_is (ch : Nat) : setBitV ch = isCtlV ch := by
  by_cases h : ch < 256
  · have : ∀ k : Fin 256, setBitV k.1 = isCtlV k.1 := by decide +kernel
    exact this ⟨ch, h⟩
  · have h1 : setBitV ch = false := by unfold setBitV; simp [h]
    have h2 : isCtlV ch = false := by
      unfold isCtlV
      simp only [Bool.or_eq_false_iff, Bool.and_eq_false_iff, decide_eq_false_iff_not]
      omega
    rw [h1, h2]
theorem ctlV_first (ch : Nat) (seen : Sre.Seen) : Sre.inSet ctlVCode ch 28 5 true seen = if setBitV ch = true then .ok (true, seen.add 9) else .ok (false, (seen.add 9).add 0) := by rfl
theorem ctlV_body (ch : Nat) (seen : Sre.Seen) : Sre.accepts ctlVCode 15 ch seen = if (decide (ch < 256) && (ctlVCode.getD (17 + (1 + ch / 32)) 0).testBit (ch % 32)) = true then .ok (true, seen.add 9) else .ok (false, (seen.add 9).add 0) := by rfl
theorem ctlV_set : SetCode ctlVCode isCtlV where
  head := .inl (by decide +kernel)
  info := by decide +kernel
  info0 := by decide +kernel
  first := fun ch seen => by
    rw [← setBitV_is]
    show ∃ seen', Sre.inSet ctlVCode ch 28 5 true seen = _
    rw [ctlV_first]
    cases setBitV ch <;> exact ⟨_, rfl⟩
  body := fun ch seen => by
    rw [← setBitV_is]
    have e : (Sre.header ctlVCode).2 = 15 := by decide +kernel
    rw [e, ctlV_body]
    have e2 : ∀ k, k < 8 → ctlVCode.getD (17 + (1 + k)) 0 = ctlVCode.getD (5 + (1 + k)) 0 := by decide +kernel
    have e3 : (decide (ch < 256) && (ctlVCode.getD (17 + (1 + ch / 32)) 0).testBit (ch % 32)) = setBitV ch := by
      unfold setBitV
      by_cases h : ch < 256
      · rw [e2 (ch / 32) (by omega)]
      · simp [h]
    rw [e3]
    cases setBitV ch <;> exact ⟨_, rfl⟩
  isIn := by decide +kernel
  width := by decide +kernel
  size := by decide +kernel
end Mine

open PySem PySem.W PySem.Calls PyProof.Rows
set_option Elab.async false
set_option linter.unusedVariables false
set_option maxRecDepth 100000
namespace Mine
section
variable {c : Cx} {n : Nat} {sc : Scope} {m : Lm} {mu : Mu}
/-! # types -/
theorem CallV.typeStr {x : Str} {P : PV → Mu → Prop} (h : P (.ty "str") mu) : CallV c n mu (.type "type") [.str x] [] P := fun A s vs kvs hA ht S r rk => by
  cases r with | cons r0 r =>
  cases r; cases rk; cases r0
  exact call_type_of (typeIs_str _ _ _) (by decide) (Post.pure0 S h (.ty _))
theorem CallV.typeList {l : Addr} {xs : List PV} {P : PV → Mu → Prop} (hl : mu l = some (.list xs)) (h : P (.ty "list") mu) : CallV c n mu (.type "type") [.ref l] [] P := fun A s vs kvs hA ht S r rk => by
  cases r with | cons r0 r =>
  cases r; cases rk; cases r0
  obtain ⟨vs, k, e, rs⟩ := S.objs l _ hl
  exact call_type_of ⟨_, e, rfl⟩ (by decide) (Post.pure0 S h (.ty _))
theorem OpC.isTy {a b : String} {P : PV → Mu → Prop} (h : P (.bool (decide (a = b))) mu) : OpC c n mu .Is (.ty a) (.ty b) P := fun A s va vb hA ht S ra rb => by
  cases ra; cases rb
  refine wpAny_is_plain rfl (Post.pure0 S h ?_)
  have : (Value.type a == Value.type b) = decide (a = b) := by
    by_cases h : a = b
    · subst h; simp
    · simp [h]
  rw [this]; exact .bool _
theorem OpC.isNotTy {a b : String} {P : PV → Mu → Prop} (h : P (.bool (decide (a ≠ b))) mu) : OpC c n mu .IsNot (.ty a) (.ty b) P := fun A s va vb hA ht S ra rb => by
  cases ra; cases rb
  refine wpAny_isNot_plain rfl (Post.pure0 S h ?_)
  have : (!(Value.type a == Value.type b)) = decide (a ≠ b) := by
    by_cases h : a = b
    · subst h; simp
    · simp [h]
  rw [this]; exact .bool _
theorem Binds.k21 {fd : FuncData} {x y z : Str} {d e f : PV} {K : List (Str × PV) → Mu → Prop} (hb : ∀ v w u, bindArgs fd ⟨[v, w], [(z, u)]⟩ = pure [(x, v), (y, w), (z, u)]) (h : K [(x, d), (y, e), (z, f)] mu) : Binds c mu fd [d, e] [(z, f)] K := fun A s vs kvs hA S r rk => by
  cases r with | cons r0 r =>
  cases r with | cons r1 r =>
  cases r
  cases rk with | cons r2 rk =>
  cases rk
  rw [hb]; exact wpAny_pure ⟨_, mu, h, Step.refl S, .cons r0 (.cons r1 (.cons r2 .nil))⟩
theorem EvE.debug {pos : Pos} {P : PV → Mu → Prop} (h : P (.bool true) mu) : EvE c n sc m mu (.Name (Str.ofString "__debug__") pos) P := by
  intro env A s he hA ht S F
  show wpAny c.M A (do standAt pos; if (Str.ofString "__debug__" == ("__debug__" : Str)) = true then debugConstant else loadName env (Str.ofString "__debug__")) _ _ s
  rw [if_pos (by decide +kernel)]
  exact wpAny_bind (wpAny_standAt (wpAny_bind (wpAny_rule (wpAny_pure (Post.pure0 S h (.bool true))))))
/-- given arguments and defaults that are constants -/
theorem Binds.dflt {fd : FuncData} {args : List PV} {xs : List (Str × PV)} {T : Addr} {items : Array Value} {k : Nat} {o : Obj} {K : List (Str × PV) → Mu → Prop} (ht : c.base.get? T = some o) (hd : o.data = .seq items k)
    (hb : ∀ (h : Heap) vs, Reps h args vs → ∃ g ys, bindArgs fd ⟨vs, []⟩ = (seqItems? (.ref T) >>= g) ∧ g (some items) = pure ys ∧ RepD h xs ys) (h : K xs mu) : Binds c mu fd args [] K := fun A s vs kvs hA S r rk => by
  cases rk
  obtain ⟨g, ys, e1, e2, r2⟩ := hb s.heap vs r
  rw [e1]
  refine wpAny_bind (wpAny_seqItems (S.base _ _ ht) hd ?_)
  rw [e2]
  exact wpAny_pure ⟨_, mu, h, Step.refl S, r2⟩
/-! # slices of lists that an expression gives -/
theorem sub_slice {M : Model} {A : Around} {E : Value → Shared → Prop} {s : Shared} {env : Env} {value : PySem.Expr} {lower upper : Option PySem.Expr} {p pos : Pos} {T id : String} {Q : Value → Shared → Prop}
    (hgo : ∀ {o r : Value} {s : Shared} {Q : Unit → Shared → Prop}, Q () s → wpAny M A (letTemporaryGo value o r) Q E s)
    (hl : typeLookup (.type T) "__getitem__" = pure (some (.builtin id)))
    (h : wpAny M A (eval value env) (fun o s₁ => wpAny M A (eval (.Slice lower upper none p) env) (fun i s₂ => s₂.TypeIs o T ∧ wpAny M A (getItem o i) Q E s₂) E s₁) E s) :
    wpAny M A (eval (.Subscript value (.Slice lower upper none p) pos) env) Q E s := by
  rw [arm_eval_Subscript]
  refine wpAny_bind (wpAny_mono h (fun o s₁ h₁ => wpAny_bind (wpAny_holding (wpAny_mono h₁ (fun i s₂ h₂ => wpAny_bind (wpAny_standAt ?_)) fun _ _ x => x))) fun _ _ x => x)
  rw [getitemInPython_of_ne h₂.1.not_modules]
  have fin : wpAny M A (operate [i, o] (getItem o i)) (fun r s₃ => wpAny M A (letTemporaryGo value o r >>= fun _ => pure r) Q E s₃) E s₂ :=
    wpAny_operating (wpAny_mono h₂.2 (fun r s₃ h₃ => wpAny_bind (hgo (wpAny_pure h₃))) fun _ _ x => x)
  refine wpAny_bind ?_
  first
    | exact wpAny_bind (wpAny_specialOf h₂.1 hl (wpAny_pure (wpAny_bind fin)))
    | exact wpAny_bind (wpAny_specialOf h₂.1 hl (wpAny_bind (wpAny_pure (wpAny_bind fin))))
    | exact wpAny_bind (wpAny_specialOf h₂.1 hl (wpAny_pure (wpAny_bind fin)))
    | exact wpAny_bind (wpAny_specialOf h₂.1 hl (wpAny_bind fin))
theorem EvE.sliceL2 {value : PySem.Expr} {lower upper : Option PySem.Expr} {p pos : Pos} {P : PV → Mu → Prop}
    (h : EvE c n sc m mu value fun d mu1 => EvP c n sc m mu1 lower fun lo mu2 => EvP c n sc m mu2 upper fun hi mu3 => ∃ l xs, d = .ref l ∧ ListAt c mu3 l xs ∧ (lo = none ∨ hi = none) ∧ xs.length ≤ sizeLine ∧ ∀ D, mu3 D = none → P (.ref D) (upd mu3 D (.list (pk xs lo hi)))) : EvE c n sc m mu (.Subscript value (.Slice lower upper none p) pos) P := by
  intro env A s he hA htk S F
  refine sub_slice (T := "list") wpAny_letTemporaryGo list_getitem_lookup (EvE.bind h he hA htk S F fun v s1 d mu1 h1 x1 t1 S1 F1 r1 _ => ?_)
  refine wpAny_Slice (EvP.bind h1 he hA t1 S1 F1 fun o1 s2 lo mu2 h2 e1 x2 t2 S2 F2 k2 => ?_)
  refine EvP.bind h2 he hA t2 S2 F2 fun o2 s3 hi mu3 h3 e2 x3 t3 S3 F3 k3 => ?_
  obtain ⟨l, xs, rfl, hl, hor, hsz, h3⟩ := h3
  cases r1
  obtain ⟨vs, hli, rs⟩ := hl.at S3
  refine wpAny_evalPart_none ⟨(hli.push _).typeIs, ?_⟩
  refine wpAny_getItem_list_slice (hli.push _) (Heap.IsSliceOf.new ..) part_is part_is .none (by simp) ?_ (by rw [List.size_toArray, rs.length]; exact hsz)
  rw [e1, e2, pick_pk vs lo hi hor, Heap.size_push]
  let sl : Obj := { cls := .type "slice", data := .fields #[partValue o1, partValue o2, .none] }
  have x4 : Step c noT mu3 s3 mu3 { s3 with heap := s3.heap.push sl } := Step.pushOff S3
  have hsz4 : (s3.heap.push sl).objs.size = s3.heap.objs.size + 1 := Heap.size_push ..
  have rs4 : Reps ((s3.heap.push sl).push (listOf (pk vs lo hi).toArray 0)) (pk xs lo hi) (pk vs lo hi) := by
    have : Reps s3.heap (pk xs lo hi) (pk vs lo hi) := by
      unfold pk; rw [rs.length]; exact (rs.take _).drop _
    exact this.mono fun b o e _ => Heap.get?_push_of_some _ (Heap.get?_push_of_some _ e)
  have x5 := Step.push (T := noT) (s := { s3 with heap := s3.heap.push sl }) (o := listOf (pk vs lo hi).toArray 0) (x := .list (pk xs lo hi)) x4.st ⟨_, 0, Heap.get?_push_size _ rfl, rs4⟩
  have hoff : mu3 (s3.heap.objs.size + 1) = none := S3.off (by omega)
  have x5' : Step c noT mu3 { s3 with heap := s3.heap.push sl } (upd mu3 (s3.heap.objs.size + 1) (.list (pk xs lo hi))) { s3 with heap := (s3.heap.push sl).push (listOf (pk vs lo hi).toArray 0) } := by
    rw [← hsz4]; exact x5
  exact ⟨_, _, h3 _ hoff, (((x1.trans x2).trans x3).trans x4).trans x5', .ref _⟩
end
end Mine

open PySem PySem.W PySem.Calls PyProof.Rows
set_option Elab.async false
set_option linter.unusedVariables false
set_option maxRecDepth 100000
namespace Mine
section
variable {c : Cx} {n : Nat} {sc : Scope} {m : Lm} {mu : Mu}

/-! # special methods of own classes -/
structure InstK (c : Cx) (mu : Mu) (K : Frag) (x C f : Addr) (name : Str) : Prop where
  hK : K.In c.base
  inst : ∃ dx es k, mu x = some (.inst C dx) ∧ mu dx = some (.obj (dictOf es k))
  find : findIn K (.ref C) name = some (some (.ref f))
  fn : isFn K (.ref f) = true
/-! # l[:] = .. -/
end
end Mine

open PySem PySem.W PySem.Calls PyProof.Rows
set_option Elab.async false
set_option linter.unusedVariables false
set_option maxRecDepth 100000
namespace Mine
/-! # enumerate over a list that only it sees -/
def tupT (t : PySem.Expr) : Prop := ∃ elts k pos, t = .Tuple elts k pos
theorem tupT.mk {elts : List PySem.Expr} {k : Nat} {pos : Pos} : tupT (.Tuple elts k pos) := ⟨_, _, _, rfl⟩
section
variable {c : Cx} {n : Nat} {sc : Scope} {m : Lm} {mu : Mu}
end
end Mine

open PySem PySem.W PySem.Calls PyProof.Rows
set_option Elab.async false
set_option linter.unusedVariables false
set_option maxRecDepth 100000
namespace Mine
/-! # values as data; equality -/
mutual
def IsD (c : Cx) (mu : Mu) : PyData → PV → Prop
  | .none, d => d = .none
  | .bool b, d => d = .bool b
  | .int i, d => d = .int i
  | .str x, d => d = .str x
  | .tuple xs, d => ∃ ds, d = .tuple ds ∧ IsDs c mu xs ds
  | .list xs, d => ∃ l ds, d = .ref l ∧ ListAt c mu l ds ∧ IsDs c mu xs ds
  | .dict _, _ => False
def IsDs (c : Cx) (mu : Mu) : List PyData → List PV → Prop
  | [], ds => ds = []
  | x :: xs, ds => ∃ d r, ds = d :: r ∧ IsD c mu x d ∧ IsDs c mu xs r
end
section
variable {c : Cx} {n : Nat} {sc : Scope} {m : Lm} {mu : Mu}
mutual
theorem IsD.reads {h : Heap} (S : St c mu h) : ∀ (D : PyData) {d : PV} {v : Value}, IsD c mu D d → Rep h d v → ∃ as, Reads h v D as
  | .none, d, v, q, r => by rw [IsD] at q; subst q; cases r; exact ⟨_, .none⟩
  | .bool b, d, v, q, r => by rw [IsD] at q; subst q; cases r; exact ⟨_, .bool _⟩
  | .int i, d, v, q, r => by rw [IsD] at q; subst q; cases r; exact ⟨_, .int _ _⟩
  | .str x, d, v, q, r => by rw [IsD] at q; subst q; cases r; exact ⟨_, .str _ _⟩
  | .tuple xs, d, v, q, r => by
    rw [IsD] at q
    obtain ⟨ds, rfl, hx⟩ := q
    cases r with
    | tuple e rs =>
      obtain ⟨as, ra⟩ := IsDs.reads S xs hx rs
      exact ⟨as, .tuple e rfl rfl (by simpa using ra)⟩
  | .list xs, d, v, q, r => by
    rw [IsD] at q
    obtain ⟨l, ds, rfl, hl, hx⟩ := q
    cases r
    obtain ⟨vs, ⟨o, ho, hc, k, hd⟩, rs⟩ := hl.at S
    obtain ⟨as, ra⟩ := IsDs.reads S xs hx rs
    exact ⟨_, .list ho hc hd (by simpa using ra)⟩
  | .dict _, d, v, q, r => by rw [IsD] at q; exact q.elim
theorem IsDs.reads {h : Heap} (S : St c mu h) : ∀ (xs : List PyData) {ds : List PV} {vs : List Value}, IsDs c mu xs ds → Reps h ds vs → ∃ as, ReadsAll h vs xs as
  | [], ds, vs, q, r => by rw [IsDs] at q; subst q; cases r; exact ⟨_, .nil⟩
  | x :: xs, ds, vs, q, r => by
    rw [IsDs] at q
    obtain ⟨d, r', rfl, hd, hr⟩ := q
    cases r with
    | cons r0 rs =>
      obtain ⟨as, ra⟩ := IsD.reads S x hd r0
      obtain ⟨bs, rb⟩ := IsDs.reads S xs hr rs
      exact ⟨_, .cons ra rb⟩
end
theorem IsDs.map {α : Type} {f : α → PyData} {g : α → PV} : ∀ (l : List α), (∀ x ∈ l, IsD c mu (f x) (g x)) → IsDs c mu (l.map f) (l.map g)
  | [], _ => by simp [IsDs]
  | x :: l, h => by
    rw [List.map_cons, List.map_cons, IsDs]
    exact ⟨_, _, rfl, h x (List.mem_cons_self ..), IsDs.map l fun y hy => h y (List.mem_cons_of_mem _ hy)⟩
theorem canLayAll0_map {α : Type} {f : α → PyData} : ∀ (l : List α), (∀ x ∈ l, (f x).canLay0 = true) → PyData.canLayAll0 (l.map f) = true
  | [], _ => by simp [PyData.canLayAll0]
  | x :: l, h => by
    rw [List.map_cons, PyData.canLayAll0, h x (List.mem_cons_self ..), canLayAll0_map l fun y hy => h y (List.mem_cons_of_mem _ hy)]; rfl
theorem depthAll_map {α : Type} {f : α → PyData} {k : Nat} : ∀ (l : List α), (∀ x ∈ l, (f x).depth ≤ k) → PyData.depthAll (l.map f) ≤ k
  | [], _ => by simp [PyData.depthAll]
  | x :: l, h => by
    rw [List.map_cons, PyData.depthAll]
    have h1 := h x (List.mem_cons_self ..)
    have h2 := depthAll_map l fun y hy => h y (List.mem_cons_of_mem _ hy)
    omega
theorem OpC.eqG {a b : PV} {D D' : PyData} {P : PV → Mu → Prop} (ha : IsD c mu D a) (hb : IsD c mu D' b) (hc : D.canLay0 = true) (hc' : D'.canLay0 = true) (hn : 1 ≤ n) (hdp : D.depth ≤ 19) (h : P (.bool (PyData.eqv D D')) mu) : OpC c n mu .Eq a b P := fun A s va vb hA ht S ra rb => by
  obtain ⟨as, r1⟩ := IsD.reads S D ha ra
  obtain ⟨bs, r2⟩ := IsD.reads S D' hb rb
  exact SeqAt.compareEq_reads r1 r2 hc hc' (by have := hA.un; omega) (Post.pure0 S h (.bool _))
theorem OpC.neG {a b : PV} {D D' : PyData} {P : PV → Mu → Prop} (ha : IsD c mu D a) (hb : IsD c mu D' b) (hc : D.canLay0 = true) (hc' : D'.canLay0 = true) (hn : 1 ≤ n) (hdp : D.depth ≤ 19) (h : P (.bool (!PyData.eqv D D')) mu) : OpC c n mu .NotEq a b P := fun A s va vb hA ht S ra rb => by
  obtain ⟨as, r1⟩ := IsD.reads S D ha ra
  obtain ⟨bs, r2⟩ := IsD.reads S D' hb rb
  exact SeqAt.compareNe_reads r1 r2 hc hc' (by have := hA.un; omega) (Post.pure0 S h (.bool _))
theorem OpC.neD {a b : PV} {D : PyData} {P : PV → Mu → Prop} (ha : IsD c mu D a) (hb : IsD c mu D b) (hc : D.canLay0 = true) (hn : 1 ≤ n) (hdp : D.depth ≤ 19) (h : P (.bool false) mu) : OpC c n mu .NotEq a b P :=
  OpC.neG ha hb hc hc hn hdp (by rw [SeqAt.eqv_refl D hc]; exact h)
/-! # membership in a list of texts -/
end
end Mine

open PySem PySem.W PySem.Calls PyProof.Rows
set_option Elab.async false
set_option linter.unusedVariables false
set_option maxRecDepth 100000
namespace Mine
/-! # texts of numbers -/
def dig (i : Nat) : List Nat := (Str.ofString (toString (i : Int))).cps.toList
theorem S_dig (i : Nat) : Str.ofString (toString (i : Int)) = S (dig i) := (S_of _).symm
def lowL (v : List Nat) : List Nat := v.map lo1
theorem S_lower {v : List Nat} (h : ∀ ch ∈ v, ch < 128) : Txt.lower (S v) = S (lowL v) := by
  rw [lower_ascii (by simpa using h)]
  show Str.mk (v.toArray.map lo1) = _
  simp [lowL]
section
variable {c : Cx} {n : Nat} {sc : Scope} {m : Lm} {mu : Mu}
theorem CallV.strInt {i : Nat} {P : PV → Mu → Prop} (hi : i < 1000000) (h : P (.str (S (dig i))) mu) : CallV c n mu (.type "str") [.int (i : Int)] [] P := fun A s vs kvs hA ht S r rk => by
  cases r with | cons r0 r =>
  cases r; cases rk; cases r0
  refine _root_.PySem.P.str_of_int ?_ (Post.pure (s := s) S h ?_)
  · have : (Int.natAbs (i : Int)) = i := by omega
    rw [this]
    by_cases h0 : i = 0
    · subst h0; decide
    · exact (Nat.log2_lt h0).mpr (Nat.lt_of_lt_of_le hi (by decide))
  · rw [S_dig]; exact .str _ _
theorem CallV.lower {v : List Nat} {P : PV → Mu → Prop} (hv : ∀ ch ∈ v, ch < 128) (hl : v.length ≤ 1000000) (h : P (.str (S (lowL v))) mu) : CallV c n mu (.builtin "str.lower") [.str (S v)] [] P := fun A s vs kvs hA ht S r rk => by
  cases r with | cons r0 r =>
  cases r; cases rk; cases r0
  refine SCL.lower (by rw [S_length]; omega) fun _ => Post.pure (s := s) S h ?_
  rw [S_lower hv]; exact .str _ _
/-! # lists -/
end
end Mine

open PySem PySem.W PySem.Calls PyProof.Rows
set_option Elab.async false
set_option linter.unusedVariables false
set_option maxRecDepth 100000
namespace Mine
section
variable {c : Cx} {n : Nat} {sc : Scope} {m : Lm} {mu : Mu}
/-! # subscripts -/
theorem OpSub.tupN {slice : PySem.Expr} {ds : List PV} {i : Int} {d : PV} {P : PV → Mu → Prop} (h0 : 0 ≤ i) (h1 : i < 2 ^ 62) (hx : ds[i.toNat]? = some d) (h : P d mu)
    (hs : ∀ o i, ∃ ops, subscripted slice false o i = operate ops (getItem o i) := by intro _ _; exact ⟨_, rfl⟩) : OpSub c n mu slice (.tuple ds) (.int i) P :=
  OpSub.of Ty.tuple F.slot_tuple_getitem.lookup (fun A s va vi hA ht S ra ri => by
    cases ri
    cases ra with
    | tuple e rs =>
      obtain ⟨v, hv, rv⟩ := rs.get hx
      have hlt := (List.getElem?_eq_some_iff.mp hv).1
      refine PyProof.Rows.getItem_tuple (j := i.toNat) (x := v) ⟨_, e, rfl, _, rfl⟩ ?_ ?_ ?_ ?_ ?_
      all_goals first | omega | (simpa using hv) | (rw [List.size_toArray, seqIndex_nat h0 hlt]) | exact Post.pure0 S h rv | decide) hs
theorem Ty.listAt {l : Addr} {xs : List PV} (hl : ListAt c mu l xs) : Ty c mu (.ref l) "list" := by
  rcases hl with h | h
  · exact Ty.list h
  · exact Ty.baseList h
theorem OpSub.listN {slice : PySem.Expr} {l : Addr} {xs : List PV} {i : Int} {d : PV} {P : PV → Mu → Prop} (hl : ListAt c mu l xs) (h0 : 0 ≤ i) (h1 : i < 2 ^ 62) (hx : xs[i.toNat]? = some d) (h : P d mu)
    (hs : ∀ o i, ∃ ops, subscripted slice false o i = operate ops (getItem o i) := by intro _ _; exact ⟨_, rfl⟩) : OpSub c n mu slice (.ref l) (.int i) P :=
  OpSub.of (Ty.listAt hl) F.slot_list_getitem.lookup (by
    rcases hl with q | q
    · exact OpG.list q h0 (by omega) hx h
    · exact OpG.base q h0 (by omega) hx h) hs
/-! # loops with a told invariant -/
theorem LoopE.invFrom {src : Mu → Prop} {target : PySem.Expr} {body orelse : List Stmt} {P : FV → Lm → Mu → Prop} (I : Nat → Lm → Mu → Prop) (hs : ∀ i m mu, I i m mu → src mu) (xs : List PV) (k : Nat) (m : Lm) (mu : Mu) (h0 : I k m mu)
    (hstep : ∀ i x m mu, xs[i]? = some x → I (k + i) m mu → AsgT true c n sc m mu target x fun m1 mu1 => ExS c n sc m1 mu1 body fun fl m2 mu2 => match fl with
      | .next | .cont => I (k + i + 1) m2 mu2
      | .brk => P .next m2 mu2
      | .ret r => P (.ret r) m2 mu2)
    (hP : ∀ m mu, I (k + xs.length) m mu → ExS c n sc m mu orelse P) : LoopE c n sc src target body orelse P xs m mu := by
  induction xs generalizing k m mu with
  | nil => exact ⟨hs _ _ _ h0, hP m mu h0⟩
  | cons x xs ih0 =>
    refine ⟨hs _ _ _ h0, fun env A s v he hA ht S F r => wpAny_mono (hstep 0 x m mu rfl h0 env A s v he hA ht S F r) (fun _ _ ⟨m1, mu1, q, b⟩ => ⟨m1, mu1, ?_, b⟩) fun _ _ x => x⟩
    refine ExS.imp q fun fl m2 mu2 q => ?_
    have nx : I (k + 1) m2 mu2 → LoopE c n sc src target body orelse P xs m2 mu2 := fun hI => ih0 (k + 1) m2 mu2 hI (fun i x m mu hx hi => by
      have := hstep (i + 1) x m mu (by simpa using hx) (by rwa [show k + (i + 1) = k + 1 + i from by omega])
      rwa [show k + (i + 1) = k + 1 + i from by omega] at this) (fun m mu hi => hP m mu (by rwa [show k + (x :: xs).length = k + 1 + xs.length from by simp; omega]))
    cases fl with
    | next => exact nx q
    | cont => exact nx q
    | brk => exact q
    | ret r => exact q
theorem LoopE.inv {src : Mu → Prop} {target : PySem.Expr} {body orelse : List Stmt} {P : FV → Lm → Mu → Prop} {xs : List PV} (I : Nat → Lm → Mu → Prop) (hs : ∀ i m mu, I i m mu → src mu) (h0 : I 0 m mu)
    (hstep : ∀ i x m mu, xs[i]? = some x → I i m mu → AsgT true c n sc m mu target x fun m1 mu1 => ExS c n sc m1 mu1 body fun fl m2 mu2 => match fl with
      | .next | .cont => I (i + 1) m2 mu2
      | .brk => P .next m2 mu2
      | .ret r => P (.ret r) m2 mu2)
    (hP : ∀ m mu, I xs.length m mu → ExS c n sc m mu orelse P) : LoopE c n sc src target body orelse P xs m mu :=
  LoopE.invFrom I hs xs 0 m mu h0 (fun i x m mu hx hi => by rw [Nat.zero_add] at hi ⊢; exact hstep i x m mu hx hi) (fun m mu hi => hP m mu (by rwa [Nat.zero_add] at hi))
/-- what follows a statement, told by an invariant -/
theorem ExS.mid {st : Stmt} {ss : List Stmt} {P : FV → Lm → Mu → Prop} (I : Lm → Mu → Prop) (h : Ex1 c n sc m mu st fun fl m' mu' => fl = .next ∧ I m' mu') (h2 : ∀ m' mu', I m' mu' → ExS c n sc m' mu' ss P) : ExS c n sc m mu (st :: ss) P :=
  ExS.seq fun env A s he hA ht S F => wpAny_mono (h env A s he hA ht S F) (fun _ _ ⟨fl, m', mu', ⟨e1, e2⟩, b⟩ => ⟨fl, m', mu', by subst e1; exact h2 m' mu' e2, b⟩) fun _ _ x => x

/-! # tables -/
def okN (k : List Nat) : Bool := k.all (fun ch => decide (32 ≤ ch) && decide (ch < 127)) && decide (k.length ≤ 100000)
def okV (v : List Nat) : Bool := !v.any isCtlV && v.all (fun ch => decide (ch < 1114112)) && decide (v.length ≤ 100000)
abbrev Row := List Nat × List Nat
def okR (x : Row) : Bool := okN x.1 && okV x.2
theorem okN.asc {k : List Nat} (h : okN k = true) : ∀ ch ∈ k, ch < 128 := fun ch hc => by
  unfold okN at h
  simp only [Bool.and_eq_true, List.all_eq_true, decide_eq_true_eq] at h
  have := (h.1 ch hc).2; omega
theorem okN.len {k : List Nat} (h : okN k = true) : k.length ≤ 100000 := by
  unfold okN at h; simp only [Bool.and_eq_true, decide_eq_true_eq] at h; exact h.2
theorem okN.ctl {k : List Nat} (h : okN k = true) : k.any isCtl = false := by
  unfold okN at h
  simp only [Bool.and_eq_true, List.all_eq_true, decide_eq_true_eq] at h
  rw [List.any_eq_false]
  intro ch hc
  have := h.1 ch hc
  simp only [isCtl, Bool.or_eq_true, decide_eq_true_eq]; omega
theorem lo1_rng {ch : Nat} (h : 32 ≤ ch ∧ ch < 127) : 32 ≤ lo1 ch ∧ lo1 ch < 127 := by unfold lo1; split <;> omega
theorem okN.low {k : List Nat} (h : okN k = true) : okN (lowL k) = true := by
  unfold okN lowL at *
  simp only [Bool.and_eq_true, List.all_eq_true, decide_eq_true_eq, List.length_map, List.mem_map] at *
  refine ⟨?_, h.2⟩
  rintro ch ⟨y, hy, rfl⟩
  exact lo1_rng (h.1 y hy)
theorem okV.ctl {v : List Nat} (h : okV v = true) : v.any isCtlV = false := by
  unfold okV at h; simp only [Bool.and_eq_true, Bool.not_eq_true'] at h; exact h.1.1
theorem okV.uni {v : List Nat} (h : okV v = true) : ∀ ch ∈ v, ch < 1114112 := by
  unfold okV at h; simp only [Bool.and_eq_true, List.all_eq_true, decide_eq_true_eq] at h; exact h.1.2
theorem okV.len {v : List Nat} (h : okV v = true) : v.length ≤ 100000 := by
  unfold okV at h; simp only [Bool.and_eq_true, decide_eq_true_eq] at h; exact h.2
theorem okR.nm {x : Row} (h : okR x = true) : okN x.1 = true := by unfold okR at h; simp only [Bool.and_eq_true] at h; exact h.1
theorem okR.vl {x : Row} (h : okR x = true) : okV x.2 = true := by unfold okR at h; simp only [Bool.and_eq_true] at h; exact h.2
abbrev hdDict (c : Cx) (tok : Tok) (l : Addr) : AO := .obj (dictOf [⟨PyData.keyHash c.w.params (Str.ofString "_headers"), .str (Str.ofString "_headers") tok, .ref l⟩] 1)
def pairPV (x : Row) : PV := .tuple [.str (S x.1), .str (S x.2)]
/-- same name -/
def eqN (a b : List Nat) : Bool := decide (lowL a = lowL b)
def getR (kvs : List Row) (name : List Nat) : Option (List Nat) := (kvs.find? fun x => eqN x.1 name).map (·.2)
structure Hd (c : Cx) (C : Addr) (mu : Mu) (x l : Addr) (kvs : List Row) : Prop where
  inst : ∃ dx tok, mu x = some (.inst C dx) ∧ mu dx = some (hdDict c tok l)
  list : mu l = some (.list (kvs.map pairPV))
  ok : kvs.all okR = true
  len : kvs.length ≤ 10000
theorem Hd.row {C x l : Addr} {kvs : List Row} (h : Hd c C mu x l kvs) {r : Row} (hr : r ∈ kvs) : okR r = true := List.all_eq_true.mp h.ok r hr
theorem Hd.fresh {C x l D : Addr} {kvs : List Row} {o : AO} (h : Hd c C mu x l kvs) (hD : mu D = none) : Hd c C (upd mu D o) x l kvs := by
  obtain ⟨dx, tok, h1, h2⟩ := h.inst
  have h3 := h.list
  refine ⟨⟨dx, tok, ?_, ?_⟩, ?_, h.ok, h.len⟩
  · rw [upd_ne _ _ (fun q => by subst q; rw [h1] at hD; cases hD)]; exact h1
  · rw [upd_ne _ _ (fun q => by subst q; rw [h2] at hD; cases hD)]; exact h2
  · rw [upd_ne _ _ (fun q => by subst q; rw [h3] at hD; cases hD)]; exact h3
theorem Hd.set {C x l : Addr} {kvs kvs' : List Row} (h : Hd c C mu x l kvs) (hok : kvs'.all okR = true) (hlen : kvs'.length ≤ 10000) : Hd c C (upd mu l (.list (kvs'.map pairPV))) x l kvs' := by
  obtain ⟨dx, tok, h1, h2⟩ := h.inst
  have h3 := h.list
  refine ⟨⟨dx, tok, ?_, ?_⟩, by simp, hok, hlen⟩
  · rw [upd_ne _ _ (fun q => by subst q; rw [h1] at h3; cases h3)]; exact h1
  · rw [upd_ne _ _ (fun q => by subst q; rw [h2] at h3; cases h3)]; exact h2
structure HK (K : Frag) (C : Addr) : Prop where
  get : plainGet K C "_headers" = true
  dict : hasDictIn K C = true
  find : findIn K (.ref C) "_headers" = some none
theorem EvE.hdr {K : Frag} {C : Addr} {value : PySem.Expr} {pos : Pos} {P : PV → Mu → Prop} (hK : K.In c.base) (k : HK K C)
    (h : EvE c n sc m mu value fun d mu1 => ∃ x l kvs, d = .ref x ∧ Hd c C mu1 x l kvs ∧ P (.ref l) mu1)
    (hb : ∀ env, attributeBase value "_headers" env (eval value env) = eval value env := by intro _; rfl) (ht : ∀ o r, letTemporaryGo value o r = pure () := by intro _ _; rfl) : EvE c n sc m mu (.Attribute value "_headers" pos) P :=
  EvE.attrOwn hK (h.imp fun d mu1 ⟨x, l, kvs, e, H, hP⟩ => by
    obtain ⟨dx, tok, h1, h2⟩ := H.inst
    exact ⟨x, C, dx, _, _, .ref l, .ref l, none, e, h1, h2, k.get, k.dict, k.find, by rfl, by with_unfolding_all rfl, by rfl, fun _ => .ref l, hP⟩) hb ht
theorem Meth.hd {K : Frag} {C x l f : Addr} {kvs : List Row} {name : Str} (hK : K.In c.base) (H : Hd c C mu x l kvs) (hg : plainGet K C name = true)
    (hf : findIn K (.ref C) name = some (some (.ref f))) (ht : isFn K (.ref f) = true) (hl : ("_headers" : Str) ≠ name) : Meth c mu (.ref x) name (.ref f) := by
  obtain ⟨dx, tok, h1, h2⟩ := H.inst
  refine Meth.inst hK h1 h2 hg hf ht ?_
  have : ((Str.ofString "_headers") == name) = false := beq_eq_false_iff_ne.mpr hl
  simp [getL, Value.isStr, this]
  rfl
end
end Mine
namespace Mine
section
variable {c : Cx} {n : Nat} {sc : Scope} {m : Lm} {mu : Mu}
end
end Mine
namespace Mine
section
variable {c : Cx} {n : Nat} {sc : Scope} {m : Lm} {mu : Mu}
theorem Keepr.cls {K : Frag} {C : Addr} {o : Obj} {cd : ClassData} {r : Option Value} (hK : K.In c.base) (ho : c.base.get? C = some o) (hd : o.data = .cls cd) (e : specialIn K (.ref C) "__call__" = some r) : Keepr c mu (.ref C) := fun A s Q E S h => by
  unfold keeperOf
  refine wpAny_bind (wpAny_load (S.base _ _ ho) ?_)
  rw [hd]
  exact wpAny_bind ((looks_specialIn (hK.keeps S.base) e).here (wpAny_pure (h _)))
end
end Mine

open PySem PySem.W PySem.Calls PyProof.Rows
set_option Elab.async false
set_option linter.unusedVariables false
namespace Mine
section
variable {c : Cx} {n : Nat} {sc : Scope} {m : Lm} {mu : Mu}
theorem WhE.inv {test : PySem.Expr} {body orelse : List Stmt} {P : FV → Lm → Mu → Prop} (I : Nat → Lm → Mu → Prop)
    (hstep : ∀ f m mu, I f m mu → Tst c n sc m mu test fun b mu1 => if b = true then ∃ f', f = f' + 1 ∧ ExS c n sc m mu1 body fun fl m2 mu2 => match fl with
      | .next | .cont => I f' m2 mu2
      | .brk => P .next m2 mu2
      | .ret r => P (.ret r) m2 mu2
      else ExS c n sc m mu1 orelse P) (f : Nat) (h0 : I f m mu) : WhE c n sc test body orelse P (f + 1) m mu := by
  induction f generalizing m mu with
  | zero =>
    refine fun env A s he hA ht S F => wpAny_mono (hstep 0 m mu h0 env A s he hA ht S F) (fun b s' ⟨mu1, q, x⟩ => ⟨mu1, ?_, x⟩) fun _ _ x => x
    cases b with
    | true => obtain ⟨f', e, _⟩ := q; cases e
    | false => exact q
  | succ f ih =>
    refine fun env A s he hA ht S F => wpAny_mono (hstep (f + 1) m mu h0 env A s he hA ht S F) (fun b s' ⟨mu1, q, x⟩ => ⟨mu1, ?_, x⟩) fun _ _ x => x
    cases b with
    | true =>
      obtain ⟨f', e, q⟩ := q
      cases e
      simp only [if_true]
      refine q.imp fun fl m2 mu2 q => ?_
      cases fl with
      | next => exact ih q
      | cont => exact ih q
      | brk => exact q
      | ret r => exact q
    | false => exact q
end
theorem fmod_nat (i : Int) (b : Nat) (hb : 0 < b) : ∃ k : Nat, i.fmod (b : Int) = (k : Int) ∧ k < b := by
  have e : i.fmod (b : Int) = i % (b : Int) := by rw [Int.fmod_eq_emod_of_nonneg]; omega
  have h1 : 0 ≤ i % (b : Int) := Int.emod_nonneg i (by omega)
  have h2 : i % (b : Int) < b := Int.emod_lt_of_pos i (by omega)
  exact ⟨(i % (b : Int)).toNat, by rw [e]; omega, by omega⟩
end Mine
namespace Mine
theorem Tst.weak {c : Cx} {n : Nat} {sc : Scope} {m m' : Lm} {mu : Mu} {e : PySem.Expr} {P : Bool → Mu → Prop} (hw : SubL m m') (h : Tst c n sc m mu e P) : Tst c n sc m' mu e P := fun env A s he hA ht S F => h env A s he hA ht S (F.weak hw.look)
end Mine

open PySem PySem.W PySem.Calls PyProof.Rows
set_option Elab.async false
set_option linter.unusedVariables false
namespace Mine
/-! # rows -/
end Mine
namespace Mine
theorem ne_sn {mu : Mu} {a b : Addr} {o : AO} (h : mu a = some o) (h' : mu b = none) : a ≠ b := fun q => by rw [q, h'] at h; cases h
end Mine

open PySem PySem.W PySem.Calls PyProof.Rows
set_option Elab.async false
set_option linter.unusedVariables false
namespace Mine
end Mine
namespace Mine
end Mine
namespace Mine
theorem swap_any {sc : Scope} {t : Str} {pos p : Pos} {elt : PySem.Expr} {gens : List Comprehension} {scope : Scope} {line : Nat} {b : Bool}
    (hb : ((if sc.kind.isAnnotationScope then ScopeKind.function else sc.kind) == .function && sc.names.lookup t == some .local && pos.line == p.line && !(scope.names.any fun (n, k) => n == t && (k == .local || k == .cell))) = b) :
    ∀ env : Env, env.scope = sc → swapsWithSole [.Name t pos] (.ListComp elt gens scope p) line env = pure b := by
  intro env he
  rw [← hb]
  show swapsWith (.ListComp elt gens scope p) (some (.Name t pos)) line env = _
  unfold swapsWith Env.blockKind Env.kindOf
  rw [he]
  rfl
end Mine
namespace Mine
end Mine
namespace Mine
/-! # rows as data -/
theorem strOk_S {v : List Nat} (h : ∀ ch ∈ v, ch < 1114112) : PyData.strOk (S v) = true := by
  unfold PyData.strOk
  rw [List.all_toArray, List.all_eq_true]
  intro ch hc; simpa using h ch hc
/-! # the turned list -/
section
variable {c : Cx} {n : Nat} {sc : Scope} {m : Lm} {mu : Mu}
end
end Mine

open PySem PySem.W PySem.Calls PyProof.Rows
set_option Elab.async false
set_option linter.unusedVariables false
namespace Mine
section
variable {prog : Program} {w : World} {A : Around} {E : Value → Shared → Prop}
end
section
variable {c : Cx} {n : Nat} {sc : Scope} {m : Lm} {mu : Mu}
end
end Mine

open PySem PySem.W PySem.Calls PyProof.Rows
set_option Elab.async false
set_option linter.unusedVariables false
namespace Mine
/-! # tables laid under one another -/
end Mine

open PySem PySem.W PySem.Calls PyProof.Rows
set_option Elab.async false
set_option linter.unusedVariables false
set_option maxRecDepth 100000
namespace Mine
def tspL : List Nat := [32, 40, 41, 60, 62, 64, 44, 59, 58, 92, 34, 47, 91, 93, 63, 61]
def isTsp (ch : Nat) : Bool := tspL.contains ch
def fp (p v : List Nat) (q : Bool) : List Nat := if v = [] then p else if q || v.any isTsp then p ++ [61, 34] ++ escL v ++ [34] else p ++ [61] ++ v

theorem replL_length (ch : Nat) (z : List Nat) (k : Nat) (hk : 1 ≤ k) (hz : z.length ≤ k) (l : List Nat) : (replL ch z l).length ≤ k * l.length := by
  unfold replL
  induction l with
  | nil => simp
  | cons a r ih =>
    rw [List.flatMap_cons, List.length_append, List.length_cons, Nat.mul_succ]
    split
    · omega
    · rw [List.length_singleton]; omega
end Mine

open PySem PySem.W PySem.Calls PyProof.Rows
set_option Elab.async false
set_option linter.unusedVariables false
namespace Mine
section
variable {c : Cx} {n : Nat} {sc : Scope} {m : Lm} {mu : Mu}

/-! # dicts of texts -/
theorem St.big {h : Heap} (S : St c mu h) : sysModules < h.objs.size := by
  obtain ⟨mc, hn, _⟩ := c.nolim
  obtain ⟨o, es, ep, e, _⟩ := hn
  exact Nat.lt_trans (by decide) (Heap.lt_size (S.base _ _ e))
/-- a key that is new, laid into a dict -/
theorem ns_new {A : Around} {s : Shared} {d : Addr} {es : List DictEntry} {k : Nat} {x : Str} {v : Value} {E : Value → Shared → Prop} {Q : Unit → Shared → Prop} (hd : s.heap.get? d = some (dictOf es k)) (hs : ∀ e ∈ es, e.key.isStr x = false) (hr : ∀ e ∈ es, e.refKey = false)
    (h : ∀ h', h'.get? d = some (dictOf (es ++ [⟨PyData.keyHash c.w.params x, .str x s.toks, v⟩]) (k + 1)) → Heap.SameBut d s.heap h' → Q () { s with heap := h', toks := s.toks + 1 }) : wpAny c.M A (nsSet d x v) Q E s := by
  have e1 : es.any (·.key.isStr x) = false := List.any_eq_false.mpr fun e he => by rw [hs e he]; exact Bool.false_ne_true
  have e2 : es.any (·.refKey) = false := List.any_eq_false.mpr fun e he => by rw [hr e he]; exact Bool.false_ne_true
  have e : Obj.putName x (PyData.keyHash c.w.params x) (.str x s.toks) v (dictOf es k) = dictOf (es ++ [⟨PyData.keyHash c.w.params x, .str x s.toks, v⟩]) (k + 1) := by
    rw [putName_dict, putL_new hs]
    show dictOf _ (if es.any (·.key.isStr x) then k else k + 1) = _
    rw [e1, if_neg Bool.false_ne_true]
  have q : aRefKeyMayBeTheName x es.toArray = false := by
    rw [aRefKeyMayBeTheName_at, ← Array.any_toList, ← Array.any_toList]
    show (!es.any (·.key.isStr x) && es.any (·.refKey)) = false
    rw [e2, Bool.and_false]
  unfold nsSet
  refine wpAny_bind (wpAny_bind (wpAny_askSetting (wpAny_pure (wpAny_bind (wpAny_mkText (wpAny_bind (wpAny_loadPart hd ?_)))))))
  dsimp only
  rw [q]
  refine wpAny_updatePart hd (h _ ?_ (Heap.SameBut.update ..))
  have z := Heap.get?_update_self (Obj.putName x (PyData.keyHash c.w.params x) (.str x s.toks) v) hd (by rw [e]; rfl)
  rw [e] at z
  exact z
theorem ns_fill {A : Around} {d : Addr} {E : Value → Shared → Prop} {Q : PUnit → Shared → Prop} : ∀ (ex : List (Str × Value)) (s : Shared) (es : List DictEntry) (k : Nat), s.heap.get? d = some (dictOf es k) →
    (∀ e ∈ es, ∀ x ∈ ex, e.key.isStr x.1 = false) → (∀ e ∈ es, e.refKey = false) → (ex.map (·.1)).Nodup →
    (∀ h' tk, h'.get? d = some (dictOf (es ++ kwEs c.w.params s.toks ex) (k + ex.length)) → Heap.SameBut d s.heap h' → Q ⟨⟩ { s with heap := h', toks := tk }) →
    wpAny c.M A (forIn ex PUnit.unit fun x _ => (nsSet d x.1 x.2 >>= fun _ => pure (ForInStep.yield PUnit.unit))) Q E s := by
  intro ex
  induction ex with
  | nil =>
    intro s es k hd _ _ _ h
    rw [List.forIn_nil]
    refine wpAny_pure (h s.heap s.toks ?_ (Heap.SameBut.refl ..))
    rw [show kwEs c.w.params s.toks [] = [] from rfl, List.append_nil]; exact hd
  | cons x r ih =>
    intro s es k hd hs hr hn h
    obtain ⟨hn1, hn2⟩ := List.nodup_cons.mp (show (x.1 :: r.map (·.1)).Nodup from hn)
    rw [List.forIn_cons]
    refine wpAny_bind (wpAny_bind (ns_new hd (fun e he => hs e he x (.head _)) hr fun h' hd' hb' => wpAny_pure ?_))
    refine ih { s with heap := h', toks := s.toks + 1 } _ _ hd' (fun e he y hy => ?_) (fun e he => ?_) hn2 fun h'' tk hd'' hb'' => ?_
    · rcases List.mem_append.mp he with he | he
      · exact hs e he y (.tail _ hy)
      · obtain rfl := List.mem_singleton.mp he
        exact beq_eq_false_iff_ne.mpr fun q => hn1 (by rw [q]; exact List.mem_map_of_mem hy)
    · rcases List.mem_append.mp he with he | he
      · exact hr e he
      · obtain rfl := List.mem_singleton.mp he; rfl
    · refine h h'' tk ?_ (hb'.trans hb'')
      rw [List.append_assoc, show k + 1 + r.length = k + (r.length + 1) by omega] at hd''
      exact hd''
theorem dict_notT {es : List DictEntry} {k : Nat} : ¬ IsT (dictOf es k) := fun h => by have := h.1; simp at this
theorem dict_new {ex : List (Str × Value)} {h : Heap} {d : Addr} {t k : Nat} (hd : h.get? d = some (dictOf (kwEs c.w.params t ex) k)) (hn : (ex.map (·.1)).Nodup) : h.DictOf (PySem.strKind c.prog c.w) d ex := by
  obtain ⟨es, ep, h1, h2, h3, h4, h5⟩ := kp_isDict (prog := c.prog) (w := c.w) t k hn
  exact ⟨_, es, ep, hd, h1, h2, h3, h4, h5⟩
/-- three arguments by place, the keywords in a dict -/
theorem Binds.more {fd : FuncData} {x y z nm : Str} {d e f : PV} {kw : List (Str × PV)} {K : List (Str × PV) → Mu → Prop}
    (hb : ∀ v w u (kvs : List (Str × Value)), kvs.map (·.1) = kw.map (·.1) → bindArgs fd ⟨[v, w, u], kvs⟩ = (alloc (dictOf [] 0) >>= fun D => (forIn kvs PUnit.unit fun x _ => (nsSet D x.1 x.2 >>= fun _ => pure (ForInStep.yield PUnit.unit))) >>= fun _ => pure [(x, v), (y, w), (z, u), (nm, .ref D)]))
    (hnd : (kw.map (·.1)).Nodup) (h : ∀ D, mu D = none → D ≠ sysModules → K [(x, d), (y, e), (z, f), (nm, .ref D)] (upd mu D (.dict kw))) : Binds c mu fd [d, e, f] kw K := fun A s vs kvs hA S r rk => by
  cases r with | cons r0 r =>
  cases r with | cons r1 r =>
  cases r with | cons r2 r =>
  cases r
  have hnm := rk.names
  rw [hb _ _ _ kvs hnm]
  refine wpAny_bind (wpAny_alloc (wpAny_bind (ns_fill kvs { s with heap := s.heap.push (dictOf [] 0) } [] 0 (Heap.get?_push_size _ rfl) (fun _ he => nomatch he) (fun _ he => nomatch he) (by rw [hnm]; exact hnd) fun h' tk hd' hb' => wpAny_pure ?_)))
  have hoff : mu s.heap.objs.size = none := S.off (Nat.le_refl _)
  have x1 : Step c noT mu s mu { s with heap := s.heap.push (dictOf [] 0) } := Step.pushOff S
  have hk : ∀ b o, s.heap.get? b = some o → h'.get? b = some o := fun b o eb => hb'.extBut b o (Nat.ne_of_lt (Heap.lt_size eb)) (Heap.get?_push_of_some _ eb)
  have tk0 : TK s.heap h' := fun b o eb _ => hk b o eb
  have x2 : Step c noT mu s (upd mu s.heap.objs.size (.dict kw)) { s with heap := h', toks := tk } := {
    shape := ⟨_, _, rfl⟩
    st := {
      base := fun b o eb => hk b o (S.base b o eb)
      objs := fun a y ea => by
        by_cases h1 : a = s.heap.objs.size
        · subst h1; simp at ea; subst ea
          exact ⟨kvs, _, _, hd', dict_new hd' (by rw [hnm]; exact hnd), rk.mono tk0⟩
        · rw [upd_ne _ _ h1] at ea
          exact (S.objs a y ea).mono (fun o q => hk _ _ q) tk0
      new := fun a ha => by
        by_cases h1 : a = s.heap.objs.size
        · subst h1; exact S.baseNone (Nat.le_refl _)
        · rw [upd_ne _ _ h1] at ha; exact S.new a ha }
    keep := fun b o eb _ _ => hk b o eb
    alive := fun b o eb _ => ⟨o, hk b o eb⟩
    dom := fun b hb => by
      by_cases h1 : b = s.heap.objs.size
      · subst h1; exact .inr (get_none (Nat.le_refl _))
      · rw [upd_ne _ _ h1] at hb; exact .inl hb }
  exact ⟨_, _, h s.heap.objs.size hoff (Nat.ne_of_gt S.big), x2, .cons (r0.mono tk0) (.cons (r1.mono tk0) (.cons (r2.mono tk0) (.cons (.ref _) .nil)))⟩
/-! # the items of a dict -/
theorem Meth.dict {d : Addr} {kw : List (Str × PV)} {name : Str} {id : String} (hd : mu d = some (.dict kw)) (slot : Slot "dict" name id) (hty : typeOf (.builtin id) = pure (.type "method_descriptor")) : Meth c mu (.ref d) name (.builtin id) := fun A s v pl Q E S r h => by
  cases r
  obtain ⟨vs, es, k, e, _, _⟩ := S.objs d _ hd
  exact getMethod_builtin ⟨_, e, rfl⟩ F.plainAttrs_dict slot hty (fun a q => by cases q; exact ⟨_, e, rfl⟩) h
abbrev viewO (d : Addr) : Obj := { cls := .type "dict_items", data := .fields #[.ref d] }
theorem CallV.items {d : Addr} {kw : List (Str × PV)} {P : PV → Mu → Prop} (hd : mu d = some (.dict kw)) (hdS : d ≠ sysModules) (h : ∀ v, mu v = none → P (.ref v) (upd mu v (.obj (viewO d)))) : CallV c n mu (.builtin "dict.items") [.ref d] [] P := fun A s vs kvs hA ht S r rk => by
  cases r with | cons r0 r =>
  cases r; cases rk; cases r0
  obtain ⟨vs, es, k, e, D, rs⟩ := S.objs d _ hd
  refine call_meetsIn F.slot_dict_items D.typeIs F.entry_dict_items (F.args_dict_items_1 _) (meets_dict_items (PySem.strKind c.prog c.w) d (beq_eq_false_iff_ne.mpr hdS)) ⟨⟨vs, D⟩, ?_⟩
  exact ⟨_, _, h _ (S.off (Nat.le_refl _)), Step.push S ⟨Heap.get?_push_size _ rfl, fun q => by have := q.1; simp at this⟩, .ref _⟩
def itemsL (kw : List (Str × PV)) : List PV := kw.map fun p => .tuple [.str p.1, p.2]
theorem RepD.get {h : Heap} {ds : List (Str × PV)} {vs : List (Str × Value)} (r : RepD h ds vs) {i : Nat} {p : Str × PV} (hp : ds[i]? = some p) : ∃ v, vs[i]? = some (p.1, v) ∧ Rep h p.2 v := by
  induction r generalizing i with
  | nil => simp at hp
  | @cons k d v ds vs r0 r ih =>
    cases i with
    | zero => simp at hp; subst hp; exact ⟨v, rfl, r0⟩
    | succ i => simp at hp ⊢; exact ih hp
theorem RepD.length {h : Heap} {ds : List (Str × PV)} {vs : List (Str × Value)} (r : RepD h ds vs) : vs.length = ds.length := by
  have := congrArg List.length r.names; simpa using this
/-- for k, v in d.items(), d a dict that nothing else holds -/
theorem IterOf.items {mu0 : Mu} {d v : Addr} {kw : List (Str × PV)} (h0 : mu0 d = none) (hv : upd mu0 d (.dict kw) v = none) :
    IterOf c n tupT (upd (upd mu0 d (.dict kw)) v (.obj (viewO d))) (.ref v) (itemsL kw) (fun _ => True) mu0 := by
  have hvd : v ≠ d := fun q => by rw [q] at hv; simp at hv
  rw [upd_ne _ _ hvd] at hv
  refine ⟨fun a o ea => ?_, fun A s va hA ht S r => ?_⟩
  · have h1 : a ≠ v := fun q => by rw [q, hv] at ea; cases ea
    have h2 : a ≠ d := fun q => by rw [q, h0] at ea; cases ea
    rw [upd_ne _ _ h1, upd_ne _ _ h2]; exact ea
  cases r
  have gv := (S.objs v (.obj (viewO d)) (by simp)).1
  obtain ⟨vs, es, k, gd, D, rs⟩ := S.objs d (.dict kw) (by rw [upd_ne _ _ (Ne.symm hvd)]; simp)
  obtain ⟨ep, hDA⟩ := D.dictAt
  let I := s.heap.objs.size
  have hdI : d ≠ I := Nat.ne_of_lt (Heap.lt_size gd)
  refine wpAny_pyIter_items (d := d) (kvs := vs) (ep := ep) ⟨_, gv, rfl, rfl⟩ hDA ⟨I, [I, d], fun i h => (∃ ok ov, IsItemIter h I d i vs.length ep ok ov) ∧ h.DictAt (PySem.strKind c.prog c.w) d vs ep ∧ RepD h kw vs, _, s.toks, rfl, rfl, fun b o _ eb => Heap.get?_push_of_some _ eb, fun b hb => ?_, ?_, ⟨_, _, Heap.get?_push_size _ rfl⟩, hDA.push _, rs.mono fun b o eb _ => Heap.get?_push_of_some _ eb⟩
  · rcases List.mem_cons.mp hb with q | q
    · have hI0 : mu0 I = none := by
        cases hq : mu0 I with
        | none => rfl
        | some o =>
          have z := S.off (Nat.le_refl I)
          rw [upd_ne _ _ (fun e => by rw [e, hv] at hq; cases hq), upd_ne _ _ (fun e => by rw [e, h0] at hq; cases hq), hq] at z
          cases z
      rw [q]; exact ⟨S.baseNone (Nat.le_refl _), hI0, .inl (get_none (Nat.le_refl _))⟩
    · rw [List.mem_singleton.mp q]
      have hin : upd (upd mu0 d (.dict kw)) v (.obj (viewO d)) d ≠ none := by rw [upd_ne _ _ (Ne.symm hvd)]; simp
      exact ⟨S.new d hin, h0, .inr hin⟩
  exact {
    frame := fun i h h' hj hk tk => by
      obtain ⟨⟨ok, ov, h1⟩, h2, h3⟩ := hj
      exact ⟨⟨ok, ov, hk I (by simp) _ h1⟩, h2.at fun o x => hk d (by simp) o x, h3.mono tk⟩
    notT := fun i h hj b hb => by
      obtain ⟨⟨ok, ov, h1⟩, ⟨o, es, ho, ⟨hc, _⟩, _⟩, h3⟩ := hj
      rcases List.mem_cons.mp hb with q | q
      · rw [q]; exact ⟨_, h1, fun q => by have := q.1; simp at this⟩
      · rw [List.mem_singleton.mp q]; exact ⟨o, ho, fun q => by have := q.1; rw [hc] at this; simp at this⟩
    next := fun i dd A s mu target hT hx hA ht S hs hm hj => by
      obtain ⟨⟨ok, ov, h1⟩, h2, h3⟩ := hj
      unfold itemsL at hx
      rw [List.getElem?_map] at hx
      obtain ⟨p, hp, rfl⟩ := Option.map_eq_some_iff.mp hx
      obtain ⟨vv, hvv, rv⟩ := h3.get hp
      obtain ⟨elts, kk, pos, rfl⟩ := hT
      refine wpAny_pyNext_items_item h1 h2 hvv fun key h' hkey g1 g2 g3 g4 => ⟨_, rfl, ?_⟩
      obtain ⟨t, rfl⟩ := Value.isStrOf_shape hkey
      refine wpAny_letOwnedTupleGo_items (s := { s with heap := h', toks := s.toks }) g1 fun h'' q1 q2 => ?_
      have hsI : s.heap.objs.size ≠ I := Nat.ne_of_gt (Heap.lt_size h1)
      have kp : ∀ b o, b ≠ I → s.heap.get? b = some o → h''.get? b = some o := fun b o hb eb => (q2.2 b hb).trans (g4 b o hb eb)
      have tk : TK s.heap h'' := fun b o eb hto => kp b o (fun q => by rw [q, h1] at eb; cases eb; have := hto.1; simp at this) eb
      have g2' : h''.get? s.heap.objs.size = some { cls := .type "tuple", data := .seq #[.str p.1 t, vv] } := (q2.2 _ hsI).trans g2
      exact ⟨h'', s.toks, rfl, fun b o hb eb => kp b o (fun q => hb (by simp [q])) eb, .tuple (vs := [.str p.1 t, vv]) g2' (.cons (.str _ _) (.cons (rv.mono tk) .nil)), ⟨_, _, q1⟩, h2.at fun o x => kp d o hdI x, h3.mono tk⟩
    self := fun i A s Q E hA hj hq => by
      obtain ⟨⟨ok, ov, h1⟩, _⟩ := hj
      exact kcp_self h1 hq
    done := fun i A s mu hx hA ht S hs hm hj => by
      obtain ⟨⟨ok, ov, h1⟩, h2, h3⟩ := hj
      refine wpAny_pyNext_items_end hA.hd h1 h2 ?_ fun h' hx' => ⟨rfl, h', s.toks, rfl, fun b o hb eb => hx' b o (fun q => hb (by simp [q])) eb⟩
      rw [List.getElem?_eq_none_iff, h3.length, hx]; simp [itemsL] }
end
end Mine

open PySem PySem.W PySem.Calls PyProof.Rows
set_option Elab.async false
set_option linter.unusedVariables false
namespace Mine
/-! # the text of a header -/
def joinL (sep : List Nat) : List (List Nat) → List Nat
  | [] => []
  | x :: r => x ++ r.flatMap fun y => sep ++ y
theorem join_S (sep : List Nat) (xs : List (List Nat)) : Txt.join (S sep) (xs.map S) = S (joinL sep xs) := by
  unfold Txt.join Builtin.Str.glued
  cases xs with
  | nil => rfl
  | cons x r =>
    simp only [List.map_cons, List.drop_succ_cons, List.drop_zero, List.headD_cons]
    have h : ∀ (r : List (List Nat)) (acc : Array Nat), (r.map S).foldl (fun acc p => acc ++ (S sep).cps ++ p.cps) acc = acc ++ (r.flatMap fun y => sep ++ y).toArray := fun r => by
      induction r with
      | nil => intro acc; simp
      | cons y r ih => intro acc; rw [List.map_cons, List.foldl_cons, ih]; simp
    rw [h]
    simp [joinL]
theorem joinOk_row {sep : List Nat} {xs : List (List Nat)} (h : (joinL sep xs).length + sep.length ≤ 1000000) : JoinOk (S sep) (xs.map S) = true := by
  unfold JoinOk Builtin.Str.tooLong sizeLine
  have : ∀ (xs : List (List Nat)) (a : Nat), (xs.map S).foldl (· + ·.length + (S sep).length) a = a + (xs.flatMap fun y => sep ++ y).length := fun xs => by
    induction xs with
    | nil => intro a; simp
    | cons x r ih => intro a; rw [List.map_cons, List.foldl_cons, ih]; simp [S_length]; omega
  have h1 := this xs 0
  have h2 : (xs.flatMap fun y => sep ++ y).length ≤ (joinL sep xs).length + sep.length := by
    cases xs with
    | nil => simp
    | cons x r => simp [joinL]; omega
  rw [List.foldl_toArray', h1]
  · simp only [Bool.not_eq_true', decide_eq_false_iff_not]
    omega
  · simp
/-- a parameter: its name, and None or a text -/
abbrev Kw := List Nat × Option (List Nat)
def optPV : Option (List Nat) → PV
  | none => .none
  | some v => .str (S v)
def kwPV (ks : List Kw) : List (Str × PV) := ks.map fun p => (S p.1, optPV p.2)
def dashL (k : List Nat) : List Nat := replL 95 [45] k
def partL : Kw → List Nat
  | (k, none) => dashL k
  | (k, some v) => fp (dashL k) v true
def rowL (own : Option (List Nat)) (ks : List Kw) : List Nat := joinL [59, 32] (own.toList ++ ks.map partL)
def okK (p : Kw) : Bool := okN p.1 && (match p.2 with | none => true | some v => okV v)
def okO (o : Option (List Nat)) : Bool := match o with | none => true | some v => okV v
theorem dashL_length (k : List Nat) : (dashL k).length = k.length := by
  unfold dashL replL
  induction k with
  | nil => rfl
  | cons a r ih => rw [List.flatMap_cons, List.length_append, ih]; split <;> simp <;> omega
theorem len_mem_joinL {sep : List Nat} {xs : List (List Nat)} {x : List Nat} (h : x ∈ xs) : x.length ≤ (joinL sep xs).length := by
  cases xs with
  | nil => cases h
  | cons y r =>
    rcases List.mem_cons.mp h with q | q
    · subst q; simp [joinL]
    · have : x.length ≤ (r.flatMap fun y => sep ++ y).length := by
        clear h
        induction r with
        | nil => cases q
        | cons z r ih =>
          rcases List.mem_cons.mp q with q | q
          · subst q; simp; omega
          · have := ih q; simp at this ⊢; omega
      simp [joinL] at this ⊢; omega
theorem mem_joinL {sep : List Nat} {xs : List (List Nat)} {ch : Nat} (h : ch ∈ joinL sep xs) : ch ∈ sep ∨ ∃ x ∈ xs, ch ∈ x := by
  cases xs with
  | nil => cases h
  | cons y r =>
    rcases List.mem_append.mp h with q | q
    · exact .inr ⟨y, by simp, q⟩
    · obtain ⟨z, hz, q⟩ := List.mem_flatMap.mp q
      rcases List.mem_append.mp q with q | q
      · exact .inl q
      · exact .inr ⟨z, by simp [hz], q⟩
theorem mem_dashL {k : List Nat} {ch : Nat} (h : ch ∈ dashL k) : ch = 45 ∨ ch ∈ k := by
  unfold dashL replL at h
  obtain ⟨a, ha, q⟩ := List.mem_flatMap.mp h
  split at q
  · exact .inl (by simpa using q)
  · have : ch = a := by simpa using q
    exact .inr (this ▸ ha)
theorem mem_escL {v : List Nat} {ch : Nat} (h : ch ∈ escL v) : ch = 92 ∨ ch ∈ v := by
  unfold escL at h
  obtain ⟨a, ha, q⟩ := List.mem_flatMap.mp h
  split at q
  · rcases List.mem_cons.mp q with q | q
    · exact .inl q
    · have : ch = a := by simpa using q
      exact .inr (this ▸ ha)
  · have : ch = a := by simpa using q
    exact .inr (this ▸ ha)
theorem mem_fp {p v : List Nat} {ch : Nat} (h : ch ∈ fp p v true) : ch ∈ p ∨ ch = 61 ∨ ch = 34 ∨ ch = 92 ∨ ch ∈ v := by
  unfold fp at h
  split at h
  · exact .inl h
  · simp only [Bool.true_or, if_true, List.mem_append, List.mem_cons, List.not_mem_nil, or_false] at h
    rcases h with ((q | q) | q) | q
    · exact .inl q
    · omega
    · rcases mem_escL q with q | q
      · omega
      · exact .inr (.inr (.inr (.inr q)))
    · omega
/-- a sign that a value may have -/
def sgV (ch : Nat) : Prop := isCtlV ch = false ∧ ch < 1114112
theorem okV.sg {v : List Nat} (h : okV v = true) {ch : Nat} (hc : ch ∈ v) : sgV ch := by
  refine ⟨?_, okV.uni h ch hc⟩
  have := okV.ctl h
  rw [List.any_eq_false] at this
  simpa using this ch hc
theorem okN.sg {v : List Nat} (h : okN v = true) {ch : Nat} (hc : ch ∈ v) : sgV ch := by
  have h1 := okN.ctl h
  rw [List.any_eq_false] at h1
  have h2 := okN.asc h ch hc
  have h3 := h1 ch hc
  simp only [isCtl, Bool.or_eq_true, decide_eq_true_eq, not_or] at h3
  refine ⟨?_, by omega⟩
  simp only [isCtlV, Bool.or_eq_false_iff, Bool.and_eq_false_iff, decide_eq_false_iff_not]
  omega
theorem okV_of {v : List Nat} (h : ∀ ch ∈ v, sgV ch) (hl : v.length ≤ 100000) : okV v = true := by
  unfold okV
  rw [Bool.and_eq_true, Bool.and_eq_true, decide_eq_true_eq]
  refine ⟨⟨?_, ?_⟩, hl⟩
  · rw [Bool.not_eq_true', List.any_eq_false]
    intro ch hc; rw [(h ch hc).1]; exact Bool.false_ne_true
  · rw [List.all_eq_true]
    intro ch hc; rw [decide_eq_true_eq]; exact (h ch hc).2
theorem okK.nm {p : Kw} (h : okK p = true) : okN p.1 = true := by unfold okK at h; rw [Bool.and_eq_true] at h; exact h.1
theorem okK.vl {p : Kw} (h : okK p = true) {v : List Nat} (hv : p.2 = some v) : okV v = true := by
  unfold okK at h; rw [Bool.and_eq_true, hv] at h; exact h.2
theorem partL_sg {p : Kw} (h : okK p = true) {ch : Nat} (hc : ch ∈ partL p) : sgV ch := by
  have hd : ∀ ch, ch ∈ dashL p.1 → sgV ch := fun ch hc => by
    rcases mem_dashL hc with q | q
    · subst q; exact ⟨by decide, by decide⟩
    · exact okN.sg (okK.nm h) q
  obtain ⟨k, o⟩ := p
  cases o with
  | none => exact hd ch hc
  | some v =>
    rcases mem_fp hc with q | q | q | q | q
    · exact hd ch q
    · subst q; exact ⟨by decide, by decide⟩
    · subst q; exact ⟨by decide, by decide⟩
    · subst q; exact ⟨by decide, by decide⟩
    · exact okV.sg (okK.vl h rfl) q
theorem rowL_ok {own : Option (List Nat)} {ks : List Kw} (ho : okO own = true) (hk : ∀ p ∈ ks, okK p = true) (hl : (rowL own ks).length ≤ 100000) : okV (rowL own ks) = true := by
  refine okV_of (fun ch hc => ?_) hl
  rcases mem_joinL hc with q | ⟨x, hx, q⟩
  · simp at q
    rcases q with q | q <;> subst q <;> exact ⟨by decide, by decide⟩
  · rcases List.mem_append.mp hx with hx | hx
    · cases own with
      | none => cases hx
      | some v => simp at hx; subst hx; exact okV.sg ho q
    · obtain ⟨p, hp, rfl⟩ := List.mem_map.mp hx
      exact partL_sg (hk p hp) q
theorem part_len {own : Option (List Nat)} {ks : List Kw} {p : Kw} (hp : p ∈ ks) : (partL p).length ≤ (rowL own ks).length := len_mem_joinL (by simp; exact .inr ⟨_, _, hp, rfl⟩)
theorem partL_key (p : Kw) : p.1.length ≤ (partL p).length := by
  obtain ⟨k, o⟩ := p
  cases o with
  | none => simp [partL, dashL_length]
  | some v =>
    show k.length ≤ (fp (dashL k) v true).length
    unfold fp
    split
    · rw [dashL_length]; exact Nat.le_refl _
    · simp [dashL_length]
theorem forIn_yield {α β : Type} (f : α → β → Sem (ForInStep β)) (g : β → α → β) : ∀ (l : List α) (b : β), (∀ x ∈ l, ∀ b, f x b = pure (.yield (g b x))) → forIn l b f = pure (l.foldl g b) := by
  intro l
  induction l with
  | nil => intro b _; rfl
  | cons x r ih =>
    intro b h
    rw [List.forIn_cons, h x (by simp)]
    show (forIn r (g b x) f) = _
    rw [ih _ fun y hy => h y (by simp [hy])]
    rfl
theorem bind_more0 {fd : FuncData} {a1 a2 a3 ka : Arg} (hp : fd.params = { posonlyargs := [], args := [a1, a2, a3], vararg := none, kwonlyargs := [], kw_defaults := [], kwarg := some ka, defaults := [] }) (hd : fd.defaults = .none) (kvs : List (Str × Value)) (hkw : ∀ p ∈ kvs, p.1 ≠ a1.arg ∧ p.1 ≠ a2.arg ∧ p.1 ≠ a3.arg) (hlen : kvs.length ≤ sizeLine) (h12 : (a2.arg == a1.arg) = false) (h13 : (a3.arg == a1.arg) = false) (h23 : (a3.arg == a2.arg) = false) (v w u : Value) :
    bindArgs fd ⟨[v, w, u], kvs⟩ = (alloc (dictOf [] 0) >>= fun D => (forIn kvs PUnit.unit fun x _ => (nsSet D x.1 x.2 >>= fun _ => pure (ForInStep.yield PUnit.unit))) >>= fun _ => pure [(a1.arg, v), (a2.arg, w), (a3.arg, u), (ka.arg, .ref D)]) := by
  unfold bindArgs
  rw [hp, hd]
  dsimp only [List.map, List.append, List.nil_append, List.zip]
  rw [forIn_yield _ (fun b x => (b.1, b.2 ++ [x])) kvs _ (fun x hx b => ?_)]
  · have e : kvs.foldl (fun (b : List (Str × Value) × List (Str × Value)) x => (b.1, b.2 ++ [x])) (List.zipWith Prod.mk [a1.arg, a2.arg, a3.arg] [v, w, u], []) = ([(a1.arg, v), (a2.arg, w), (a3.arg, u)], kvs) := by
      have : ∀ (l : List (Str × Value)) (a b : List (Str × Value)), l.foldl (fun (b : List (Str × Value) × List (Str × Value)) x => (b.1, b.2 ++ [x])) (a, b) = (a, b ++ l) := fun l => by
        induction l with
        | nil => intro a b; simp
        | cons x r ih => intro a b; rw [List.foldl_cons, ih]; simp
      rw [this]; rfl
    rw [e]
    have hl : ¬ kvs.length > sizeLine + 1 := by omega
    have l1 : List.lookup a1.arg [(a1.arg, v), (a2.arg, w), (a3.arg, u)] = some v := by simp [List.lookup]
    have l2 : List.lookup a2.arg [(a1.arg, v), (a2.arg, w), (a3.arg, u)] = some w := by simp [List.lookup, h12]
    have l3 : List.lookup a3.arg [(a1.arg, v), (a2.arg, w), (a3.arg, u)] = some u := by simp [List.lookup, h13, h23]
    rw [show seqItems? Value.none = pure none from rfl]
    simp [l1, l2, l3, hl, pure_bind]
  · have q := hkw x hx
    have e : ([a1.arg, a2.arg, a3.arg].contains x.fst || ([] : List Str).contains x.fst) = false := by
      simp [q.1, q.2.1, q.2.2]
    rw [if_neg (by rw [e]; exact Bool.false_ne_true)]
    rfl
theorem bind_more {fd : FuncData} {x y z nm : Str} (hp : ∃ a1 a2 a3 ka, fd.params = { posonlyargs := [], args := [a1, a2, a3], vararg := none, kwonlyargs := [], kw_defaults := [], kwarg := some ka, defaults := [] } ∧ a1.arg = x ∧ a2.arg = y ∧ a3.arg = z ∧ ka.arg = nm) (hd : fd.defaults = .none) (kvs : List (Str × Value)) (hkw : ∀ p ∈ kvs, p.1 ≠ x ∧ p.1 ≠ y ∧ p.1 ≠ z) (hlen : kvs.length ≤ sizeLine) (h12 : (y == x) = false) (h13 : (z == x) = false) (h23 : (z == y) = false) (v w u : Value) :
    bindArgs fd ⟨[v, w, u], kvs⟩ = (alloc (dictOf [] 0) >>= fun D => (forIn kvs PUnit.unit fun x _ => (nsSet D x.1 x.2 >>= fun _ => pure (ForInStep.yield PUnit.unit))) >>= fun _ => pure [(x, v), (y, w), (z, u), (nm, .ref D)]) := by
  obtain ⟨a1, a2, a3, ka, e, rfl, rfl, rfl, rfl⟩ := hp
  exact bind_more0 e hd kvs hkw hlen h12 h13 h23 v w u
end Mine

open PySem PySem.W PySem.Calls PyProof.Rows
set_option Elab.async false
set_option linter.unusedVariables false
namespace Mine
section
variable {c : Cx} {n : Nat} {sc : Scope} {m : Lm} {mu : Mu}
end
/-- texts as data -/
def txtD (xs : List (List Nat)) : PyData := .list (xs.map fun v => .str (S v))
theorem txtD_is {c : Cx} {mu : Mu} {l : Addr} {xs : List (List Nat)} (h : ListAt c mu l (xs.map fun v => .str (S v))) : IsD c mu (txtD xs) (.ref l) := ⟨l, _, rfl, h, IsDs.map xs fun v _ => rfl⟩
theorem txtD_lay {xs : List (List Nat)} (h : ∀ v ∈ xs, ∀ ch ∈ v, ch < 1114112) : (txtD xs).canLay0 = true := canLayAll0_map xs fun v hv => strOk_S (h v hv)
theorem txtD_depth (xs : List (List Nat)) : (txtD xs).depth ≤ 1 := by
  rw [txtD, PyData.depth]
  have := depthAll_map (f := fun v => PyData.str (S v)) (k := 0) xs fun _ _ => by simp [PyData.depth]
  omega
end Mine

open PySem PySem.W PySem.Calls PyProof.Rows
set_option Elab.async false
set_option linter.unusedVariables false
namespace Mine
/-! # dict comprehensions, keys all new -/
def CompD (c : Cx) (n : Nat) (sc : Scope) (src : Mu → Prop) (target : PySem.Expr) (ifs : List PySem.Expr) (kx vx : PySem.Expr) (P : List (Str × PV) → Mu → Prop) : List PV → List (Str × PV) → Lm → Mu → Prop
  | [], acc, _, mu => src mu ∧ P acc mu
  | x :: xs, acc, m, mu => src mu ∧ acc.length ≤ sizeLine ∧ AsgT false c n sc m mu target x fun m1 mu1 => IfsE c n sc m1 mu1 ifs fun ok mu2 =>
      if ok = true then EvE c n sc m1 mu2 kx fun k mu3 => EvE c n sc m1 mu3 vx fun d mu4 => ∃ key, k = .str key ∧ key ∉ acc.map (·.1) ∧ CompD c n sc src target ifs kx vx P xs (acc ++ [(key, d)]) m1 mu4 else CompD c n sc src target ifs kx vx P xs acc m1 mu2
structure MidD (c : Cx) (cenv : Env) (D : Addr) (mu0 : Mu) (s0 : Shared) (priv : List Addr) (J : Nat → Heap → Prop) (i : Nat) (acc : List (Str × PV)) (m : Lm) (mu : Mu) (s : Shared) : Prop where
  step : Step c noT mu0 s0 mu s
  fm : Fm c mu s.heap cenv m
  pv : ∀ b ∈ priv, mu b = none ∧ c.base.get? b = none
  j : J i s.heap
  toks : 0 < s.toks
  accL : ∃ vs, s.heap.DictOf (PySem.strKind c.prog c.w) D vs ∧ RepD s.heap acc vs
  muD : mu D = none
section
variable {c : Cx} {n : Nat} {sc : Scope} {m : Lm} {mu : Mu}
theorem dict_rep {h : Heap} {D : Addr} {vs : List (Str × Value)} {kw : List (Str × PV)} (hd : h.DictOf (PySem.strKind c.prog c.w) D vs) (r : RepD h kw vs) : RepO c h D (.dict kw) := by
  obtain ⟨⟨cls, dd, data, sl⟩, es, ep, e, ⟨h1, h2, h3⟩, h4, r2⟩ := id hd
  simp only at h1 h2 h3 h4
  subst h1 h2 h3 h4
  obtain ⟨es⟩ := es
  exact ⟨vs, es, ep, e, hd, r⟩
theorem stored_new {vs : List (Str × Value)} {k : Str} {v : Value} (h : k ∉ vs.map (·.1)) : stored vs k v = vs ++ [(k, v)] := by
  unfold stored
  rw [if_neg]
  intro q
  obtain ⟨p, hp, e⟩ := List.any_eq_true.mp q
  exact h (List.mem_map.mpr ⟨p, hp, by simpa using e⟩)
theorem RepD.snoc {h : Heap} {ds : List (Str × PV)} {vs : List (Str × Value)} {k : Str} {d : PV} {v : Value} (r : RepD h ds vs) (r2 : Rep h d v) : RepD h (ds ++ [(k, d)]) (vs ++ [(k, v)]) := by
  induction r with
  | nil => exact .cons r2 .nil
  | cons a b ih => exact .cons a ih
theorem compLoop_testsD {kx vx target iter : PySem.Expr} {ifs : List PySem.Expr} {scope : Scope} {pos : Pos} {it : Value} {D : Addr} {env : Env} {A : Around} {R : Result → Shared → Prop} {s : Shared} (I : Nat → Shared → Prop)
    (turn : ∀ n s, I n s → wpAny c.M A (pyNext it) (fun r s₁ => match r with
      | none => R (.ok .next) s₁
      | some v => wpAny c.M A (letOwnedTupleGo target it v) (fun _ s₁' => wpAny c.M A (assign target env v) (fun _ s₂ =>
          wpAny c.M A (forIn ifs true fun c r => if r = true then do let ok ← isTrue c env (eval c env); pure (ForInStep.yield ok) else pure (ForInStep.yield r)) (fun ok s₃ =>
            if ok = true then wpAny c.M A (eval kx env) (fun kv s₄ => wpAny c.M A (eval vx env) (fun vv s₅ =>
              wpAny c.M A (dictSet D kv vv) (fun _ s₆ => ∃ m, m < n ∧ I m s₆) NoE s₅) NoE s₄) NoE s₃
            else ∃ m, m < n ∧ I m s₃) NoE s₂) NoE s₁') NoE s₁) NoE s)
    (n : Nat) (h : I n s) :
    codeAny c.M A (.compLoop (.DictComp kx vx [⟨target, iter, ifs, 0⟩] scope pos) 0 it (.ref D) env) R s := by
  refine codeAny_loop rfl I (fun n s hI => ?_) n h
  show wpAny _ A ((compTurn (.DictComp kx vx [⟨target, iter, ifs, 0⟩] scope pos) 0 it (.ref D) env).onRaise (fun x => do noteFrame x env; theTreesLotGoes x)) _ _ s
  refine wpAny_noted ?_
  rw [compTurn_dict]
  refine wpAny_bind (wpAny_standAt (wpAny_bind (wpAny_mono (turn n s hI) (fun r s₁ h₁ => ?_) fun _ _ h' => h'.elim)))
  cases r with
  | none => exact wpAny_pure h₁
  | some v =>
    refine wpAny_bind (wpAny_mono h₁ (fun _ s₁' h₁' => ?_) fun _ _ h' => h'.elim)
    refine wpAny_bind (wpAny_mono h₁' (fun _ s₂ h₂ => wpAny_bind (wpAny_mono h₂ (fun ok s₃ h₃ => ?_) fun _ _ h' => h'.elim)) fun _ _ h' => h'.elim)
    cases ok with
    | false => exact wpAny_pure ⟨rfl, h₃⟩
    | true =>
      refine wpAny_bind (wpAny_bind (wpAny_mono h₃ (fun kv s₄ h₄ => wpAny_bind (wpAny_holding (wpAny_mono h₄ (fun vv s₅ h₅ => wpAny_bind (wpAny_standAt (wpAny_holding (wpAny_mono h₅ (fun _ s₆ h₆ => ?_) fun _ _ h' => h'.elim)))) fun _ _ h' => h'.elim))) fun _ _ h' => h'.elim))
      exact wpAny_pure ⟨rfl, h₆⟩
def DDone (c : Cx) (mu0 : Mu) (s0 : Shared) (C D : Addr) (P : List (Str × PV) → Mu → Prop) (s' : Shared) : Prop :=
  ∃ ys mu3, P ys mu3 ∧ mu3 D = none ∧ Step c noT mu0 s0 (upd mu3 D (.dict ys)) s' ∧ (∃ m, s'.heap.Ns C m) ∧ mu3 C = none ∧ 0 < s'.toks
theorem comp_loopD {okT : PySem.Expr → Prop} {I : Addr} {priv : List Addr} {src : Mu → Prop} {xs : List PV} {J : Nat → Heap → Prop} {target kx vx iter : PySem.Expr} {ifs : List PySem.Expr} {scope : Scope} {pos : Pos} {P : List (Str × PV) → Mu → Prop} {cenv : Env} {A : Around} {D : Addr} {mu0 : Mu} {s0 : Shared}
    (W : Iter c n okT I priv src xs J) (hT : okT target) (he : cenv.scope = sc) (hA : AOk n A) (hL : cenv.locals ∉ priv) (hC : ∀ x ca, cenv.cells.lookup x = some ca → ca ∉ priv)
    (h0 : ∀ b ∈ priv, s0.heap.get? b = none ∨ mu0 b ≠ none) (hL0 : s0.heap.get? cenv.locals = none) (hD0 : s0.heap.get? D = none) (hDb : c.base.get? D = none) (hDL : D ≠ cenv.locals) (hDp : D ∉ priv) (hDC : ∀ x, cenv.cells.lookup x ≠ some D)
    (s : Shared) (hl : CompD c n sc src target ifs kx vx P xs [] m mu) (hm : MidD c cenv D mu0 s0 priv J 0 [] m mu s) :
    codeAny c.M A (.compLoop (.DictComp kx vx [⟨target, iter, ifs, 0⟩] scope pos) 0 (.ref I) (.ref D) cenv) (fun r s' => r = .ok .next ∧ DDone c mu0 s0 cenv.locals D P s') s := by
  refine compLoop_testsD (fun k s' => ∃ i acc m mu, k = xs.length + 1 - i ∧ i ≤ xs.length ∧ CompD c n sc src target ifs kx vx P (xs.drop i) acc m mu ∧ MidD c cenv D mu0 s0 priv J i acc m mu s') ?_ (xs.length + 1 - 0) ⟨0, [], m, mu, rfl, Nat.zero_le _, by simpa using hl, hm⟩
  clear hl hm
  rintro k s ⟨i, acc, m, mu, rfl, hi, hl, hm⟩
  have hpm : ∀ b ∈ priv, mu b = none := fun b hb => (hm.pv b hb).1
  have privStep : ∀ {h' : Heap} {tk : Nat}, (∀ b o, b ∉ priv → s.heap.get? b = some o → h'.get? b = some o) → St c mu h' → Step c noT mu0 s0 mu { s with heap := h', toks := tk } := fun {h' tk} hk S1 => {
      shape := by obtain ⟨h2, tk2, e⟩ := hm.step.shape; rw [e]; exact ⟨_, _, rfl⟩
      st := S1
      keep := fun b o e hmb hTb => hk b o (fun q => by rcases h0 b q with z | z; rw [e] at z; cases z; exact z hmb) (hm.step.keep b o e hmb hTb)
      alive := fun b o e hmb => ⟨o, hk b o (fun q => by rcases h0 b q with z | z; rw [e] at z; cases z; exact z hmb) (hm.step.keep b o e hmb id)⟩
      dom := hm.step.dom }
  obtain ⟨vs, eD, rD⟩ := hm.accL
  have aD : ∃ o, s.heap.get? D = some o := by obtain ⟨o, _, _, e, _⟩ := id eD; exact ⟨o, e⟩
  cases hx : xs.drop i with
  | nil =>
    rw [hx] at hl
    have hxi : i = xs.length := by have := congrArg List.length hx; simp at this; omega
    refine wpAny_mono (wpAny_toks (W.done i A s mu hxi hA hm.toks hm.step.st hl.1 hpm hm.j)) (fun r s1 p => ?_) fun _ _ x => x.2.elim
    obtain ⟨hle, rfl, h', tk, rfl, hk⟩ := p
    have tkk := tk_priv (W.notT i _ hm.j) hk
    have S1 : St c mu h' := hm.step.st.priv hm.pv hk tkk
    have F1 : Fm c mu h' cenv m := hm.fm.priv hL hC hk tkk
    have x1 := privStep (tk := tk) hk S1
    have eD1 : h'.DictOf (PySem.strKind c.prog c.w) D vs := dictOf_at eD fun o e => hk D o hDp e
    refine ⟨rfl, acc, mu, hl.2, hm.muD, ?_, let ⟨mc, hn, _⟩ := F1.loc; ⟨mc, hn⟩, F1.offL, Nat.lt_of_lt_of_le hm.toks hle⟩
    refine ⟨x1.shape, ⟨S1.base, fun a o e => ?_, fun a ha => ?_⟩, x1.keep, x1.alive, fun b hb => ?_⟩
    · by_cases q : a = D
      · subst q; simp at e; subst e; exact dict_rep eD1 (rD.mono tkk)
      · rw [upd_ne mu _ q] at e; exact S1.objs a o e
    · by_cases q : a = D
      · subst q; exact hDb
      · rw [upd_ne mu _ q] at ha; exact S1.new a ha
    · by_cases q : b = D
      · subst q; exact .inr hD0
      · rw [upd_ne mu _ q] at hb; exact x1.dom b hb
  | cons d rest =>
    rw [hx] at hl
    have hxi : xs[i]? = some d := by
      have := congrArg (fun l => l[0]?) hx
      simpa using this
    have hlt : i < xs.length := (List.getElem?_eq_some_iff.mp hxi).1
    have hrest : xs.drop (i + 1) = rest := by
      have := congrArg List.tail hx
      simpa [List.tail_drop] using this
    refine wpAny_mono (wpAny_toks (W.next i d A s mu target hT hxi hA hm.toks hm.step.st hl.1 hpm hm.j)) (fun r s1 p => ?_) fun _ _ x => x.2.elim
    obtain ⟨hle, v, rfl, p⟩ := p
    refine wpAny_mono (wpAny_toks p) (fun _ s2 p => ?_) fun _ _ x => x.2.elim
    obtain ⟨hle2, h', tk, rfl, hk, rd, hj⟩ := p
    have tkk := tk_priv (W.notT i _ hm.j) hk
    have S1 : St c mu h' := hm.step.st.priv hm.pv hk tkk
    have F1 : Fm c mu h' cenv m := hm.fm.priv hL hC hk tkk
    have t1 : 0 < tk := Nat.lt_of_lt_of_le (Nat.lt_of_lt_of_le hm.toks hle) hle2
    have x1 := privStep (tk := tk) hk S1
    have eD1 : h'.DictOf (PySem.strKind c.prog c.w) D vs := dictOf_at eD fun o e => hk D o hDp e
    have rD1 : RepD h' acc vs := rD.mono tkk
    have offT : ∀ b ∈ priv, ¬ TchK false cenv b := fun b hb q => by
      rcases q with q | ⟨q, _⟩
      · exact hL (q ▸ hb)
      · cases q
    have dT : ¬ TchK false cenv D := fun q => by
      rcases q with q | ⟨q, _⟩
      · exact hDL q
      · cases q
    -- what a step of the frame's leaves
    have next : ∀ {mu2 : Mu} {sa sb : Shared}, Step c (TchK false cenv) mu sa mu2 sb → J (i + 1) sa.heap → TK sa.heap sb.heap → sa.heap.DictOf (PySem.strKind c.prog c.w) D vs → J (i + 1) sb.heap ∧ (∀ b ∈ priv, mu2 b = none ∧ c.base.get? b = none) ∧ sb.heap.DictOf (PySem.strKind c.prog c.w) D vs ∧ mu2 D = none := fun {mu2 sa sb} x hja tka ea => by
      refine ⟨W.frame _ _ _ hja (fun b hb o e => x.keep b o e (hpm b hb) (offT b hb)) tka, fun b hb => ⟨?_, (hm.pv b hb).2⟩, dictOf_at ea fun o e => x.keep D o e hm.muD dT, by obtain ⟨o, _, _, e, _⟩ := id ea; exact keepNone x e hm.muD⟩
      obtain ⟨o, e, _⟩ := W.notT _ _ hja b hb
      exact keepNone x e (hpm b hb)
    have hTL : ∀ b, TchK false cenv b → s0.heap.get? b = none := fun b q => by
      rcases q with q | ⟨q, _⟩
      · rw [q]; exact hL0
      · cases q
    refine wpAny_mono (wpAny_toks (hl.2.2 cenv A _ v he hA t1 S1 F1 rd)) (fun _ s3 p => ?_) fun _ _ x => x.2.elim
    obtain ⟨hle3, m3, mu3, h3, x3, F3⟩ := p
    have t3 : 0 < s3.toks := Nat.lt_of_lt_of_le t1 hle3
    refine wpAny_mono (wpAny_toks (h3 cenv A s3 he hA t3 x3.st F3)) (fun ok s4 p => ?_) fun _ _ x => x.2.elim
    obtain ⟨hle4, mu4, h4, x4⟩ := p
    have t4 : 0 < s4.toks := Nat.lt_of_lt_of_le t3 hle4
    have F4 : Fm c mu4 s4.heap cenv m3 := F3.step x3.st x4
    have x34 : Step c (TchK false cenv) mu { s with heap := h', toks := tk } mu4 s4 := x3.trans x4.toT
    cases ok with
    | false =>
      have h4' : CompD c n sc src target ifs kx vx P rest acc m3 mu4 := h4
      obtain ⟨hj4, hp4, eD4, mD4⟩ := next x34 hj (F1.tkT S1 x34) eD1
      exact ⟨xs.length + 1 - (i + 1), by omega, i + 1, acc, m3, mu4, rfl, hlt, hrest ▸ h4', x1.outer x34 hTL, F4, hp4, hj4, t4, ⟨vs, eD4, rD1.mono (F1.tkT S1 x34)⟩, mD4⟩
    | true =>
      have h4' : EvE c n sc m3 mu4 kx fun k mu5 => EvE c n sc m3 mu5 vx fun d mu6 => ∃ key, k = .str key ∧ key ∉ acc.map (·.1) ∧ CompD c n sc src target ifs kx vx P rest (acc ++ [(key, d)]) m3 mu6 := h4
      refine EvE.bind h4' he hA t4 x4.st F4 fun kw s5 d5 mu5 h5 x5 t5 S5 F5 r5 k5 => ?_
      refine EvE.bind h5 he hA t5 S5 F5 fun w s6 d6 mu6 h6 x6 t6 S6 F6 r6 k6 => ?_
      obtain ⟨key, rfl, hnew, h7⟩ := h6
      cases r5 with | str _ tt =>
      have x36 : Step c (TchK false cenv) mu { s with heap := h', toks := tk } mu6 s6 := (x34.trans x5.toT).trans x6.toT
      obtain ⟨hj6, hp6, eD6, mD6⟩ := next x36 hj (F1.tkT S1 x36) eD1
      have rD6 : RepD s6.heap acc vs := rD1.mono (F1.tkT S1 x36)
      have aD6 : ∃ o, s6.heap.get? D = some o ∧ ¬ IsT o := by
        obtain ⟨o, _, _, e, ⟨hc, _⟩, _⟩ := id eD6
        exact ⟨o, e, fun q => by have := q.1; rw [hc] at this; simp at this⟩
      refine wpAny_dictSet_pairs (k := key) (strKind_is _ _ key tt) eD6 (fun h8 hd8 hs8 => ?_) (by rw [rD6.length]; exact hl.2.1)
      have notD : ∀ o, s6.heap.get? D = some o → ¬ IsT o := fun o e => by obtain ⟨o', e', h'⟩ := aD6; rw [e'] at e; cases e; exact h'
      have tk8 : TK s6.heap h8 := fun b o e ht => (hs8.2 b (fun q => by subst q; exact notD o e ht)).trans e
      have hal : ∃ o, h8.get? D = some o := by obtain ⟨o, _, _, e, _⟩ := id hd8; exact ⟨o, e⟩
      have x8 : Step c (fun b => b = D) mu6 s6 mu6 { s6 with heap := h8, toks := s6.toks + 1 } := Step.turn S6 mD6 hDb notD hs8 rfl hal
      have hj8 : J (i + 1) h8 := W.frame _ _ _ hj6 (fun b hb o e => (hs8.2 b (fun q => hDp (q ▸ hb))).trans e) tk8
      have F8 : Fm c mu6 h8 cenv m3 := F6.priv (priv := [D]) (by simpa using Ne.symm hDL) (fun x ca hx q => hDC x (by simp at q; rw [← q]; exact hx)) (fun b o hb e => (hs8.2 b (by simpa using hb)).trans e) tk8
      have est : stored vs key w = vs ++ [(key, w)] := stored_new (by rw [rD6.names]; exact hnew)
      rw [est] at hd8
      exact ⟨xs.length + 1 - (i + 1), by omega, i + 1, acc ++ [(key, d6)], m3, mu6, rfl, hlt, hrest ▸ h7, ((x1.outer x36 hTL).outer x8 (fun b q => by rw [q]; exact hD0)), F8, hp6, hj8, Nat.lt_succ_of_lt t6, ⟨vs ++ [(key, w)], hd8, (rD6.mono tk8).snoc (r6.mono tk8)⟩, mD6⟩

/-- the comprehension up to what its list is used for -/
theorem comp_runD {okT : PySem.Expr → Prop} {target iter kx vx : PySem.Expr} {ifs : List PySem.Expr} {scope : Scope} {pos pos' : Pos} {P : List (Str × PV) → Mu → Prop} (hT : okT target) (hco : compOk scope sc = true)
    (h : EvE c n sc m mu iter fun d mu1 => ∃ xs src mu2, IterOf c n okT mu1 d xs src mu2 ∧ CompD c n (relab scope sc) src target ifs kx vx P xs [] (capt scope m) mu2)
    (hs : ∀ env x, foldedSetIterable iter env x = pure x) {env : Env} {A : Around} {s : Shared} (he : env.scope = sc) (hA : AOk n A) (ht : 0 < s.toks) (S : St c mu s.heap) (F : Fm c mu s.heap env m)
    {use : Option (Value → Sem Unit)} {Q : Value → Shared → Prop}
    (k : ∀ C D s', (mu C = none → s.heap.get? C = none) → C ≠ D → c.base.get? C = none → D ≠ sysModules → DDone c mu s C D P s' → compPost c.M A NoE use Q (.ref D) C (.ok .next) s') :
    wpAny c.M A (comprehension (.DictComp kx vx [⟨target, iter, ifs, 0⟩] scope pos) scope env pos' newDict false (eval iter env) use) Q NoE s := by
  obtain ⟨ck, cn, cu, cf⟩ := compOk_of hco
  obtain ⟨cl, hcl0, hcl, hcl2⟩ := closure_is (env := env) (scope := scope) fun x hx hf => by
    have hkx : env.kindOf x.1 = some .cell := by unfold Env.kindOf; rw [he]; exact cf x hx hf
    exact F.has _ hkx
  refine wpAny_comprehension_free (g := ⟨target, iter, ifs, 0⟩) (gs := []) rfl (hs env) hcl0 ck (fun x hx hl => by rw [cu x hx, hl]) ?_
  refine EvE.bind h he hA ht S F fun v s1 d mu1 hp x1 t1 S1 F1 r1 _ => ?_
  obtain ⟨xs, src, mu2, ⟨hsub, hit⟩, hlo⟩ := hp
  refine wpAny_mono (wpAny_toks (hit A s1 v hA t1 S1 r1)) (fun it s2 p => ?_) fun _ _ x => x.2.elim
  obtain ⟨hle, I, priv, J, h2, tk2, rfl, rfl, hk2, hpv, W, hj⟩ := p
  refine wpAny_newObj_type ?_
  refine wpAny_with_toks (n := 1) (Nat.lt_of_lt_of_le t1 hle) (wpAny_newFunctionEnv cn (by intro y hy; cases hy) (fun h4 hns hsb ht4 => ?_) ck)
  have hn1 : ∀ b ∈ priv, ∀ o, s1.heap.get? b = some o → mu1 b ≠ none := fun b hb o e => by
    rcases (hpv b hb).2.2 with z | z
    · rw [e] at z; cases z
    · exact z
  dsimp only at hns hsb ht4 ⊢
  -- the new addresses
  have hDC : h2.objs.size ≠ (h2.push (dictOf [] 0)).objs.size := by rw [Heap.size_push]; exact Nat.ne_of_lt (Nat.lt_succ_self _)
  have below : ∀ b, b < h2.objs.size → b ≠ (h2.push (dictOf [] 0)).objs.size := fun b hb => by rw [Heap.size_push]; exact Nat.ne_of_lt (Nat.lt_succ_of_lt hb)
  generalize hCe : (h2.push (dictOf [] 0)).objs.size = C at *
  generalize hDe : h2.objs.size = D at *
  have keep4 : ∀ b o, h2.get? b = some o → h4.get? b = some o := fun b o e => hsb.extBut b o (below b (hDe ▸ Heap.lt_size e)) (Heap.get?_push_of_some _ (Heap.get?_push_of_some _ e))
  have D2 : h2.get? D = none := get_none (Nat.le_of_eq hDe)
  have C2 : h2.get? C = none := get_none (by rw [← hCe, Heap.size_push]; exact Nat.le_succ _)
  have old : ∀ b o, mu1 b = none → s1.heap.get? b = some o → h4.get? b = some o := fun b o hm e => keep4 b o (hk2 b o (fun q => hn1 b q o e hm) e)
  have jalive : ∀ b ∈ priv, ∃ o, h2.get? b = some o ∧ ¬ IsT o := W.notT 0 _ hj
  have fresh : ∀ b, h2.get? b = none → b ∉ priv := fun b hb q => by obtain ⟨o, e, _⟩ := jalive b q; rw [hb] at e; cases e
  have freshM : ∀ b, h2.get? b = none → s1.heap.get? b = none := fun b hb => by
    cases e : s1.heap.get? b with
    | none => rfl
    | some o => have := hk2 b o (fresh b hb) e; rw [hb] at this; cases this
  have nomu1 : ∀ b, h2.get? b = none → mu1 b = none := fun b hb => by
    cases e : mu1 b with
    | none => rfl
    | some o =>
      obtain ⟨o', e', _⟩ := (S1.objs b o e).noTup
      rw [freshM b hb] at e'; cases e'
  have nobase : ∀ b, h2.get? b = none → c.base.get? b = none := fun b hb => by
    cases e : c.base.get? b with
    | none => rfl
    | some o => have := S1.base b o e; rw [freshM b hb] at this; cases this
  have sub0 : ∀ b, mu2 b ≠ none → mu1 b ≠ none := fun b hb => by
    obtain ⟨o, e⟩ := Option.ne_none_iff_exists'.mp hb
    rw [hsub b o e]; simp
  have off2 : ∀ b, mu1 b = none → mu2 b = none := fun b hb => by
    cases q : mu2 b with
    | none => rfl
    | some z => exact absurd hb (sub0 b (by rw [q]; simp))
  have tk14 : TK s1.heap h4 := fun a o e hto => old a o (S1.tupOff e hto) e
  have S1' : St c mu2 s1.heap := ⟨S1.base, fun a o e => S1.objs a o (hsub a o e), fun a ha => S1.new a (sub0 a ha)⟩
  have S2 : St c mu2 h2 := S1'.priv (fun b hb => ⟨(hpv b hb).2.1, (hpv b hb).1⟩) hk2 (fun a o e hto => hk2 a o (fun q => hn1 a q o e (S1.tupOff e hto)) e)
  have S4 : St c mu2 h4 := ⟨fun b o e => keep4 b o (S2.base b o e), fun a o e => (S2.objs a o e).mono (fun o' q => keep4 a o' q) (fun b o' q _ => keep4 b o' q), S2.new⟩
  -- the steps seen from s
  have x14 : Step c noT mu1 s1 mu2 { s1 with heap := h4, toks := tk2 } := {
    shape := ⟨_, _, rfl⟩
    st := S4
    keep := fun b o e hm _ => old b o hm e
    alive := fun b o e hm => ⟨o, old b o hm e⟩
    dom := fun b hb => .inl (sub0 b hb) }
  have hCs : mu C = none → s.heap.get? C = none := fun hm => by
    cases q : s.heap.get? C with
    | none => rfl
    | some o => have := x1.keep C o q hm id; rw [freshM C C2] at this; cases this
  have hL : ∀ x ca, env.cells.lookup x = some ca → ca ∉ priv := fun x ca hx q => by
    obtain ⟨_, o, e, _⟩ := F1.cells x ca hx
    exact hn1 _ q o e (F1.offC x ca hx).1
  have D4 : h4.get? D = some (dictOf [] 0) := hsb.extBut D _ hDC (Heap.get?_push_of_some _ (hDe ▸ Heap.get?_push_size _ rfl))
  have hj4 : J 0 h4 := W.frame _ _ _ hj (fun b hb o e => keep4 b o e) fun b o e _ => keep4 b o e
  have loop : ∀ cenv : Env, cenv.scope = relab scope sc → cenv.locals = C → cenv.cells = cl → cenv.globals = env.globals → cenv.builtins = env.builtins →
      codeAny c.M A (.compLoop (.DictComp kx vx [⟨target, iter, ifs, 0⟩] scope pos) 0 (.ref I) (.ref D) cenv) (compPost c.M A NoE use Q (.ref D) C) { s1 with heap := h4, toks := tk2 } := fun cenv e1 e2 e3 e4 e5 => by
    have F4 : Fm c mu2 h4 cenv (capt scope m) := Fm.comp (s3 := { s1 with heap := h4, toks := tk2 }) hco he F1 hcl hcl2 e1 e2 e3 e4 e5 old ⟨_, hns⟩ (freshM C C2) (nomu1 C C2) (nobase C C2) tk14 off2
    refine codeAny_mono (comp_loopD (sc := relab scope sc) (mu0 := mu1) (s0 := s1) (P := P) W hT e1 hA (by rw [e2]; exact fresh C C2) (fun x ca hx => by rw [e3] at hx; exact hL x ca (hcl x ca hx)) (fun b hb => (hpv b hb).2.2) (by rw [e2]; exact freshM C C2) (freshM D D2) (nobase D D2)
      (by rw [e2]; exact hDC) (fresh D D2) (fun x hx => ?_) _ hlo ⟨x14, F4, fun b hb => ⟨(hpv b hb).2.1, (hpv b hb).1⟩, hj4, ht4, ⟨[], dict_new (t := 0) D4 List.nodup_nil, .nil⟩, off2 _ (nomu1 D D2)⟩) fun r s' q => ?_
    · rw [e3] at hx
      obtain ⟨_, o, e, _⟩ := F1.cells x D (hcl x D hx)
      rw [freshM D D2] at e; cases e
    · obtain ⟨rfl, ys, mu3, p1, p2, p3, p4, p5, p6⟩ := q
      rw [e2] at p4 p5
      exact k C D s' hCs (Ne.symm hDC) (nobase C C2) (by have := S2.big; rw [hDe] at this; exact Nat.ne_of_gt this) ⟨ys, mu3, p1, p2, x1.trans p3, p4, p5, p6⟩
  have l0 := loop { newEnv scope C env.globals cl env.qual none .none (some env) 0 with scope := relabel scope env } (by rw [← he]; rfl) rfl rfl rfl rfl
  exact codeAny_compStart_dict l0 (W.self 0 _ _ _ _ hA hj4 l0)

/-- behind a comprehension: its names go -/
theorem DDone.step {C D : Addr} {P : List (Str × PV) → Mu → Prop} {s s' : Shared} {h' : Heap} (hC : mu C = none → s.heap.get? C = none) (hCD : C ≠ D) (hCb : c.base.get? C = none) {ys : List (Str × PV)} {mu3 : Mu} (x : Step c noT mu s (upd mu3 D (.dict ys)) s') (hns : ∃ m, s'.heap.Ns C m) (hC3 : mu3 C = none) (hs : Heap.SameBut C s'.heap h') :
    Step c noT mu s (upd mu3 D (.dict ys)) { s' with heap := h' } := by
  obtain ⟨mc, hn⟩ := hns
  have hCu : upd mu3 D (.dict ys) C = none := by rw [upd_ne _ _ hCD]; exact hC3
  have tk : TK s'.heap h' := fun b o e ht => (hs.2 b (fun q => by subst q; exact ns_notT hn o e ht)).trans e
  exact {
    shape := by obtain ⟨h, tk, rfl⟩ := x.shape; exact ⟨_, _, rfl⟩
    st := ⟨fun b o e => (hs.2 b (fun q => by rw [q, hCb] at e; cases e)).trans (x.st.base b o e), fun a o e => (x.st.objs a o e).mono (fun o' q => (hs.2 a (fun z => by rw [z, hCu] at e; cases e)).trans q) tk, x.st.new⟩
    keep := fun b o e hm hT => (hs.2 b (fun q => by subst q; rw [hC hm] at e; cases e)).trans (x.keep b o e hm hT)
    alive := fun b o e hm => ⟨o, (hs.2 b (fun q => by subst q; rw [hC hm] at e; cases e)).trans (x.keep b o e hm id)⟩
    dom := x.dom }

theorem EvE.dictcomp {okT : PySem.Expr → Prop} {target iter kx vx : PySem.Expr} {ifs : List PySem.Expr} {scope : Scope} {pos : Pos} {P : PV → Mu → Prop} (hT : okT target) (hco : compOk scope sc = true)
    (h : EvE c n sc m mu iter fun d mu1 => ∃ xs src mu2, IterOf c n okT mu1 d xs src mu2 ∧ CompD c n (relab scope sc) src target ifs kx vx (fun ys mu3 => ∀ D, mu3 D = none → D ≠ sysModules → P (.ref D) (upd mu3 D (.dict ys))) xs [] (capt scope m) mu2)
    (hs : ∀ env x, foldedSetIterable iter env x = pure x := by intro _ _; rfl) : EvE c n sc m mu (.DictComp kx vx [⟨target, iter, ifs, 0⟩] scope pos) P := by
  intro env A s he hA ht S F
  rw [arm_eval_DictComp]
  refine comp_runD hT hco h hs he hA ht S F fun C D s' hC hCD hCb hDS q => ?_
  obtain ⟨ys, mu3, p1, p2, p3, p4, p5, p6⟩ := q
  obtain ⟨mc, hmc⟩ := p4
  exact ⟨mc, hmc, fun h' hs' => ⟨.ref D, _, p1 D p2 hDS, DDone.step (P := fun _ _ => True) hC hCD hCb p3 ⟨mc, hmc⟩ p5 hs', .ref D⟩⟩
theorem CompD.all {src : Mu → Prop} {target kx vx : PySem.Expr} {ifs : List PySem.Expr} {P : List (Str × PV) → Mu → Prop} {m0 : Lm} (p : PV → Bool) (g : PV → Str × PV) (hs : src mu) : ∀ (xs : List PV) (acc : List (Str × PV)) (m : Lm), acc.length + xs.length ≤ sizeLine → SubL m0 m →
    ((acc ++ (xs.filter p).map g).map (·.1)).Nodup →
    (∀ x ∈ xs, AsgT false c n sc m0 mu target x fun m1 mu1 => mu1 = mu ∧ SubL m0 m1 ∧ IfsE c n sc m1 mu ifs fun ok mu2 => ok = p x ∧ mu2 = mu ∧ (p x = true → EvE c n sc m1 mu kx fun k mu3 => k = .str (g x).1 ∧ mu3 = mu ∧ EvE c n sc m1 mu vx fun d mu4 => d = (g x).2 ∧ mu4 = mu)) →
    P (acc ++ (xs.filter p).map g) mu → CompD c n sc src target ifs kx vx P xs acc m mu := by
  intro xs
  induction xs with
  | nil => intro acc m _ _ _ _ hP; exact ⟨hs, by simpa using hP⟩
  | cons x xs ih =>
    intro acc m hl hm hnd hstep hP
    refine ⟨hs, by simp at hl; omega, AsgT.weak hm ?_⟩
    have hx := hstep x (by simp)
    intro env A s v he hA ht S F r
    refine wpAny_mono (hx env A s v he hA ht S F r) (fun _ s' q => ?_) fun _ _ z => z
    obtain ⟨m', mu', ⟨rfl, hm1, hif⟩, q2, q3⟩ := q
    refine ⟨m', mu', fun env A s he hA ht S F => wpAny_mono (hif env A s he hA ht S F) (fun ok s' q => ?_) fun _ _ z => z, q2, q3⟩
    obtain ⟨mu2, ⟨rfl, rfl, hk⟩, q2⟩ := q
    refine ⟨mu2, ?_, q2⟩
    cases hp : p x with
    | false =>
      rw [if_neg Bool.false_ne_true]
      rw [List.filter_cons, hp, if_neg Bool.false_ne_true] at hnd hP
      exact ih acc m' (by simp at hl; omega) hm1 hnd (fun y hy => hstep y (by simp [hy])) hP
    | true =>
      rw [if_pos rfl]
      rw [List.filter_cons, hp, if_pos rfl, List.map_cons] at hnd hP
      refine (hk hp).imp fun k mu3 ⟨e1, e2, hv⟩ => ?_
      subst e2
      refine hv.imp fun d mu4 ⟨e3, e4⟩ => ?_
      subst e4
      refine ⟨(g x).1, e1, fun hin => ?_, ?_⟩
      · rw [List.map_append, List.map_cons] at hnd
        have := (List.nodup_append.mp hnd).2.2 _ hin (g x).1 (by simp)
        exact this rfl
      · rw [e3]
        refine ih (acc ++ [((g x).1, (g x).2)]) m' (by simp at hl ⊢; omega) hm1 ?_ (fun y hy => hstep y (by simp [hy])) ?_
        · simpa using hnd
        · simpa using hP
end
end Mine

open PySem PySem.W PySem.Calls PyProof.Rows
set_option Elab.async false
set_option linter.unusedVariables false
namespace Mine
section
variable {c : Cx} {n : Nat} {sc : Scope} {m : Lm} {mu : Mu}
theorem find_new {A : Around} {s : Shared} {d : Addr} {vs : List (Str × Value)} {k : Str} {t : Tok} {E : Value → Shared → Prop} {Q : Option Nat → Shared → Prop} (hd : s.heap.DictOf (PySem.strKind c.prog c.w) d vs) (hk : k ∉ vs.map (·.1)) (h : Q none s) :
    wpAny c.M A (dictFind d (.str k t) ((PySem.strKind c.prog c.w).hash k)) Q E s := by
  obtain ⟨o, es, ep, ho, hc, hdd, hkk, hp, hn⟩ := hd
  refine wpAny_dictFind_of (strKind_is _ _ k t) ho hdd hkk ?_
  have hidx : (es.findIdx? fun e => (PySem.strKind c.prog c.w).is k e.key) = vs.findIdx? fun kv => decide (kv.1 = k) := by
    rw [← hp.findIdx k]; obtain ⟨l⟩ := es; simp
  have : vs.findIdx? (fun kv => decide (kv.1 = k)) = none := by
    rw [List.findIdx?_eq_none_iff]
    intro x hx
    simp only [decide_eq_false_iff_not]
    exact fun e => hk (e ▸ List.mem_map_of_mem hx)
  rw [hidx, this]; exact h
theorem put_new {A : Around} {s : Shared} {d : Addr} {vs : List (Str × Value)} {k : Str} {t : Tok} {v : Value} {E : Value → Shared → Prop} {Q : Unit → Shared → Prop} (hd : s.heap.DictOf (PySem.strKind c.prog c.w) d vs) (hk : k ∉ vs.map (·.1)) (hz : vs.length ≤ sizeLine)
    (h : ∀ h', h'.DictOf (PySem.strKind c.prog c.w) d (vs ++ [(k, v)]) → Heap.SameBut d s.heap h' → Q () { s with heap := h' }) :
    wpAny c.M A (dictPut d ((PySem.strKind c.prog c.w).hash k) (.str k t) v) Q E s := by
  unfold dictPut
  refine wpAny_bind (find_new hd hk ?_)
  obtain ⟨o, es, ep, ho, hc, hdd, hkk, hp, hn⟩ := hd
  have hes : es.size ≤ sizeLine := by have e1 := hp.length; have e2 : es.toList.length = es.size := by simp
                                      omega
  refine wpAny_updateDictKeys (hz := hes) ho hdd (h _ ⟨_, _, ep + 1, Heap.get?_update_self _ ho (Obj.isFreed_of_dict (Obj.data_mapDictKeys hdd _)), hc.mapDictKeys _, Obj.data_mapDictKeys hdd _, hkk.push (strKind_is _ _ k t) _, ?_, ?_⟩ (Heap.SameBut.update ..))
  · have := hp.append (strKind_is c.prog c.w k t) ((PySem.strKind c.prog c.w).hash k) v
    obtain ⟨l⟩ := es
    simpa using this
  · rw [List.map_append, List.nodup_append]
    refine ⟨hn, by simp, ?_⟩
    intro a ha b hb
    simp only [List.map_cons, List.map_nil, List.mem_singleton] at hb
    subst hb
    exact fun e => hk (e ▸ ha)
theorem merge_go {A : Around} {s : Shared} {d a : Addr} {vs : List (Str × Value)} {E : Value → Shared → Prop} {Q : Unit → Shared → Prop} (hda : d ≠ a) (haS : a ≠ sysModules) (hd : s.heap.DictOf (PySem.strKind c.prog c.w) d []) (ha : s.heap.DictOf (PySem.strKind c.prog c.w) a vs) (hz : vs.length ≤ sizeLine)
    (h : ∀ h', h'.DictOf (PySem.strKind c.prog c.w) d vs → Heap.SameBut d s.heap h' → Q () { s with heap := h' }) : wpAny c.M A (mergeMapping d (.ref a) true) Q E s := by
  obtain ⟨oa, esa, epa, hoa, hca, hda', hka, hpa, hna⟩ := id ha
  obtain ⟨od, esd, epd, hod, hcd, hdd, hkd, hpd, hnd⟩ := id hd
  have hT := ha.typeIs
  unfold mergeMapping
  have hsz : esa.size = vs.length := by rw [← hpa.length]; simp
  have hsd : esd.isEmpty = true := by
    have : esd.size = 0 := by rw [← Array.length_toList, hpd.length]; rfl
    simpa [Array.isEmpty] using this
  refine wpAny_bind (wpAny_isInstance hT isSubtype_dict_dict ?_)
  simp only [if_true]
  refine wpAny_bind (wpAny_specialOf hT F.slot_dict_iter.lookup (wpAny_bind (wpAny_pure ?_)))
  rw [beq_self_eq_true]
  dsimp only
  rw [if_neg (by simpa using haS)]
  refine wpAny_bind (wpAny_dictEntries hod hdd ?_)
  rw [if_pos hsd]
  refine wpAny_bind (wpAny_dictEntries hoa hda' ?_)
  have keyAt : ∀ (i : Nat) (hi : i < esa.size), ∃ k v t, vs[i]? = some (k, v) ∧ esa[i].key = .str k t ∧ esa[i].val = v ∧ esa[i].hash = (PySem.strKind c.prog c.w).hash k := fun i hi => by
    have hv : i < vs.length := by omega
    obtain ⟨h1, h2⟩ := hpa.get? (e := esa[i]) (by simp [hi]) (List.getElem?_eq_getElem hv)
    obtain ⟨t, ht⟩ := Value.isStrOf_shape h1
    obtain ⟨k', hk', hh⟩ := hka esa[i] (Array.getElem_mem hi)
    obtain ⟨t', ht'⟩ := Value.isStrOf_shape hk'
    rw [ht] at ht'
    cases ht'
    exact ⟨vs[i].1, vs[i].2, t, List.getElem?_eq_getElem hv, ht, h2, hh⟩
  have e0 : (forIn esa PUnit.unit fun e (__s : PUnit) => match e.key with
      | Value.ref a => (do
        let __do_lift ← specialOf e.key (Str.ofString "__eq__")
        if (__do_lift != some (Value.builtin "object.__eq__")) = true then
            if (Array.filter (fun x => x.hash == e.hash) esa).size > 1 then do
              unsupported "dict.merge-into-an-empty-dict:keys-of-equal-hash"
              pure (ForInStep.yield PUnit.unit)
            else pure (ForInStep.yield PUnit.unit)
          else pure (ForInStep.yield PUnit.unit) : Sem (ForInStep PUnit))
      | x => pure (ForInStep.yield PUnit.unit)) = (pure PUnit.unit : Sem PUnit) := by
    rw [← Array.forIn_toList]
    rw [forIn_yield _ (fun _ _ => PUnit.unit) _ _ (fun e he b => ?_)]
    obtain ⟨i, hi, rfl⟩ := List.mem_iff_getElem.mp he
    obtain ⟨k, v, t, _, hkey, _⟩ := keyAt i (by simpa using hi)
    simp only [Array.getElem_toList]
    rw [hkey]
  refine wpAny_bind (wpAny_of_eq e0 ?_)
  refine wpAny_bind (wpAny_dictEntries hoa hda' ?_)
  refine wpAny_bind (wpAny_dictEpoch hoa hda' ?_)
  refine wpAny_bind ?_
  rw [List.range_eq_range']
  refine wpAny_forIn_list _ (fun rest _ s' => ∃ h' i, s' = { s with heap := h' } ∧ rest = List.range' i (esa.size - i) ∧ i ≤ esa.size ∧ h'.DictOf (PySem.strKind c.prog c.w) d (vs.take i) ∧ h'.get? a = some oa ∧ Heap.SameBut d s.heap h')
    _ ?_ ?_ _ _ ⟨s.heap, 0, rfl, by simp, Nat.zero_le _, by simpa using hd, hoa, Heap.SameBut.refl _ _⟩
  · rintro x rest b s' ⟨h', i, rfl, hr, hi, hd', hoa', hs'⟩
    have hlt : i < esa.size := by
      rcases Nat.lt_or_ge i esa.size with z | z
      · exact z
      · rw [Nat.sub_eq_zero_of_le z] at hr; simp at hr
    rw [show esa.size - i = (esa.size - (i + 1)) + 1 from by omega, List.range'_succ] at hr
    obtain ⟨rfl, rfl⟩ := List.cons.inj hr
    obtain ⟨k, v, t, hv, hkey, hval, hhash⟩ := keyAt x hlt
    have hnew : k ∉ (vs.take x).map (·.1) := fun hin => by
      obtain ⟨j, hj, e⟩ := List.mem_iff_getElem.mp hin
      have hj' : j < x := by simp at hj; omega
      have hvx := (List.getElem?_eq_some_iff.mp hv).2
      have e1 : (vs.map (·.1))[j]'(by simp; omega) = (vs.map (·.1))[x]'(by simp; omega) := by
        simp only [List.getElem_map, List.getElem_take] at e ⊢
        rw [e, hvx]
      have := (List.getElem_inj (h₀ := by simp; omega) (h₁ := by simp; omega) hna).mp e1
      omega
    refine wpAny_bind (wpAny_dictEntries (s := { s with heap := h' }) hoa' hda' ?_)
    rw [Array.getElem?_eq_getElem hlt]
    dsimp only
    rw [hkey, hval, hhash]
    refine wpAny_bind (wpAny_holding (wpAny_bind (find_new hd' hnew ?_)))
    simp only [Option.isSome_none, Bool.false_eq_true, if_false]
    refine put_new hd' hnew (by simp; omega) fun h2 hd2 hs2 => ?_
    have hoa2 : h2.get? a = some oa := (hs2.2 a (Ne.symm hda)).trans hoa'
    refine wpAny_bind (wpAny_dictEpoch (s := { s with heap := h2 }) hoa2 hda' ?_)
    rw [if_neg (by simp)]
    refine wpAny_pure ⟨h2, x + 1, rfl, rfl, hlt, ?_, hoa2, hs'.trans hs2⟩
    rw [List.take_add_one, hv]; exact hd2
  · rintro b s' ⟨h', i, rfl, hr, hi, hd', hoa', hs'⟩
    have hi2 : i = esa.size := by
      rcases Nat.lt_or_ge i esa.size with z | z
      · rw [show esa.size - i = (esa.size - (i + 1)) + 1 from by omega, List.range'_succ] at hr; cases hr
      · omega
    rw [hi2, hsz, List.take_length] at hd'
    exact wpAny_pure (h h' hd' hs')
theorem kwIn_go {A : Around} {s : Shared} {d : Addr} {f : Value} {vs : List (Str × Value)} {E : Value → Shared → Prop} {Q : List (Str × Value) → Shared → Prop} (hd : s.heap.DictOf (PySem.strKind c.prog c.w) d vs) (h : Q vs s) : wpAny c.M A (keywordsIn f d) Q E s := by
  obtain ⟨o, es, ep, ho, hc, hdd, hk, hp, hn⟩ := hd
  unfold keywordsIn
  refine wpAny_bind (wpAny_dictEntries ho hdd ?_)
  have hsz : es.size = vs.length := by rw [← hp.length]; simp
  rw [← Array.forIn_toList]
  rw [forIn_yield _ (fun b e => b ++ [((match e.key with | .str s _ => s | _ => Str.empty), e.val)]) es.toList _ (fun e he b => ?_)]
  · refine wpAny_bind (wpAny_pure (wpAny_pure ?_))
    have : ∀ (l : List DictEntry) (vs : List (Str × Value)) (b : List (Str × Value)), Pairs (PySem.strKind c.prog c.w) l vs → l.foldl (fun b e => b ++ [((match e.key with | .str s _ => s | _ => Str.empty), e.val)]) b = b ++ vs := fun l vs b hp => by
      induction hp generalizing b with
      | nil => simp
      | @cons e kv l vs h1 h2 _ ih =>
        obtain ⟨t, ht⟩ := Value.isStrOf_shape h1
        rw [List.foldl_cons, ih, ht, h2]; simp
    rw [this _ _ _ hp]; exact h
  · obtain ⟨i, hi, rfl⟩ := List.mem_iff_getElem.mp he
    obtain ⟨k', hk', _⟩ := hk (es.toList[i]) (by simp)
    obtain ⟨t, ht⟩ := Value.isStrOf_shape hk'
    rw [ht]
/-- a bound method, made as an object -/
def BMeth (c : Cx) (mu : Mu) (ov : PV) (name : Str) (f : Value) : Prop :=
  ∀ A s v (Q : Value → Shared → Prop) E, St c mu s.heap → Rep s.heap ov v → Q (.ref s.heap.objs.size) { s with heap := s.heap.push (methodObj f v), toks := s.toks + 1 } → wpAny c.M A (getAttr v name true) Q E s
theorem BMeth.hd {K : Frag} {C x l f : Addr} {kvs : List Row} {name : Str} (hK : K.In c.base) (H : Hd c C mu x l kvs) (hg : plainGet K C name = true) (hh : hasDictIn K C = true)
    (ha : findIn K (.ref C) name = some (some (.ref f))) (hf : isFn K (.ref f) = true) (hgf : specialIn K (.ref f) "__get__" = some (some (.builtin "function.__get__"))) (ht : takesIn K (.ref f) = some false) (hc : copiedNames.contains name = false) (hl : ("_headers" : Str) ≠ name) : BMeth c mu (.ref x) name (.ref f) := fun A s v Q E S r h => by
  cases r
  obtain ⟨dx, tok, h1, h2⟩ := H.inst
  have hgl : getL name [(⟨PyData.keyHash c.w.params (Str.ofString "_headers"), .str (Str.ofString "_headers") tok, .ref l⟩ : DictEntry)] = some none := by
    have : ((Str.ofString "_headers") == name) = false := beq_eq_false_iff_ne.mpr hl
    simp [getL, Value.isStr, this]
    rfl
  have X := hK.keeps S.base
  exact get_bind X (inst_at h1 h2 S) (plainGet_of hg).1 (findObj_fn hh ha hgf ht hc (by show lookIn name (dictOf _ _) = _; rw [lookIn_dict, hgl])) (plainGet_of hg).2
    (wpAny_call (fn_get (s := { s with toks := s.toks + 1 }) X (beq_iff_eq.mp hf) (handed_on rfl h)))
theorem mergedKw_go {A : Around} {s : Shared} {f : Value} {x : Sem Value} {pos : Pos} {E : Value → Shared → Prop} {Q : Addr → Shared → Prop}
    (h : wpAny c.M A x (fun v s1 => ∃ a vs, v = .ref a ∧ s.heap.objs.size ≠ a ∧ a ≠ sysModules ∧ s1.heap.get? s.heap.objs.size = some (dictOf [] 0) ∧ s1.heap.DictOf (PySem.strKind c.prog c.w) a vs ∧ vs.length ≤ sizeLine ∧
      ∀ h', h'.DictOf (PySem.strKind c.prog c.w) s.heap.objs.size vs → Heap.SameBut s.heap.objs.size s1.heap h' → Q s.heap.objs.size { s1 with heap := h' }) E { s with heap := s.heap.push (dictOf [] 0) }) :
    wpAny c.M A (mergedKeywords f [(none, do let v ← x; standAt pos; pure v)]) Q E s := by
  unfold mergedKeywords
  refine wpAny_bind (wpAny_alloc (wpAny_bind (wpAny_holding ?_)))
  dsimp only
  rw [List.forIn_cons]
  refine wpAny_bind (wpAny_bind (wpAny_bind ?_))
  rw [if_pos (show ([] : List (Str × Sem Value)).isEmpty = true from rfl)]
  refine wpAny_pure ?_
  refine wpAny_bind (wpAny_bind (wpAny_mono h (fun v s1 h1 => wpAny_bind (wpAny_standAt (wpAny_pure ?_))) fun _ _ z => z))
  obtain ⟨a, vs, rfl, hne, haS, hd, ha, hz, hq⟩ := h1
  refine wpAny_bind (wpAny_onRaise (wpAny_holding (wpAny_tryCatch (wpAny_onRaise (merge_go hne haS (dict_new (t := 0) hd List.nodup_nil) ha hz fun h' hd' hs' => ?_)))))
  refine wpAny_pure ?_
  show wpAny c.M A (forIn [] ([] : List (Str × Sem Value)) _) _ _ _
  rw [List.forIn_nil]
  refine wpAny_pure ?_
  rw [if_pos (show ([] : List (Str × Sem Value)).isEmpty = true from rfl)]
  exact wpAny_pure (wpAny_pure (hq h' hd' hs'))
theorem evalArgs_star {f : Value} {args : List (Bool × Sem Value)} {x : Sem Value} {M : Model} {A : Around} {E : Value → Shared → Prop} {s : Shared} {Q : Args → Shared → Prop} (hs : args.any (·.1) = false)
    (h : wpAny M A (spliced args) (fun vs s1 => wpAny M A (mergedKeywords f [(none, x)]) (fun d s2 => wpAny M A (keywordsIn f d) (fun kw s3 => Q ⟨vs, kw⟩ s3) E s2) E s1) E s) : wpAny M A (evalArgs f true args [(none, x)]) Q E s := by
  have fin : ∀ vs s1, wpAny M A (mergedKeywords f [(none, x)]) (fun d s2 => wpAny M A (keywordsIn f d) (fun kw s3 => Q ⟨vs, kw⟩ s3) E s2) E s1 →
      wpAny M A (mergedKeywords f [(none, x)] >>= fun d => (pure vs : Sem (List Value)) >>= fun pos => holding (.ref d :: pos) (keywordsIn f d) >>= fun kw => pure (⟨pos, kw⟩ : Args)) Q E s1 := fun vs s1 h1 =>
    wpAny_bind (wpAny_mono h1 (fun d s2 h2 => wpAny_bind (wpAny_pure (wpAny_bind (wpAny_holding (wpAny_mono h2 (fun kw s3 h3 => wpAny_pure h3) fun _ _ z => z))))) fun _ _ z => z)
  cases args with
  | nil =>
    unfold evalArgs
    show wpAny M A (spliced [] >>= _) Q E s
    exact wpAny_bind (wpAny_mono h (fun vs s1 h1 => wpAny_holding (fin vs s1 h1)) fun _ _ z => z)
  | cons a r =>
    obtain ⟨b, t⟩ := a
    have hb : b = false := by simp only [List.any_cons, Bool.or_eq_false_iff] at hs; exact hs.1
    subst hb
    unfold evalArgs
    show wpAny M A (spliced ((false, t) :: r) >>= _) Q E s
    exact wpAny_bind (wpAny_mono h (fun vs s1 h1 => wpAny_holding (fin vs s1 h1)) fun _ _ z => z)
/-- o.name(.., **e) -/
theorem methodKw_go {o e : PySem.Expr} {name : Str} {es : List PySem.Expr} {p apos pos : Pos} {env : Env} {A : Around} {s : Shared} {Q : Value → Shared → Prop} {E : Value → Shared → Prop} (he : env.scope = sc) (hA : AOk n A) (ht : 0 < s.toks) (S : St c mu s.heap) (F : Fm c mu s.heap env m)
    (h : EvE c n sc m mu o fun d mu0 => ∃ a fd body, BMeth c mu0 d name (.ref a) ∧ FnOk c a fd body ∧ EvA c n sc m mu0 es fun ds mu1 => EvE c n sc m mu1 e fun kd mu2 => ∃ D kw, kd = .ref D ∧ mu2 D = some (.dict kw) ∧ D ≠ sysModules ∧ kw.length ≤ sizeLine ∧
      ∀ s3 vs kvs, Step c noT mu s mu2 s3 → 0 < s3.toks → St c mu2 s3.heap → Reps s3.heap (d :: ds) vs → RepD s3.heap kw kvs → codeAny c.M A (.call (.ref a) ⟨vs, kvs⟩) (fun r s' => match r with | .ok (.ret v) => Q v s' | .ok _ => False | .error e => E e s') s3)
    (hb : attributeBase o name env (eval o env) = eval o env) (hst : noStar es = true) : wpAny c.M A (eval (.Call (.Attribute o name apos) es [⟨none, e, p⟩] pos) env) Q E s := by
  rw [arm_eval_Call, hb]
  refine wpAny_bind (EvE.bind h he hA ht S F fun v s0 d mu0 h0 x0 t0 S0 F0 r0 _ => ?_)
  obtain ⟨a, fd, body, hm, hf, h0⟩ := h0
  refine wpAny_bind (wpAny_standAt ?_)
  have hkw : backToKw pos (keywordEach [⟨none, e, p⟩] env) = [(none, do let v ← eval e env; standAt pos; pure v)] := rfl
  have hform : methodCallForm (es.length + 1) (backTo pos (starEach es env)) (backToKw pos (keywordEach [⟨none, e, p⟩] env)) = false := by
    rw [hkw]; unfold methodCallForm; simp
  unfold methodCall
  show wpAny c.M A (holding [v] (calleeOf (methodCallForm (es.length + 1) (backTo pos (starEach es env)) (backToKw pos (keywordEach [⟨none, e, p⟩] env))) o env v name) >>= _) Q E s0
  rw [hform]
  refine wpAny_bind (wpAny_holding ?_)
  show wpAny c.M A (getAttr v name true >>= fun x => pure (x, [])) _ _ s0
  refine wpAny_bind (hm A s0 v _ _ S0 r0 (wpAny_pure ?_))
  dsimp only
  refine wpAny_bind ?_
  show wpAny c.M A (methodCallPos (methodCallForm (es.length + 1) (backTo pos (starEach es env)) (backToKw pos (keywordEach [⟨none, e, p⟩] env))) o env apos pos) _ _ _
  rw [hform]
  show wpAny c.M A (pure pos) _ _ _
  refine wpAny_pure ?_
  -- behind the making of the method
  have x1 : Step c noT mu0 s0 mu0 { s0 with heap := s0.heap.push (methodObj (.ref a) v), toks := s0.toks + 1 } := Step.ext S0 fun b o eb => Heap.get?_push_of_some _ eb
  have gq : (s0.heap.push (methodObj (.ref a) v)).get? s0.heap.objs.size = some (methodObj (.ref a) v) := Heap.get?_push_size _ rfl
  have oq : mu0 s0.heap.objs.size = none := S0.off (Nat.le_refl _)
  generalize hs1 : ({ s0 with heap := s0.heap.push (methodObj (.ref a) v), toks := s0.toks + 1 } : Shared) = s1 at *
  have t1 : 0 < s1.toks := by rw [← hs1]; exact Nat.succ_pos _
  have gq1 : s1.heap.get? s0.heap.objs.size = some (methodObj (.ref a) v) := by rw [← hs1]; exact gq
  generalize hqq : s0.heap.objs.size = q at *
  have F1 := F0.step S0 x1
  have r1 := r0.mono (x1.tk0 S0)
  unfold callWith
  refine wpAny_bind (wpAny_holding ?_)
  rw [hkw]
  refine evalArgs_star (noStar_any env pos hst) ?_
  refine EvA.bind h0 he hA t1 x1.st F1 fun ws s2 ds mu1 h2 x2 t2 S2 F2 r2 k2 => ?_
  have gq2 : s2.heap.get? q = some (methodObj (.ref a) v) := x2.keep q _ gq1 oq id
  have oq2 : mu1 q = none := keepNone x2 gq1 oq
  refine mergedKw_go ?_
  have x3 : Step c noT mu1 s2 mu1 { s2 with heap := s2.heap.push (dictOf [] 0) } := Step.pushOff S2
  have gd3 : (s2.heap.push (dictOf [] 0)).get? s2.heap.objs.size = some (dictOf [] 0) := Heap.get?_push_size _ rfl
  have od3 : mu1 s2.heap.objs.size = none := S2.off (Nat.le_refl _)
  have gq3 : (s2.heap.push (dictOf [] 0)).get? q = some (methodObj (.ref a) v) := Heap.get?_push_of_some _ gq2
  have hdq : s2.heap.objs.size ≠ q := Nat.ne_of_gt (Heap.lt_size gq2)
  refine EvE.bind h2 he hA (s := { s2 with heap := s2.heap.push (dictOf [] 0) }) t2 x3.st (F2.step S2 x3) fun kv s4 kd mu2 h4 x4 t4 S4 F4 r4 k4 => ?_
  obtain ⟨D, kw, rfl, hD, hDS, hkz, hcall⟩ := h4
  cases r4
  obtain ⟨kvs, esD, nD, gD, dD, rD⟩ := S4.objs D _ hD
  have gd4 : s4.heap.get? s2.heap.objs.size = some (dictOf [] 0) := x4.keep _ _ gd3 od3 id
  have od4 : mu2 s2.heap.objs.size = none := keepNone x4 gd3 od3
  have gq4 : s4.heap.get? q = some (methodObj (.ref a) v) := x4.keep _ _ gq3 oq2 id
  have hne : s2.heap.objs.size ≠ D := fun z => by rw [z, hD] at od4; cases od4
  refine ⟨D, kvs, rfl, hne, hDS, gd4, dD, by rw [rD.length]; exact hkz, fun h5 hd5 hs5 => ?_⟩
  refine kwIn_go (s := { s4 with heap := h5 }) hd5 ?_
  have hal : ∃ o, h5.get? s2.heap.objs.size = some o := by obtain ⟨o, _, _, z, _⟩ := id hd5; exact ⟨o, z⟩
  have hbd : c.base.get? s2.heap.objs.size = none := S2.baseNone (Nat.le_refl _)
  have notd : ∀ o, s4.heap.get? s2.heap.objs.size = some o → ¬ IsT o := fun o z => by rw [gd4] at z; cases z; exact dict_notT
  have x5 : Step c (fun b => b = s2.heap.objs.size) mu2 s4 mu2 { s4 with heap := h5, toks := s4.toks } := Step.turn S4 od4 hbd notd hs5 rfl hal
  have x123 : Step c noT mu s mu1 s2 := (x0.trans x1).trans x2
  have x04 : Step c noT mu s mu2 s4 := (x123.trans x3).trans x4
  have sfresh : ∀ b, b = s2.heap.objs.size → s.heap.get? b = none ∨ mu b ≠ none := fun b hb => by
    subst hb
    cases z : s.heap.get? s2.heap.objs.size with
    | none => exact .inl rfl
    | some o =>
      cases w : mu s2.heap.objs.size with
      | some y => exact .inr (by simp)
      | none => have := x123.keep _ o z w id; rw [get_none (Nat.le_refl _)] at this; cases this
  have x05 : Step c noT mu s mu2 { s4 with heap := h5, toks := s4.toks } := {
    shape := by obtain ⟨h, tk, z⟩ := x04.shape; rw [z]; exact ⟨_, _, rfl⟩
    st := x5.st
    keep := fun b o z hm _ => x5.keep b o (x04.keep b o z hm id) (keepNone x04 z hm) fun w => by
      rcases sfresh b w with y | y
      · rw [z] at y; cases y
      · exact y hm
    alive := fun b o z hm => x5.alive b o (x04.keep b o z hm id) (keepNone x04 z hm)
    dom := x04.dom }
  have tk5 : TK s4.heap h5 := fun b o z w => hs5.extBut b o (fun y => by subst y; exact notd o z w) z
  have gq5 : h5.get? q = some (methodObj (.ref a) v) := (hs5.2 q (Ne.symm hdq)).trans gq4
  refine wpAny_bind (wpAny_standAt ?_)
  have hstar : ((backTo pos (starEach es env)).any (fun x => x.1) || ([(none, do let v ← eval e env; standAt pos; pure v)] : List (Option Str × Sem Value)).any fun x => x.1.isNone) = true := by simp
  dsimp only
  rw [hstar]
  have hkeep : ∀ (Q' : Keeper → Shared → Prop) E', Q' .boundFrame { s4 with heap := h5 } → wpAny c.M A (keeperOf (.ref q)) Q' E' { s4 with heap := h5 } := fun Q' E' z => by
    unfold keeperOf
    refine wpAny_bind (wpAny_load (s := { s4 with heap := h5 }) gq5 ?_)
    obtain ⟨fo, hfo, hfd⟩ := hf.obj
    show wpAny c.M A (load a >>= _) _ _ _
    refine wpAny_bind (wpAny_load (s := { s4 with heap := h5 }) (x5.st.base _ _ hfo) ?_)
    rw [hfd]; exact wpAny_pure z
  refine wpAny_bind (hkeep _ _ ?_)
  dsimp only
  refine wpAny_bind (wpAny_operating (wpAny_call (method_call (s := { s4 with heap := h5 }) gq5 ?_)))
  have k34 : TK s2.heap s4.heap := fun b o z w => k4 b o (Heap.get?_push_of_some _ z) w
  have rr : Reps h5 (d :: ds) (v :: ws) := .cons ((((r1.mono (x2.tk0 x1.st)).mono k34)).mono tk5) ((r2.mono k34).mono tk5)
  refine codeAny_mono (hcall { s4 with heap := h5 } (v :: ws) kvs x05 t4 x5.st rr (rD.mono tk5)) fun r s' z => ?_
  cases r with
  | error x => exact z
  | ok fl =>
    cases fl with
    | ret w => exact wpAny_bind (wpAny_holding (wpAny_point (wpAny_pure z)))
    | next => exact z
    | brk => exact z
    | cont => exact z
theorem EvA.imp {es : List PySem.Expr} {P Q : List PV → Mu → Prop} (h : EvA c n sc m mu es P) (k : ∀ d mu', P d mu' → Q d mu') : EvA c n sc m mu es Q := fun env A s pos he hA ht S F =>
  wpAny_mono (h env A s pos he hA ht S F) (fun _ _ ⟨d, mu', p, x, r⟩ => ⟨d, mu', k d mu' p, x, r⟩) fun _ _ z => z
/-- the call gives a value -/
theorem EvE.methodKw {o e : PySem.Expr} {name : Str} {es : List PySem.Expr} {p apos pos : Pos} {P : PV → Mu → Prop}
    (h : EvE c n sc m mu o fun d mu0 => ∃ a fd body, BMeth c mu0 d name (.ref a) ∧ FnOk c a fd body ∧ EvA c n sc m mu0 es fun ds mu1 => EvE c n sc m mu1 e fun kd mu2 => ∃ D kw mu3, kd = .ref D ∧ mu2 D = some (.dict kw) ∧ D ≠ sysModules ∧ kw.length ≤ sizeLine ∧ Sub mu3 mu2 ∧ CallK c n mu3 (.ref a) (d :: ds) kw P)
    (hb : ∀ env, attributeBase o name env (eval o env) = eval o env := by intro _; rfl) (hst : noStar es = true := by rfl) : EvE c n sc m mu (.Call (.Attribute o name apos) es [⟨none, e, p⟩] pos) P := by
  intro env A s he hA ht S F
  refine methodKw_go he hA ht S F (h.imp fun d mu0 ⟨a, fd, body, h1, h2, h3⟩ => ⟨a, fd, body, h1, h2, h3.imp fun ds mu1 h4 => h4.imp fun kd mu2 ⟨D, kw, mu3, e1, e2, e3, e4, hs, h5⟩ => ⟨D, kw, e1, e2, e3, e4, fun s3 vs kvs x t S3 r rk => ?_⟩⟩) (hb env) hst
  refine codeAny_mono (h5 A s3 vs kvs hA t (S3.sub hs) r rk) fun r s' z => ?_
  cases r with
  | error x => exact z.elim
  | ok fl =>
    cases fl with
    | ret w =>
      obtain ⟨pv, mu', q1, q2, q3⟩ := z
      exact ⟨pv, mu', q1, x.trans (q2.sub hs), q3⟩
    | next => exact z
    | brk => exact z
    | cont => exact z
end
end Mine

open PySem PySem.W PySem.Calls PyProof.Rows
set_option Elab.async false
set_option linter.unusedVariables false
namespace Mine
section
variable {c : Cx} {n : Nat} {sc : Scope} {m : Lm} {mu : Mu}
theorem Tst.drop {e : PySem.Expr} {P : Bool → Mu → Prop} (h : Tst c n sc m mu e fun b mu1 => Sub mu mu1 ∧ P b mu) : Tst c n sc m mu e P := fun env A s he hA ht S F =>
  wpAny_mono (h env A s he hA ht S F) (fun v s' ⟨mu', ⟨h1, h2⟩, x⟩ => ⟨mu, h2, x.forget h1⟩) fun _ _ z => z
end
/-! # texts by numbers -/
def wordB (ab : List Nat) : Nat → Nat → List Nat
  | 0, _ => []
  | _ + 1, 0 => []
  | f + 1, k + 1 => ab.getD (k % ab.length) 0 :: wordB ab f (k / ab.length)
theorem wordB_zero (ab : List Nat) (f : Nat) : wordB ab f 0 = [] := by cases f <;> rfl
def gB (b : Nat) : Nat → Nat
  | 0 => 1
  | j + 1 => b * gB b j + 1
theorem wordB_len (ab : List Nat) (hb : 0 < ab.length) : ∀ (j f k : Nat), k < gB ab.length j → (wordB ab f k).length ≤ j := by
  intro j
  induction j with
  | zero => intro f k h; have : k = 0 := by simp [gB] at h; exact h
            subst this; rw [wordB_zero]; simp
  | succ j ih =>
    intro f k h
    cases f with
    | zero => simp [wordB]
    | succ f =>
      cases k with
      | zero => simp [wordB]
      | succ k =>
        simp only [wordB, List.length_cons]
        have : k / ab.length < gB ab.length j := by
          rw [Nat.div_lt_iff_lt_mul hb, Nat.mul_comm]
          simp [gB] at h; exact h
        have := ih f _ this
        omega
theorem wordB_mem {ab : List Nat} (hb : 0 < ab.length) : ∀ (f k : Nat) (ch : Nat), ch ∈ wordB ab f k → ch ∈ ab := by
  intro f
  induction f with
  | zero => intro k ch h; cases h
  | succ f ih =>
    intro k ch h
    cases k with
    | zero => cases h
    | succ k =>
      rcases List.mem_cons.mp h with h | h
      · rw [h, List.getD_eq_getElem?_getD, List.getElem?_eq_getElem (Nat.mod_lt _ hb)]; exact List.getElem_mem _
      · exact ih _ _ h
/-! # names -/
theorem dig_chars : ∀ i, i < 64 → (dig i).all (fun ch => decide (48 ≤ ch ∧ ch ≤ 57)) = true ∧ (dig i).length ≤ 2 := by decide +kernel
theorem dig_inj : ∀ i, i < 64 → ∀ j, j < 64 → dig i = dig j → i = j := by
  have : ∀ i, i < 64 → ((dig i).foldl (fun a d => 10 * a + (d - 48)) 0) = i := by decide +kernel
  intro i hi j hj h
  have h1 := this i hi
  have h2 := this j hj
  rw [h] at h1
  omega
theorem okN_of {k : List Nat} (h : ∀ ch ∈ k, 32 ≤ ch ∧ ch < 127) (hl : k.length ≤ 100000) : okN k = true := by
  unfold okN
  rw [Bool.and_eq_true, List.all_eq_true, decide_eq_true_eq]
  exact ⟨fun ch hc => by simpa using h ch hc, hl⟩
theorem dig_num {i : Nat} (hi : i < 64) {ch : Nat} (h : ch ∈ dig i) : 48 ≤ ch ∧ ch ≤ 57 := by
  have := List.all_eq_true.mp (dig_chars i hi).1 ch h
  simpa using this
/-! # rows -/
theorem S_self : ("self" : Str) = S [115, 101, 108, 102] := by decide +kernel
theorem S_nm : ("_name" : Str) = S [95, 110, 97, 109, 101] := by decide +kernel
theorem S_vl : ("_value" : Str) = S [95, 118, 97, 108, 117, 101] := by decide +kernel
end Mine

open PySem PySem.W PySem.Calls PyProof.Rows
set_option Elab.async false
set_option linter.unusedVariables false
namespace Mine
section
variable {c : Cx} {n : Nat} {sc : Scope} {m : Lm} {mu : Mu}
/-- a value that is no tuple -/
def atomA : PV → Bool
  | .tuple _ => false
  | _ => true
theorem Rep.atom {h h' : Heap} {d : PV} {v : Value} (hd : atomA d = true) (r : Rep h d v) : Rep h' d v := by
  cases r with
  | tuple _ _ => cases hd
  | none => exact .none
  | bool b => exact .bool b
  | int i t => exact .int i t
  | str x t => exact .str x t
  | bytes b t => exact .bytes b t
  | ref a => exact .ref a
  | ty x => exact .ty x
  | bi x => exact .bi x
theorem Reps.atom {h h' : Heap} {ds : List PV} {vs : List Value} (hd : ds.all atomA = true) (r : Reps h ds vs) : Reps h' ds vs := by
  induction ds generalizing vs with
  | nil => cases r; exact .nil
  | cons d ds ih =>
    cases r with | cons a b =>
    rw [List.all_cons, Bool.and_eq_true] at hd
    exact .cons (a.atom hd.1) (ih hd.2 b)
theorem RepD.atom {h h' : Heap} {ds : List (Str × PV)} {vs : List (Str × Value)} (hd : ds.all (fun p => atomA p.2) = true) (r : RepD h ds vs) : RepD h' ds vs := by
  induction r with
  | nil => exact .nil
  | cons a b ih =>
    rw [List.all_cons, Bool.and_eq_true] at hd
    exact .cons (a.atom hd.1) (ih hd.2)
def atomO : AO → Bool
  | .list xs => xs.all atomA
  | .dict kvs => kvs.all fun p => atomA p.2
  | _ => true
def atomMu (mu : Mu) : Prop := ∀ a o, mu a = some o → atomO o = true
theorem RepO.atom {h h' : Heap} {a : Addr} {x : AO} (hx : atomO x = true) (r : RepO c h a x) (ha : ∀ o, h.get? a = some o → h'.get? a = some o) : RepO c h' a x := by
  cases x with
  | list xs => obtain ⟨vs, k, e, rs⟩ := r; exact ⟨vs, k, ha _ e, rs.atom hx⟩
  | inst C dx => exact ha _ r
  | dict kvs => obtain ⟨vs, es, k, e, D, rs⟩ := r; exact ⟨vs, es, k, ha _ e, dictOf_at D ha, RepD.atom hx rs⟩
  | obj o => exact ⟨ha _ r.1, r.2⟩
  | rng x y z => obtain ⟨t, u, v, e⟩ := r; exact ⟨t, u, v, ha _ e⟩
theorem Fm.atom {env : Env} {h h' : Heap} (F : Fm c mu h env m) (hm : m.all (fun p => atomA p.2) = true) (hL : ∀ o, h.get? env.locals = some o → h'.get? env.locals = some o) (hC : ∀ x ca, env.cells.lookup x = some ca → ∀ o, h.get? ca = some o → h'.get? ca = some o) : Fm c mu h' env m := by
  have at1 : ∀ x pv, m.lookup x = some pv → atomA pv = true := fun x pv e => by
    have := mem_of_lookup e
    exact List.all_eq_true.mp hm _ this
  obtain ⟨mc, hn, hv⟩ := F.loc
  exact { F with
    loc := ⟨mc, hn.at' hL, fun y pv e hky => let ⟨v, a, b⟩ := hv y pv e hky; ⟨v, a, b.atom (at1 y pv e)⟩⟩
    cel := fun y pv e hky => let ⟨ca, v, a, ⟨o, b, d⟩, r⟩ := F.cel y pv e hky; ⟨ca, v, a, ⟨o, hC y ca a o b, d⟩, r.atom (at1 y pv e)⟩
    cells := fun y ca e => let ⟨v, ⟨o, b, d⟩⟩ := F.cells y ca e; ⟨v, ⟨o, hC y ca e o b, d⟩⟩ }
theorem nne {a b : Nat} (h : a < b ∨ b < a) : @Ne Addr a b := by
  rcases h with h | h
  · exact Nat.ne_of_lt h
  · exact Nat.ne_of_gt h
/-- the state of a zip of two lists -/
structure ZipS (h : Heap) (N l1 l2 : Nat) (xs ys : List Value) (i : Nat) : Prop where
  z : IsZip h (N + 4) (N + 2) (N + 3) .none
  ti : IsPair h (N + 2) (.ref N) (.ref (N + 1))
  to : ∃ a b, IsPair h (N + 3) a b
  i1 : h.IsListIter N l1 i
  i2 : h.IsListIter (N + 1) l2 i
  l1 : h.IsList l1 xs.toArray
  l2 : h.IsList l2 ys.toArray
theorem ZipS.at {h h' : Heap} {N l1 l2 : Nat} {xs ys : List Value} {i : Nat} (Z : ZipS h N l1 l2 xs ys i) (hk : ∀ b : Nat, b = N + 4 ∨ b = N + 2 ∨ b = N + 3 ∨ b = N ∨ b = N + 1 ∨ b = l1 ∨ b = l2 → ∀ o, h.get? b = some o → h'.get? b = some o) : ZipS h' N l1 l2 xs ys i :=
  ⟨hk _ (.inl rfl) _ Z.z, hk _ (.inr (.inl rfl)) _ Z.ti, let ⟨a, b, e⟩ := Z.to; ⟨a, b, hk _ (.inr (.inr (.inl rfl))) _ e⟩, Z.i1.at (hk _ (.inr (.inr (.inr (.inl rfl))))), Z.i2.at (hk _ (.inr (.inr (.inr (.inr (.inl rfl)))))), Z.l1.at (hk _ (.inr (.inr (.inr (.inr (.inr (.inl rfl))))))), Z.l2.at (hk _ (.inr (.inr (.inr (.inr (.inr (.inr rfl)))))))⟩
theorem zip_apart {N l1 l2 : Nat} (h1 : l1 < N) (h2 : l2 < N) : ZipApart (N + 4) (N + 2) (N + 3) N (N + 1) l1 l2 := by
  constructor <;> exact nne (by omega)
structure MidZ (c : Cx) (env : Env) (mu1 : Mu) (s1 : Shared) (N l1 l2 : Nat) (xs ys : List Value) (m0 : Lm) (I : Nat → Mu → Prop) (i : Nat) (mu : Mu) (s : Shared) : Prop where
  step : Step c (Tch env) mu1 s1 mu s
  fm : Fm c mu s.heap env m0
  inv : I i mu
  toks : 0 < s.toks
  z : ZipS s.heap N l1 l2 xs ys i
  off : ∀ b : Nat, b = N + 4 ∨ b = N + 2 ∨ b = N + 3 ∨ b = N ∨ b = N + 1 ∨ b = l1 ∨ b = l2 → mu b = none ∧ c.base.get? b = none
  tup : TK s1.heap s.heap
theorem zip_loop {target : PySem.Expr} {body : List Stmt} {P : FV → Lm → Mu → Prop} {env : Env} {A : Around} {mu1 : Mu} {s1 : Shared} {N l1 l2 : Nat} {xs ys : List Value} {us ds : List PV} {m0 : Lm} {I : Nat → Mu → Prop}
    (hN : s1.heap.objs.size = N) (he : env.scope = sc) (hA : AOk n A) (S1 : St c mu1 s1.heap) (F1 : Fm c mu1 s1.heap env m) (hT : tupT target) (ha : m0.all (fun p => atomA p.2) = true) (hat : ∀ i mu', I i mu' → atomMu mu') (rx : Reps s1.heap us xs) (hu : us.all atomA = true) (ry : Reps s1.heap ds ys)
    (h1 : ∃ o, s1.heap.get? l1 = some o) (h2 : ∃ o, s1.heap.get? l2 = some o) (m1 : mu1 l1 ≠ none) (m2 : mu1 l2 ≠ none)
    (hstep : ∀ i u d mu', us[i]? = some u → ds[i]? = some d → I i mu' → AsgT true c n sc m0 mu' target (.tuple [u, d]) fun m1 mu1 => ExS c n sc m1 mu1 body fun fl m2 mu2 => fl = .next ∧ I (i + 1) mu2 ∧ SubL m0 m2)
    (hfin : ∀ mu', I (min us.length ds.length) mu' → P .next m0 mu')
    (s : Shared) (mu0 : Mu) (hm : MidZ c env mu1 s1 N l1 l2 xs ys m0 I 0 mu0 s) :
    codeAny c.M A (.forLoop target (.ref (N + 4)) body [] env) (fun r s' => match r with | .ok f => PostS c env mu1 s1 P f s' | .error e => cameBackBy c.M A env NoE e s') s := by
  have lx := rx.length
  have ly := ry.length
  have hN1 : (l1 : Nat) < N := by obtain ⟨o, e⟩ := h1; rw [← hN]; exact Heap.lt_size e
  have hN2 : (l2 : Nat) < N := by obtain ⟨o, e⟩ := h2; rw [← hN]; exact Heap.lt_size e
  have hLoc : (env.locals : Nat) < N := by obtain ⟨mc, ⟨o, _, _, e, _⟩, _⟩ := F1.loc; rw [← hN]; exact Heap.lt_size e
  have hCel : ∀ x (ca : Nat), env.cells.lookup x = some ca → ca < N := fun x ca hx => by obtain ⟨_, o, e, _⟩ := F1.cells x ca hx; rw [← hN]; exact Heap.lt_size e
  have hLl : ∀ l, mu1 l ≠ none → env.locals ≠ l := fun l hl e => hl (e ▸ F1.offL)
  have hCl : ∀ l, mu1 l ≠ none → ∀ x ca, env.cells.lookup x = some ca → ca ≠ l := fun l hl x ca hx e => hl (e ▸ (F1.offC x ca hx).1)
  refine codeAny_forLoop_any (fun k s' => ∃ i mu, k = min us.length ds.length + 1 - i ∧ i ≤ min us.length ds.length ∧ MidZ c env mu1 s1 N l1 l2 xs ys m0 I i mu s') ?_ (min us.length ds.length + 1 - 0) ⟨0, mu0, rfl, Nat.zero_le _, hm⟩
  clear hm
  rintro k s ⟨i, mu, rfl, hi, hm⟩
  have D := zip_apart hN1 hN2
  obtain ⟨a, b, hTO⟩ := hm.z.to
  -- a private step
  have priv : ∀ {h' : Heap} {tk : Nat}, (∀ (x : Nat) o, x ≠ N + 4 → x ≠ N + 3 → x ≠ N → x ≠ N + 1 → s.heap.get? x = some o → h'.get? x = some o) →
      St c mu h' ∧ Fm c mu h' env m0 ∧ Step c (Tch env) mu1 s1 mu { s with heap := h', toks := tk } ∧ TK s1.heap h' := fun {h' tk} hk => by
    have low : ∀ (x : Nat) o, x < N → s.heap.get? x = some o → h'.get? x = some o := fun x o hx e => hk x o (Nat.ne_of_lt (by omega)) (Nat.ne_of_lt (by omega)) (Nat.ne_of_lt (by omega)) (Nat.ne_of_lt (by omega)) e
    have offz : ∀ x : Nat, mu x ≠ none ∨ c.base.get? x ≠ none → x ≠ N + 4 ∧ x ≠ N + 3 ∧ x ≠ N ∧ x ≠ N + 1 := fun x hx => by
      refine ⟨fun e => ?_, fun e => ?_, fun e => ?_, fun e => ?_⟩
      · have := hm.off x (.inl e); rcases hx with h | h; exact h this.1; exact h this.2
      · have := hm.off x (.inr (.inr (.inl e))); rcases hx with h | h; exact h this.1; exact h this.2
      · have := hm.off x (.inr (.inr (.inr (.inl e)))); rcases hx with h | h; exact h this.1; exact h this.2
      · have := hm.off x (.inr (.inr (.inr (.inr (.inl e))))); rcases hx with h | h; exact h this.1; exact h this.2
    have S' : St c mu h' := {
      base := fun x o e => by
        obtain ⟨q1, q2, q3, q4⟩ := offz x (.inr (by rw [e]; simp))
        exact hk x o q1 q2 q3 q4 (hm.step.st.base x o e)
      objs := fun x o e => by
        obtain ⟨q1, q2, q3, q4⟩ := offz x (.inl (by rw [e]; simp))
        exact (hm.step.st.objs x o e).atom (hat i mu hm.inv x o e) fun o' e' => hk x o' q1 q2 q3 q4 e'
      new := hm.step.st.new }
    refine ⟨S', hm.fm.atom ha (fun o e => low _ o hLoc e) (fun x ca hx o e => low ca o (hCel x ca hx) e), ?_, fun x o e ht => low x o (hN ▸ Heap.lt_size e) (hm.tup x o e ht)⟩
    exact {
      shape := by obtain ⟨h2, tk2, e⟩ := hm.step.shape; rw [e]; exact ⟨_, _, rfl⟩
      st := S'
      keep := fun x o e hmb hTb => low x o (hN ▸ Heap.lt_size e) (hm.step.keep x o e hmb hTb)
      alive := fun x o e hmb => let ⟨o1, e1⟩ := hm.step.alive x o e hmb; ⟨o1, low x o1 (hN ▸ Heap.lt_size e) e1⟩
      dom := hm.step.dom }
  by_cases hlt : i < min us.length ds.length
  · have hux : i < us.length := by omega
    have hdx : i < ds.length := by omega
    obtain ⟨x, hx, rxx⟩ := rx.get (List.getElem?_eq_getElem hux)
    obtain ⟨y, hy, ryy⟩ := ry.get (List.getElem?_eq_getElem hdx)
    refine wpAny_mono (wpAny_toks (wpAny_pyNext_zip_item (Q := fun r s' => ∃ h', s' = { s with heap := h' } ∧ r = some (.ref s.heap.objs.size) ∧ IsZip h' (N + 4) (N + 2) (N + 3) (rawInt s.heap.objs.size) ∧ IsPair h' (N + 3) x y ∧ h'.IsListIter N l1 (i + 1) ∧ h'.IsListIter (N + 1) l2 (i + 1) ∧ IsPair h' s.heap.objs.size x y ∧ (∀ c o, c ≠ N + 4 → c ≠ N + 3 → c ≠ N → c ≠ N + 1 → s.heap.get? c = some o → h'.get? c = some o)) (E := NoE) D hm.z.z hm.z.ti hTO hm.z.i1 hm.z.i2 hm.z.l1 hm.z.l2 (by simpa using hx) (by simpa using hy) fun h' a1 a2 a3 a4 a5 _ hk => ⟨h', rfl, rfl, a1, a2, a3, a4, a5, hk⟩)) (fun r s2 p => ?_) fun _ _ w => w.2.elim
    obtain ⟨hle, h', rfl, rfl, a1, a2, a3, a4, a5, hk⟩ := p
    obtain ⟨elts, kk, pos, rfl⟩ := hT
    dsimp only
    have hsN : (N + 4 : Nat) < s.heap.objs.size := Heap.lt_size hm.z.z
    refine wpAny_letOwnedTupleGo_zip (s := { s with heap := h' }) a1 fun h'' z2 hs2 => ?_
    have hk2 : ∀ (x : Nat) o, x ≠ N + 4 → x ≠ N + 3 → x ≠ N → x ≠ N + 1 → s.heap.get? x = some o → h''.get? x = some o := fun x o q1 q2 q3 q4 e => (hs2.2 x q1).trans (hk x o q1 q2 q3 q4 e)
    obtain ⟨S', F', x1, tk'⟩ := priv (tk := s.toks) hk2
    have g5 : h''.get? s.heap.objs.size = some { cls := .type "tuple", data := .seq #[x, y] } := (hs2.2 _ (nne (by omega))).trans a5
    have rd : Rep h'' (.tuple [us[i], ds[i]]) (.ref s.heap.objs.size) := .tuple (vs := [x, y]) g5 (.cons (rxx.atom (List.all_eq_true.mp hu _ (List.getElem_mem hux))) (.cons (ryy.mono tk') .nil))
    have Z' : ZipS h'' N l1 l2 xs ys (i + 1) := ⟨z2, hk2 _ _ (nne (by omega)) (nne (by omega)) (nne (by omega)) (nne (by omega)) hm.z.ti, ⟨x, y, (hs2.2 _ (nne (by omega))).trans a2⟩, a3.at fun o e => (hs2.2 _ (nne (by omega))).trans e, a4.at fun o e => (hs2.2 _ (nne (by omega))).trans e, hm.z.l1.at fun o e => hk2 _ o (nne (by omega)) (nne (by omega)) (nne (by omega)) (nne (by omega)) e, hm.z.l2.at fun o e => hk2 _ o (nne (by omega)) (nne (by omega)) (nne (by omega)) (nne (by omega)) e⟩
    refine wpAny_mono (wpAny_toks (hstep i us[i] ds[i] mu (List.getElem?_eq_getElem hux) (List.getElem?_eq_getElem hdx) hm.inv env A { s with heap := h'' } (.ref s.heap.objs.size) he hA hm.toks S' F' rd)) (fun _ s3 p => ?_) fun _ _ w => w.2.elim
    obtain ⟨hle3, m3, mu3, h3, x3, F3⟩ := p
    have t3 : 0 < s3.toks := Nat.lt_of_lt_of_le hm.toks hle3
    refine wpAny_mono (wpAny_toks (h3 env A s3 he hA t3 x3.st F3)) (fun f s4 p => ?_) fun _ _ w => w.2.elim
    obtain ⟨hle4, fl, m4, mu4, ⟨rfl, h4, hsub⟩, x4, F4, rf⟩ := p
    cases rf
    have x34 := x3.trans x4
    have tk34 := F'.tkT S' x34
    have offT : ∀ b : Nat, b = N + 4 ∨ b = N + 2 ∨ b = N + 3 ∨ b = N ∨ b = N + 1 ∨ b = l1 ∨ b = l2 → ¬ Tch env b := fun b hb q => by
      rcases q with q | ⟨_, w, q⟩
      · rcases hb with z | z | z | z | z | z | z
        · have w : (b : Nat) < N := by rw [q]; exact hLoc
          omega
        · have w : (b : Nat) < N := by rw [q]; exact hLoc
          omega
        · have w : (b : Nat) < N := by rw [q]; exact hLoc
          omega
        · have w : (b : Nat) < N := by rw [q]; exact hLoc
          omega
        · have w : (b : Nat) < N := by rw [q]; exact hLoc
          omega
        · exact hLl l1 m1 (q ▸ z)
        · exact hLl l2 m2 (q ▸ z)
      · have := hCel w b q
        rcases hb with z | z | z | z | z | z | z
        · omega
        · omega
        · omega
        · omega
        · omega
        · exact hCl l1 m1 w b q z
        · exact hCl l2 m2 w b q z
    have zk : ∀ b : Nat, b = N + 4 ∨ b = N + 2 ∨ b = N + 3 ∨ b = N ∨ b = N + 1 ∨ b = l1 ∨ b = l2 → ∀ o, h''.get? b = some o → s4.heap.get? b = some o := fun b hb o e => x34.keep b o e (hm.off b hb).1 (offT b hb)
    have zal : ∀ b : Nat, b = N + 4 ∨ b = N + 2 ∨ b = N + 3 ∨ b = N ∨ b = N + 1 ∨ b = l1 ∨ b = l2 → ∃ o, h''.get? b = some o := fun b hb => by
      rcases hb with z | z | z | z | z | z | z <;> subst z
      · exact ⟨_, Z'.z⟩
      · exact ⟨_, Z'.ti⟩
      · obtain ⟨_, _, e⟩ := Z'.to; exact ⟨_, e⟩
      · obtain ⟨o, e, _⟩ := Z'.i1; exact ⟨o, e⟩
      · obtain ⟨o, e, _⟩ := Z'.i2; exact ⟨o, e⟩
      · obtain ⟨o, e, _⟩ := Z'.l1; exact ⟨o, e⟩
      · obtain ⟨o, e, _⟩ := Z'.l2; exact ⟨o, e⟩
    refine ⟨min us.length ds.length + 1 - (i + 1), by omega, i + 1, mu4, rfl, hlt, x1.trans x34, F4.weak fun y d e => hsub.look y d e, h4, Nat.lt_of_lt_of_le t3 hle4, Z'.at zk, fun b hb => ⟨?_, (hm.off b hb).2⟩, fun x o e ht => tk34 x o (tk' x o e ht) ht⟩
    obtain ⟨o, e⟩ := zal b hb
    exact keepNone x34 e (hm.off b hb).1
  · have hie : i = min us.length ds.length := by omega
    refine wpAny_mono (wpAny_toks (wpAny_pyNext_zip_end (Q := fun r s' => r = none ∧ ∃ h', s' = { s with heap := h' } ∧ (∀ c o, c ≠ N + 4 → c ≠ N + 3 → c ≠ N → c ≠ N + 1 → s.heap.get? c = some o → h'.get? c = some o)) (E := NoE) hA.hd D hm.z.z hm.z.ti hTO hm.z.i1 hm.z.i2 hm.z.l1 hm.z.l2 (by simp; omega) fun h' hk => ⟨rfl, h', rfl, hk⟩)) (fun r s2 p => ?_) fun _ _ w => w.2.elim
    obtain ⟨hle, rfl, h', rfl, hk⟩ := p
    obtain ⟨S', F', x1, tk'⟩ := priv (tk := s.toks) hk
    exact wpAny_execs_nil ⟨.next, m0, mu, hfin mu (hie ▸ hm.inv), x1, F', .next⟩
theorem Ex1.forZip {x : Str} {target e1 e2 : PySem.Expr} {p4 p5 pos : Pos} {body : List Stmt} {P : FV → Lm → Mu → Prop} {l1 l2 : Addr} {us ds : List PV} {m0 : Lm} (I : Nat → Mu → Prop)
    (hT : tupT target) (hk : sc.names.lookup x = some .globalImplicit) (hg : c.mg x = none) (hn : x ≠ ("__name__" : Str)) (hv : bootBuiltins x = some (.type "zip")) (hd : (x == ("__debug__" : Str)) = false)
    (he1 : EvA c n sc m mu [e1, e2] fun as mu1 => as = [.ref l1, .ref l2] ∧ mu1 = mu) (hst : noStar [e1, e2] = true)
    (hm0 : SubL m0 m) (ha : m0.all (fun p => atomA p.2) = true) (h1 : mu l1 = some (.list us)) (h2 : mu l2 = some (.list ds)) (hu : us.all atomA = true)
    (hI0 : ∃ mu0, Sub mu0 mu ∧ mu0 l1 = none ∧ mu0 l2 = none ∧ I 0 mu0) (hat : ∀ i mu', I i mu' → atomMu mu')
    (hstep : ∀ i u d mu', us[i]? = some u → ds[i]? = some d → I i mu' → AsgT true c n sc m0 mu' target (.tuple [u, d]) fun m1 mu1 => ExS c n sc m1 mu1 body fun fl m2 mu2 => fl = .next ∧ I (i + 1) mu2 ∧ SubL m0 m2)
    (hfin : ∀ mu', I (min us.length ds.length) mu' → P .next m0 mu')
    (hs : ∀ env v, foldedSetIterable (.Call (.Name x p4) [e1, e2] [] p5) env v = pure v := by intro _ _; rfl) : Ex1 c n sc m mu (.For target (.Call (.Name x p4) [e1, e2] [] p5) body [] pos) P := by
  intro env A s he hA ht S F
  show wpAny c.M A (do
    standAt pos
    let v ← foldedSetIterable (.Call (.Name x p4) [e1, e2] [] p5) env (← eval (.Call (.Name x p4) [e1, e2] [] p5) env)
    standAt (PySem.Expr.Call (.Name x p4) [e1, e2] [] p5).pos
    runOwn (.forLoop target (← holding [v] (pyIter v)) body [] env) env) _ _ s
  refine wpAny_bind (wpAny_standAt (wpAny_bind ?_))
  show wpAny c.M A (do callWith p5 (← eval (.Name x p4) env) [] (backTo p5 (starEach [e1, e2] env)) (backToKw p5 (keywordEach [] env))) _ _ s
  refine wpAny_bind (EvE.bind (EvE.builtin (P := fun d mu1 => d = .ty "zip" ∧ mu1 = mu) hk hg hn hv (fun _ => .ty "zip") ⟨rfl, rfl⟩ hd) he hA ht S F fun v s0 d mu0 hp x0 t0 S0 F0 r0 _ => ?_)
  obtain ⟨rfl, rfl⟩ := hp
  cases r0
  unfold callWith
  refine wpAny_bind (wpAny_holding (evalArgs_go (noStar_any env p5 hst) rfl ?_))
  refine EvA.bind he1 he hA t0 S0 F0 fun ws s1 as mu1 hp x1 t1 S1 F1 r1 _ => ?_
  obtain ⟨rfl, rfl⟩ := hp
  cases r1 with | cons ra r1 =>
  cases r1 with | cons rb r1 =>
  cases r1; cases ra; cases rb
  refine wpAny_pure ?_
  refine wpAny_bind (wpAny_standAt (wpAny_bind (wpAny_pure ?_)))
  obtain ⟨xs, k1, g1, rx⟩ := S1.objs l1 _ h1
  obtain ⟨ys, k2, g2, ry⟩ := S1.objs l2 _ h2
  have hst2 : ((backTo p5 (starEach [e1, e2] env)).any (fun x => x.1) || (backToKw p5 (keywordEach [] env)).any fun x => x.1.isNone) = false := by
    rw [noStar_any env p5 hst]; rfl
  dsimp only
  rw [hst2]
  dsimp only
  refine wpAny_bind (call_zip_2 (xs := xs.toArray) (ys := ys.toArray) ⟨_, g1, rfl, _, rfl⟩ ⟨_, g2, rfl, _, rfl⟩ fun h2' z1 z2 z3 z4 z5 z6 z7 => ?_)
  refine wpAny_bind (wpAny_holding (wpAny_point (wpAny_pure ?_)))
  rw [hs]
  refine wpAny_bind (wpAny_pure (wpAny_bind (wpAny_standAt (wpAny_bind (wpAny_holding (wpAny_pyIter_zip (s := { s1 with heap := h2' }) z1 ?_))))))
  refine wpAny_runOwn ?_
  obtain ⟨mu0, hsub, n1, n2, hI⟩ := hI0
  generalize hN : s1.heap.objs.size = N at *
  have noN : ∀ b : Nat, N ≤ b → mu0 b = none ∧ c.base.get? b = none := fun b hb => by
    refine ⟨?_, S1.baseNone (hN ▸ hb)⟩
    cases q : mu0 b with
    | none => rfl
    | some o => have := S1.off (a := b) (hN ▸ hb); rw [hsub b o q] at this; cases this
  have S1' : St c mu0 s1.heap := S1.sub hsub
  have x2 : Step c noT mu0 s1 mu0 { s1 with heap := h2', toks := s1.toks } := Step.ext S1' fun b o e => z7 b o e
  have F2 : Fm c mu0 h2' env m0 := ((F1.sub hsub).step S1' x2).weak fun y d e => hm0.look y d e
  have x12 : Step c (Tch env) _ s1 mu0 { s1 with heap := h2', toks := s1.toks } := (Step.sub hsub x2).toT
  have hm : MidZ c env _ s1 N l1 l2 xs ys m0 I 0 mu0 { s1 with heap := h2' } := {
    step := x12
    fm := F2
    inv := hI
    toks := t1
    z := ⟨z1, z2, ⟨_, _, z3⟩, z4, z5, ⟨_, z7 _ _ g1, rfl, _, rfl⟩, ⟨_, z7 _ _ g2, rfl, _, rfl⟩⟩
    off := fun b hb => by
      rcases hb with q | q | q | q | q | q | q
      · exact noN b (by omega)
      · exact noN b (by omega)
      · exact noN b (by omega)
      · exact noN b (by omega)
      · exact noN b (by omega)
      · subst q; exact ⟨n1, S1.new _ (by rw [h1]; simp)⟩
      · subst q; exact ⟨n2, S1.new _ (by rw [h2]; simp)⟩
    tup := fun a o e _ => z7 a o e }
  exact codeAny_mono (zip_loop hN he hA S1 F1 hT ha hat rx hu ry ⟨_, g1⟩ ⟨_, g2⟩ (by rw [h1]; simp) (by rw [h2]; simp) hstep hfin _ mu0 hm) fun r s' q => by
      cases r with
      | ok f => exact q.after ((x0.trans x1).toT)
      | error e => exact q
end
end Mine

open PySem PySem.W PySem.Calls PyProof.Rows
set_option Elab.async false
set_option linter.unusedVariables false
set_option maxRecDepth 100000
namespace Mine
section
variable {c : Cx} {n : Nat} {sc : Scope} {m : Lm} {mu : Mu}
theorem fold_rep (v : Value) (k : Nat) : List.foldl (fun x1 x2 => x1 ++ x2) (#[] : Array Value) (List.replicate k #[v]) = (List.replicate k v).toArray := by
  have : ∀ (k : Nat) (a : Array Value), List.foldl (fun x1 x2 => x1 ++ x2) a (List.replicate k #[v]) = a ++ (List.replicate k v).toArray := fun k => by
    induction k with
    | zero => intro a; simp
    | succ k ih =>
      intro a; rw [List.replicate_succ, List.foldl_cons, ih]
      obtain ⟨l⟩ := a
      simp [List.replicate_succ]
  rw [this]; simp
theorem Reps.replicate {h : Heap} {d : PV} {v : Value} (r : Rep h d v) : ∀ k, Reps h (List.replicate k d) (List.replicate k v)
  | 0 => .nil
  | k + 1 => .cons r (Reps.replicate r k)
/-- [d] * k, the list of one item a temporary -/
theorem OpB.mulL {l : Addr} {d : PV} {k : Nat} {P : PV → Mu → Prop} (hl : mu l = none) (hk : k ≤ 100000) (h : ∀ D, mu D = none → P (.ref D) (upd mu D (.list (List.replicate k d)))) : OpB c n (upd mu l (.list [d])) .Mult (.ref l) (.int (k : Int)) P := fun A s va vb hA ht S ra rb => by
  cases ra; cases rb with | int _ u =>
  obtain ⟨vs, q, e, rs⟩ := S.objs l (.list [d]) (by simp)
  cases rs with | @cons _ v _ vs rv rs =>
  cases rs
  have hoff : upd mu l (.list [d]) s.heap.objs.size = none := S.off (Nat.le_refl _)
  have hne : s.heap.objs.size ≠ l := fun z => by rw [z] at hoff; simp at hoff
  rw [upd_ne _ _ hne] at hoff
  obtain ⟨x, hx⟩ : ∃ x : Int, x = (k : Int) := ⟨_, rfl⟩
  rw [← hx]
  have hxn : (#[v] : Array Value).size * x.toNat = k := by rw [hx]; simp
  have hf1 : ¬(!Builtin.List.listFitsIndex x) = true := by simp [Builtin.List.listFitsIndex]; omega
  have hf2 : ¬(#[v] : Array Value).size * x.toNat > (2 ^ 63 - 1) / 8 := by rw [hxn]; omega
  have hf3 : ¬Builtin.List.listTooLong ((#[v] : Array Value).size * x.toNat) = true := by
    rw [hxn]; simp [Builtin.List.listTooLong, sizeLine]; omega
  refine wpAny_binaryOp_repeat_ref (T := "list") (U := "int") (by decide) ⟨_, e, rfl⟩ (fun s' => typeIs_int s' x u) noFill_list_mul F.fills_int_mul F.slot_int_rmul repeat_list F.slot_int_index.lookup
    (call_meets F.slot_int_rmul (typeIs_int s x u) F.entry_int_rmul (F.args_int_rmul_2 _ _) (int___rmul___int_list x u l #[v] q)
      ⟨e, rfl, ⟨_, e, rfl⟩, call_meets F.slot_list_mul ⟨_, e, rfl⟩ F.entry_list_mul (F.args_list_mul_2 _ _)
        (AutoListH.list___mul___list_int_3 l #[v] q x u hf1 hf2 hf3) ⟨e, ?_⟩⟩)
  rw [show (if (#[v] : Array Value).isEmpty = true then 0 else x.toNat) = k from by simp [hx], fold_rep]
  have S2 : St c mu s.heap := S.sub (mu := mu) fun a o ea => by
    by_cases z : a = l
    · subst z; rw [hl] at ea; cases ea
    · rw [upd_ne _ _ z]; exact ea
  have x := Step.push (T := noT) (s := s) (o := listOf (List.replicate k v).toArray 0) (x := .list (List.replicate k d)) S2 ⟨_, 0, Heap.get?_push_size _ rfl, Reps.replicate (rv.mono fun b o eb _ => Heap.get?_push_of_some _ eb) k⟩
  exact ⟨_, _, h _ hoff, Step.sub (sub_upd hl) x, .ref _⟩
theorem set_mapSeq {vs : List Value} {v : Value} {j k : Nat} : ∃ k', Obj.mapSeq (fun xs => xs.setIfInBounds j v) (listOf vs.toArray k) = listOf (vs.set j v).toArray k' := by
  have h : vs.toArray.setIfInBounds j v = (vs.set j v).toArray := by simp
  exact ⟨_, by rw [← h]; rfl⟩
/-- l[i] = d -/
theorem AsgT.subList {Kb : Bool} {o i : PySem.Expr} {pos : Pos} {d : PV} {P : Lm → Mu → Prop}
    (h : EvE c n sc m mu o fun dv mu1 => EvE c n sc m mu1 i fun iv mu2 => ∃ l xs j, dv = .ref l ∧ iv = .int (j : Nat) ∧ mu2 l = some (.list xs) ∧ j < xs.length ∧ xs.length ≤ 100000 ∧ P m (upd mu2 l (.list (xs.set j d)))) : AsgT Kb c n sc m mu (.Subscript o i pos) d P := by
  intro env A s v he hA ht S F r
  rw [arm_assign_Subscript]
  refine wpAny_bind (wpAny_holding (EvE.bind h he hA ht S F fun v0 s1 d1 mu1 h1 x1 t1 S1 F1 r1 k1 => ?_))
  refine wpAny_bind (wpAny_holding (EvE.bind h1 he hA t1 S1 F1 fun v2 s2 d2 mu2 h2 x2 t2 S2 F2 r2 k2 => ?_))
  obtain ⟨l, xs, j, rfl, rfl, hl, hj, hz, hP⟩ := h2
  cases r1
  cases r2 with | int _ u =>
  obtain ⟨vs, q, e, rs⟩ := S2.objs l _ hl
  have hlen := rs.length
  have hli : s2.heap.IsList l vs.toArray := ⟨_, e, rfl, _, rfl⟩
  refine wpAny_bind (wpAny_standAt (wpAny_bind (wpAny_holding ?_)))
  unfold setItem
  refine wpAny_holding ?_
  refine wpAny_bind (wpAny_sequenceKey hli.typeIs (by decide) ?_)
  refine wpAny_bind (wpAny_callSpecial?_slot (name := Str.ofString "__setitem__") hli.typeIs slot_list_setitem
    (wpAny_call_entry slot_list_setitem hli.typeIs entry_list_setitem ?_ (args_list_setitem _ _ _)))
  obtain ⟨z, hz0⟩ : ∃ z : Int, z = (j : Int) := ⟨_, rfl⟩
  rw [← hz0]
  show wpAny _ _ (Builtin.List.listSubscript? (.int z u) >>= _) _ _ s2
  refine wpAny_bind (wpAny_listSubscript_int (fitsIndex_of (by omega) (by omega)) ?_)
  subst hz0
  have hx' : vs.toArray[j]? = some (vs.toArray[j]'(by simp; omega)) := Array.getElem?_eq_getElem _
  show wpAny _ _ ((seqItemAt l j >>= fun r => pure (r.map (j, ·))) >>= _) _ _ s2
  refine wpAny_bind (wpAny_bind (wpAny_seqItemAt e rfl (wpAny_pure ?_)))
  rw [hx']
  show wpAny _ _ (setSeqItemAt l j v >>= _) _ _ s2
  obtain ⟨k', ek⟩ := set_mapSeq (vs := vs) (v := v) (j := j) (k := q)
  have e1 : (s2.heap.update l (Obj.mapSeq fun xs => xs.setIfInBounds j v)).get? l = some (listOf (vs.set j v).toArray k') := by
    rw [← ek]; exact Heap.get?_update_self _ e (by rw [ek]; rfl)
  have hs' : Heap.SameBut l s2.heap (s2.heap.update l (Obj.mapSeq fun xs => xs.setIfInBounds j v)) := Heap.SameBut.update ..
  have tk : TK s2.heap (s2.heap.update l (Obj.mapSeq fun xs => xs.setIfInBounds j v)) := fun b o eb hto => hs'.extBut b o (fun q => by subst q; rw [e] at eb; cases eb; exact list_notT hto) eb
  have rset : ∀ (h : Heap) (ds : List PV) (ws : List Value) (j : Nat), Reps h ds ws → Rep h d v → Reps h (ds.set j d) (ws.set j v) := fun h ds => by
    induction ds with
    | nil => intro ws j r _; cases r; exact .nil
    | cons a r ih =>
      intro ws j rr rd
      cases rr with | cons r0 rr =>
      cases j with
      | zero => exact .cons rd rr
      | succ j => exact .cons r0 (ih _ j rr rd)
  have x3 : Step c noT mu2 s2 (upd mu2 l (.list (xs.set j d))) { s2 with heap := s2.heap.update l (Obj.mapSeq fun xs => xs.setIfInBounds j v), toks := s2.toks } :=
    Step.set S2 (by rw [hl]; simp) hs' ⟨_, k', e1, rset _ _ _ _ (rs.mono tk) (((r.mono k1).mono k2).mono tk)⟩
  refine wpAny_bind (wpAny_setSeqItemAt e rfl ?_)
  refine wpAny_pure ⟨.none, rfl, wpAny_pure ?_⟩
  exact wpAny_release ⟨m, _, hP, ((x1.trans x2).trans x3).toT, F2.step S2 x3⟩
end
end Mine

open PySem PySem.W PySem.Calls PyProof.Rows
set_option Elab.async false
set_option linter.unusedVariables false
namespace Mine
section
variable {c : Cx} {n : Nat} {sc : Scope} {m : Lm} {mu : Mu}
theorem OpC.notInS {x y : Str} {P : PV → Mu → Prop} (h : P (.bool (!Txt.contains x y)) mu) : OpC c n mu .NotIn (.str y) (.str x) P := fun A s va vb hA ht S ra rb => by
  cases ra; cases rb
  exact PySem.P.notIn_str (Post.pure0 S h (.bool _))
theorem CallV.find {x y : Str} {P : PV → Mu → Prop} (h : P (.int (Txt.find x y)) mu) : CallV c n mu (.builtin "str.find") [.str x, .str y] [] P := fun A s vs kvs hA ht S r rk => by
  cases r with | cons r0 r =>
  cases r with | cons r1 r =>
  cases r; cases rk; cases r0; cases r1
  exact SC.find (Post.pure S h (.int _ _))
end
theorem at_one {l : List Nat} {ch i : Nat} : StrLaws.At (S l) (S [ch]) (S l).length i ↔ l[i]? = some ch := by
  unfold StrLaws.At Builtin.Str.subAt
  rw [S_length, S_length]
  constructor
  · rintro ⟨h1, h2⟩
    simp only [List.length_singleton] at h1 h2
    have h3 : (l.toArray.extract i (i + 1)) = #[ch] := by simpa using h2
    have h4 : (l.toArray.extract i (i + 1))[0]? = some ch := by rw [h3]; rfl
    simpa using h4
  · intro h
    obtain ⟨hl, e⟩ := List.getElem?_eq_some_iff.mp h
    refine ⟨by simp; omega, ?_⟩
    simp only [List.length_singleton, beq_iff_eq]
    apply Array.ext'
    simp [List.extract_eq_take_drop]
    rw [List.drop_eq_getElem_cons hl, e]
    simp
theorem find_none {l : List Nat} {ch : Nat} (h : ch ∉ l) : Txt.find (S l) (S [ch]) = -1 := by
  rcases find_whole (S l) (S [ch]) with ⟨h1, _⟩ | ⟨i, h1, h2, _⟩
  · exact h1
  · exact absurd (List.mem_of_getElem? (at_one.mp h2)) h
theorem find_at {a b : List Nat} {ch : Nat} (h : ch ∉ a) : Txt.find (S (a ++ ch :: b)) (S [ch]) = (a.length : Int) := by
  rcases find_whole (S (a ++ ch :: b)) (S [ch]) with ⟨_, h2⟩ | ⟨i, h1, h2, h3⟩
  · exact absurd (at_one.mpr (by simp)) (h2 a.length)
  · rw [h1]
    have hi := at_one.mp h2
    rcases Nat.lt_trichotomy i a.length with q | q | q
    · rw [List.getElem?_append_left q] at hi
      exact absurd (List.mem_of_getElem? hi) h
    · rw [q]
    · exact absurd (at_one.mpr (by simp)) (h3 a.length q)
/-! # the written form of parameters -/
def encP (p : Row) : List Nat := [59, 32] ++ (p.1 ++ (if p.2 = [] then [] else [61, 34] ++ (escL p.2 ++ [34])))
def encA (ps : List Row) : List Nat := ps.flatMap encP
theorem encA_cons (p : Row) (ps : List Row) : encA (p :: ps) = encP p ++ encA ps := rfl
theorem encA_head (ps : List Row) : encA ps = [] ∨ ∃ r, encA ps = 59 :: 32 :: r := by
  cases ps with
  | nil => exact .inl rfl
  | cons p ps => exact .inr ⟨_, rfl⟩
theorem encA_split {ps : List Row} {i : Nat} {p : Row} (h : ps[i]? = some p) : encA ps = encA (ps.take i) ++ (encP p ++ encA (ps.drop (i + 1))) := by
  obtain ⟨hl, e⟩ := List.getElem?_eq_some_iff.mp h
  have : ps = ps.take i ++ p :: ps.drop (i + 1) := by rw [← e, ← List.drop_eq_getElem_cons hl, List.take_append_drop]
  conv => lhs; rw [this]
  unfold encA
  rw [List.flatMap_append, List.flatMap_cons]
theorem encA_take {ps : List Row} {i : Nat} {p : Row} (h : ps[i]? = some p) : encA (ps.take (i + 1)) = encA (ps.take i) ++ encP p := by
  unfold encA; rw [List.take_add_one, h, List.flatMap_append]; simp
theorem esc_take {p : List Nat} {j ch : Nat} (h : p[j]? = some ch) : escL (p.take (j + 1)) = escL (p.take j) ++ (if ch = 34 ∨ ch = 92 then [92, ch] else [ch]) := by
  rw [List.take_add_one, h, escL_append]
  show _ ++ escL [ch] = _
  rw [escL_cons, escL_nil, List.append_nil]
theorem esc_split {p : List Nat} {j ch : Nat} (h : p[j]? = some ch) : escL p = escL (p.take j) ++ ((if ch = 34 ∨ ch = 92 then [92, ch] else [ch]) ++ escL (p.drop (j + 1))) := by
  obtain ⟨hl, e⟩ := List.getElem?_eq_some_iff.mp h
  have : p = p.take j ++ ch :: p.drop (j + 1) := by rw [← e, ← List.drop_eq_getElem_cons hl, List.take_append_drop]
  conv => lhs; rw [this]
  rw [escL_append, escL_cons]
theorem dropAt {α : Type} {T A B : List α} {a : Nat} (h : T = A ++ B) (ha : a = A.length) : T.drop a = B := by subst h; subst ha; simp
theorem getAt {α : Type} {T A B : List α} {a : Nat} {x : α} (h : T = A ++ x :: B) (ha : a = A.length) : T[a]? = some x := by subst h; subst ha; simp
theorem esc_ge (l : List Nat) : l.length ≤ (escL l).length := by
  induction l with
  | nil => simp
  | cons a r ih => rw [escL_cons]; split <;> simp <;> omega
theorem contains_two (ch : Nat) : Txt.contains (S [61, 59]) (S [ch]) = decide (ch = 61 ∨ ch = 59) := by
  rw [contains_one]; simp
end Mine

open PySem PySem.W PySem.Calls PyProof.Rows
set_option Elab.async false
set_option linter.unusedVariables false
namespace Mine
/-! # lists as functions -/
def fl {α : Type} (k : Nat) (f : Nat → α) : List α := (List.range k).map f
theorem fl_len {α : Type} (k : Nat) (f : Nat → α) : (fl k f).length = k := by simp [fl]
theorem fl_get {α : Type} {k i : Nat} (f : Nat → α) (h : i < k) : (fl k f)[i]? = some (f i) := by simp [fl, h]
theorem fl_congr {α : Type} {k : Nat} {f g : Nat → α} (h : ∀ i, i < k → f i = g i) : fl k f = fl k g := List.map_congr_left fun i hi => h i (List.mem_range.mp hi)
theorem fl_snoc {α : Type} (k : Nat) (f : Nat → α) (v : α) : fl k f ++ [v] = fl (k + 1) (fun i => if i = k then v else f i) := by
  unfold fl
  rw [List.range_succ, List.map_append]
  simp only [List.map_cons, List.map_nil, if_true]
  congr 1
  exact List.map_congr_left fun i hi => by rw [if_neg (by have := List.mem_range.mp hi; omega)]
theorem fl_set {α : Type} (k j : Nat) (f : Nat → α) (v : α) : (fl k f).set j v = fl k (fun i => if i = j then v else f i) := by
  apply List.ext_getElem?
  intro i
  by_cases hi : i < k
  · rw [fl_get _ hi]
    by_cases e : i = j
    · subst e; rw [if_pos rfl, List.getElem?_set_self (by rw [fl_len]; exact hi)]
    · rw [if_neg e, List.getElem?_set_ne (Ne.symm e), fl_get _ hi]
  · rw [List.getElem?_eq_none (by rw [List.length_set, fl_len]; omega), List.getElem?_eq_none (by rw [fl_len]; omega)]
theorem fl_rep {α : Type} (k : Nat) (v : α) : List.replicate k v = fl k (fun _ => v) := by
  apply List.ext_getElem?
  intro i
  by_cases hi : i < k
  · rw [fl_get _ hi, List.getElem?_replicate_of_lt hi]
  · rw [List.getElem?_eq_none (by simp; omega), List.getElem?_eq_none (by rw [fl_len]; omega)]
theorem fl_cons {α : Type} (k : Nat) (v w : α) : [v] ++ List.replicate k w = fl (k + 1) (fun i => if i = 0 then v else w) := by
  apply List.ext_getElem?
  intro i
  by_cases hi : i < k + 1
  · rw [fl_get _ hi]
    cases i with
    | zero => simp
    | succ i => rw [if_neg (by omega), List.singleton_append, List.getElem?_cons_succ, List.getElem?_replicate_of_lt (by omega)]
  · rw [List.getElem?_eq_none (by simp; omega), List.getElem?_eq_none (by rw [fl_len]; omega)]
/-! # trees -/
def okT (x : List Nat) : Prop := x.length ≤ 3 ∧ okV x = true ∧ 59 ∉ x
structure Tr (k : Nat) (o : Nat → List Nat) (a d : Nat → Nat) : Prop where
  lt : ∀ c, 0 < c → c < k → a c < c
  dp : ∀ c, 0 < c → c < k → d c = d (a c) + 1
  d0 : d 0 = 0
  a0 : a 0 = 0
  d3 : ∀ c, c < k → d c ≤ 3
  tx : ∀ c, c < k → okT (o c)
  k0 : 0 < k
theorem Tr.snoc {k : Nat} {o : Nat → List Nat} {a d : Nat → Nat} (T : Tr k o a d) {j : Nat} {x : List Nat} (hj : j < k) (hd : d j ≠ 3) (hx : okT x) :
    Tr (k + 1) (fun i => if i = k then x else o i) (fun i => if i = k then j else a i) (fun i => if i = k then d j + 1 else d i) := by
  have k0 := T.k0
  refine ⟨fun c h1 h2 => ?_, fun c h1 h2 => ?_, ?_, ?_, fun c h2 => ?_, fun c h2 => ?_, by omega⟩
  · by_cases e : c = k
    · rw [if_pos e]; omega
    · rw [if_neg e]; exact T.lt c h1 (by omega)
  · by_cases e : c = k
    · rw [if_pos e, if_pos e, if_neg (by omega)]
    · have := T.lt c h1 (by omega)
      rw [if_neg e, if_neg e, if_neg (by omega)]; exact T.dp c h1 (by omega)
  · rw [if_neg (by omega)]; exact T.d0
  · rw [if_neg (by omega)]; exact T.a0
  · by_cases e : c = k
    · rw [if_pos e]; have := T.d3 j hj; omega
    · rw [if_neg e]; exact T.d3 c (by omega)
  · by_cases e : c = k
    · rw [if_pos e]; exact hx
    · rw [if_neg e]; exact T.tx c (by omega)
/-- the numbers behind i -/
def aft (i k : Nat) : List Nat := (List.range (k - (i + 1))).map fun t => i + 1 + t
def kids (a : Nat → Nat) (k i : Nat) : List Nat := (aft i k).filter fun c => decide (a c = i)
theorem mem_aft {i k c : Nat} : c ∈ aft i k ↔ i < c ∧ c < k := by
  unfold aft
  rw [List.mem_map]
  constructor
  · rintro ⟨t, ht, rfl⟩; have := List.mem_range.mp ht; omega
  · rintro ⟨h1, h2⟩; exact ⟨c - (i + 1), List.mem_range.mpr (by omega), by omega⟩
theorem mem_kids {a : Nat → Nat} {k i c : Nat} : c ∈ kids a k i ↔ (i < c ∧ c < k) ∧ a c = i := by
  unfold kids; rw [List.mem_filter, mem_aft]; simp
theorem aft_len (i k : Nat) : (aft i k).length = k - (i + 1) := by simp [aft]
theorem kids_len (a : Nat → Nat) (i k : Nat) : (kids a k i).length ≤ k - (i + 1) := by rw [← aft_len]; exact List.length_filter_le _ _
theorem aft_nodup (i k : Nat) : (aft i k).Nodup := by
  unfold aft
  exact List.Pairwise.map _ (fun x y h => by omega) List.nodup_range
theorem kids_nodup (a : Nat → Nat) (i k : Nat) : (kids a k i).Nodup := (aft_nodup i k).filter _
theorem rangeL_aft {i k : Nat} (h : i < k) : rangeL ((i : Int) + 1) (k : Int) 1 = (aft i k).map fun (c : Nat) => PV.int (c : Int) := by
  have e : (k : Int) = ((i : Int) + 1) + ((k - (i + 1) : Nat) : Int) := by omega
  rw [e, rangeL_up]
  unfold aft
  rw [List.map_map]
  exact List.map_congr_left fun t _ => by simp only [Function.comp]; congr 1
/-! # names -/
def nm4 (c : Nat) : List Nat := 110 :: dig c
theorem nm4_mem {c ch : Nat} (h : c < 64) (hc : ch ∈ nm4 c) : ch = 110 ∨ (48 ≤ ch ∧ ch ≤ 57) := by
  rcases List.mem_cons.mp hc with q | q
  · exact .inl q
  · exact .inr (dig_num h q)
theorem nm4_len {c : Nat} (h : c < 64) : (nm4 c).length ≤ 3 := by
  have := (dig_chars c h).2
  simp [nm4]; omega
theorem nm4_ok {c : Nat} (h : c < 64) : okN (nm4 c) = true := okN_of (fun ch hc => by rcases nm4_mem h hc with q | q <;> omega) (by have := nm4_len h; omega)
theorem nm4_dash {c : Nat} (h : c < 64) : dashL (nm4 c) = nm4 c := replL_free _ _ _ fun hc => by rcases nm4_mem h hc with q | q <;> omega
theorem nm4_inj {c e : Nat} (h : c < 64) (h2 : e < 64) (q : nm4 c = nm4 e) : c = e := dig_inj c h e h2 (List.cons.inj q).2
theorem nm4_ch {c ch : Nat} (h : c < 64) (hc : ch ∈ nm4 c) : ch ≠ 61 ∧ ch ≠ 59 := by rcases nm4_mem h hc with q | q <;> omega
/-! # the text of a knot -/
theorem fp_enc (p v : List Nat) : [59, 32] ++ fp p v true = encP (p, v) := by
  unfold fp encP
  by_cases h : v = []
  · simp [h]
  · simp [h]
theorem row_enc (own : List Nat) (ps : List Row) (h : ∀ p ∈ ps, dashL p.1 = p.1) : rowL (some own) (ps.map fun p => (p.1, some p.2)) = own ++ encA ps := by
  have e : ∀ ps : List Row, (∀ p ∈ ps, dashL p.1 = p.1) → ((ps.map fun p => (p.1, some p.2)).map partL).flatMap (fun y => [59, 32] ++ y) = encA ps := fun ps => by
    induction ps with
    | nil => intro _; rfl
    | cons p ps ih =>
      intro h
      rw [List.map_cons, List.map_cons, List.flatMap_cons, encA_cons, ih fun q hq => h q (by simp [hq])]
      congr 1
      show [59, 32] ++ fp (dashL p.1) p.2 true = _
      rw [h p (by simp), fp_enc]
  show own ++ ((ps.map fun p => (p.1, some p.2)).map partL).flatMap (fun y => [59, 32] ++ y) = _
  rw [e ps h]
theorem encP_len {p : Row} {b : Nat} (h1 : p.1.length ≤ 3) (h2 : p.2.length ≤ b) : (encP p).length ≤ 8 + 2 * b := by
  unfold encP
  have := escL_length p.2
  split
  · simp; omega
  · simp; omega
theorem encA_len {ps : List Row} {b : Nat} (h : ∀ p ∈ ps, p.1.length ≤ 3 ∧ p.2.length ≤ b) : (encA ps).length ≤ ps.length * (8 + 2 * b) := by
  induction ps with
  | nil => simp [encA]
  | cons p ps ih =>
    have h1 := ih fun q hq => h q (by simp [hq])
    have h2 := encP_len (h p (by simp)).1 (h p (by simp)).2
    rw [encA_cons, List.length_append, List.length_cons, Nat.succ_mul]; omega
def sz4 : Nat → Nat
  | 0 => 3
  | k + 1 => 83 + 20 * sz4 k
theorem sz4_top {k : Nat} (h : k ≤ 3) : sz4 k ≤ 58943 := by
  match k, h with
  | 0, _ => decide
  | 1, _ => decide
  | 2, _ => decide
  | 3, _ => decide
/-- the parameters of a knot -/
def pars (a : Nat → Nat) (M : Nat → List Nat) (k i : Nat) : List Row := (kids a k i).map fun c => (nm4 c, M c)
theorem pars_len (a : Nat → Nat) (M : Nat → List Nat) (k i : Nat) : (pars a M k i).length ≤ k - (i + 1) := by unfold pars; rw [List.length_map]; exact kids_len a i k
theorem pars_congr {a : Nat → Nat} {M M' : Nat → List Nat} {k i : Nat} (h : ∀ c, i < c → c < k → M c = M' c) : pars a M k i = pars a M' k i :=
  List.map_congr_left fun c hc => by have := mem_kids.mp hc; rw [h c this.1.1 this.1.2]
structure Mk (k : Nat) (o : Nat → List Nat) (a d : Nat → Nat) (lo : Nat) (M : Nat → List Nat) : Prop where
  eq : ∀ j, lo ≤ j → j < k → M j = o j ++ encA (pars a M k j)
  ln : ∀ j, lo ≤ j → j < k → (M j).length ≤ sz4 (3 - d j)
  ok : ∀ j, lo ≤ j → j < k → okV (M j) = true
theorem pars_bd {k lo i : Nat} {o : Nat → List Nat} {a d : Nat → Nat} {M : Nat → List Nat} (T : Tr k o a d) (hk : k ≤ 11) (h : Mk k o a d lo M) (hi : lo ≤ i + 1) (hik : i < k) :
    (o i ++ encA (pars a M k i)).length ≤ sz4 (3 - d i) := by
  have h1 := (T.tx i hik).1
  have h3 := T.d3 i hik
  have hpl := pars_len a M k i
  have hkid : ∀ c ∈ kids a k i, d c = d i + 1 ∧ d c ≤ 3 ∧ lo ≤ c ∧ c < k := fun c hc => by
    have := mem_kids.mp hc
    have h4 := T.dp c (by omega) this.1.2
    rw [this.2] at h4
    exact ⟨h4, T.d3 c this.1.2, by omega, this.1.2⟩
  rw [List.length_append]
  by_cases e : d i = 3
  · have : kids a k i = [] := List.eq_nil_iff_forall_not_mem.mpr fun c hc => by have := hkid c hc; omega
    have e2 : encA (pars a M k i) = [] := by unfold pars; rw [this]; rfl
    rw [e2, e]
    show _ ≤ 3
    simp; omega
  · obtain ⟨b, hb⟩ : ∃ b, 3 - d i = b + 1 := ⟨2 - d i, by omega⟩
    have h5 := encA_len (ps := pars a M k i) (b := sz4 b) (fun p hp => by
      obtain ⟨c, hc, rfl⟩ := List.mem_map.mp hp
      have h6 := hkid c hc
      have h7 := h.ln c h6.2.2.1 h6.2.2.2
      rw [show 3 - d c = b from by omega] at h7
      exact ⟨nm4_len (by omega), h7⟩)
    have h8 : (pars a M k i).length * (8 + 2 * sz4 b) ≤ 10 * (8 + 2 * sz4 b) := Nat.mul_le_mul (by omega) (Nat.le_refl _)
    rw [hb]
    show _ ≤ 83 + 20 * sz4 b
    omega
theorem pars_dash {a : Nat → Nat} {M : Nat → List Nat} {k i : Nat} (hk : k ≤ 11) : ∀ p ∈ pars a M k i, dashL p.1 = p.1 := fun p hp => by
  obtain ⟨c, hc, rfl⟩ := List.mem_map.mp hp
  have := mem_kids.mp hc
  exact nm4_dash (by omega)
/-- the keywords of a knot -/
def kwds (a : Nat → Nat) (M : Nat → List Nat) (k i : Nat) : List Kw := (pars a M k i).map fun p => (p.1, some p.2)
theorem kwds_row {a : Nat → Nat} {M : Nat → List Nat} {k i : Nat} {own : List Nat} (hk : k ≤ 11) : rowL (some own) (kwds a M k i) = own ++ encA (pars a M k i) := row_enc own _ (pars_dash hk)
theorem kwds_mem {a : Nat → Nat} {M : Nat → List Nat} {k i : Nat} {p : Kw} (h : p ∈ kwds a M k i) : ∃ c, i < c ∧ c < k ∧ p = (nm4 c, some (M c)) := by
  obtain ⟨q, hq, rfl⟩ := List.mem_map.mp h
  obtain ⟨c, hc, rfl⟩ := List.mem_map.mp hq
  have := mem_kids.mp hc
  exact ⟨c, this.1.1, this.1.2, rfl⟩
theorem kwds_nodup {a : Nat → Nat} {M : Nat → List Nat} {k i : Nat} (hk : k ≤ 11) : ((kwds a M k i).map (·.1)).Nodup := by
  have e : (kwds a M k i).map (·.1) = (kids a k i).map nm4 := by unfold kwds pars; rw [List.map_map, List.map_map]; rfl
  rw [e]
  have h := kids_nodup a i k
  have hm : ∀ c ∈ kids a k i, c < 64 := fun c hc => by have := mem_kids.mp hc; omega
  generalize kids a k i = l at h hm
  induction l with
  | nil => simp
  | cons c l ih =>
    rw [List.map_cons, List.nodup_cons]
    rw [List.nodup_cons] at h
    refine ⟨fun q => ?_, ih h.2 fun x hx => hm x (by simp [hx])⟩
    obtain ⟨e, he, q⟩ := List.mem_map.mp q
    exact h.1 (nm4_inj (hm e (by simp [he])) (hm c (by simp)) q ▸ he)
theorem kwds_ok {k lo i : Nat} {o : Nat → List Nat} {a d : Nat → Nat} {M : Nat → List Nat} (hk : k ≤ 11) (h : Mk k o a d lo M) (hi : lo ≤ i + 1) : ∀ p ∈ kwds a M k i, okK p = true := fun p hp => by
  obtain ⟨c, h1, h2, rfl⟩ := kwds_mem hp
  unfold okK
  rw [nm4_ok (by omega)]
  exact h.ok c (by omega) h2
theorem Mk.put {k i : Nat} {o : Nat → List Nat} {a d : Nat → Nat} {M : Nat → List Nat} (T : Tr k o a d) (hk : k ≤ 11) (h : Mk k o a d (i + 1) M) (hi : i < k) : Mk k o a d i (fun j => if j = i then o i ++ encA (pars a M k i) else M j) := by
  have e : ∀ j, i ≤ j → pars a (fun j => if j = i then o i ++ encA (pars a M k i) else M j) k j = pars a M k j := fun j hj => pars_congr fun c h1 h2 => by rw [if_neg (by omega)]
  have hb := pars_bd T hk h (Nat.le_refl _) hi
  refine ⟨fun j h1 h2 => ?_, fun j h1 h2 => ?_, fun j h1 h2 => ?_⟩
  · rw [e j h1]
    by_cases q : j = i
    · rw [if_pos q, q]
    · rw [if_neg q]; exact h.eq j (by omega) h2
  · by_cases q : j = i
    · rw [if_pos q, q]; exact hb
    · rw [if_neg q]; exact h.ln j (by omega) h2
  · by_cases q : j = i
    · rw [if_pos q, ← kwds_row hk]
      refine rowL_ok (T.tx i hi).2.1 (kwds_ok hk h (Nat.le_refl _)) ?_
      rw [kwds_row hk]
      have := sz4_top (k := 3 - d i) (by omega)
      omega
    · rw [if_neg q]; exact h.ok j (by omega) h2
/-! # what was read -/
def rdF (a : Nat → Nat) (M : Nat → List Nat) (i : Nat) (js : List Nat) (c : Nat) : List Nat := if c = 0 ∨ a c < i ∨ c ∈ js then M c else []
theorem rdF_next {k i : Nat} {o : Nat → List Nat} {a d : Nat → Nat} {M : Nat → List Nat} (T : Tr k o a d) : ∀ c, c < k → rdF a M i (kids a k i) c = rdF a M (i + 1) [] c := fun c hc => by
  unfold rdF
  have : (c = 0 ∨ a c < i ∨ c ∈ kids a k i) ↔ (c = 0 ∨ a c < i + 1 ∨ c ∈ ([] : List Nat)) := by
    rw [mem_kids]
    have := T.lt c
    simp
    omega
  simp only [this]
theorem rdF_set {a : Nat → Nat} {M : Nat → List Nat} {i j : Nat} (js : List Nat) : (fun c => if c = j then M j else rdF a M i js c) = rdF a M i (js ++ [j]) := by
  funext c
  unfold rdF
  by_cases e : c = j
  · subst e; simp
  · simp [e]
theorem rdF_self {k i : Nat} {o : Nat → List Nat} {a d : Nat → Nat} {M : Nat → List Nat} (T : Tr k o a d) (hi : i < k) : rdF a M i [] i = M i := by
  unfold rdF
  rw [if_pos]
  by_cases e : i = 0
  · exact .inl e
  · exact .inr (.inl (T.lt i (by omega) hi))
end Mine

open PySem PySem.W PyProof.Rows
set_option Elab.async false
set_option maxRecDepth 100000
set_option maxHeartbeats 8000000
namespace Mine
open_top hd04 for PySem.Challenge.rw_dn0262_04
end Mine

open PySem PySem.W PySem.Calls PyProof.Rows
set_option maxRecDepth 100000
set_option maxHeartbeats 4000000
namespace Mine
local macro_rules | `(tactic| walk_at "e") => `(tactic| with_reducible first
  | refine EvE.int ?_
  | refine EvE.str ?_
  | refine EvE.nil ?_
  | refine EvE.boolc ?_
  | refine EvE.loc (by with_unfolding_all rfl) (by with_unfolding_all rfl) ?_ (by with_unfolding_all decide)
  | refine EvE.cell (by with_unfolding_all rfl) (by with_unfolding_all rfl) ?_ (by with_unfolding_all decide)
  | refine EvE.binop ?_
  | refine EvE.unop ?_
  | refine EvE.sliceL2 ?_
  | refine EvE.sub ?_
  | refine EvP.none ?_
  | refine EvP.some ?_
  | refine EvE.cmp ?_ (by with_unfolding_all rfl)
  | refine EvE.ifexp ?_
  | refine EvE.joined ?_
  | refine EvE.callBi (by with_unfolding_all rfl) (mg_none_of (by assumption) (Cx.g _) (by with_unfolding_all rfl)) (by with_unfolding_all decide) boot_len ?_ (by with_unfolding_all decide) (by with_unfolding_all rfl)
  | refine EvE.callBi (by with_unfolding_all rfl) (mg_none_of (by assumption) (Cx.g _) (by with_unfolding_all rfl)) (by with_unfolding_all decide) boot_chr ?_ (by with_unfolding_all decide) (by with_unfolding_all rfl)
  | refine EvE.callTy (by with_unfolding_all rfl) (mg_none_of (by assumption) (Cx.g _) (by with_unfolding_all rfl)) (by with_unfolding_all decide) boot_range ?_ (by with_unfolding_all decide) (by with_unfolding_all rfl)
  | refine EvE.callTy (by with_unfolding_all rfl) (mg_none_of (by assumption) (Cx.g _) (by with_unfolding_all rfl)) (by with_unfolding_all decide) PyProof.Rows.boot_type ?_ (by with_unfolding_all decide) (by with_unfolding_all rfl)
  | refine EvE.debug ?_
  | refine EvE.callTy (by with_unfolding_all rfl) (mg_none_of (by assumption) (Cx.g _) (by with_unfolding_all rfl)) (by with_unfolding_all decide) PyProof.Rows.boot_str ?_ (by with_unfolding_all decide) (by with_unfolding_all rfl)
  | refine EvE.callTy (by with_unfolding_all rfl) (mg_none_of (by assumption) (Cx.g _) (by with_unfolding_all rfl)) (by with_unfolding_all decide) PyProof.Rows.boot_list ?_ (by with_unfolding_all decide) (by with_unfolding_all rfl)
  | refine EvE.callTy (by with_unfolding_all rfl) (mg_none_of (by assumption) (Cx.g _) (by with_unfolding_all rfl)) (by with_unfolding_all decide) PyProof.Rows.boot_enumerate ?_ (by with_unfolding_all decide) (by with_unfolding_all rfl)
  | refine EvE.callBi (by with_unfolding_all rfl) (mg_none_of (by assumption) (Cx.g _) (by with_unfolding_all rfl)) (by with_unfolding_all decide) PyProof.Rows.boot_max ?_ (by with_unfolding_all decide) (by with_unfolding_all rfl)
  | refine OpC.isTy ?_
  | refine OpC.isNotTy ?_
  | refine EvE.callFn (by with_unfolding_all rfl) (mg_of (by assumption) (Cx.g _) (by with_unfolding_all rfl)) ?_ (by with_unfolding_all decide) (by with_unfolding_all rfl) (by with_unfolding_all rfl)
  | refine EvE.tuple ?_
  | refine EvE.list ?_
  | refine OpB.addI ?_
  | refine OpB.subI ?_
  | refine OpB.modI (by with_unfolding_all decide) ?_
  | refine OpB.divI (by with_unfolding_all decide) (by with_unfolding_all decide) ?_
  | refine OpI.addI ?_
  | refine OpI.subI ?_
  | refine OpI.divI (by with_unfolding_all decide) (by with_unfolding_all decide) ?_
  | refine OpC.eqI ?_
  | refine OpC.neI ?_
  | refine OpC.ltI ?_
  | refine OpC.leI ?_
  | refine OpC.gtI ?_
  | refine OpC.geI ?_
  | refine OpC.eqS ?_
  | refine OpC.neS ?_
  | refine OpC.inS ?_
  | refine OpC.isNone (by with_unfolding_all (intro _ hq; cases hq)) ?_
  | refine OpC.isNotNone (by with_unfolding_all (intro _ hq; cases hq)) ?_
  | refine OpU.negI ?_
  | refine OpT.bool ?_
  | refine OpT.int ?_
  | refine Tst.cmp ?_ (by with_unfolding_all rfl)
  | refine Tst.cmp2 ?_ (by with_unfolding_all rfl)
  | refine Tst.not ?_
  | refine Tst.boolop ?_
  | refine TstL.and_nil ?_
  | refine TstL.or_nil ?_
  | refine TstL.and_cons ?_
  | refine TstL.or_cons ?_
  | refine Tst.of ?_ (by with_unfolding_all (intro _ _; rfl))
  | refine EvA.nil ?_
  | refine EvA.cons ?_ (by with_unfolding_all (intro _; rfl))
  | refine EvK.nil ?_
  | refine EvK.cons ?_
  | refine AsgT.name (by with_unfolding_all rfl) ?_
  | refine AsgT.tuple ?_ (by with_unfolding_all rfl) (by with_unfolding_all (intro _; exact ⟨rfl, rfl⟩))
  | refine AsgL.nil ?_
  | refine AsgL.cons ?_ (by with_unfolding_all (intro _; rfl))
  | refine ExS.nil ?_
  | refine SeqP.next ?_
  | refine SeqP.ret ?_
  | refine ExS.asg ?_ (by with_unfolding_all (intro _ _; rfl)) (by with_unfolding_all (intro _; rfl)) (by with_unfolding_all (intro _; rfl))
  | refine ExS.if ?_
  | refine ExS.ret ?_
  | refine ExS.expr ?_ (by with_unfolding_all (intro _; rfl))
  | refine ExS.aug (by with_unfolding_all rfl) (by with_unfolding_all rfl) ?_)
local macro_rules | `(tactic| walk_at "s") => `(tactic| with_reducible first
  | refine EvE.int ?_
  | refine EvE.str ?_
  | refine EvE.nil ?_
  | refine EvE.boolc ?_
  | refine EvE.loc (by with_unfolding_all rfl) (by with_unfolding_all rfl) ?_ (by with_unfolding_all decide)
  | refine EvE.cell (by with_unfolding_all rfl) (by with_unfolding_all rfl) ?_ (by with_unfolding_all decide)
  | refine EvE.binop ?_
  | refine EvE.unop ?_
  | refine EvE.sliceL2 ?_
  | refine EvE.sub ?_
  | refine EvP.none ?_
  | refine EvP.some ?_
  | refine EvE.cmp ?_ (by with_unfolding_all rfl)
  | refine EvE.joined ?_
  | refine EvE.callBi (by with_unfolding_all rfl) (mg_none_of (by assumption) (Cx.g _) (by with_unfolding_all rfl)) (by with_unfolding_all decide) boot_len ?_ (by with_unfolding_all decide) (by with_unfolding_all rfl)
  | refine EvE.callBi (by with_unfolding_all rfl) (mg_none_of (by assumption) (Cx.g _) (by with_unfolding_all rfl)) (by with_unfolding_all decide) boot_chr ?_ (by with_unfolding_all decide) (by with_unfolding_all rfl)
  | refine EvE.callTy (by with_unfolding_all rfl) (mg_none_of (by assumption) (Cx.g _) (by with_unfolding_all rfl)) (by with_unfolding_all decide) boot_range ?_ (by with_unfolding_all decide) (by with_unfolding_all rfl)
  | refine EvE.callTy (by with_unfolding_all rfl) (mg_none_of (by assumption) (Cx.g _) (by with_unfolding_all rfl)) (by with_unfolding_all decide) PyProof.Rows.boot_type ?_ (by with_unfolding_all decide) (by with_unfolding_all rfl)
  | refine EvE.debug ?_
  | refine EvE.callTy (by with_unfolding_all rfl) (mg_none_of (by assumption) (Cx.g _) (by with_unfolding_all rfl)) (by with_unfolding_all decide) PyProof.Rows.boot_str ?_ (by with_unfolding_all decide) (by with_unfolding_all rfl)
  | refine EvE.callTy (by with_unfolding_all rfl) (mg_none_of (by assumption) (Cx.g _) (by with_unfolding_all rfl)) (by with_unfolding_all decide) PyProof.Rows.boot_list ?_ (by with_unfolding_all decide) (by with_unfolding_all rfl)
  | refine EvE.callTy (by with_unfolding_all rfl) (mg_none_of (by assumption) (Cx.g _) (by with_unfolding_all rfl)) (by with_unfolding_all decide) PyProof.Rows.boot_enumerate ?_ (by with_unfolding_all decide) (by with_unfolding_all rfl)
  | refine EvE.callBi (by with_unfolding_all rfl) (mg_none_of (by assumption) (Cx.g _) (by with_unfolding_all rfl)) (by with_unfolding_all decide) PyProof.Rows.boot_max ?_ (by with_unfolding_all decide) (by with_unfolding_all rfl)
  | refine OpC.isTy ?_
  | refine OpC.isNotTy ?_
  | refine EvE.callFn (by with_unfolding_all rfl) (mg_of (by assumption) (Cx.g _) (by with_unfolding_all rfl)) ?_ (by with_unfolding_all decide) (by with_unfolding_all rfl) (by with_unfolding_all rfl)
  | refine EvE.tuple ?_
  | refine EvE.list ?_
  | refine OpB.addI ?_
  | refine OpB.subI ?_
  | refine OpB.modI (by with_unfolding_all decide) ?_
  | refine OpB.divI (by with_unfolding_all decide) (by with_unfolding_all decide) ?_
  | refine OpI.addI ?_
  | refine OpI.subI ?_
  | refine OpI.divI (by with_unfolding_all decide) (by with_unfolding_all decide) ?_
  | refine OpC.eqI ?_
  | refine OpC.neI ?_
  | refine OpC.ltI ?_
  | refine OpC.leI ?_
  | refine OpC.gtI ?_
  | refine OpC.geI ?_
  | refine OpC.eqS ?_
  | refine OpC.neS ?_
  | refine OpC.inS ?_
  | refine OpC.isNone (by with_unfolding_all (intro _ hq; cases hq)) ?_
  | refine OpC.isNotNone (by with_unfolding_all (intro _ hq; cases hq)) ?_
  | refine OpU.negI ?_
  | refine OpT.bool ?_
  | refine OpT.int ?_
  | refine Tst.cmp ?_ (by with_unfolding_all rfl)
  | refine Tst.cmp2 ?_ (by with_unfolding_all rfl)
  | refine Tst.not ?_
  | refine Tst.boolop ?_
  | refine TstL.and_nil ?_
  | refine TstL.or_nil ?_
  | refine TstL.and_cons ?_
  | refine TstL.or_cons ?_
  | refine Tst.of ?_ (by with_unfolding_all (intro _ _; rfl))
  | refine EvA.nil ?_
  | refine EvA.cons ?_ (by with_unfolding_all (intro _; rfl))
  | refine EvK.nil ?_
  | refine EvK.cons ?_
  | refine AsgT.name (by with_unfolding_all rfl) ?_
  | refine AsgT.tuple ?_ (by with_unfolding_all rfl) (by with_unfolding_all (intro _; exact ⟨rfl, rfl⟩))
  | refine AsgL.nil ?_
  | refine AsgL.cons ?_ (by with_unfolding_all (intro _; rfl))
  | refine ExS.nil ?_
  | refine SeqP.next ?_
  | refine SeqP.ret ?_
  | refine ExS.asg ?_ (by with_unfolding_all (intro _ _; rfl)) (by with_unfolding_all (intro _; rfl)) (by with_unfolding_all (intro _; rfl))
  | refine ExS.ret ?_
  | refine ExS.expr ?_ (by with_unfolding_all (intro _; rfl))
  | refine ExS.aug (by with_unfolding_all rfl) (by with_unfolding_all rfl) ?_)
open PySem PySem.W PySem.Calls PyProof.Rows
set_option Elab.async false
set_option linter.unusedVariables false
set_option maxRecDepth 100000
set_option maxHeartbeats 4000000

abbrev K04 (c : Cx) : Prop := (hd04.heap_39 c.w.params).In c.base
abbrev T04 (c : Cx) (mu : Mu) (x l : Addr) (kvs : List Row) : Prop := Hd c 184 mu x l kvs
theorem hk04 (P : Params) : HK (hd04.heap_39 P) 184 := ⟨by with_unfolding_all rfl, by with_unfolding_all rfl, by with_unfolding_all rfl⟩

theorem conv04_ct {c : Cx} {n : Nat} {mu : Mu} (hK : K04 c) {self : PV} {v : List Nat} {b : Bool} {P : PV → Mu → Prop} (hv : v.length ≤ 1000000) (hok : v.any (if b then isCtl else isCtlV) = false) (h : P (.str (S v)) mu) : Keepr c mu (.ref 83) ∧ CallV c (n + 1) mu (.ref 83) [self, .str (S v)] [("name", .bool b)] P := by
  have hf : FnOk c 83 _ _ := ⟨⟨_, hK 83 _ rfl, rfl⟩, rfl, rfl, rfl, rfl, ⟨_, _, _, _, rfl, hK 82 _ rfl, rfl, rfl⟩, rfl, rfl, rfl⟩
  refine ⟨Keepr.fn hf, CallV.fn hf (Binds.k21 (fun v w u => rfl) ⟨by simp only [List.map_cons, List.map_nil]; decide, by rfl, ?_⟩)⟩; clear hf
  dsimp only
  repeat' walk_at "e"
  refine CallV.typeStr ?_
  refine EvE.builtin (by with_unfolding_all rfl) (mg_none_of hK (Cx.g _) (by with_unfolding_all rfl)) (by with_unfolding_all decide) PyProof.Rows.boot_str (fun _ => .ty _) ?_ (by with_unfolding_all decide)
  repeat' walk_at "e"
  refine ifd (fun _ => ?_) (fun q => absurd rfl q)
  repeat' walk_at "e"
  cases b with
  | true =>
    refine ifT ?_
    refine EvE.glob (by with_unfolding_all rfl) (mg_of hK (Cx.g _) (by with_unfolding_all rfl)) (fun _ => .ref 48) ?_ (by with_unfolding_all decide)
    repeat' walk_at "e"
    refine EvE.methB (EvE.loc (by with_unfolding_all rfl) (by with_unfolding_all rfl) ⟨_, Meth.pattern (hK 48 _ rfl), ?_⟩ (by with_unfolding_all decide))
    repeat' walk_at "e"
    refine CallV.search (code := ctlCode) (f := isCtl) (hK 48 _ rfl) rfl rfl rfl (hK 47 _ rfl) (by decide +kernel) ctl_set (by rw [S_length]; omega) (fun h3 => OpT.none ?_) (fun h3 a o h0 hc hd => ?_)
    · refine ifF ?_
      repeat' walk_at "e"
      exact h
    · rw [List.any_toArray] at h3
      simp only [if_true] at hok
      rw [hok] at h3; cases h3
  | false =>
    refine ifF ?_
    refine EvE.glob (by with_unfolding_all rfl) (mg_of hK (Cx.g _) (by with_unfolding_all rfl)) (fun _ => .ref 53) ?_ (by with_unfolding_all decide)
    repeat' walk_at "e"
    refine EvE.methB (EvE.loc (by with_unfolding_all rfl) (by with_unfolding_all rfl) ⟨_, Meth.pattern (hK 53 _ rfl), ?_⟩ (by with_unfolding_all decide))
    repeat' walk_at "e"
    refine CallV.search (code := ctlVCode) (f := isCtlV) (hK 53 _ rfl) rfl rfl rfl (hK 52 _ rfl) (by decide +kernel) ctlV_set (by rw [S_length]; omega) (fun h3 => OpT.none ?_) (fun h3 a o h0 hc hd => ?_)
    · refine ifF ?_
      repeat' walk_at "e"
      exact h
    · rw [List.any_toArray] at h3
      simp only [Bool.false_eq_true, if_false] at hok
      rw [hok] at h3; cases h3
/-- self._convert_string_type(e, name=b) -/
theorem conv04_ev {c : Cx} {n : Nat} {sc : Scope} {m : Lm} {mu : Mu} (hK : K04 c) {x l : Addr} {kvs : List Row} (H : T04 c mu x l kvs) {e : PySem.Expr} {p1 p2 p3 p4 pos : Pos} {k : Nat} {b : Bool} {P : PV → Mu → Prop} (hl : m.lookup (Str.ofString "self") = some (.ref x)) (hk : sc.names.lookup (Str.ofString "self") = some .local)
    (h : EvE c (n + 1) sc m mu e fun d mu1 => mu1 = mu ∧ ∃ v, d = .str (S v) ∧ v.length ≤ 1000000 ∧ v.any (if b then isCtl else isCtlV) = false ∧ P (.str (S v)) mu) (hse : ∀ env, starEach [e] env = (false, eval e env) :: starEach [] env := by intro _; rfl) (hst : noStar [e] = true := by rfl) (hline : (p2.endLine == pos.line) = true := by rfl) :
    EvE c (n + 1) sc m mu (.Call (.Attribute (.Name (Str.ofString "self") p1) (Str.ofString "_convert_string_type") p2) [e] [⟨some (Str.ofString "name"), .Constant (.bool b) k p3, p4⟩] pos) P := by
  refine EvE.method (EvE.loc hl hk ⟨_, Meth.hd hK H (by with_unfolding_all rfl) (f := 83) (by with_unfolding_all rfl) (by with_unfolding_all rfl) (by decide), ?_⟩ (by decide)) (by intro _; rfl) hst (by rfl) (by simp) hline
  refine EvA.cons (h.imp fun d mu1 ⟨e1, v, e2, h1, h2, h3⟩ => EvA.nil (EvK.cons (EvE.boolc (EvK.nil ?_)))) hse
  subst e1; subst e2
  exact conv04_ct hK h1 h2 h3

open PySem PySem.W PySem.Calls PyProof.Rows
set_option Elab.async false
set_option linter.unusedVariables false
set_option maxRecDepth 100000
set_option maxHeartbeats 4000000

theorem get04_body {c : Cx} {n : Nat} {mu : Mu} (hK : K04 c) {x l : Addr} {kvs : List Row} (H : T04 c mu x l kvs) {name : List Nat} {d : PV} {P : PV → Mu → Prop} (hn : okN name = true)
    (h : P (match getR kvs name with | some v => .str (S v) | none => d) mu) (binds : List (Str × PV)) (hb : binds = ([((("self" : Str)), PV.ref x), (("name" : Str), .str (S name)), (("default" : Str), d)] : List (Str × PV))) : ∀ {fd : FuncData} {body : List Stmt} (hf : FnOk c 131 fd body), ExS c (n + 1) fd.scope binds mu body fun fl _ mu2 => P (retOf fl) mu2 := by
  intro fd body hf
  obtain ⟨⟨o, ho, hd⟩, h2, h3, h4, h5, h6, h7, h8, h9⟩ := hf
  rw [hK 131 _ rfl] at ho
  cases ho
  cases hd
  cases h5
  clear h2 h3 h4 h6 h7 h8 h9
  subst hb
  have hlen := H.len
  refine ExS.asg ?_ (by with_unfolding_all (intro _ _; rfl)) (by with_unfolding_all (intro _; rfl)) (by with_unfolding_all (intro _; rfl))
  refine conv04_ev hK H (by with_unfolding_all rfl) (by with_unfolding_all rfl) ?_ (by with_unfolding_all (intro _; rfl)) (by with_unfolding_all rfl) (by with_unfolding_all rfl)
  refine EvE.methB (EvE.loc (by with_unfolding_all rfl) (by with_unfolding_all rfl) ⟨_, Meth.str F.slot_str_lower (by kernel_rfl), EvA.nil ?_⟩ (by with_unfolding_all decide)) (by with_unfolding_all (intro _; rfl)) (by with_unfolding_all rfl)
  refine CallV.lower (okN.asc hn) (by have := okN.len hn; omega) ?_
  refine ⟨rfl, _, rfl, by have := okN.len (okN.low hn); omega, (okN.ctl (okN.low hn)), ?_⟩
  repeat' walk_at "e"
  refine ExS.for (okT := anyT) trivial ?_
  refine EvE.hdr hK (hk04 _) (EvE.loc (by with_unfolding_all rfl) (by with_unfolding_all rfl) ⟨x, l, kvs, rfl, H, ?_⟩ (by with_unfolding_all decide)) (by with_unfolding_all (intro _; rfl)) (by with_unfolding_all (intro _ _; rfl))
  refine ⟨_, _, _, IterOf.list H.list, ?_⟩
  refine LoopE.inv (fun i m' mu' => mu' = mu ∧ SubL [("self", .ref x), ("name", .str (S (lowL name))), ("default", d)] m' ∧ getR kvs name = getR (kvs.drop i) name) (fun i m' mu' hI => by rw [hI.1]; exact H.list) ⟨rfl, ⟨rfl, rfl, rfl, trivial⟩, rfl⟩ ?_ ?_
  · rintro i y m' mu' hy ⟨rfl, hs, hg⟩
    rw [List.getElem?_map] at hy
    obtain ⟨r, hr, rfl⟩ := Option.map_eq_some_iff.mp hy
    have hro := H.row (List.mem_of_getElem? hr)
    refine AsgT.weak hs ?_
    unfold pairPV
    repeat' walk_at "s"
    have hdr : kvs.drop i = r :: kvs.drop (i + 1) := by
      obtain ⟨hi, e⟩ := List.getElem?_eq_some_iff.mp hr
      rw [← e, List.drop_eq_getElem_cons hi]
    refine ExS.if ?_
    refine Tst.cmp (EvE.methB (EvE.loc (by with_unfolding_all rfl) (by with_unfolding_all rfl) ⟨_, Meth.str F.slot_str_lower (by kernel_rfl), EvA.nil ?_⟩ (by with_unfolding_all decide)) (by with_unfolding_all (intro _; rfl)) (by with_unfolding_all rfl)) (by with_unfolding_all rfl)
    refine CallV.lower (okN.asc (okR.nm hro)) (by have := okN.len (okR.nm hro); omega) ?_
    repeat' walk_at "e"
    refine ifd (fun q => ?_) (fun q => ?_)
    · have q' := S_inj.mp q
      repeat' walk_at "e"
      rw [hg, hdr] at h
      simp only [getR, List.find?_cons, eqN, q', decide_true, Option.map_some] at h
      exact h
    · have q' : ¬ lowL r.1 = lowL name := fun e => q (by rw [e])
      repeat' walk_at "e"
      refine ⟨rfl, ⟨rfl, rfl, rfl, trivial⟩, ?_⟩
      rw [hg, hdr]
      simp only [getR, List.find?_cons, eqN, q', decide_false]
  · rintro m' mu' ⟨rfl, hs, hg⟩
    rw [List.length_map, List.drop_length] at hg
    refine ExS.weakL hs ?_
    repeat' walk_at "e"
    rw [hg] at h
    exact h
theorem get304_ct {c : Cx} {n : Nat} {mu : Mu} (hK : K04 c) {x l : Addr} {kvs : List Row} (H : T04 c mu x l kvs) {name : List Nat} {d : PV} {P : PV → Mu → Prop} (hn : okN name = true)
    (h : P (match getR kvs name with | some v => .str (S v) | none => d) mu) : Keepr c mu (.ref 131) ∧ CallV c (n + 2) mu (.ref 131) [.ref x, .str (S name), d] [] P := by
  have hf : FnOk c 131 _ _ := ⟨⟨_, hK 131 _ rfl, rfl⟩, rfl, rfl, rfl, rfl, ⟨_, _, _, _, rfl, hK 130 _ rfl, rfl, rfl⟩, rfl, rfl, rfl⟩
  refine ⟨Keepr.fn hf, CallV.fn hf (Binds.dflt (xs := [("self", .ref x), ("name", .str (S name)), ("default", d)]) (hK 124 _ rfl) rfl (fun hp vs r => ?_) ⟨by simp only [List.map_cons, List.map_nil]; decide, by rfl, get04_body hK H hn h _ rfl hf⟩)⟩
  cases r with | cons r0 r =>
  cases r with | cons r1 r =>
  cases r with | cons r2 r =>
  cases r
  exact ⟨_, _, rfl, rfl, .cons r0 (.cons r1 (.cons r2 .nil))⟩

open PySem PySem.W PySem.Calls PyProof.Rows
set_option Elab.async false
set_option linter.unusedVariables false
set_option maxRecDepth 100000
set_option maxHeartbeats 4000000

open PySem PySem.W PySem.Calls PyProof.Rows
set_option Elab.async false
set_option linter.unusedVariables false
set_option maxRecDepth 100000
set_option maxHeartbeats 4000000

theorem initTail04 {c : Cx} {n : Nat} {mu : Mu} (hK : K04 c) {x dx l : Addr} {kvs : List Row} {P : PV → Mu → Prop} (hx : mu x = some (.inst 184 dx)) (hd : mu dx = some (.obj (dictOf [] 0))) (hl : mu l = some (.list (kvs.map pairPV))) (hok : kvs.all okR = true) (hlen : kvs.length ≤ 10000)
    (h : ∀ tok, P .none (upd mu dx (hdDict c tok l))) {fd : FuncData} {body : List Stmt} (hf : FnOk c 76 fd body) : ExS c (n + 1) fd.scope ([(("self" : Str), PV.ref x), (("headers" : Str), .ref l)] : List (Str × PV)) mu (body.drop 1) fun fl _ mu2 => P (retOf fl) mu2 := by
  obtain ⟨⟨o, ho, hdd⟩, h2, h3, h4, h5, h6, h7, h8, h9⟩ := hf
  rw [hK 76 _ rfl] at ho
  cases ho
  cases hdd
  cases h5
  clear h2 h3 h4 h6 h7 h8 h9
  dsimp only [List.drop]
  repeat' walk_at "e"
  refine CallV.typeList hl ?_
  refine EvE.builtin (by with_unfolding_all rfl) (mg_none_of hK (Cx.g _) (by with_unfolding_all rfl)) (by with_unfolding_all decide) PyProof.Rows.boot_list (fun _ => .ty _) ?_ (by with_unfolding_all decide)
  repeat' walk_at "e"
  refine ifd (fun q => absurd rfl q) (fun _ => ?_)
  repeat' walk_at "e"
  refine AsgT.attrRef hK ?_
  repeat' walk_at "e"
  refine ⟨x, 184, dx, [], 0, rfl, hx, hd, by with_unfolding_all rfl, by with_unfolding_all rfl, by with_unfolding_all rfl, by with_unfolding_all rfl, by rfl, fun tok => ⟨by simp [putL], ?_⟩⟩
  obtain ⟨mi, hmi⟩ : ∃ mi, upd mu dx (hdDict c tok l) = mi := ⟨_, rfl⟩
  change ExS c (n + 1) _ _ (upd mu dx (hdDict c tok l)) _ _
  have hxd : x ≠ dx := fun q => by rw [q, hd] at hx; cases hx
  have hld : l ≠ dx := fun q => by rw [q, hd] at hl; cases hl
  have H : T04 c mi x l kvs := ⟨⟨dx, tok, by rw [← hmi, upd_ne _ _ hxd]; exact hx, by rw [← hmi]; simp⟩, by rw [← hmi, upd_ne _ _ hld]; exact hl, hok, hlen⟩
  have hfin := h tok
  rw [hmi] at hfin ⊢
  repeat' walk_at "e"
  refine ifT ?_
  refine ExS.join (m1 := []) (mu1 := mi) (Ex1.for (okT := anyT) trivial ?_) ?_
  · refine EvE.loc (by with_unfolding_all rfl) (by with_unfolding_all rfl) ⟨_, _, _, IterOf.list H.list, ?_⟩ (by with_unfolding_all decide)
    refine LoopE.ind (fun _ => [("self", .ref x)]) H.list ⟨rfl, trivial⟩ (fun i y hy => ?_) ?_
    · rw [List.getElem?_map] at hy
      obtain ⟨z, hz, rfl⟩ := Option.map_eq_some_iff.mp hy
      have hzo := H.row (List.mem_of_getElem? hz)
      unfold pairPV
      repeat' walk_at "e"
      refine conv04_ev hK H (by with_unfolding_all rfl) (by with_unfolding_all rfl) ?_ (by with_unfolding_all (intro _; rfl)) (by with_unfolding_all rfl) (by with_unfolding_all rfl)
      repeat' walk_at "e"
      refine ⟨rfl, z.1, rfl, by have := okN.len (okR.nm hzo); omega, okN.ctl (okR.nm hzo), rfl, ?_⟩
      repeat' walk_at "e"
      refine conv04_ev hK H (by with_unfolding_all rfl) (by with_unfolding_all rfl) ?_ (by with_unfolding_all (intro _; rfl)) (by with_unfolding_all rfl) (by with_unfolding_all rfl)
      repeat' walk_at "e"
      refine ⟨rfl, z.2, rfl, by have := okV.len (okR.vl hzo); omega, okV.ctl (okR.vl hzo), rfl, ?_⟩
      repeat' walk_at "e"
      exact ⟨.inl rfl, rfl, rfl, trivial⟩
    · repeat' walk_at "e"
      exact ⟨rfl, rfl, trivial⟩
  repeat' walk_at "e"
  exact hfin
theorem init004_ct {c : Cx} {n : Nat} {mu : Mu} (hK : K04 c) {x dx : Addr} {P : PV → Mu → Prop} (hx : mu x = some (.inst 184 dx)) (hd : mu dx = some (.obj (dictOf [] 0)))
    (h : ∀ l tok, mu l = none → P .none (upd (upd mu l (.list [])) dx (hdDict c tok l))) : CallK c (n + 2) mu (.ref 76) [.ref x] [] P := by
  have hf : FnOk c 76 _ _ := ⟨⟨_, hK 76 _ rfl, rfl⟩, rfl, rfl, rfl, rfl, ⟨_, _, _, _, rfl, hK 75 _ rfl, rfl, rfl⟩, rfl, rfl, rfl⟩
  refine CallK.fn hf (Binds.dflt (xs := [("self", .ref x), ("headers", .none)]) (hK 69 _ rfl) rfl (fun hp vs r => ?_) ⟨by simp only [List.map_cons, List.map_nil]; decide, by rfl, ?_⟩)
  · cases r with | cons r0 r =>
    cases r
    exact ⟨_, _, rfl, rfl, .cons r0 (.cons .none .nil)⟩
  have ht := fun l (hl0 : mu l = none) => initTail04 (n := n) (mu := upd mu l (.list [])) (l := l) (kvs := []) hK (x := x) (dx := dx) (by rw [upd_ne _ _ (fun q => by rw [q, hl0] at hx; cases hx)]; exact hx) (by rw [upd_ne _ _ (fun q => by rw [q, hl0] at hd; cases hd)]; exact hd) (by simp) rfl (by simp) (fun tok => h l tok hl0) hf
  clear hf
  dsimp only
  repeat' walk_at "e"
  refine ifF ?_
  refine EvE.list (EvA.nil ⟨by show 0 ≤ 2 ^ 24; decide, fun l hl0 => AsgT.name (by with_unfolding_all rfl) ?_⟩)
  exact ht l hl0
theorem keep04 {c : Cx} {mu : Mu} (hK : K04 c) : Keepr c mu (.ref 184) := Keepr.cls hK (hK 184 _ rfl) rfl (by with_unfolding_all rfl)
theorem make004_ct {c : Cx} {n : Nat} {mu : Mu} (hK : K04 c) {P : PV → Mu → Prop}
    (h : ∀ x l mu', mu x = none → mu l = none → x ≠ l → Sub mu mu' → T04 c mu' x l [] → P (.ref x) mu') : Keepr c mu (.ref 184) ∧ CallV c (n + 3) mu (.ref 184) [] [] P := by
  refine ⟨keep04 hK, CallV.make hK (by with_unfolding_all rfl) (by with_unfolding_all rfl) (by with_unfolding_all rfl) fun x dx hx hdx hne => ?_⟩
  refine init004_ct hK (dx := dx) (by simp) (by rw [upd_ne _ _ (Ne.symm hne)]; simp) fun l tok hl => ?_
  have hlx : l ≠ x := fun q => by rw [q] at hl; simp at hl
  rw [upd_ne _ _ hlx] at hl
  have hld : l ≠ dx := fun q => by rw [q] at hl; simp at hl
  rw [upd_ne _ _ hld] at hl
  refine ⟨rfl, h x l _ hx hl (Ne.symm hlx) (fun a o ea => ?_) ?_⟩
  · have h1 : a ≠ dx := fun q => by rw [q, hdx] at ea; cases ea
    have h2 : a ≠ x := fun q => by rw [q, hx] at ea; cases ea
    have h3 : a ≠ l := fun q => by rw [q, hl] at ea; cases ea
    rw [upd_ne _ _ h1, upd_ne _ _ h3, upd_ne _ _ h2, upd_ne _ _ h1]; exact ea
  · refine ⟨⟨dx, tok, ?_, by simp⟩, ?_, rfl, by simp⟩
    · rw [upd_ne _ _ hne, upd_ne _ _ (Ne.symm hlx)]; simp
    · rw [upd_ne _ _ hld]; simp

open PySem PySem.W PySem.Calls PyProof.Rows
set_option Elab.async false
set_option linter.unusedVariables false
set_option maxRecDepth 100000
set_option maxHeartbeats 4000000

/-- _formatparam(p, v) -/
theorem fpq04_ct {c : Cx} {n : Nat} {mu : Mu} (hK : K04 c) {p v : List Nat} {P : PV → Mu → Prop} (hp : p.length ≤ 100000) (hv : v.length ≤ 1000000) (h : P (.str (S (fp p v true))) mu) : Keepr c mu (.ref 61) ∧ CallV c (n + 1) mu (.ref 61) [.str (S p), .str (S v)] [] P := by
  have hf : FnOk c 61 _ _ := ⟨⟨_, hK 61 _ rfl, rfl⟩, rfl, rfl, rfl, rfl, ⟨_, _, _, _, rfl, hK 60 _ rfl, rfl, rfl⟩, rfl, rfl, rfl⟩
  refine ⟨Keepr.fn hf, CallV.fn hf (Binds.dflt (xs := [("param", .str (S p)), ("value", .str (S v)), ("quote", .int 1)]) (hK 54 _ rfl) rfl (fun hp vs r => ?_) ⟨by simp only [List.map_cons, List.map_nil]; decide, by rfl, ?_⟩)⟩
  · cases r with | cons r0 r =>
    cases r with | cons r1 r =>
    cases r
    exact ⟨_, _, rfl, rfl, .cons r0 (.cons r1 (.cons (.int _ _) .nil))⟩
  clear hf
  dsimp only
  repeat' walk_at "e"
  refine ifT ?_
  repeat' walk_at "e"
  refine CallV.lenS (by rw [S_length]; omega) ?_
  repeat' walk_at "e"
  rw [S_length]
  refine ifd (fun h1 => ?_) (fun h1 => ?_)
  · have hne : v ≠ [] := fun e => by rw [e] at h1; simp at h1
    repeat' walk_at "e"
    refine ifT ?_
    repeat' walk_at "e"
    refine ifT ?_
    repeat' walk_at "e"
    refine ifT ?_
    refine ExS.asg (EvE.replaceC (by decide +kernel) (EvE.replaceC (by decide +kernel) ?_))
    have b1 : (Str.ofString "\\") = ⟨#[92]⟩ := by decide +kernel
    have b2 : (Str.ofString "\\\\") = S [92, 92] := by decide +kernel
    have b3 : (Str.ofString "\"") = ⟨#[34]⟩ := by decide +kernel
    have b4 : (Str.ofString "\\\"") = S [92, 34] := by decide +kernel
    have b5 : (Str.ofString "=\"") = S [61, 34] := by decide +kernel
    have b6 : Str.empty = S [] := rfl
    have l1 := replL_length 92 [92, 92] 2 (by decide) (by decide) v
    have l2 := escL_length v
    repeat' walk_at "e"
    refine ⟨_, rfl, ?_, ?_⟩
    · rw [b2, S_length, S_length]; show _ + _ * 2 ≤ _; omega
    rw [b1, b2, replace_list, S_cps]
    refine ⟨_, rfl, ?_, ?_⟩
    · rw [b4, S_length, S_length]; show _ + _ * 2 ≤ _; omega
    rw [b3, b4, replace_list, S_cps, esc_two]
    repeat' walk_at "e"
    refine EvJ.fmt ?_
    repeat' walk_at "e"
    refine ⟨_, rfl, ?_, EvJ.lit ?_ (EvJ.fmt ?_)⟩
    · rw [b6, S_length, S_length]; show _ ≤ 2 ^ 24; simp; omega
    · rw [b6, b5, S_append, S_length, S_length]; show _ ≤ 2 ^ 24; simp; omega
    repeat' walk_at "e"
    refine ⟨_, rfl, ?_, EvJ.lit ?_ (EvJ.nil ?_ ?_)⟩
    · rw [b6, b5, S_append, S_append, S_length, S_length]; show _ ≤ 2 ^ 24; simp; omega
    · rw [b6, b5, S_append, S_append, S_append, S_length]; show _ ≤ 2 ^ 24; simp [Str.length]; omega
    · rw [b6, b5, S_append, S_append, S_append, S_append, S_length]; show _ ≤ 2 ^ 24; simp; omega
    repeat' walk_at "e"
    rw [b6, b5, S_append, S_append, S_append, S_append]
    have e : fp p v true = [] ++ p ++ [61, 34] ++ escL v ++ [34] := by
      unfold fp; rw [if_neg hne]; simp
    rw [← e]; exact h
  · have hne : v = [] := by
      cases v with
      | nil => rfl
      | cons a r => simp at h1
    subst hne
    repeat' walk_at "e"
    refine ifF ?_
    repeat' walk_at "e"
    exact h
theorem kw_names {kvs : List (Str × Value)} {ks : List Kw} (h : kvs.map (·.1) = (kwPV ks).map (·.1)) {p : Str × Value} (hp : p ∈ kvs) : ∃ q ∈ ks, p.1 = S q.1 := by
  have h1 : p.1 ∈ kvs.map (·.1) := List.mem_map_of_mem hp
  rw [h] at h1
  unfold kwPV at h1
  rw [List.map_map] at h1
  obtain ⟨q, hq, e⟩ := List.mem_map.mp h1
  exact ⟨q, hq, e.symm⟩
/-- names that add_header's own parameters have -/
def ownK (k : List Nat) : Bool := decide (S k = ("self" : Str)) || decide (S k = ("_name" : Str)) || decide (S k = ("_value" : Str))
theorem kw_nodup {ks : List Kw} (h : (ks.map (·.1)).Nodup) : ((kwPV ks).map (·.1)).Nodup := by
  unfold kwPV
  rw [List.map_map]
  have e : ks.map ((fun x => x.1) ∘ fun (p : Kw) => (S p.1, optPV p.2)) = (ks.map (·.1)).map S := by rw [List.map_map]; rfl
  rw [e]
  exact List.Pairwise.map S (fun a b hab q => hab (S_inj.mp q)) h
theorem kwPV_get {ks : List Kw} {i : Nat} {y : PV} (h : (itemsL (kwPV ks))[i]? = some y) : ∃ p, ks[i]? = some p ∧ y = .tuple [.str (S p.1), optPV p.2] := by
  unfold itemsL kwPV at h
  rw [List.map_map, List.getElem?_map] at h
  obtain ⟨p, hp, rfl⟩ := Option.map_eq_some_iff.mp h
  exact ⟨p, hp, rfl⟩
theorem addK04_ct {c : Cx} {n : Nat} {mu : Mu} (hK : K04 c) {x l : Addr} {kvs : List Row} (H : T04 c mu x l kvs) {name : List Nat} {own : Option (List Nat)} {ks : List Kw} {P : PV → Mu → Prop} (hn : okN name = true) (ho : okO own = true) (hks : ∀ p ∈ ks, okK p = true)
    (hnd : (ks.map (·.1)).Nodup) (hown : ∀ p ∈ ks, ownK p.1 = false) (hlen : (rowL own ks).length ≤ 100000) (hkl : ks.length ≤ 1000) (hk : kvs.length < 10000)
    (h : P .none (upd mu l (.list ((kvs ++ [(name, rowL own ks)]).map pairPV)))) : CallK c (n + 2) mu (.ref 181) [.ref x, .str (S name), optPV own] (kwPV ks) P := by
  have hf : FnOk c 181 _ _ := ⟨⟨_, hK 181 _ rfl, rfl⟩, rfl, rfl, rfl, rfl, ⟨_, _, _, _, rfl, hK 180 _ rfl, rfl, rfl⟩, rfl, rfl, rfl⟩
  have sl : sizeLine = 16777216 := rfl
  refine CallK.fn hf (Binds.more (x := "self") (y := "_name") (z := "_value") (nm := "_params") (fun v w u kv hkv => ?_) (kw_nodup hnd) fun D hD hDS => ⟨by simp only [List.map_cons, List.map_nil]; decide, by rfl, ?_⟩)
  · refine bind_more ?_ ?_ kv (fun p hp => ?_) ?_ ?_ ?_ ?_ v w u
    · exact ⟨_, _, _, _, rfl, rfl, rfl, rfl, rfl⟩
    · rfl
    · obtain ⟨q, hq, e⟩ := kw_names hkv hp
      have := hown q hq
      unfold ownK at this
      simp only [Bool.or_eq_false_iff, decide_eq_false_iff_not] at this
      rw [e]; exact ⟨this.1.1, this.1.2, this.2⟩
    · have := congrArg List.length hkv
      simp [kwPV] at this
      omega
    · decide
    · decide
    · decide
  clear hf
  dsimp only
  have H1 : T04 c (upd mu D (.dict (kwPV ks))) x l kvs := H.fresh hD
  refine ExS.asg (EvE.list (EvA.nil ⟨by simp, fun PA hPA => AsgT.name (by with_unfolding_all rfl) ?_⟩)) (by with_unfolding_all (intro _ _; rfl)) (by with_unfolding_all (intro _; rfl)) (by with_unfolding_all (intro _; rfl))
  have hPD : PA ≠ D := fun q => by rw [q] at hPA; simp at hPA
  have hP0 : mu PA = none := by rw [upd_ne _ _ hPD] at hPA; exact hPA
  have HP : ∀ ys : List PV, T04 c (upd (upd mu D (.dict (kwPV ks))) PA (.list ys)) x l kvs := fun ys => H1.fresh hPA
  have HQ : ∀ ys : List PV, T04 c (upd mu PA (.list ys)) x l kvs := fun ys => H.fresh hP0
  refine ExS.mid (fun m' mu' => SubL [("self", .ref x), ("_name", .str (S name)), ("_params", .ref D), ("parts", .ref PA)] m' ∧ mu' = upd (upd mu D (.dict (kwPV ks))) PA (.list (own.toList.map fun v => .str (S v)))) (Ex1.if ?_) ?_
  · cases own with
    | none =>
      repeat' walk_at "e"
      refine ifF ?_
      repeat' walk_at "e"
      exact ⟨rfl, ⟨rfl, rfl, rfl, rfl, trivial⟩, rfl⟩
    | some v =>
      have hv : okV v = true := ho
      repeat' walk_at "e"
      refine ifT ?_
      refine ExS.asg ?_ (by with_unfolding_all (intro _ _; rfl)) (by with_unfolding_all (intro _; rfl)) (by with_unfolding_all (intro _; rfl))
      refine conv04_ev hK (HP _) (by with_unfolding_all rfl) (by with_unfolding_all rfl) ?_ (by with_unfolding_all (intro _; rfl)) (by with_unfolding_all rfl) (by with_unfolding_all rfl)
      repeat' walk_at "e"
      refine ⟨rfl, v, rfl, by have := okV.len hv; omega, okV.ctl hv, ?_⟩
      repeat' walk_at "e"
      refine EvE.appendC (EvE.loc (by with_unfolding_all rfl) (by with_unfolding_all rfl) ⟨PA, _, rfl, upd_same .., ?_⟩ (by with_unfolding_all decide)) (by with_unfolding_all (intro _; rfl)) (by with_unfolding_all (intro _; rfl)) (by with_unfolding_all rfl) (by with_unfolding_all rfl)
      repeat' walk_at "e"
      refine ⟨[], by simp, by simp, rfl, ?_⟩
      repeat' walk_at "e"
      rw [upd_upd]
      exact ⟨rfl, ⟨rfl, rfl, rfl, rfl, trivial⟩, rfl⟩
  rintro m' mu' ⟨hs, rfl⟩
  refine ExS.weakL hs ?_
  clear hs
  refine ExS.for (okT := tupT) tupT.mk ?_
  refine EvE.methB (EvE.loc (by with_unfolding_all rfl) (by with_unfolding_all rfl) ⟨_, Meth.dict (kw := kwPV ks) (by rw [upd_ne _ _ (Ne.symm hPD)]; simp) PySem.F.slot_dict_items PySem.F.type_dict_items, EvA.nil ?_⟩ (by with_unfolding_all decide)) (by with_unfolding_all (intro _; rfl)) (by with_unfolding_all rfl)
  refine CallV.items (kw := kwPV ks) (by rw [upd_ne _ _ (Ne.symm hPD)]; simp) hDS fun V hV => ?_
  rw [upd_comm _ _ _ (Ne.symm hPD)] at hV ⊢
  refine ⟨_, _, _, IterOf.items (by rw [upd_ne _ _ (Ne.symm hPD)]; exact hD) hV, ?_⟩
  refine LoopE.inv (fun i m' mu' => SubL [("self", .ref x), ("_name", .str (S name)), ("parts", .ref PA)] m' ∧ mu' = upd mu PA (.list ((own.toList ++ (ks.take i).map partL).map fun v => .str (S v)))) (fun _ _ _ _ => trivial) ⟨⟨rfl, rfl, rfl, trivial⟩, by simp⟩ ?_ ?_
  · rintro i y m' mu' hy ⟨hs, rfl⟩
    obtain ⟨p, hp, rfl⟩ := kwPV_get hy
    have hpo := hks p (List.mem_of_getElem? hp)
    have hpl := part_len (own := own) (List.mem_of_getElem? hp)
    have hkl2 := partL_key p
    have hstep : (own.toList ++ (ks.take i).map partL).map (fun v => PV.str (S v)) ++ [.str (S (partL p))] = (own.toList ++ (ks.take (i + 1)).map partL).map fun v => .str (S v) := by
      rw [List.take_add_one, hp]; simp
    have hil : i < ks.length := (List.getElem?_eq_some_iff.mp hp).1
    have hll : ((own.toList ++ (ks.take i).map partL).map fun v => PV.str (S v)).length ≤ 2000 := by
      have : own.toList.length ≤ 1 := by cases own <;> simp
      simp; omega
    have c1 : (Str.ofString "_") = ⟨#[95]⟩ := by decide +kernel
    have c2 : (Str.ofString "-") = S [45] := by decide +kernel
    refine AsgT.weak hs ?_
    refine AsgT.tuple ?_ (by with_unfolding_all rfl) (by with_unfolding_all (intro _; exact ⟨rfl, rfl⟩))
    repeat' walk_at "e"
    refine conv04_ev hK (HQ _) (by with_unfolding_all rfl) (by with_unfolding_all rfl) ?_ (by with_unfolding_all (intro _; rfl)) (by with_unfolding_all rfl) (by with_unfolding_all rfl)
    repeat' walk_at "e"
    refine ⟨rfl, p.1, rfl, by have := okN.len (okK.nm hpo); omega, okN.ctl (okK.nm hpo), ?_⟩
    repeat' walk_at "e"
    obtain ⟨k, o⟩ := p
    have hkl3 : k.length ≤ 100000 := by have : k.length ≤ (partL (k, o)).length := hkl2; omega
    cases o with
    | none =>
      repeat' walk_at "e"
      refine ifT ?_
      refine ExS.expr ?_ (by with_unfolding_all (intro _; rfl))
      refine EvE.appendC (EvE.loc (by with_unfolding_all rfl) (by with_unfolding_all rfl) ⟨PA, _, rfl, upd_same .., ?_⟩ (by with_unfolding_all decide)) (by with_unfolding_all (intro _; rfl)) (by with_unfolding_all (intro _; rfl)) (by with_unfolding_all rfl) (by with_unfolding_all rfl)
      refine EvE.replaceC (by decide +kernel) ?_
      repeat' walk_at "e"
      refine ⟨_, rfl, ?_, ?_⟩
      · rw [c2, S_length, S_length]; show k.length + (k.length + 1) * 1 ≤ _; omega
      rw [c1, c2, replace_list, S_cps]
      refine ⟨_, upd_same .., by omega, rfl, ?_⟩
      repeat' walk_at "e"
      rw [upd_upd]
      exact ⟨⟨rfl, rfl, rfl, trivial⟩, by rw [← hstep]; rfl⟩
    | some v =>
      have hv := okK.vl hpo rfl
      have hvl : v.length ≤ 100000 := okV.len hv
      repeat' walk_at "e"
      refine ifF ?_
      refine ExS.asg ?_ (by with_unfolding_all (intro _ _; rfl)) (by with_unfolding_all (intro _; rfl)) (by with_unfolding_all (intro _; rfl))
      refine conv04_ev hK (HQ _) (by with_unfolding_all rfl) (by with_unfolding_all rfl) ?_ (by with_unfolding_all (intro _; rfl)) (by with_unfolding_all rfl) (by with_unfolding_all rfl)
      repeat' walk_at "e"
      refine ⟨rfl, v, rfl, by omega, okV.ctl hv, ?_⟩
      refine AsgT.name (by with_unfolding_all rfl) ?_
      refine ExS.expr ?_ (by with_unfolding_all (intro _; rfl))
      refine EvE.appendC (EvE.loc (by with_unfolding_all rfl) (by with_unfolding_all rfl) ⟨PA, _, rfl, upd_same .., ?_⟩ (by with_unfolding_all decide)) (by with_unfolding_all (intro _; rfl)) (by with_unfolding_all (intro _; rfl)) (by with_unfolding_all rfl) (by with_unfolding_all rfl)
      refine EvE.callFn (by with_unfolding_all rfl) (mg_of hK (Cx.g _) (by with_unfolding_all rfl)) ?_ (by with_unfolding_all decide) (by with_unfolding_all rfl) (by with_unfolding_all rfl)
      refine EvA.cons (EvE.replaceC (by decide +kernel) ?_) (by with_unfolding_all (intro _; rfl))
      repeat' walk_at "e"
      refine ⟨_, rfl, ?_, ?_⟩
      · rw [c2, S_length, S_length]; show k.length + (k.length + 1) * 1 ≤ _; omega
      rw [c1, c2, replace_list, S_cps]
      repeat' walk_at "e"
      refine fpq04_ct hK (by rw [show replL 95 [45] k = dashL k from rfl, dashL_length]; omega) (by omega) ?_
      refine ⟨_, upd_same .., by omega, rfl, ?_⟩
      repeat' walk_at "e"
      rw [upd_upd]
      exact ⟨⟨rfl, rfl, rfl, trivial⟩, by rw [← hstep]; rfl⟩
  rintro m' mu' ⟨hs, rfl⟩
  rw [show (itemsL (kwPV ks)).length = ks.length from by simp [itemsL, kwPV], List.take_length]
  refine ExS.nil (SeqP.next (ExS.weakL hs ?_))
  have hHl : upd mu PA (.list ((own.toList ++ ks.map partL).map fun v => .str (S v))) l = some (.list (kvs.map pairPV)) := (HQ _).list
  have hHlen := H.len
  refine ExS.expr ?_ (by with_unfolding_all (intro _; rfl))
  refine EvE.appendC (EvE.hdr hK (hk04 _) (EvE.loc (by with_unfolding_all rfl) (by with_unfolding_all rfl) ⟨x, l, _, rfl, HQ _, ?_⟩ (by with_unfolding_all decide)) (by with_unfolding_all (intro _; rfl)) (by with_unfolding_all (intro _ _; rfl))) (by with_unfolding_all (intro _; rfl)) (by with_unfolding_all (intro _; rfl)) (by with_unfolding_all rfl) (by with_unfolding_all rfl)
  refine ⟨l, _, rfl, hHl, ?_⟩
  refine EvE.tuple (EvA.cons ?_ (by with_unfolding_all (intro _; rfl)))
  refine conv04_ev hK (HQ _) (by with_unfolding_all rfl) (by with_unfolding_all rfl) ?_ (by with_unfolding_all (intro _; rfl)) (by with_unfolding_all rfl) (by with_unfolding_all rfl)
  repeat' walk_at "e"
  refine ⟨rfl, name, rfl, by have := okN.len hn; omega, okN.ctl hn, ?_⟩
  refine EvA.cons ?_ (by with_unfolding_all (intro _; rfl))
  refine EvE.methB (EvE.str ⟨_, Meth.str PySem.F.slot_str_join (by kernel_rfl), ?_⟩) (by with_unfolding_all (intro _; rfl)) (by with_unfolding_all rfl)
  repeat' walk_at "e"
  have c3 : (Str.ofString "; ") = S [59, 32] := by decide +kernel
  rw [c3]
  refine CallV.joinL (xs := (own.toList ++ ks.map partL).map S) (by rw [List.map_map]; exact upd_same ..) (joinOk_row (by show (rowL own ks).length + 2 ≤ _; omega)) ?_
  rw [join_S]
  repeat' walk_at "e"
  refine ⟨by show 2 ≤ 2 ^ 24; decide, _, hHl, by rw [List.length_map]; omega, rfl, ?_⟩
  refine ExS.forget (mu := upd mu l (.list ((kvs ++ [(name, rowL own ks)]).map pairPV))) ?_ (ExS.nil h)
  have hPl : l ≠ PA := fun q => by rw [← q, H.list] at hP0; cases hP0
  rw [List.map_append, upd_comm _ _ _ (Ne.symm hPl)]
  exact sub_upd (by rw [upd_ne _ _ (Ne.symm hPl)]; exact hP0)
theorem fn04_add {c : Cx} (hK : K04 c) : ∃ fd body, FnOk c 181 fd body := ⟨_, _, ⟨⟨_, hK 181 _ rfl, rfl⟩, rfl, rfl, rfl, rfl, ⟨_, _, _, _, rfl, hK 180 _ rfl, rfl, rfl⟩, rfl, rfl, rfl⟩⟩
open PySem PySem.W PySem.Calls PyProof.Rows
set_option Elab.async false
set_option linter.unusedVariables false
set_option maxRecDepth 100000
set_option maxHeartbeats 4000000


def ab04 : List Nat := [97, 34, 92, 61, 44, 32]
def text04 (i : Int) : List Nat := wordB ab04 259 (i.fmod 259).toNat
theorem abs04 (k : Nat) : (Str.ofString "a\"\\=, ").cps[k % 6]? = some (ab04.getD (k % 6) 0) := by
  rw [show (Str.ofString "a\"\\=, ") = S ab04 from by decide +kernel]
  have h : k % 6 < 6 := Nat.mod_lt _ (by decide)
  generalize k % 6 = j at h
  match j, h with
  | 0, _ => rfl
  | 1, _ => rfl
  | 2, _ => rfl
  | 3, _ => rfl
  | 4, _ => rfl
  | 5, _ => rfl
theorem text04_ct {c : Cx} {n : Nat} {mu : Mu} (hK : K04 c) {i : Int} {P : PV → Mu → Prop} (h : P (.str (S (text04 i))) mu) : Keepr c mu (.ref 195) ∧ CallV c (n + 1) mu (.ref 195) [.int i] [] P := by
  have hf : FnOk c 195 _ _ := ⟨⟨_, hK 195 _ rfl, rfl⟩, rfl, rfl, rfl, rfl, ⟨_, _, _, _, rfl, hK 194 _ rfl, rfl, rfl⟩, rfl, rfl, rfl⟩
  refine ⟨Keepr.fn hf, CallV.fn hf (Binds.p1 (fun v => rfl) ⟨by simp only [List.map_cons, List.map_nil]; decide, by rfl, ?_⟩)⟩; clear hf
  dsimp only
  repeat' walk_at "e"
  obtain ⟨k, hk, hk2⟩ := fmod_nat i 259 (by decide)
  rw [show ((259 : Nat) : Int) = 259 from rfl] at hk
  have hw : text04 i = wordB ab04 259 k := by unfold text04; rw [hk]; rfl
  rw [hw] at h
  rw [hk]
  refine ExS.while 260 (WhE.inv (fun f m' mu' => mu' = mu ∧ ∃ (k : Nat) (out : List Nat), k ≤ f ∧ out.length + f ≤ 100000 ∧ SubL [("n", .int (k : Int)), ("out", .str (S out))] m' ∧ P (.str (S (out ++ wordB ab04 f k))) mu) ?_ 259 ⟨rfl, k, [], by omega, by simp, ⟨rfl, rfl, trivial⟩, h⟩)
  rintro f m' mu' ⟨rfl, k, out, h1, h2, hs, hP⟩
  refine Tst.weak hs ?_
  repeat' walk_at "e"
  refine ifd (fun q => ?_) (fun q => ?_)
  · obtain ⟨k, rfl⟩ : ∃ j, k = j + 1 := ⟨k - 1, by omega⟩
    obtain ⟨f, rfl⟩ : ∃ j, f = j + 1 := ⟨f - 1, by omega⟩
    refine ⟨f, rfl, ExS.weakL hs ?_⟩
    repeat' walk_at "e"
    have e1 : ((k + 1 : Nat) : Int) - 1 = (k : Int) := by omega
    rw [e1]
    have e2 : (k : Int).fmod 6 = ((k % 6 : Nat) : Int) := by rw [Int.fmod_eq_emod_of_nonneg]; omega; omega
    have e3 : (k : Int).fdiv 6 = ((k / 6 : Nat) : Int) := by rw [Int.fdiv_eq_ediv_of_nonneg]; omega; omega
    rw [e2]
    refine OpSub.strN (by omega) (by omega) (abs04 k) ?_ (by with_unfolding_all (intro _ _; exact ⟨_, rfl⟩))
    refine OpI.addS (by rw [S_length]; show _ + 1 ≤ 2 ^ 24; omega) ?_
    rw [show (Str.mk #[ab04.getD (k % 6) 0]) = S [ab04.getD (k % 6) 0] from rfl, S_append]
    repeat' walk_at "e"
    refine ⟨rfl, k / 6, out ++ [ab04.getD (k % 6) 0], by omega, by simp; omega, ⟨?_, rfl, trivial⟩, ?_⟩
    · rw [e3]; rfl
    · have e4 : wordB ab04 (f + 1) (k + 1) = ab04.getD (k % 6) 0 :: wordB ab04 f (k / 6) := rfl
      rw [e4] at hP
      simpa using hP
  · have hk0 : k = 0 := by omega
    subst hk0
    refine ExS.weakL hs ?_
    repeat' walk_at "e"
    rw [wordB_zero, List.append_nil] at hP
    exact hP

theorem read04_ct {c : Cx} {n : Nat} {mu : Mu} (hK : K04 c) {own : List Nat} {ps : List Row} {P : PV → Mu → Prop} (ho : 59 ∉ own) (hn : ∀ p ∈ ps, ∀ ch ∈ p.1, ch ≠ 61 ∧ ch ≠ 59) (hsz : (own ++ encA ps).length ≤ 1000000) (hps : ps.length ≤ 1000)
    (h : ∀ F, mu F = none → P (.tuple [.str (S own), .ref F]) (upd mu F (.list (ps.map pairPV)))) : Keepr c mu (.ref 202) ∧ CallV c (n + 1) mu (.ref 202) [.str (S (own ++ encA ps))] [] P := by
  have hf : FnOk c 202 _ _ := ⟨⟨_, hK 202 _ rfl, rfl⟩, rfl, rfl, rfl, rfl, ⟨_, _, _, _, rfl, hK 201 _ rfl, rfl, rfl⟩, rfl, rfl, rfl⟩
  refine ⟨Keepr.fn hf, CallV.fn hf (Binds.p1 (fun v => rfl) ⟨by simp only [List.map_cons, List.map_nil]; decide, by rfl, ?_⟩)⟩; clear hf
  dsimp only
  have sl : sizeLine = 16777216 := rfl
  obtain ⟨T, hT⟩ : ∃ T, own ++ encA ps = T := ⟨_, rfl⟩
  rw [hT] at hsz ⊢
  have bsc : Str.ofString ";" = S [59] := by decide +kernel
  have bss : Str.ofString "; " = S [59, 32] := by decide +kernel
  have bes : Str.ofString "=;" = S [61, 59] := by decide +kernel
  have bq : Str.ofString "\"" = S [34] := by decide +kernel
  have beq : Str.ofString "=\"" = S [61, 34] := by decide +kernel
  have bem : Str.ofString "" = S [] := rfl
  refine ExS.asg ?_ (by with_unfolding_all (intro _ _; rfl)) (by with_unfolding_all (intro _; rfl)) (by with_unfolding_all (intro _; rfl))
  refine EvE.methB (EvE.loc (by with_unfolding_all rfl) (by with_unfolding_all rfl) ⟨_, Meth.str PySem.F.slot_str_find (by kernel_rfl), ?_⟩ (by with_unfolding_all decide)) (by with_unfolding_all (intro _; rfl)) (by with_unfolding_all rfl)
  repeat' walk_at "e"
  refine CallV.find ?_
  rw [bsc]
  cases hpe : ps with
  | nil =>
    subst hpe
    have hTo : T = own := by rw [← hT]; simp [encA]
    rw [find_none (by rw [hTo]; exact ho)]
    repeat' walk_at "e"
    refine ifT ?_
    refine ExS.ret (EvE.tuple (EvA.cons (EvE.loc (by with_unfolding_all rfl) (by with_unfolding_all rfl) ?_ (by with_unfolding_all decide)) (by with_unfolding_all (intro _; rfl))))
    refine EvA.cons (EvE.list (EvA.nil ⟨by simp, fun F hF => EvA.nil ⟨by show 2 ≤ 2 ^ 24; decide, ?_⟩⟩)) (by with_unfolding_all (intro _; rfl))
    rw [hTo]
    exact h F hF
  | cons p0 pr =>
  have hlp : 0 < ps.length := by rw [hpe]; simp
  have hhead : ∃ r, encA ps = 59 :: r := by rw [hpe]; exact ⟨_, rfl⟩


  obtain ⟨r0, hr0⟩ := hhead
  have hTf : T = own ++ 59 :: r0 := by rw [← hT, hr0]
  have hfa : Txt.find (S T) (S [59]) = (own.length : Int) := by rw [hTf]; exact find_at ho
  rw [hfa]
  repeat' walk_at "e"
  refine ifd (fun q => by omega) (fun _ => ?_)
  refine ExS.nil (SeqP.next ?_)
  refine ExS.asg (EvE.sliceS ?_ (by with_unfolding_all (intro _ _; rfl))) (by with_unfolding_all (intro _ _; rfl)) (by with_unfolding_all (intro _; rfl)) (by with_unfolding_all (intro _; rfl))
  have hTl : own.length ≤ T.length := by rw [← hT]; simp
  repeat' walk_at "e"
  refine ⟨own.length, rfl, T, rfl, by omega, ?_⟩
  rw [pk_to, show T.take own.length = own from by rw [← hT]; simp]
  repeat' walk_at "s"
  refine ⟨by simp, fun F hF => ?_⟩
  refine AsgT.name (by with_unfolding_all rfl) ?_
  refine ExS.while (ps.length + 1) (WhE.ind (fun i => [("text", .str (S T)), ("own", .str (S own)), ("found", .ref F), ("at", .int ((own ++ encA (ps.take i)).length : Nat))]) (fun i => upd mu F (.list ((ps.take i).map pairPV))) ps.length rfl ⟨rfl, rfl, rfl, by simp [encA]; rfl, trivial⟩ (fun i hi => ?_) ?_ ?_)
  · obtain ⟨p, hp⟩ : ∃ p, ps[i]? = some p := ⟨_, List.getElem?_eq_getElem hi⟩
    have hs1 := encA_split hp
    have hs2 := encA_take hp
    have hhd := encA_head (ps.drop (i + 1))
    have hnm := hn p (List.mem_of_getElem? hp)
    obtain ⟨B, hB⟩ : ∃ B, own ++ encA (ps.take i) = B := ⟨_, rfl⟩
    obtain ⟨R, hR⟩ : ∃ R, encA (ps.drop (i + 1)) = R := ⟨_, rfl⟩
    rw [hR] at hs1 hhd
    have hTB : T = B ++ (encP p ++ R) := by rw [← hT, hs1, ← hB]; simp
    rw [hs2, ← List.append_assoc, hB]
    have hlen : T.length = B.length + ((encP p).length + R.length) := by rw [hTB]; simp
    have hpl : 2 ≤ (encP p).length := by unfold encP; simp
    have hps1 : (ps.take (i + 1)).map pairPV = (ps.take i).map pairPV ++ [.tuple [.str (S p.1), .str (S p.2)]] := by
      rw [List.take_add_one, hp]; simp [pairPV]
    have hxl : ((ps.take i).map pairPV).length ≤ 1000 := by simp; omega
    rw [hps1]
    generalize (ps.take i).map pairPV = xs0 at *
    obtain ⟨mi, hmi⟩ : ∃ mi, upd mu F (.list xs0) = mi := ⟨_, rfl⟩
    rw [hmi]
    have hF1 : mi F = some (.list xs0) := by rw [← hmi]; simp
    clear hs1 hs2 hT
    obtain ⟨nm, v⟩ := p
    simp only at hnm
    obtain ⟨V, hV⟩ : ∃ V, (if v = [] then [] else [61, 34] ++ (escL v ++ [34])) = V := ⟨_, rfl⟩
    have hE : encP (nm, v) = [59, 32] ++ (nm ++ V) := by rw [← hV]; rfl
    have hTB2 : T = B ++ ([59, 32] ++ (nm ++ (V ++ R))) := by rw [hTB, hE]; simp
    repeat' walk_at "e"
    refine CallV.lenS (by rw [S_length]; omega) ?_
    repeat' walk_at "e"
    refine ⟨by rw [S_length]; simp; omega, rfl, ?_⟩
    -- the semicolon
    refine ExS.if (Tst.cmp (EvE.sliceS ?_ (by with_unfolding_all (intro _ _; rfl))) (by with_unfolding_all rfl))
    repeat' walk_at "e"
    refine ⟨B.length, rfl, ?_⟩
    repeat' walk_at "e"
    refine ⟨B.length + 2, rfl, T, rfl, by omega, ?_⟩
    rw [pk_both, dropAt hTB2 rfl, bss]
    repeat' walk_at "e"
    refine ifd (fun q => absurd rfl q) (fun _ => ?_)
    refine ExS.nil (SeqP.next ?_)
    repeat' walk_at "s"
    -- the name
    have hB2 : T = (B ++ [59, 32]) ++ (nm ++ (V ++ R)) := by rw [hTB2]; simp
    have hB2l : (B ++ [59, 32]).length = B.length + 2 := by simp
    have hTl2 : T.length = B.length + 2 + nm.length + (V ++ R).length := by rw [hB2]; simp; omega
    refine ExS.while (nm.length + 1) (WhE.ind (fun j => [("text", .str (S T)), ("own", .str (S own)), ("found", .ref F), ("at", .int ((B.length + 2 : Nat) : Int)), ("end", .int ((B.length + 2 + j : Nat) : Int))]) (fun _ => mi) nm.length rfl ⟨rfl, rfl, rfl, rfl, rfl, trivial⟩ (fun j hj => ?_) ?_ ?_)
    · obtain ⟨ch, hch⟩ : ∃ ch, nm[j]? = some ch := ⟨_, List.getElem?_eq_getElem hj⟩
      have hg : T[B.length + 2 + j]? = some ch := by
        rw [hB2, List.getElem?_append_right (by rw [hB2l]; omega), hB2l, show B.length + 2 + j - (B.length + 2) = j from by omega, List.getElem?_append_left hj]; exact hch
      have hne := hnm ch (List.mem_of_getElem? hch)
      repeat' walk_at "e"
      refine CallV.lenS (by rw [S_length]; omega) ?_
      repeat' walk_at "e"
      rw [S_length]
      refine ifd (fun _ => ?_) (fun q => by omega)
      repeat' walk_at "e"
      refine OpSub.strN (by omega) (by omega) (ch := ch) (by rw [Int.toNat_natCast, List.getElem?_toArray]; exact hg) ?_ (by with_unfolding_all (intro _ _; exact ⟨_, rfl⟩))
      repeat' walk_at "e"
      rw [bes]
      refine OpC.notInS ?_
      rw [show (Str.mk #[ch]) = S [ch] from rfl, contains_two, show decide (ch = 61 ∨ ch = 59) = false from by simp [hne.1, hne.2]]
      repeat' walk_at "e"
      refine ifT ?_
      repeat' walk_at "e"
      refine ⟨rfl, rfl, ?_⟩
      repeat' walk_at "e"
      exact ⟨.inl rfl, rfl, rfl, rfl, rfl, rfl, rfl, trivial⟩
    · repeat' walk_at "e"
      refine CallV.lenS (by rw [S_length]; omega) ?_
      repeat' walk_at "e"
      rw [S_length]
      refine ifd (fun q => ?_) (fun q => ⟨rfl, rfl⟩)
      have hVR : ∃ ch r, V ++ R = ch :: r ∧ (ch = 61 ∨ ch = 59) := by
        by_cases hv : v = []
        · have : V = [] := by rw [← hV, if_pos hv]
          rw [this]
          rcases hhd with w | ⟨r, w⟩
          · rw [this, w] at hTl2; simp at hTl2; omega
          · exact ⟨59, _, by rw [w]; rfl, .inr rfl⟩
        · have : V = [61, 34] ++ (escL v ++ [34]) := by rw [← hV, if_neg hv]
          exact ⟨61, _, by rw [this]; rfl, .inl rfl⟩
      obtain ⟨ch, r, hVR1, hVR2⟩ := hVR
      have hg : T[B.length + 2 + nm.length]? = some ch := getAt (A := B ++ [59, 32] ++ nm) (B := r) (by rw [hB2, hVR1]; simp) (by simp; omega)
      repeat' walk_at "e"
      refine OpSub.strN (by omega) (by omega) (ch := ch) (by rw [Int.toNat_natCast, List.getElem?_toArray]; exact hg) ?_ (by with_unfolding_all (intro _ _; exact ⟨_, rfl⟩))
      repeat' walk_at "e"
      rw [bes]
      refine OpC.notInS ?_
      rw [show (Str.mk #[ch]) = S [ch] from rfl, contains_two, show decide (ch = 61 ∨ ch = 59) = true from by simp [hVR2]]
      repeat' walk_at "e"
      refine ifF ?_
      exact ⟨rfl, rfl⟩
    refine ExS.nil (SeqP.next ?_)
    refine ExS.asg (EvE.sliceS ?_ (by with_unfolding_all (intro _ _; rfl))) (by with_unfolding_all (intro _ _; rfl)) (by with_unfolding_all (intro _; rfl)) (by with_unfolding_all (intro _; rfl))
    repeat' walk_at "e"
    refine ⟨B.length + 2, rfl, ?_⟩
    repeat' walk_at "e"
    refine ⟨B.length + 2 + nm.length, rfl, T, rfl, by omega, ?_⟩
    rw [pk_both, dropAt hB2 (by simp), show (nm ++ (V ++ R)).take nm.length = nm from by simp]
    repeat' walk_at "s"
    have hB3 : T = (B ++ [59, 32] ++ nm) ++ (V ++ R) := by rw [hB2]; simp
    have hB3l : (B ++ [59, 32] ++ nm).length = B.length + 2 + nm.length := by simp; omega
    -- the value
    refine ExS.join (m1 := [("text", .str (S T)), ("own", .str (S own)), ("found", .ref F), ("at", .int ((B ++ encP (nm, v)).length : Nat)), ("name", .str (S nm)), ("value", .str (S v))]) (mu1 := mi) (Ex1.if (Tst.det (b := decide (v ≠ [])) (Tst.cmp (EvE.sliceS ?_ (by with_unfolding_all (intro _ _; rfl))) (by with_unfolding_all rfl)) ?_)) ?_
    · repeat' walk_at "e"
      refine ⟨B.length + 2 + nm.length, rfl, ?_⟩
      repeat' walk_at "e"
      refine ⟨B.length + 2 + nm.length + 2, rfl, T, rfl, by omega, ?_⟩
      rw [pk_both, dropAt hB3 hB3l.symm, beq]
      repeat' walk_at "e"
      refine ⟨?_, rfl⟩
      by_cases hv : v = []
      · have hVe : V = [] := by rw [← hV, if_pos hv]
        rw [hVe, List.nil_append]
        simp only [hv, ne_eq, not_true, decide_false, decide_eq_false_iff_not]
        intro q
        have q := S_inj.mp q
        rcases hhd with w | ⟨r, w⟩
        · rw [w] at q; cases q
        · rw [w] at q; cases q
      · have hVe : V = [61, 34] ++ (escL v ++ [34]) := by rw [← hV, if_neg hv]
        rw [hVe]
        simp [hv]
    · refine ifd (fun hv => ?_) (fun hv => ?_)
      · have hVe : V = [61, 34] ++ (escL v ++ [34]) := by rw [← hV, if_neg hv]
        have hTT : T = (B ++ [59, 32] ++ nm ++ [61, 34]) ++ (escL v ++ (34 :: R)) := by rw [hB3, hVe]; simp
        have hal : (B ++ [59, 32] ++ nm ++ [61, 34]).length = B.length + 2 + nm.length + 2 := by simp; omega
        have hLT : T.length = B.length + 2 + nm.length + 2 + (escL v).length + 1 + R.length := by rw [hTT]; simp; omega
        repeat' walk_at "s"
        refine ExS.while (v.length + 1) (WhE.ind (fun j => [("text", .str (S T)), ("own", .str (S own)), ("found", .ref F), ("at", .int ((B.length + 2 + nm.length + 2 + (escL (v.take j)).length : Nat) : Int)), ("name", .str (S nm)), ("value", .str (S (v.take j)))]) (fun _ => mi) v.length rfl ⟨rfl, rfl, rfl, ?_, rfl, rfl, trivial⟩ (fun j hj => ?_) ?_ ?_)
        · simp [escL]; rfl
        · obtain ⟨ch, hch⟩ : ∃ ch, v[j]? = some ch := ⟨_, List.getElem?_eq_getElem hj⟩
          have q1 := esc_split hch
          have q2 := esc_take hch
          obtain ⟨D, hD⟩ : ∃ D, B ++ [59, 32] ++ nm ++ [61, 34] ++ escL (v.take j) = D := ⟨_, rfl⟩
          obtain ⟨C, hC⟩ : ∃ C, escL (v.drop (j + 1)) ++ 34 :: R = C := ⟨_, rfl⟩
          have hDl : B.length + 2 + nm.length + 2 + (escL (v.take j)).length = D.length := by rw [← hD]; simp; omega
          have hT3 : T = D ++ ((if ch = 34 ∨ ch = 92 then [92, ch] else [ch]) ++ C) := by
            rw [hTT, q1, ← hD, ← hC]; simp [List.append_assoc]
          have hpt : v.take (j + 1) = v.take j ++ [ch] := by rw [List.take_add_one, hch]; rfl
          rw [q2, hpt, List.length_append, ← Nat.add_assoc, hDl]
          have hDT : D.length < T.length := by rw [hT3]; split <;> simp <;> omega
          obtain ⟨c0, G, hc0, hcD, hc92, hDe⟩ : ∃ c0 G, (if ch = 34 ∨ ch = 92 then [92, ch] else [ch]) ++ C = c0 :: G ∧ c0 ≠ 34 ∧ (c0 = 92 ↔ (ch = 34 ∨ ch = 92)) ∧ ((ch = 34 ∨ ch = 92) → G = ch :: C) := by
            by_cases hs : ch = 34 ∨ ch = 92
            · exact ⟨92, ch :: C, by rw [if_pos hs]; rfl, by decide, by simp [hs], fun _ => rfl⟩
            · exact ⟨ch, C, by rw [if_neg hs]; rfl, fun q => hs (.inl q), ⟨fun q => .inr q, fun q => absurd q hs⟩, fun q => absurd q hs⟩
          have hgB : T[D.length]? = some c0 := getAt (by rw [hT3, hc0]) rfl
          repeat' walk_at "e"
          refine CallV.lenS (by rw [S_length]; omega) ?_
          repeat' walk_at "e"
          rw [S_length]
          refine ifd (fun _ => ?_) (fun q => by omega)
          repeat' walk_at "e"
          refine OpSub.strN (by omega) (by omega) (ch := c0) (by rw [Int.toNat_natCast, List.getElem?_toArray]; exact hgB) ?_ (by with_unfolding_all (intro _ _; exact ⟨_, rfl⟩))
          rw [bq]
          repeat' walk_at "e"
          refine ifd (fun _ => ?_) (fun q => absurd (fun e => hcD (by have := S_inj.mp (show S [c0] = S [34] from e); simpa using this)) q)
          repeat' walk_at "e"
          refine ⟨rfl, rfl, ?_⟩
          refine ExS.join (m1 := [("text", .str (S T)), ("own", .str (S own)), ("found", .ref F), ("at", .int ((D.length + (if ch = 34 ∨ ch = 92 then 1 else 0) : Nat) : Int)), ("name", .str (S nm)), ("value", .str (S (v.take j)))]) (mu1 := mi) (Ex1.if (Tst.det (b := decide (ch = 34 ∨ ch = 92)) ?_ ?_)) ?_
          · repeat' walk_at "e"
            refine OpSub.strN (by omega) (by omega) (ch := c0) (by rw [Int.toNat_natCast, List.getElem?_toArray]; exact hgB) ?_ (by with_unfolding_all (intro _ _; exact ⟨_, rfl⟩))
            repeat' walk_at "e"
            refine CallV.chr (by decide) ?_
            repeat' walk_at "e"
            refine ⟨?_, rfl⟩
            have : (Str.mk #[c0] = Str.mk #[Int.toNat 92]) ↔ (ch = 34 ∨ ch = 92) := by
              rw [← hc92]; simp
            simp only [this]
          · refine ifd (fun hs => ?_) (fun hs => ?_)
            · have hd4 : T.drop (D.length + 1) = ch :: C := dropAt (A := D ++ [c0]) (by rw [hT3, hc0, hDe hs]; simp) (by simp)
              rw [if_pos hs]
              repeat' walk_at "s"
              refine ExS.if (Tst.cmp (EvE.sliceS ?_ (by with_unfolding_all (intro _ _; rfl))) (by with_unfolding_all rfl))
              repeat' walk_at "e"
              refine ⟨D.length + 1, rfl, ?_⟩
              repeat' walk_at "e"
              refine ⟨D.length + 1 + 1, rfl, T, rfl, by omega, ?_⟩
              rw [pk_both, hd4]
              repeat' walk_at "e"
              refine CallV.chr (by decide) ?_
              repeat' walk_at "e"
              refine ⟨by decide, ?_⟩
              show OpC _ _ _ _ _ (.tuple ([S [34], S [92]].map .str)) _
              refine OpC.notInT ?_
              repeat' walk_at "e"
              refine ifb (fun q => ?_) (fun _ => ?_)
              · exfalso
                rcases hs with h | h <;> subst h <;> simp at q
              repeat' walk_at "e"
              exact ⟨rfl, rfl, rfl, rfl, rfl, rfl, rfl, rfl, trivial⟩
            · rw [if_neg hs]
              repeat' walk_at "e"
              exact ⟨rfl, rfl, rfl, rfl, rfl, rfl, rfl, rfl, trivial⟩
          · have hg5 : T[D.length + (if ch = 34 ∨ ch = 92 then 1 else 0)]? = some ch := by
              by_cases hs : ch = 34 ∨ ch = 92
              · rw [if_pos hs]; exact getAt (A := D ++ [c0]) (B := C) (by rw [hT3, hc0, hDe hs]; simp) (by simp)
              · rw [if_neg hs]; exact getAt (B := C) (by rw [hT3, if_neg hs]; rfl) rfl
            have hptl : (v.take j).length ≤ (escL v).length := by
              have := esc_ge v
              simp; omega
            repeat' walk_at "e"
            refine OpSub.strN (by omega) (by split <;> omega) (ch := ch) (by rw [Int.toNat_natCast, List.getElem?_toArray]; exact hg5) ?_ (by with_unfolding_all (intro _ _; exact ⟨_, rfl⟩))
            refine OpI.addS (y := S [ch]) (by rw [S_length, S_length, sl]; simp only [List.length_singleton]; omega) ?_
            rw [S_append]
            repeat' walk_at "e"
            refine ⟨.inl rfl, rfl, rfl, rfl, rfl, ?_, rfl, rfl, trivial⟩
            by_cases hs : ch = 34 ∨ ch = 92
            · rw [if_pos hs, if_pos hs]; rfl
            · rw [if_neg hs, if_neg hs]; rfl
        · rw [List.take_length]
          have hg3 : T[B.length + 2 + nm.length + 2 + (escL v).length]? = some 34 := getAt (A := B ++ [59, 32] ++ nm ++ [61, 34] ++ escL v) (B := R) (by rw [hTT]; simp) (by simp; omega)
          repeat' walk_at "e"
          refine CallV.lenS (by rw [S_length]; omega) ?_
          repeat' walk_at "e"
          rw [S_length]
          refine ifd (fun _ => ?_) (fun q => by omega)
          repeat' walk_at "e"
          refine OpSub.strN (by omega) (by omega) (ch := 34) (by rw [Int.toNat_natCast, List.getElem?_toArray]; exact hg3) ?_ (by with_unfolding_all (intro _ _; exact ⟨_, rfl⟩))
          rw [bq]
          repeat' walk_at "e"
          refine ifd (fun q => absurd rfl q) (fun _ => ⟨rfl, rfl⟩)
        · rw [List.take_length]
          refine ExS.nil (SeqP.next ?_)
          repeat' walk_at "e"
          refine ifd (fun q => ?_) (fun _ => ?_)
          · exact absurd (S_inj.mp (q.trans bem)) hv
          repeat' walk_at "e"
          refine ⟨rfl, rfl, rfl, rfl, rfl, ?_, rfl, rfl, trivial⟩
          have : ((B ++ encP (nm, v)).length : Nat) = B.length + 2 + nm.length + 2 + (escL v).length + 1 := by rw [hE, hVe]; simp; omega
          rw [this]; rfl
      · have hv' : v = [] := Classical.byContradiction hv
        have hVe : V = [] := by rw [← hV, if_pos hv']
        repeat' walk_at "e"
        refine ⟨rfl, rfl, rfl, rfl, rfl, ?_, rfl, ?_, trivial⟩
        · have : ((B ++ encP (nm, v)).length : Nat) = B.length + 2 + nm.length := by rw [hE, hVe]; simp; omega
          rw [this]; rfl
        · rw [hv']; rfl
    · repeat' walk_at "s"
      refine EvE.appendC ?_ (by with_unfolding_all (intro _; rfl)) (by with_unfolding_all (intro _; rfl)) (by with_unfolding_all rfl) (by with_unfolding_all rfl)
      repeat' walk_at "e"
      refine ⟨F, xs0, rfl, hF1, ?_⟩
      repeat' walk_at "e"
      refine ⟨by show 2 ≤ 2 ^ 24; decide, xs0, hF1, by omega, rfl, ?_⟩
      repeat' walk_at "e"
      exact ⟨.inl rfl, by rw [← hmi, upd_upd], rfl, rfl, rfl, rfl, trivial⟩
  · have : ps.take ps.length = ps := List.take_length
    rw [this, hT]
    repeat' walk_at "e"
    refine CallV.lenS (by rw [S_length]; omega) ?_
    repeat' walk_at "e"
    exact ⟨by rw [S_length]; simp, rfl⟩
  · have : ps.take ps.length = ps := List.take_length
    rw [this]
    refine ExS.nil (SeqP.next ?_)
    repeat' walk_at "e"
    exact ⟨by show 2 ≤ 2 ^ 24; decide, h F hF⟩

open PySem PySem.W PySem.Calls PyProof.Rows
set_option Elab.async false
set_option linter.unusedVariables false
set_option maxRecDepth 100000
set_option maxHeartbeats 4000000


theorem nm4_own (c : Nat) : ownK (nm4 c) = false := by
  unfold ownK nm4
  rw [S_self, S_nm, S_vl]
  simp [S_inj]
theorem ab04_sg : ∀ ch ∈ ab04, sgV ch ∧ ch ≠ 59 := by
  intro ch h
  simp only [ab04, List.mem_cons, List.not_mem_nil, or_false] at h
  rcases h with h | h | h | h | h | h <;> subst h <;> exact ⟨⟨by decide, by decide⟩, by decide⟩
theorem text04_ok (i : Int) : okT (text04 i) := by
  obtain ⟨k, hk, hk2⟩ := fmod_nat i 259 (by decide)
  rw [show ((259 : Nat) : Int) = 259 from rfl] at hk
  have hl : (text04 i).length ≤ 3 := by
    unfold text04
    rw [hk, Int.toNat_natCast]
    exact wordB_len ab04 (by decide) 3 _ _ (by exact hk2)
  have hm : ∀ ch ∈ text04 i, sgV ch ∧ ch ≠ 59 := fun ch hc => ab04_sg ch (wordB_mem (by decide) _ _ _ hc)
  exact ⟨hl, okV_of (fun ch hc => (hm ch hc).1) (by omega), fun h => (hm 59 h).2 rfl⟩
def oPV (o : Nat → List Nat) (i : Nat) : PV := .str (S (o i))
def iPV (a : Nat → Nat) (i : Nat) : PV := .int (a i : Nat)
theorem oPV_if (o : Nat → List Nat) (k : Nat) (x : List Nat) : (fun i => if i = k then PV.str (S x) else oPV o i) = oPV (fun i => if i = k then x else o i) := by
  funext i; unfold oPV; dsimp only; split <;> rfl
theorem iPV_if (o : Nat → Nat) (k : Nat) (x : Nat) : (fun i => if i = k then PV.int (x : Nat) else iPV o i) = iPV (fun i => if i = k then x else o i) := by
  funext i; unfold iPV; dsimp only; split <;> rfl
def mdF (k t : Nat) (M : Nat → List Nat) (j : Nat) : List Nat := if k - t ≤ j then M j else []
theorem rangeL_k {k : Nat} : rangeL ((k : Int) - 1) (-1) (-1) = (List.range k).map fun (t : Nat) => PV.int ((k : Int) - 1 - t) := by
  have := rangeL_down (a := (k : Int) - 1) (k := k)
  rw [show (k : Int) - 1 - (k : Nat) = -1 from by omega] at this
  exact this
def pK (a : Nat → Nat) (i : Nat) : PV → Bool
  | .int c => decide (a c.toNat = i)
  | _ => false
def gK (M : Nat → List Nat) : PV → Str × PV
  | .int c => (S (nm4 c.toNat), .str (S (M c.toNat)))
  | _ => (Str.empty, .none)
theorem kw_all (a : Nat → Nat) (M : Nat → List Nat) (k i : Nat) : [] ++ (((aft i k).map fun (c : Nat) => PV.int (c : Int)).filter (pK a i)).map (gK M) = kwPV (kwds a M k i) := by
  rw [List.nil_append, List.filter_map, List.map_map]
  unfold kwPV kwds pars kids
  rw [List.map_map, List.map_map]
  rfl
theorem kid_all (a : Nat → Nat) (k i : Nat) : [] ++ (((aft i k).map fun (c : Nat) => PV.int (c : Int)).filter (pK a i)).map (fun d => d) = (kids a k i).map fun (c : Nat) => PV.int (c : Int) := by
  rw [List.nil_append, List.filter_map, List.map_map]
  rfl
def fstG : PV → PV
  | .tuple (d :: _) => d
  | d => d
def numG : PV → PV
  | .int c => .str (S (nm4 c.toNat))
  | d => d
theorem nms_all (a : Nat → Nat) (M : Nat → List Nat) (k i : Nat) : [] ++ (((pars a M k i).map pairPV).filter fun _ => true).map fstG = ((kids a k i).map nm4).map fun v => PV.str (S v) := by
  rw [List.filter_eq_self.mpr (fun _ _ => rfl), List.nil_append]
  unfold pars
  rw [List.map_map, List.map_map, List.map_map]
  rfl
theorem num_all (a : Nat → Nat) (k i : Nat) : [] ++ (((kids a k i).map fun (c : Nat) => PV.int (c : Int)).filter fun _ => true).map numG = ((kids a k i).map nm4).map fun v => PV.str (S v) := by
  rw [List.filter_eq_self.mpr (fun _ _ => rfl), List.nil_append, List.map_map, List.map_map]
  rfl
def zipMu (OL AL RL : Addr) (o : Nat → List Nat) (a : Nat → Nat) (M : Nat → List Nat) (k i t : Nat) : Mu :=
  upd (upd (upd (fun _ => none) OL (.list (fl k (oPV o)))) AL (.list (fl k (iPV a)))) RL (.list (fl k (oPV (rdF a M i ((kids a k i).take t)))))
theorem zipMu_in {OL AL RL : Addr} {o : Nat → List Nat} {a : Nat → Nat} {M : Nat → List Nat} {k i t : Nat} {b : Addr} {ob : AO} (h : zipMu OL AL RL o a M k i t b = some ob) : b = OL ∨ b = AL ∨ b = RL := by
  unfold zipMu at h
  by_cases e3 : b = RL
  · exact .inr (.inr e3)
  rw [upd_ne _ _ e3] at h
  by_cases e2 : b = AL
  · exact .inr (.inl e2)
  rw [upd_ne _ _ e2] at h
  by_cases e1 : b = OL
  · exact .inl e1
  rw [upd_ne _ _ e1] at h
  cases h
theorem law04_fn {c : Cx} {n : Nat} (hK : K04 c) {l : Addr} {ns : List Int} (hl : BaseList c l (ns.map .int)) (hn : ns.length ≤ 100000) {A : Around} {s : Shared} (hA : AOk (n + 9) A) (S0 : St c (fun _ => none) s.heap) :
    wpAny c.M A (call (.ref 207) [.ref l]) (Post c (fun _ => none) s fun d _ => d = .bool true) NoE s := by
  have hf : FnOk c 207 _ _ := ⟨⟨_, hK 207 _ rfl, rfl⟩, rfl, rfl, rfl, rfl, ⟨_, _, _, _, rfl, hK 206 _ rfl, rfl, rfl⟩, rfl, rfl, rfl⟩
  refine law_fn hf (fun v => rfl) (by rfl) ?_ hA S0; clear hf
  dsimp only
  generalize (fun _ => none : Mu) = mu
  have sl : sizeLine = 16777216 := rfl
  have cr : Str.ofString "r" = S [114] := by decide +kernel
  have cn : Str.ofString "n" = S [110] := by decide +kernel
  have cN : Str.ofString "N" = S [78] := by decide +kernel
  have ce : Str.ofString "" = S [] := rfl
  repeat' walk_at "e"
  refine ⟨by simp [sl], fun OL hOL => ?_⟩
  refine AsgT.name (by with_unfolding_all rfl) ?_
  repeat' walk_at "e"
  refine ⟨by simp [sl], fun AL hAL => ?_⟩
  refine AsgT.name (by with_unfolding_all rfl) ?_
  repeat' walk_at "e"
  refine ⟨by simp [sl], fun DL hDL => ?_⟩
  refine AsgT.name (by with_unfolding_all rfl) ?_
  rw [cr]
  have nOA : OL ≠ AL := ne_sn (upd_same ..) hAL
  have nOD : OL ≠ DL := ne_sn (mu := upd (upd mu OL (.list [.str (S [114])])) AL (.list [.int 0])) (by rw [upd_ne _ _ nOA]; exact upd_same ..) (by rw [← cr]; exact hDL)
  have nAD : AL ≠ DL := ne_sn (upd_same ..) hDL
  have q1 : upd (upd (upd mu OL (.list [.str (S [114])])) AL (.list [.int 0])) DL (.list [.int 0]) OL = some (.list (fl 1 (oPV fun _ => [114]))) := by
    rw [upd_ne _ _ nOD, upd_ne _ _ nOA, upd_same]; rfl
  have q2 : upd (upd (upd mu OL (.list [.str (S [114])])) AL (.list [.int 0])) DL (.list [.int 0]) AL = some (.list (fl 1 (iPV fun _ => 0))) := by
    rw [upd_ne _ _ nAD, upd_same]; rfl
  have q3 : upd (upd (upd mu OL (.list [.str (S [114])])) AL (.list [.int 0])) DL (.list [.int 0]) DL = some (.list (fl 1 (iPV fun _ => 0))) := by
    rw [upd_same]; rfl
  generalize upd (upd (upd mu OL (.list [.str (S [114])])) AL (.list [.int 0])) DL (.list [.int 0]) = mu1 at q1 q2 q3
  have T0 : Tr 1 (fun _ => [114]) (fun _ => 0) (fun _ => 0) := ⟨fun c h1 h2 => by omega, fun c h1 h2 => by omega, rfl, rfl, fun _ _ => by omega, fun _ _ => ⟨by decide, by decide, by decide⟩, by omega⟩
  clear hOL hAL hDL
  refine ExS.for (okT := anyT) trivial ?_
  repeat' walk_at "e"
  refine ⟨10, rfl, l, _, rfl, .inr hl, .inl rfl, by simp; omega, fun D0 hD0 => ?_⟩
  rw [pk_to, ← List.map_take]
  have hn8 : (ns.take 10).length ≤ 10 := by simp; omega
  generalize ns.take 10 = ns at hn8
  refine ⟨_, _, _, IterOf.listTmp hD0, ?_⟩
  refine LoopE.inv (fun i m' mu' => ∃ o a d, SubL [("own", .ref OL), ("above", .ref AL), ("depth", .ref DL)] m' ∧ mu' OL = some (.list (fl (i + 1) (oPV o))) ∧ mu' AL = some (.list (fl (i + 1) (iPV a))) ∧ mu' DL = some (.list (fl (i + 1) (iPV d))) ∧ Tr (i + 1) o a d) (fun _ _ _ _ => trivial) ⟨_, _, _, ⟨rfl, rfl, rfl, trivial⟩, q1, q2, q3, T0⟩ ?_ ?_
  · clear q1 q2 q3 T0 hD0
    rintro i x m' mu' hx ⟨o, a, d, hs, q1, q2, q3, T⟩
    rw [List.getElem?_map] at hx
    obtain ⟨z, hz, rfl⟩ := Option.map_eq_some_iff.mp hx
    have hil : i < 10 := by have := (List.getElem?_eq_some_iff.mp hz).1; omega
    refine AsgT.weak hs ?_
    clear hs hx
    refine AsgT.name (by with_unfolding_all rfl) ?_
    repeat' walk_at "e"
    refine CallV.lenL q1 (by rw [fl_len]; omega) ?_
    rw [fl_len]
    refine OpB.modI (by omega) ?_
    obtain ⟨j, hj, hj2⟩ := fmod_nat z (i + 1) (by omega)
    rw [hj]
    repeat' walk_at "s"
    -- the knot above
    refine ExS.mid (fun m' mu2 => mu2 = mu' ∧ ∃ j, j < i + 1 ∧ d j ≠ 3 ∧ SubL [("own", .ref OL), ("above", .ref AL), ("depth", .ref DL), ("n", .int z), ("at", .int (j : Nat))] m') (Ex1.if ?_) ?_
    · repeat' walk_at "s"
      refine OpSub.listN (d := iPV d j) (.inl q3) (by omega) (by omega) (by rw [Int.toNat_natCast]; exact fl_get _ hj2) ?_ (by with_unfolding_all (intro _ _; exact ⟨_, rfl⟩))
      unfold iPV
      repeat' walk_at "s"
      refine ifd (fun q => ?_) (fun q => ?_)
      · repeat' walk_at "s"
        exact ⟨rfl, rfl, 0, by omega, by rw [T.d0]; decide, ⟨rfl, rfl, rfl, rfl, rfl, trivial⟩⟩
      · repeat' walk_at "s"
        exact ⟨rfl, rfl, j, hj2, by omega, ⟨rfl, rfl, rfl, rfl, rfl, trivial⟩⟩
    clear hj hj2 j
    rintro m2 mu2 ⟨rfl, j, hj, hdj, hs⟩
    refine ExS.weakL hs ?_
    clear hs
    refine ExS.expr ?_ (by with_unfolding_all (intro _; rfl))
    refine EvE.appendC (EvE.cell (by with_unfolding_all rfl) (by with_unfolding_all rfl) ⟨AL, _, rfl, q2, ?_⟩ (by with_unfolding_all decide)) (by with_unfolding_all (intro _; rfl)) (by with_unfolding_all (intro _; rfl)) (by with_unfolding_all rfl) (by with_unfolding_all rfl)
    repeat' walk_at "e"
    refine ⟨_, q2, by rw [fl_len]; omega, rfl, ?_⟩
    rw [fl_snoc, iPV_if]
    have r1 : upd mu2 AL (.list (fl (i + 1 + 1) (iPV fun t => if t = i + 1 then j else a t))) OL = _ := (upd_ne _ _ nOA).trans q1
    have r2 : upd mu2 AL (.list (fl (i + 1 + 1) (iPV fun t => if t = i + 1 then j else a t))) AL = _ := upd_same ..
    have r3 : upd mu2 AL (.list (fl (i + 1 + 1) (iPV fun t => if t = i + 1 then j else a t))) DL = _ := (upd_ne _ _ nAD.symm).trans q3
    generalize upd mu2 AL (.list (fl (i + 1 + 1) (iPV fun t => if t = i + 1 then j else a t))) = mu3 at r1 r2 r3
    refine ExS.expr ?_ (by with_unfolding_all (intro _; rfl))
    refine EvE.appendC (EvE.loc (by with_unfolding_all rfl) (by with_unfolding_all rfl) ⟨DL, _, rfl, r3, ?_⟩ (by with_unfolding_all decide)) (by with_unfolding_all (intro _; rfl)) (by with_unfolding_all (intro _; rfl)) (by with_unfolding_all rfl) (by with_unfolding_all rfl)
    repeat' walk_at "e"
    refine OpSub.listN (d := iPV d j) (.inl r3) (by omega) (by omega) (by rw [Int.toNat_natCast]; exact fl_get _ hj) ?_ (by with_unfolding_all (intro _ _; exact ⟨_, rfl⟩))
    rw [show iPV d j = PV.int (d j : Nat) from rfl]
    repeat' walk_at "e"
    refine ⟨_, r3, by rw [fl_len]; omega, rfl, ?_⟩
    rw [show ((d j : Nat) : Int) + 1 = ((d j + 1 : Nat) : Int) from by omega, fl_snoc, iPV_if]
    have s1 : upd mu3 DL (.list (fl (i + 1 + 1) (iPV fun t => if t = i + 1 then d j + 1 else d t))) OL = _ := (upd_ne _ _ nOD).trans r1
    have s2 : upd mu3 DL (.list (fl (i + 1 + 1) (iPV fun t => if t = i + 1 then d j + 1 else d t))) AL = _ := (upd_ne _ _ nAD).trans r2
    have s3 : upd mu3 DL (.list (fl (i + 1 + 1) (iPV fun t => if t = i + 1 then d j + 1 else d t))) DL = _ := upd_same ..
    generalize upd mu3 DL (.list (fl (i + 1 + 1) (iPV fun t => if t = i + 1 then d j + 1 else d t))) = mu4 at s1 s2 s3
    refine ExS.expr ?_ (by with_unfolding_all (intro _; rfl))
    refine EvE.appendC (EvE.loc (by with_unfolding_all rfl) (by with_unfolding_all rfl) ⟨OL, _, rfl, s1, ?_⟩ (by with_unfolding_all decide)) (by with_unfolding_all (intro _; rfl)) (by with_unfolding_all (intro _; rfl)) (by with_unfolding_all rfl) (by with_unfolding_all rfl)
    repeat' walk_at "e"
    refine text04_ct hK ?_
    refine ⟨_, s1, by rw [fl_len]; omega, rfl, ?_⟩
    rw [fl_snoc, oPV_if]
    refine ExS.nil ⟨_, _, _, ⟨rfl, rfl, rfl, trivial⟩, upd_same .., (upd_ne _ _ nOA.symm).trans s2, (upd_ne _ _ nOD.symm).trans s3, T.snoc hj hdj (text04_ok _)⟩
  clear q1 q2 q3 T0 hD0
  rintro m' mu' ⟨o, a, d, hs, q1, q2, q3, T⟩
  rw [List.length_map] at q1 q2 q3 T
  obtain ⟨k, hk, hk11⟩ : ∃ k, ns.length + 1 = k ∧ k ≤ 11 := ⟨_, rfl, by omega⟩
  rw [hk] at q1 q2 q3 T
  clear hk hn8
  have k0 := T.k0
  refine ExS.nil (SeqP.next (ExS.weakL hs ?_))
  clear hs
  repeat' walk_at "s"
  refine CallV.lenL q1 (by rw [fl_len]; omega) ?_
  rw [fl_len]
  repeat' walk_at "s"
  refine ⟨by simp [sl], fun L1 hL1 => ?_⟩
  repeat' walk_at "s"
  refine OpB.mulL hL1 (by omega) fun ML hML => ?_
  refine AsgT.name (by with_unfolding_all rfl) ?_
  have nOM := ne_sn q1 hML
  have nAM := ne_sn q2 hML
  have r1 : upd mu' ML (.list (List.replicate k (.str (Str.ofString "")))) OL = _ := (upd_ne _ _ nOM).trans q1
  have r2 : upd mu' ML (.list (List.replicate k (.str (Str.ofString "")))) AL = _ := (upd_ne _ _ nAM).trans q2
  have r3 : upd mu' ML (.list (List.replicate k (.str (Str.ofString "")))) ML = some (.list (fl k (oPV (mdF k 0 fun _ => [])))) := by
    rw [upd_same, fl_rep]
    exact congrArg some (congrArg AO.list (fl_congr fun i _ => by unfold oPV mdF; split <;> rfl))
  generalize upd mu' ML (.list (List.replicate k (.str (Str.ofString "")))) = mu2 at r1 r2 r3
  clear q1 q2 q3 hML hL1 nOD nAD
  have M0 : Mk k o a d (k - 0) (fun _ => []) := ⟨fun j h1 h2 => by omega, fun j h1 h2 => by omega, fun j h1 h2 => by omega⟩
  refine ExS.for (okT := anyT) trivial ?_
  repeat' walk_at "e"
  refine CallV.range3 (by decide) (by decide) fun r hr => ⟨_, _, _, IterOf.range hr (small_down (by omega) (by omega)), ?_⟩
  rw [rangeL_k]
  refine LoopE.inv (fun t m' mu' => ∃ M, SubL [("own", .ref OL), ("above", .ref AL), ("size", .int (k : Nat)), ("made", .ref ML)] m' ∧ mu' OL = some (.list (fl k (oPV o))) ∧ mu' AL = some (.list (fl k (iPV a))) ∧ mu' ML = some (.list (fl k (oPV (mdF k t M)))) ∧ Mk k o a d (k - t) M) (fun _ _ _ _ => trivial) ⟨_, ⟨rfl, rfl, rfl, rfl, trivial⟩, r1, r2, r3, M0⟩ ?_ ?_
  · clear r1 r2 r3 hr M0
    rintro t x m' mu' hx ⟨M, hs, q1, q2, q3, Hm⟩
    obtain ⟨ht, rfl⟩ := get_range hx
    obtain ⟨i, hi⟩ : ∃ i : Nat, k - t = i + 1 := ⟨k - 1 - t, by omega⟩
    have hi2 : k - (t + 1) = i := by omega
    have hik : i < k := by omega
    rw [show (k : Int) - 1 - (t : Int) = (i : Int) from by omega]
    unfold mdF at q3 ⊢
    rw [hi] at q3 Hm
    rw [hi2]
    have hbd := pars_bd T hk11 Hm (Nat.le_refl _) hik
    have hbd2 := sz4_top (k := 3 - d i) (by omega)
    refine AsgT.weak hs ?_
    clear hs hx
    refine AsgT.name (by with_unfolding_all rfl) ?_
    repeat' walk_at "s"
    refine make004_ct hK fun x lx mu3 hx hlx _ s1 H => ?_
    refine AsgT.name (by with_unfolding_all rfl) ?_
    have nMl : ML ≠ lx := ne_sn q3 hlx
    have nOl : OL ≠ lx := ne_sn q1 hlx
    have nAl : AL ≠ lx := ne_sn q2 hlx
    have r1 := s1 _ _ q1
    have r2 := s1 _ _ q2
    have r3 := s1 _ _ q3
    refine ExS.expr (EvE.methodKw ?_ (by with_unfolding_all (intro _; rfl)) (by with_unfolding_all rfl)) (by with_unfolding_all (intro _; rfl))
    obtain ⟨fd, body, hfn⟩ := fn04_add hK
    refine EvE.loc (by with_unfolding_all rfl) (by with_unfolding_all rfl) ⟨181, fd, body, BMeth.hd hK H (by with_unfolding_all rfl) (by with_unfolding_all rfl) (by with_unfolding_all rfl) (by with_unfolding_all rfl) (by with_unfolding_all rfl) (by with_unfolding_all rfl) (by decide) (by decide), hfn, ?_⟩ (by with_unfolding_all decide)
    repeat' walk_at "e"
    refine OpSub.listN (d := .str (S (o i))) (.inl r1) (by omega) (by omega) (by rw [Int.toNat_natCast]; exact fl_get _ hik) ?_ (by with_unfolding_all (intro _ _; exact ⟨_, rfl⟩))
    repeat' walk_at "e"
    rw [cN]
    refine EvE.dictcomp (okT := anyT) trivial (by with_unfolding_all rfl) ?_ (by with_unfolding_all (intro _ _; rfl))
    repeat' walk_at "e"
    refine CallV.range2 fun r hr => ⟨_, _, _, IterOf.range hr (small_up (by omega) (by omega)), ?_⟩
    rw [rangeL_aft hik]
    have hal := aft_len i k
    refine CompD.all (m0 := [("made", .ref ML), ("above", .ref AL), ("i", .int (i : Nat))]) (pK a i) (gK M) trivial _ _ _ (by simp [sl]; omega) ⟨rfl, rfl, rfl, trivial⟩ ?_ (fun y hy => ?_) ?_
    · rw [kw_all]; exact kw_nodup (kwds_nodup hk11)
    · obtain ⟨cc, hcm, rfl⟩ := List.mem_map.mp hy
      have hc := mem_aft.mp hcm
      repeat' walk_at "e"
      refine ⟨rfl, ⟨rfl, rfl, rfl, trivial⟩, IfsE.one ?_⟩
      repeat' walk_at "e"
      refine OpSub.listN (d := .int (a cc : Nat)) (.inl r2) (by omega) (by omega) (by rw [Int.toNat_natCast]; exact fl_get _ hc.2) ?_ (by with_unfolding_all (intro _ _; exact ⟨_, rfl⟩))
      repeat' walk_at "e"
      refine ⟨?_, rfl, fun _ => ?_⟩
      · show _ = decide (a (cc : Int).toNat = i)
        rw [Int.toNat_natCast, decide_eq_decide]; omega
      repeat' walk_at "e"
      refine CallV.strInt (by omega) ?_
      rw [cn]
      refine OpB.addS (by rw [S_length, S_length, sl]; have := (dig_chars cc (by omega)).2; simp; omega) ?_
      rw [S_append]
      refine ⟨rfl, rfl, ?_⟩
      repeat' walk_at "e"
      refine OpSub.listN (d := .str (S (M cc))) (.inl r3) (by omega) (by omega) (by rw [Int.toNat_natCast, fl_get _ hc.2]; unfold oPV; dsimp only; rw [if_pos (by omega)]) ?_ (by with_unfolding_all (intro _ _; exact ⟨_, rfl⟩))
      exact ⟨rfl, rfl⟩
    intro DD hDD hDS
    rw [kw_all]
    refine ⟨DD, kwPV (kwds a M k i), mu3, rfl, upd_same .., hDS, ?_, sub_upd hDD, ?_⟩
    · have := pars_len a M k i
      simp [kwPV, kwds, sl]; omega
    refine addK04_ct (n := n + 6) (own := some (o i)) hK H (by decide) (T.tx i hik).2.1 (kwds_ok hk11 Hm (Nat.le_refl _)) (kwds_nodup hk11) (fun p hp => by obtain ⟨e, _, _, rfl⟩ := kwds_mem hp; exact nm4_own e) (by rw [kwds_row hk11]; omega) (by have := pars_len a M k i; simp [kwds]; omega) (by simp) ⟨rfl, ?_⟩
    rw [kwds_row hk11]
    have Hp := Mk.put T hk11 Hm hik
    have hnew := Hp.ok i (Nat.le_refl _) hik
    rw [if_pos rfl] at hnew
    generalize hR : o i ++ encA (pars a M k i) = R at *
    have H2 := H.set (kvs' := [] ++ [([78], R)]) (by simp only [List.nil_append, List.all_cons, List.all_nil, okR, hnew]; decide) (by simp)
    replace r1 := (upd_ne mu3 (.list (([] ++ [([78], R)] : List Row).map pairPV)) nOl).trans r1
    replace r2 := (upd_ne mu3 (.list (([] ++ [([78], R)] : List Row).map pairPV)) nAl).trans r2
    replace r3 := (upd_ne mu3 (.list (([] ++ [([78], R)] : List Row).map pairPV)) nMl).trans r3
    generalize upd mu3 lx (.list (([] ++ [([78], R)] : List Row).map pairPV)) = mu4 at H2 r1 r2 r3
    refine ExS.asg ?_ (by with_unfolding_all (intro _ _; rfl)) (by with_unfolding_all (intro _; rfl)) (by with_unfolding_all (intro _; rfl))
    refine EvE.method (EvE.loc (by with_unfolding_all rfl) (by with_unfolding_all rfl) ⟨_, Meth.hd hK H2 (by with_unfolding_all rfl) (f := 131) (by with_unfolding_all rfl) (by with_unfolding_all rfl) (by decide), ?_⟩ (by with_unfolding_all decide))
    repeat' walk_at "e"
    refine get304_ct hK H2 (by decide) ?_
    rw [show getR ([] ++ [([78], R)]) [78] = some R from rfl]
    dsimp only
    refine AsgT.subList ?_
    repeat' walk_at "e"
    refine ⟨ML, _, i, rfl, rfl, r3, by rw [fl_len]; exact hik, by rw [fl_len]; omega, ?_⟩
    rw [fl_set, oPV_if]
    refine ExS.nil ⟨fun j => if j = i then R else M j, ⟨rfl, rfl, rfl, rfl, trivial⟩, (upd_ne _ _ nOM).trans r1, (upd_ne _ _ nAM).trans r2, ?_, Hp⟩
    rw [upd_same]
    refine congrArg some (congrArg AO.list (fl_congr fun j hj => ?_))
    unfold oPV
    dsimp only
    by_cases e : j = i
    · rw [if_pos e, if_pos (by omega), if_pos e]
    · rw [if_neg e, if_neg e]
      by_cases e2 : i + 1 ≤ j
      · rw [if_pos e2, if_pos (by omega)]
      · rw [if_neg e2, if_neg (by omega)]
  clear r1 r2 r3 hr M0
  rintro m' mu' ⟨M, hs, q1, q2, q3, Hm⟩
  rw [List.length_map, List.length_range] at q3 Hm
  rw [Nat.sub_self] at Hm
  have q4 : mu' ML = some (.list (fl k (oPV M))) := by
    rw [q3]
    exact congrArg some (congrArg AO.list (fl_congr fun i _ => by unfold oPV mdF; rw [if_pos (by omega)]))
  clear q3
  refine ExS.nil (SeqP.next (ExS.weakL hs ?_))
  clear hs
  repeat' walk_at "s"
  refine OpSub.listN (d := .str (S (M 0))) (.inl q4) (by omega) (by omega) (by exact fl_get _ k0) ?_ (by with_unfolding_all (intro _ _; exact ⟨_, rfl⟩))
  repeat' walk_at "s"
  refine ⟨by simp [sl], fun L1 hL1 => ?_⟩
  repeat' walk_at "s"
  refine ⟨by simp [sl], fun L2 hL2 => ?_⟩
  repeat' walk_at "s"
  rw [show (k : Int) - 1 = ((k - 1 : Nat) : Int) from by omega]
  refine OpB.mulL hL2 (by omega) fun L3 hL3 => ?_
  refine OpB.addTmp hL1 hL3 (by simp [sl]; omega) fun RL hRL => ?_
  refine AsgT.name (by with_unfolding_all rfl) ?_
  rw [fl_cons, show k - 1 + 1 = k from by omega]
  have nOR := ne_sn q1 hRL
  have nAR := ne_sn q2 hRL
  have r1 : upd mu' RL (.list (fl k fun i => if i = 0 then .str (S (M 0)) else .str (Str.ofString ""))) OL = _ := (upd_ne _ _ nOR).trans q1
  have r2 : upd mu' RL (.list (fl k fun i => if i = 0 then .str (S (M 0)) else .str (Str.ofString ""))) AL = _ := (upd_ne _ _ nAR).trans q2
  have r3 : upd mu' RL (.list (fl k fun i => if i = 0 then .str (S (M 0)) else .str (Str.ofString ""))) RL = some (.list (fl k (oPV (rdF a M 0 [])))) := by
    rw [upd_same]
    refine congrArg some (congrArg AO.list (fl_congr fun i _ => ?_))
    unfold oPV rdF
    by_cases e : i = 0
    · rw [if_pos e, if_pos (.inl e), e]
    · rw [if_neg e, if_neg (by simp [e])]; rfl
  generalize upd mu' RL (.list (fl k fun i => if i = 0 then .str (S (M 0)) else .str (Str.ofString ""))) = mu3 at r1 r2 r3
  clear q1 q2 q4 hL1 hL2 hL3 hRL
  refine ExS.for (okT := anyT) trivial ?_
  repeat' walk_at "e"
  refine CallV.range1 fun r hr => ⟨_, _, _, IterOf.range hr (small_up (by omega) (by omega)), ?_⟩
  rw [rangeL_up0]
  refine LoopE.inv (fun i m' mu' => SubL [("own", .ref OL), ("above", .ref AL), ("size", .int (k : Nat)), ("read", .ref RL)] m' ∧ mu' OL = some (.list (fl k (oPV o))) ∧ mu' AL = some (.list (fl k (iPV a))) ∧ mu' RL = some (.list (fl k (oPV (rdF a M i []))))) (fun _ _ _ _ => trivial) ⟨⟨rfl, rfl, rfl, rfl, trivial⟩, r1, r2, r3⟩ ?_ ?_
  · clear r1 r2 r3 hr
    rintro i x m' mu' hx ⟨hs, q1, q2, q3⟩
    obtain ⟨hik, rfl⟩ := get_range hx
    have hbd := Hm.ln i (by omega) hik
    have hbd2 := sz4_top (k := 3 - d i) (by omega)
    have heq := Hm.eq i (by omega) hik
    have hpl := pars_len a M k i
    refine AsgT.weak hs ?_
    clear hs hx
    refine AsgT.name (by with_unfolding_all rfl) ?_
    repeat' walk_at "s"
    refine OpSub.listN (d := .str (S (o i ++ encA (pars a M k i)))) (.inl q3) (by omega) (by omega) (by rw [Int.toNat_natCast, fl_get _ hik]; unfold oPV; rw [rdF_self T hik, heq]) ?_ (by with_unfolding_all (intro _ _; exact ⟨_, rfl⟩))
    repeat' walk_at "s"
    refine read04_ct hK (T.tx i hik).2.2 (fun p hp ch hc => ?_) (by rw [← heq]; omega) (by omega) fun F hF => ?_
    · obtain ⟨cc, hcc, rfl⟩ := List.mem_map.mp hp
      have := mem_kids.mp hcc
      exact nm4_ch (by omega) hc
    refine AsgT.tuple ?_ (by with_unfolding_all rfl) (by with_unfolding_all (intro _; exact ⟨rfl, rfl⟩))
    repeat' walk_at "s"
    have nOF := ne_sn q1 hF
    have nAF := ne_sn q2 hF
    have nRF := ne_sn q3 hF
    have r1 := sub_upd (o := .list ((pars a M k i).map pairPV)) hF _ _ q1
    have r2 := sub_upd (o := .list ((pars a M k i).map pairPV)) hF _ _ q2
    have r3 := sub_upd (o := .list ((pars a M k i).map pairPV)) hF _ _ q3
    have r4 : upd mu' F (.list ((pars a M k i).map pairPV)) F = _ := upd_same ..
    generalize upd mu' F (.list ((pars a M k i).map pairPV)) = mu4 at r1 r2 r3 r4
    clear q1 q2 q3 hF
    -- under
    refine ExS.seq (Ex1.assignComp (okT := anyT) trivial (by with_unfolding_all rfl) ?_ (swap_any (by with_unfolding_all rfl)) (by with_unfolding_all (intro _ _; rfl)) (by with_unfolding_all (intro _; rfl)))
    repeat' walk_at "e"
    refine CallV.range2 fun r hr => ⟨_, _, _, IterOf.range hr (small_up (by omega) (by omega)), ?_⟩
    rw [rangeL_aft hik]
    have hal := aft_len i k
    refine CompE.all (m0 := [("above", .ref AL), ("i", .int (i : Nat))]) (pK a i) (fun d => d) trivial _ _ _ (by simp [sl]; omega) ⟨rfl, rfl, trivial⟩ (fun y hy => ?_) ?_
    · obtain ⟨cc, hcm, rfl⟩ := List.mem_map.mp hy
      have hc := mem_aft.mp hcm
      repeat' walk_at "e"
      refine ⟨rfl, ⟨rfl, rfl, trivial⟩, IfsE.one ?_⟩
      repeat' walk_at "e"
      refine OpSub.listN (d := .int (a cc : Nat)) (.inl r2) (by omega) (by omega) (by rw [Int.toNat_natCast]; exact fl_get _ hc.2) ?_ (by with_unfolding_all (intro _ _; exact ⟨_, rfl⟩))
      repeat' walk_at "e"
      refine ⟨?_, rfl, fun _ => ?_⟩
      · show _ = decide (a (cc : Int).toNat = i)
        rw [Int.toNat_natCast, decide_eq_decide]; omega
      repeat' walk_at "e"
      exact ⟨rfl, rfl⟩
    intro U hU
    rw [kid_all]
    refine AsgT.name (by with_unfolding_all rfl) ⟨rfl, SeqP.next ?_⟩
    have nOU := ne_sn r1 hU
    have nAU := ne_sn r2 hU
    have nRU := ne_sn r3 hU
    have s1 := sub_upd (o := .list ((kids a k i).map fun (c : Nat) => PV.int (c : Int))) hU _ _ r1
    have s2 := sub_upd (o := .list ((kids a k i).map fun (c : Nat) => PV.int (c : Int))) hU _ _ r2
    have s3 := sub_upd (o := .list ((kids a k i).map fun (c : Nat) => PV.int (c : Int))) hU _ _ r3
    have s4 := sub_upd (o := .list ((kids a k i).map fun (c : Nat) => PV.int (c : Int))) hU _ _ r4
    have s5 : upd mu4 U (.list ((kids a k i).map fun (c : Nat) => PV.int (c : Int))) U = _ := upd_same ..
    generalize upd mu4 U (.list ((kids a k i).map fun (c : Nat) => PV.int (c : Int))) = mu5 at s1 s2 s3 s4 s5
    clear r1 r2 r3 r4 hU
    -- found is there, the own text
    refine ExS.if ?_
    repeat' walk_at "e"
    refine ifF ?_
    repeat' walk_at "e"
    refine OpSub.listN (d := .str (S (o i))) (.inl s1) (by omega) (by omega) (by rw [Int.toNat_natCast]; exact fl_get _ hik) ?_ (by with_unfolding_all (intro _ _; exact ⟨_, rfl⟩))
    repeat' walk_at "e"
    refine ifd (fun q => absurd rfl q) (fun _ => ?_)
    repeat' walk_at "s"
    refine ifF ?_
    refine ExS.nil (SeqP.next ?_)
    -- the names
    refine ExS.if (Tst.det (b := false) (Tst.drop (Tst.cmp ?_ (by with_unfolding_all rfl))) (ifF ?_))
    · refine EvE.listcomp (okT := anyT) trivial (by with_unfolding_all rfl) ?_ (by with_unfolding_all (intro _ _; rfl))
      repeat' walk_at "e"
      refine ⟨_, _, _, IterOf.list s4, ?_⟩
      refine CompE.all (m0 := []) (fun _ => true) fstG s4 _ _ _ (by simp [sl]; omega) trivial (fun y hy => ?_) ?_
      · obtain ⟨p, hp, rfl⟩ := List.mem_map.mp hy
        unfold pairPV
        repeat' walk_at "e"
        refine ⟨rfl, trivial, IfsE.nil ⟨rfl, rfl, fun _ => ?_⟩⟩
        repeat' walk_at "e"
        exact ⟨rfl, rfl⟩
      intro N1 hN1
      rw [nms_all]
      refine EvE.listcomp (okT := anyT) trivial (by with_unfolding_all rfl) ?_ (by with_unfolding_all (intro _ _; rfl))
      repeat' walk_at "e"
      have s5' := sub_upd (o := .list (((kids a k i).map nm4).map fun v => PV.str (S v))) hN1 _ _ s5
      refine ⟨_, _, _, IterOf.list s5', ?_⟩
      refine CompE.all (m0 := []) (fun _ => true) numG s5' _ _ _ (by have := kids_len a i k; simp [sl]; omega) trivial (fun y hy => ?_) ?_
      · obtain ⟨cc, hcm, rfl⟩ := List.mem_map.mp hy
        have hc := mem_kids.mp hcm
        repeat' walk_at "e"
        refine ⟨rfl, trivial, IfsE.nil ⟨rfl, rfl, fun _ => ?_⟩⟩
        repeat' walk_at "e"
        refine CallV.strInt (by omega) ?_
        rw [cn]
        refine OpB.addS (by rw [S_length, S_length, sl]; have := (dig_chars cc (by omega)).2; simp; omega) ?_
        rw [S_append]
        exact ⟨rfl, rfl⟩
      intro N2 hN2
      rw [num_all]
      have z1 := sub_upd (o := .list (((kids a k i).map nm4).map fun v => PV.str (S v))) hN2 _ _ (upd_same mu5 N1 (.list (((kids a k i).map nm4).map fun v => PV.str (S v))))
      refine OpC.neD (D := txtD ((kids a k i).map nm4)) (txtD_is (.inl z1)) (txtD_is (.inl (upd_same ..))) (txtD_lay fun v hv ch hc => ?_) (by omega) (by have := txtD_depth ((kids a k i).map nm4); omega) ?_
      · obtain ⟨cc, hcm, rfl⟩ := List.mem_map.mp hv
        have hc2 := mem_kids.mp hcm
        have := nm4_mem (c := cc) (by omega) hc
        omega
      repeat' walk_at "e"
      exact ⟨(sub_upd hN1).trans (sub_upd hN2), rfl, rfl⟩
    refine ExS.nil (SeqP.next ?_)
    -- all children
    have g1 : ∀ t, zipMu OL AL RL o a M k i t OL = some (.list (fl k (oPV o))) := fun t => by unfold zipMu; rw [upd_ne _ _ nOR, upd_ne _ _ nOA, upd_same]
    have g2 : ∀ t, zipMu OL AL RL o a M k i t AL = some (.list (fl k (iPV a))) := fun t => by unfold zipMu; rw [upd_ne _ _ nAR, upd_same]
    have g3 : ∀ t, zipMu OL AL RL o a M k i t RL = some (.list (fl k (oPV (rdF a M i ((kids a k i).take t))))) := fun t => by unfold zipMu; rw [upd_same]
    refine ExS.seq (Ex1.forZip (l1 := U) (l2 := F) (us := (kids a k i).map fun (c : Nat) => PV.int (c : Int)) (ds := (pars a M k i).map pairPV) (m0 := [("own", .ref OL), ("above", .ref AL), ("size", .int (k : Nat)), ("read", .ref RL)]) (fun t mu' => mu' = zipMu OL AL RL o a M k i t) tupT.mk (by with_unfolding_all rfl) (mg_none_of (by assumption) (Cx.g _) (by with_unfolding_all rfl)) (by with_unfolding_all decide) PyProof.Rows.boot_zip (by with_unfolding_all decide) ?_ (by with_unfolding_all rfl) ⟨rfl, rfl, rfl, rfl, trivial⟩ rfl s5 s4 ?_ ?_ ?_ ?_ ?_ (by with_unfolding_all (intro _ _; rfl)))
    · repeat' walk_at "e"
      exact ⟨rfl, rfl⟩
    · rw [List.all_map]; exact List.all_eq_true.mpr fun _ _ => rfl
    · refine ⟨zipMu OL AL RL o a M k i 0, fun b ob e => ?_, ?_, ?_, rfl⟩
      · rcases zipMu_in e with q | q | q
        · subst q; rw [g1] at e; rw [← e]; exact s1
        · subst q; rw [g2] at e; rw [← e]; exact s2
        · subst q; rw [g3] at e; rw [← e]; exact s3
      · unfold zipMu; rw [upd_ne _ _ nRU.symm, upd_ne _ _ nAU.symm, upd_ne _ _ nOU.symm]
      · unfold zipMu; rw [upd_ne _ _ nRF.symm, upd_ne _ _ nAF.symm, upd_ne _ _ nOF.symm]
    · rintro t mu6 rfl b ob e
      rcases zipMu_in e with q | q | q
      · subst q; rw [g1] at e; cases e; exact List.all_eq_true.mpr fun y hy => by obtain ⟨_, _, rfl⟩ := List.mem_map.mp hy; rfl
      · subst q; rw [g2] at e; cases e; exact List.all_eq_true.mpr fun y hy => by obtain ⟨_, _, rfl⟩ := List.mem_map.mp hy; rfl
      · subst q; rw [g3] at e; cases e; exact List.all_eq_true.mpr fun y hy => by obtain ⟨_, _, rfl⟩ := List.mem_map.mp hy; rfl
    · rintro t u e mu6 hu he rfl
      rw [List.getElem?_map] at hu
      obtain ⟨cc, hcc, rfl⟩ := Option.map_eq_some_iff.mp hu
      have hc2 := mem_kids.mp (List.mem_of_getElem? hcc)
      have he2 : e = .tuple [.str (S (nm4 cc)), .str (S (M cc))] := by
        unfold pars at he
        rw [List.map_map, List.getElem?_map, hcc] at he
        cases he; rfl
      subst he2
      refine AsgT.tuple ?_ (by with_unfolding_all rfl) (by with_unfolding_all (intro _; exact ⟨rfl, rfl⟩))
      repeat' walk_at "e"
      refine OpSub.tupN (d := .str (S (M cc))) (by decide) (by decide) rfl ?_ (by with_unfolding_all (intro _ _; exact ⟨_, rfl⟩))
      refine AsgT.subList ?_
      repeat' walk_at "e"
      refine ⟨RL, _, cc, rfl, rfl, g3 t, by rw [fl_len]; exact hc2.1.2, by rw [fl_len]; omega, ?_⟩
      repeat' walk_at "e"
      refine ⟨rfl, ?_, ⟨rfl, rfl, rfl, rfl, trivial⟩⟩
      rw [fl_set, oPV_if, rdF_set]
      unfold zipMu
      rw [upd_upd, List.take_add_one, hcc]
      rfl
    · rintro mu6 rfl
      refine SeqP.next (ExS.nil ⟨⟨rfl, rfl, rfl, rfl, trivial⟩, g1 _, g2 _, ?_⟩)
      rw [g3]
      refine congrArg some (congrArg AO.list (fl_congr fun j hj => ?_))
      unfold oPV
      rw [← rdF_next T j hj]
      have : min ((kids a k i).map fun (c : Nat) => PV.int (c : Int)).length ((pars a M k i).map pairPV).length = (kids a k i).length := by simp [pars]
      rw [this, List.take_length]
  clear r1 r2 r3 hr
  rintro m' mu' ⟨hs, q1, q2, q3⟩
  refine ExS.nil (SeqP.next ?_)
  repeat' walk_at "e"
  rfl

end Mine
open PySem PySem.W PySem.Calls PyProof.Rows
set_option Elab.async false
set_option linter.unusedVariables false
set_option maxRecDepth 100000
set_option maxHeartbeats 8000000
open Mine
theorem PySem.Challenge.cw_dn0262_04_holds : PySem.Challenge.rw_dn0262_04.Holds :=
  hd04 (by
  k_fill
  intro w s₀ s₁ mg mb G Y fa o pm cd doc dV kV ho hd hcd hD hmg hg args vals as hpre hlay hrd hwl hlo
  have KX := kIn_of Y
  refine Ground.open G ?_
  intro T B D TE TW
  try (refine guard_noD D (by decide +kernel) ?_; clear D)
  have hlw : mg (Str.ofString "law") = some (.ref fa) := hmg
  clear hd hcd hD ho hmg
  wrow_args hpre hlay hrd hwl hlo
  rename_i ns _ _ _ _ _ _ _ l vs _ hL _ _ _ hI _ hc1 _
  have hfa := mg_of KX T.g (n := Str.ofString "law") (v := .ref 207) (by with_unfolding_all rfl)
  rw [hlw] at hfa
  cases hfa
  let c : Cx := { prog := PySem.Challenge.rw_dn0262_04.row.prog, w := w, base := s₁.heap, mg := mg, mb := mb, nolim := T.nolimit, g := T.g, b := T.b, bi := T.builtins }
  refine law_close (c := c) rfl hg (fun _ => rfl) ?_ ?_
  · first | (with_unfolding_all rfl) | kernel_rfl
  exact law04_fn (c := c) (n := 20) KX (l := l) (ns := ns) ⟨vs, hL, ints_rep hI⟩ (by omega) ⟨rfl, by decide, by decide⟩ (St.empty fun _ _ e => e))

