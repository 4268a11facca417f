import PyProof.Rows.All
import Wide.All
import OpenK.AllK
import Wide.FinOn
import KE.KParD
import KE.KPairComp
import PyProof.DictCompW
import KE.KBoundM
import PyProof.ZipIter
import PyProof.Rows.ListMul
import PyProof.Rows.StrFirst
import KE.KNestM
import KE.KSortTup
import KE.KLam
import PyProof.ListRange
import PyProof.Rows.SortLt
import Lean
import PySem.Challenge.RW_dn0262_07
open PySem PySem.W PySem.Calls PyProof.Rows
set_option Elab.async false
set_option linter.unusedVariables false
namespace Mine

/-! # values, objects -/
inductive PV where
  | none
  | bool (b : Bool)
  | int (i : Int)
  | str (x : Str)
  | bytes (b : Array UInt8)
  | tuple (ds : List PV)
  | ref (a : Addr)
  | ty (n : String)
  | bi (id : String)

abbrev tupO (vs : List Value) (n : Nat) : Obj := { cls := .type "tuple", data := .seq vs.toArray n }

mutual
inductive Rep (h : Heap) : PV → Value → Prop
  | none : Rep h .none .none
  | bool (b : Bool) : Rep h (.bool b) (.bool b)
  | int (i : Int) (t : Tok) : Rep h (.int i) (.int i t)
  | str (x : Str) (t : Tok) : Rep h (.str x) (.str x t)
  | bytes (b : Array UInt8) (t : Tok) : Rep h (.bytes b) (.bytes b t)
  | tuple {a : Addr} {vs : List Value} {n : Nat} {ds : List PV} : h.get? a = some (tupO vs n) → Reps h ds vs → Rep h (.tuple ds) (.ref a)
  | ref (a : Addr) : Rep h (.ref a) (.ref a)
  | ty (n : String) : Rep h (.ty n) (.type n)
  | bi (id : String) : Rep h (.bi id) (.builtin id)
inductive Reps (h : Heap) : List PV → List Value → Prop
  | nil : Reps h [] []
  | cons {d : PV} {v : Value} {ds : List PV} {vs : List Value} : Rep h d v → Reps h ds vs → Reps h (d :: ds) (v :: vs)
end

/-- what is a tuple stays -/
def IsT (o : Obj) : Prop := o.cls = .type "tuple" ∧ ∃ xs n, o.data = .seq xs n
def TK (h h' : Heap) : Prop := ∀ a o, h.get? a = some o → IsT o → h'.get? a = some o

mutual
theorem Rep.mono {h h' : Heap} (k : TK h h') : ∀ {d : PV} {v : Value}, Rep h d v → Rep h' d v
  | _, _, .none => .none
  | _, _, .bool b => .bool b
  | _, _, .int i t => .int i t
  | _, _, .str x t => .str x t
  | _, _, .bytes b t => .bytes b t
  | _, _, .tuple e r => .tuple (k _ _ e ⟨rfl, _, _, rfl⟩) (Reps.mono k r)
  | _, _, .ref a => .ref a
  | _, _, .ty n => .ty n
  | _, _, .bi n => .bi n
theorem Reps.mono {h h' : Heap} (k : TK h h') : ∀ {ds : List PV} {vs : List Value}, Reps h ds vs → Reps h' ds vs
  | _, _, .nil => .nil
  | _, _, .cons a r => .cons (Rep.mono k a) (Reps.mono k r)
end

theorem Reps.length {h : Heap} {ds : List PV} {vs : List Value} (r : Reps h ds vs) : vs.length = ds.length := by
  induction vs generalizing ds with
  | nil => cases r; rfl
  | cons v vs ih => cases r with | cons _ r => simp [ih r]
theorem Reps.append {h : Heap} {ds es : List PV} {vs ws : List Value} (r : Reps h ds vs) (q : Reps h es ws) : Reps h (ds ++ es) (vs ++ ws) := by
  induction vs generalizing ds with
  | nil => cases r; exact q
  | cons v vs ih => cases r with | cons a r => exact .cons a (ih r)
theorem Reps.get {h : Heap} {ds : List PV} {vs : List Value} (r : Reps h ds vs) {k : Nat} {d : PV} (hk : ds[k]? = some d) : ∃ v, vs[k]? = some v ∧ Rep h d v := by
  induction vs generalizing ds k with
  | nil => cases r; simp at hk
  | cons v vs ih =>
    cases r with
    | cons a r =>
      cases k with
      | zero => simp at hk; subst hk; exact ⟨v, rfl, a⟩
      | succ k => exact ih r (by simpa using hk)
theorem Reps.take {h : Heap} {ds : List PV} {vs : List Value} (r : Reps h ds vs) (k : Nat) : Reps h (ds.take k) (vs.take k) := by
  induction vs generalizing ds k with
  | nil => cases r; simp; exact .nil
  | cons u vs ih =>
    cases r with
    | cons a r =>
      cases k with
      | zero => exact .nil
      | succ k => exact .cons a (ih r k)
theorem Reps.drop {h : Heap} {ds : List PV} {vs : List Value} (r : Reps h ds vs) (k : Nat) : Reps h (ds.drop k) (vs.drop k) := by
  induction vs generalizing ds k with
  | nil => cases r; simp; exact .nil
  | cons u vs ih =>
    cases r with
    | cons a r =>
      cases k with
      | zero => exact .cons a r
      | succ k => exact ih r k
inductive AO where
  | list (xs : List PV)
  | inst (C dx : Addr)
  | dict (kvs : List (Str × PV))
  | obj (o : Obj)
  | rng (a b st : Int)

abbrev Mu := Addr → Option AO
abbrev Lm := List (Str × PV)

structure Cx where
  prog : Program
  w : World
  base : Heap
  mg : Str → Option Value
  mb : Str → Option Value
  nolim : base.NoLimit
  g : base.Ns mainGlobals mg
  b : base.Ns builtinsNs mb
  bi : ∀ x, x ≠ ("__name__" : Str) → mb x = bootBuiltins x

abbrev Cx.M (c : Cx) : Model := model c.prog c.w

inductive RepD (h : Heap) : List (Str × PV) → List (Str × Value) → Prop
  | nil : RepD h [] []
  | cons {k : Str} {d : PV} {v : Value} {ds : List (Str × PV)} {vs : List (Str × Value)} : Rep h d v → RepD h ds vs → RepD h ((k, d) :: ds) ((k, v) :: vs)
theorem RepD.mono {h h' : Heap} (k : TK h h') {ds : List (Str × PV)} {vs : List (Str × Value)} (r : RepD h ds vs) : RepD h' ds vs := by
  induction r with
  | nil => exact .nil
  | cons a _ ih => exact .cons (a.mono k) ih

def RepO (c : Cx) (h : Heap) (a : Addr) : AO → Prop
  | .list xs => ∃ vs n, h.get? a = some (listOf vs.toArray n) ∧ Reps h xs vs
  | .inst C dx => h.get? a = some (instObj C dx)
  | .dict kvs => ∃ vs es n, h.get? a = some (dictOf es n) ∧ h.DictOf (PySem.strKind c.prog c.w) a vs ∧ RepD h kvs vs
  | .obj o => h.get? a = some o ∧ ¬ IsT o
  | .rng a' b' st => ∃ t u v, h.get? a = some { cls := .type "range", data := .fields #[.int a' t, .int b' u, .int st v] }

/-- no object of the ledger is a tuple -/
theorem RepO.noTup {c : Cx} {h : Heap} {a : Addr} {x : AO} (r : RepO c h a x) : ∃ o, h.get? a = some o ∧ ¬ IsT o := by
  cases x with
  | list xs => obtain ⟨vs, n, e, _⟩ := r; exact ⟨_, e, by simp [IsT]⟩
  | inst C dx => exact ⟨_, r, by simp [IsT]⟩
  | dict kvs => obtain ⟨vs, es, n, e, _⟩ := r; exact ⟨_, e, by simp [IsT]⟩
  | obj o => exact ⟨o, r.1, r.2⟩
  | rng _ _ _ => obtain ⟨t, u, v, e⟩ := r; exact ⟨_, e, by simp [IsT]⟩

theorem dictOf_at {K : Type} [DecidableEq K] {prog : Program} {w : World} {knd : KeyKind prog w K} {h h' : Heap} {a : Addr} {kvs : List (K × Value)} (x : h.DictOf knd a kvs) (hk : ∀ o, h.get? a = some o → h'.get? a = some o) : h'.DictOf knd a kvs :=
  let ⟨o, es, ep, e, r⟩ := x; ⟨o, es, ep, hk _ e, r⟩

theorem RepO.mono {c : Cx} {h h' : Heap} {a : Addr} {x : AO} (r : RepO c h a x) (ha : ∀ o, h.get? a = some o → h'.get? a = some o) (k : TK h h') : RepO c h' a x := by
  cases x with
  | list xs => obtain ⟨vs, n, e, q⟩ := r; exact ⟨vs, n, ha _ e, q.mono k⟩
  | inst C dx => exact ha _ r
  | dict kvs => obtain ⟨vs, es, n, e, d, q⟩ := r; exact ⟨vs, es, n, ha _ e, dictOf_at d ha, q.mono k⟩
  | obj o => exact ⟨ha _ r.1, r.2⟩
  | rng _ _ _ => obtain ⟨t, u, v, e⟩ := r; exact ⟨t, u, v, ha _ e⟩

structure St (c : Cx) (mu : Mu) (h : Heap) : Prop where
  base : ∀ b o, c.base.get? b = some o → h.get? b = some o
  objs : ∀ a o, mu a = some o → RepO c h a o
  new : ∀ a, mu a ≠ none → c.base.get? a = none

theorem St.lt {c : Cx} {mu : Mu} {h : Heap} (S : St c mu h) {a : Addr} (ha : mu a ≠ none) : a < h.objs.size := by
  obtain ⟨o, e⟩ := Option.ne_none_iff_exists'.mp ha
  obtain ⟨o', e', _⟩ := (S.objs a o e).noTup
  exact Heap.lt_size e'
theorem St.off {c : Cx} {mu : Mu} {h : Heap} (S : St c mu h) {a : Addr} (ha : h.objs.size ≤ a) : mu a = none := by
  cases e : mu a with
  | none => rfl
  | some o => exact absurd (S.lt (by rw [e]; simp)) (Nat.not_lt.mpr ha)
theorem St.baseNone {c : Cx} {mu : Mu} {h : Heap} (S : St c mu h) {a : Addr} (ha : h.objs.size ≤ a) : c.base.get? a = none := by
  cases e : c.base.get? a with
  | none => rfl
  | some o => exact absurd (Heap.lt_size (S.base a o e)) (Nat.not_lt.mpr ha)
/-- a tuple's address is not of the ledger -/
theorem St.tupOff {c : Cx} {mu : Mu} {h : Heap} (S : St c mu h) {a : Addr} {o : Obj} (e : h.get? a = some o) (ht : IsT o) : mu a = none := by
  cases q : mu a with
  | none => rfl
  | some x =>
    obtain ⟨o', e', hn⟩ := (S.objs a x q).noTup
    rw [e] at e'; cases e'; exact absurd ht hn

def noT : Addr → Prop := fun _ => False

structure Step (c : Cx) (T : Addr → Prop) (mu : Mu) (s : Shared) (mu' : Mu) (s' : Shared) : Prop where
  shape : ∃ h tk, s' = { s with heap := h, toks := tk }
  st : St c mu' s'.heap
  keep : ∀ b o, s.heap.get? b = some o → mu b = none → ¬ T b → s'.heap.get? b = some o
  alive : ∀ b o, s.heap.get? b = some o → mu b = none → ∃ o', s'.heap.get? b = some o'
  dom : ∀ b, mu' b ≠ none → mu b ≠ none ∨ s.heap.get? b = none

theorem get_none {h : Heap} {a : Addr} (ha : h.objs.size ≤ a) : h.get? a = none := by
  cases e : h.get? a with
  | none => rfl
  | some o => exact absurd (Heap.lt_size e) (Nat.not_lt.mpr ha)

theorem Step.trans {c : Cx} {T : Addr → Prop} {mu mu1 mu2 : Mu} {s s1 s2 : Shared} (x : Step c T mu s mu1 s1) (y : Step c T mu1 s1 mu2 s2) : Step c T mu s mu2 s2 where
  shape := by obtain ⟨h, tk, rfl⟩ := x.shape; obtain ⟨h2, tk2, rfl⟩ := y.shape; exact ⟨h2, tk2, rfl⟩
  st := y.st
  keep := fun b o e hm hT => y.keep b o (x.keep b o e hm hT) (by
    cases q : mu1 b with
    | none => rfl
    | some z =>
      rcases x.dom b (by rw [q]; simp) with h | h
      · exact absurd hm h
      · rw [e] at h; cases h) hT
  alive := fun b o e hm => by
    obtain ⟨o1, e1⟩ := x.alive b o e hm
    refine y.alive b o1 e1 ?_
    cases q : mu1 b with
    | none => rfl
    | some z =>
      rcases x.dom b (by rw [q]; simp) with h | h
      · exact absurd hm h
      · rw [e] at h; cases h
  dom := fun b hb => by
    rcases y.dom b hb with h | h
    · exact x.dom b h
    · cases e : s.heap.get? b with
      | none => exact .inr rfl
      | some o =>
        cases q : mu b with
        | some z => exact .inl (by simp)
        | none => obtain ⟨o1, e1⟩ := x.alive b o e q; rw [h] at e1; cases e1
theorem Step.weaken {c : Cx} {T T' : Addr → Prop} {mu mu1 : Mu} {s s1 : Shared} (x : Step c T mu s mu1 s1) (h : ∀ b, T b → T' b) : Step c T' mu s mu1 s1 :=
  ⟨x.shape, x.st, fun b o e hm hT => x.keep b o e hm (fun q => hT (h b q)), x.alive, x.dom⟩
theorem Step.refl {c : Cx} {T : Addr → Prop} {mu : Mu} {s : Shared} (S : St c mu s.heap) : Step c T mu s mu s :=
  ⟨⟨s.heap, s.toks, rfl⟩, S, fun _ _ e _ _ => e, fun _ o e _ => ⟨o, e⟩, fun _ h => .inl h⟩
theorem Step.tok {c : Cx} {T : Addr → Prop} {mu : Mu} {s : Shared} {k : Nat} (S : St c mu s.heap) : Step c T mu s mu { s with toks := k } :=
  ⟨⟨s.heap, k, rfl⟩, S, fun _ _ e _ _ => e, fun _ o e _ => ⟨o, e⟩, fun _ h => .inl h⟩
/-- tuples stay -/
theorem Step.tk {c : Cx} {T : Addr → Prop} {mu mu1 : Mu} {s s1 : Shared} (S : St c mu s.heap) (x : Step c T mu s mu1 s1) (hT : ∀ b o, T b → s.heap.get? b = some o → ¬ IsT o) : TK s.heap s1.heap :=
  fun a o e ht => x.keep a o e (S.tupOff e ht) fun q => hT a o q e ht
theorem Step.tk0 {c : Cx} {mu mu1 : Mu} {s s1 : Shared} (S : St c mu s.heap) (x : Step c noT mu s mu1 s1) : TK s.heap s1.heap :=
  x.tk S fun _ _ h => h.elim
def upd (mu : Mu) (a : Addr) (o : AO) : Mu := fun b => if b = a then some o else mu b
@[simp] theorem upd_same (mu : Mu) (a : Addr) (o : AO) : upd mu a o a = some o := by simp [upd]
theorem upd_ne (mu : Mu) {a b : Addr} (o : AO) (h : b ≠ a) : upd mu a o b = mu b := by simp [upd, h]
@[simp] theorem upd_upd (mu : Mu) (a : Addr) (o o' : AO) : upd (upd mu a o) a o' = upd mu a o' := by
  funext b; unfold upd; split <;> rfl
theorem upd_comm (mu : Mu) {a b : Addr} (o o' : AO) (h : a ≠ b) : upd (upd mu a o) b o' = upd (upd mu b o') a o := by
  funext x; unfold upd
  by_cases h1 : x = b
  · subst h1; simp [Ne.symm h]
  · simp [h1]

/-- a new object -/
theorem Step.push {c : Cx} {T : Addr → Prop} {mu : Mu} {s : Shared} {o : Obj} {x : AO} (S : St c mu s.heap) (r : RepO c (s.heap.push o) s.heap.objs.size x) :
    Step c T mu s (upd mu s.heap.objs.size x) { s with heap := s.heap.push o } where
  shape := ⟨_, _, rfl⟩
  st := {
    base := fun b o' e => Heap.get?_push_of_some _ (S.base b o' e)
    objs := fun a y e => by
      by_cases h : a = s.heap.objs.size
      · subst h; simp at e; subst e; exact r
      · rw [upd_ne mu x h] at e
        exact (S.objs a y e).mono (fun o' q => Heap.get?_push_of_some _ q) fun b o' q _ => Heap.get?_push_of_some _ q
    new := fun a ha => by
      by_cases h : a = s.heap.objs.size
      · subst h; exact S.baseNone (Nat.le_refl _)
      · rw [upd_ne mu x h] at ha; exact S.new a ha }
  keep := fun b o' e _ _ => Heap.get?_push_of_some _ e
  alive := fun b o' e _ => ⟨o', Heap.get?_push_of_some _ e⟩
  dom := fun b hb => by
    by_cases h : b = s.heap.objs.size
    · subst h; exact .inr (get_none (Nat.le_refl _))
    · rw [upd_ne mu x h] at hb; exact .inl hb
/-- a new object that the ledger does not note (a tuple, an iterator) -/
theorem Step.pushOff {c : Cx} {T : Addr → Prop} {mu : Mu} {s : Shared} {o : Obj} (S : St c mu s.heap) :
    Step c T mu s mu { s with heap := s.heap.push o } where
  shape := ⟨_, _, rfl⟩
  st := ⟨fun b o' e => Heap.get?_push_of_some _ (S.base b o' e), fun a y e => (S.objs a y e).mono (fun o' q => Heap.get?_push_of_some _ q) fun b o' q _ => Heap.get?_push_of_some _ q, S.new⟩
  keep := fun b o' e _ _ => Heap.get?_push_of_some _ e
  alive := fun b o' e _ => ⟨o', Heap.get?_push_of_some _ e⟩
  dom := fun _ h => .inl h
/-- an object of the ledger changed -/
theorem Step.set {c : Cx} {T : Addr → Prop} {mu : Mu} {s : Shared} {a : Addr} {x : AO} {h' : Heap} {k : Nat} (S : St c mu s.heap) (ha : mu a ≠ none) (hs : Heap.SameBut a s.heap h') (r : RepO c h' a x) :
    Step c T mu s (upd mu a x) { s with heap := h', toks := k } := by
  have hk : TK s.heap h' := fun b o e ht => (hs.2 b (fun q => ha (q ▸ S.tupOff e ht))).trans e
  exact {
    shape := ⟨_, _, rfl⟩
    st := {
      base := fun b o e => (hs.2 b (fun q => by have := S.new a ha; rw [← q, e] at this; cases this)).trans (S.base b o e)
      objs := fun b y e => by
        by_cases h : b = a
        · subst h; simp at e; subst e; exact r
        · rw [upd_ne mu x h] at e
          exact (S.objs b y e).mono (fun o q => (hs.2 b h).trans q) hk
      new := fun b hb => by
        by_cases h : b = a
        · subst h; exact S.new b ha
        · rw [upd_ne mu x h] at hb; exact S.new b hb }
    keep := fun b o e hm _ => (hs.2 b (fun q => ha (q ▸ hm))).trans e
    alive := fun b o e _ => by
      by_cases h : b = a
      · subst h; obtain ⟨o', e', _⟩ := r.noTup; exact ⟨o', e'⟩
      · exact ⟨o, (hs.2 b h).trans e⟩
    dom := fun b hb => by
      by_cases h : b = a
      · subst h; exact .inl ha
      · rw [upd_ne mu x h] at hb; exact .inl hb }
/-- an object that is not of the ledger (an iterator, a frame) changed -/
theorem Step.turn {c : Cx} {T : Addr → Prop} {mu : Mu} {s : Shared} {a : Addr} {h' : Heap} {k : Nat} (S : St c mu s.heap) (ha : mu a = none) (hb : c.base.get? a = none) (ht : ∀ o, s.heap.get? a = some o → ¬ IsT o) (hs : Heap.SameBut a s.heap h') (hT : T a) (hal : ∃ o, h'.get? a = some o) :
    Step c T mu s mu { s with heap := h', toks := k } := by
  have hk : TK s.heap h' := fun b o e hto => (hs.2 b (fun q => by subst q; exact ht o e hto)).trans e
  exact {
    shape := ⟨_, _, rfl⟩
    st := {
      base := fun b o e => (hs.2 b (fun q => by rw [q, hb] at e; cases e)).trans (S.base b o e)
      objs := fun b y e => by
        have h : b ≠ a := fun q => by rw [q, ha] at e; cases e
        exact (S.objs b y e).mono (fun o q => (hs.2 b h).trans q) hk
      new := S.new }
    keep := fun b o e hm hn => (hs.2 b (fun q => hn (q ▸ hT))).trans e
    alive := fun b o e _ => by
      by_cases h : b = a
      · subst h; exact hal
      · exact ⟨o, (hs.2 b h).trans e⟩
    dom := fun _ h => .inl h }
/-- new objects that the ledger does not note -/
theorem Step.ext {c : Cx} {T : Addr → Prop} {mu : Mu} {s : Shared} {h' : Heap} {k : Nat} (S : St c mu s.heap) (hk : ∀ b o, s.heap.get? b = some o → h'.get? b = some o) :
    Step c T mu s mu { s with heap := h', toks := k } :=
  ⟨⟨_, _, rfl⟩, ⟨fun b o e => hk b o (S.base b o e), fun a o e => (S.objs a o e).mono (fun o' q => hk _ _ q) fun b o' q _ => hk _ _ q, S.new⟩, fun b o e _ _ => hk b o e, fun b o e _ => ⟨o, hk b o e⟩, fun _ h => .inl h⟩
/-- forget objects of the ledger -/
def Sub (mu' mu : Mu) : Prop := ∀ a o, mu' a = some o → mu a = some o
theorem Step.forget {c : Cx} {T : Addr → Prop} {mu mu1 mu2 : Mu} {s s1 : Shared} (x : Step c T mu s mu1 s1) (h : Sub mu2 mu1) : Step c T mu s mu2 s1 :=
  have hn : ∀ b, mu2 b ≠ none → mu1 b ≠ none := fun b hb => by
    obtain ⟨o, e⟩ := Option.ne_none_iff_exists'.mp hb
    rw [h b o e]; simp
  ⟨x.shape, ⟨x.st.base, fun a o e => x.st.objs a o (h a o e), fun a ha => x.st.new a (hn a ha)⟩, x.keep, x.alive, fun b hb => x.dom b (hn b hb)⟩

/-! # the frame -/
structure Fm (c : Cx) (mu : Mu) (h : Heap) (env : Env) (m : Lm) : Prop where
  fn : env.scope.kind = .function
  gl : env.globals = mainGlobals
  bu : env.builtins = builtinsNs
  loc : ∃ mc, h.Ns env.locals mc ∧ ∀ x pv, m.lookup x = some pv → env.kindOf x = some .local → ∃ v, mc x = some v ∧ Rep h pv v
  cel : ∀ x pv, m.lookup x = some pv → env.kindOf x = some .cell ∨ env.kindOf x = some .free → ∃ ca v, env.cells.lookup x = some ca ∧ h.IsCell ca (some v) ∧ Rep h pv v
  has : ∀ x, env.kindOf x = some .cell → ∃ ca, env.cells.lookup x = some ca
  cells : ∀ x ca, env.cells.lookup x = some ca → ∃ v, h.IsCell ca v
  offL : mu env.locals = none
  offC : ∀ x ca, env.cells.lookup x = some ca → mu ca = none ∧ ca ≠ env.locals ∧ c.base.get? ca = none
  apart : ∀ x y ca, env.cells.lookup x = some ca → env.cells.lookup y = some ca → x = y
  notB : c.base.get? env.locals = none

theorem keepNone {c : Cx} {T : Addr → Prop} {mu mu1 : Mu} {s s1 : Shared} (x : Step c T mu s mu1 s1) {a : Addr} {o : Obj} (e : s.heap.get? a = some o) (h : mu a = none) : mu1 a = none := by
  cases q : mu1 a with
  | none => rfl
  | some z =>
    rcases x.dom a (by rw [q]; simp) with h' | h'
    · exact absurd h h'
    · rw [e] at h'; cases h'

theorem Fm.step {c : Cx} {mu mu1 : Mu} {s s1 : Shared} {env : Env} {m : Lm} (F : Fm c mu s.heap env m) (S : St c mu s.heap) (x : Step c noT mu s mu1 s1) : Fm c mu1 s1.heap env m := by
  have tk := x.tk0 S
  obtain ⟨mc, hn, hv⟩ := F.loc
  have keepL : ∀ o, s.heap.get? env.locals = some o → s1.heap.get? env.locals = some o := fun o e => x.keep _ _ e F.offL id
  have keepC : ∀ y ca, env.cells.lookup y = some ca → ∀ o, s.heap.get? ca = some o → s1.heap.get? ca = some o := fun y ca hy o e => x.keep _ _ e (F.offC y ca hy).1 id
  exact {
    fn := F.fn
    gl := F.gl
    bu := F.bu
    loc := ⟨mc, hn.at' keepL, fun y pv e hk => let ⟨v, a, b⟩ := hv y pv e hk; ⟨v, a, b.mono tk⟩⟩
    cel := fun y pv e hk => let ⟨ca, v, a, ⟨o, b, d⟩, r⟩ := F.cel y pv e hk; ⟨ca, v, a, ⟨o, keepC y ca a o b, d⟩, r.mono tk⟩
    has := F.has
    cells := fun y ca e => let ⟨v, ⟨o, b, d⟩⟩ := F.cells y ca e; ⟨v, ⟨o, keepC y ca e o b, d⟩⟩
    offL := by obtain ⟨o, _, _, e, _⟩ := hn; exact keepNone x e F.offL
    offC := fun y ca e => ⟨by obtain ⟨v, o, b, _⟩ := F.cells y ca e; exact keepNone x b (F.offC y ca e).1, (F.offC y ca e).2⟩
    apart := F.apart
    notB := F.notB }
end Mine

open PySem PySem.W PySem.Calls PyProof.Rows
set_option Elab.async false
set_option linter.unusedVariables false
namespace Mine

structure AOk (n : Nat) (A : Around) : Prop where
  hd : A.handled = none
  dp : A.depth + n < recursionLimit
  un : A.units + 20 * n < cLine
theorem AOk.room {n : Nat} {A : Around} (h : AOk n A) : A.depth < recursionLimit := by have := h.dp; omega
theorem AOk.le {n k : Nat} {A : Around} (h : AOk n A) (hk : k ≤ n) : AOk k A := ⟨h.hd, by have := h.dp; omega, by have := h.un; omega⟩
theorem AOk.deeper {n : Nat} {A : Around} (h : AOk (n + 1) A) (env : Env) : AOk n (A.deeper env) :=
  ⟨h.hd, by show A.depth + 1 + n < _; have := h.dp; omega, by show A.units + 3 + 20 * n < _; have := h.un; omega⟩
theorem AOk.in1 {n : Nat} {A : Around} (h : AOk (n + 1) A) : AOk n A.in1 :=
  ⟨h.hd, by show A.depth + n < _; have := h.dp; omega, by show A.units + 1 + 20 * n < _; have := h.un; omega⟩

abbrev NoE : Value → Shared → Prop := fun _ _ => False

def Post (c : Cx) (mu : Mu) (s : Shared) (P : PV → Mu → Prop) (v : Value) (s' : Shared) : Prop :=
  ∃ pv mu', P pv mu' ∧ Step c noT mu s mu' s' ∧ Rep s'.heap pv v
def PostB (c : Cx) (mu : Mu) (s : Shared) (P : Bool → Mu → Prop) (v : Bool) (s' : Shared) : Prop :=
  ∃ mu', P v mu' ∧ Step c noT mu s mu' s'
def PostL (c : Cx) (mu : Mu) (s : Shared) (P : List PV → Mu → Prop) (v : List Value) (s' : Shared) : Prop :=
  ∃ pv mu', P pv mu' ∧ Step c noT mu s mu' s' ∧ Reps s'.heap pv v
def PostD (c : Cx) (mu : Mu) (s : Shared) (P : List (Str × PV) → Mu → Prop) (v : List (Str × Value)) (s' : Shared) : Prop :=
  ∃ pv mu', P pv mu' ∧ Step c noT mu s mu' s' ∧ RepD s'.heap pv v

theorem Post.after {c : Cx} {mu mu1 : Mu} {s s1 s2 : Shared} {P : PV → Mu → Prop} {v : Value} (x : Step c noT mu s mu1 s1) (p : Post c mu1 s1 P v s2) : Post c mu s P v s2 :=
  let ⟨pv, mu2, a, b, d⟩ := p; ⟨pv, mu2, a, x.trans b, d⟩
theorem PostB.after {c : Cx} {mu mu1 : Mu} {s s1 s2 : Shared} {P : Bool → Mu → Prop} {v : Bool} (x : Step c noT mu s mu1 s1) (p : PostB c mu1 s1 P v s2) : PostB c mu s P v s2 :=
  let ⟨mu2, a, b⟩ := p; ⟨mu2, a, x.trans b⟩
theorem Post.pure {c : Cx} {mu : Mu} {s : Shared} {P : PV → Mu → Prop} {v : Value} {pv : PV} {k : Nat} (S : St c mu s.heap) (h : P pv mu) (r : Rep s.heap pv v) : Post c mu s P v { s with toks := k } :=
  ⟨pv, mu, h, Step.tok S, r⟩
theorem Post.pure0 {c : Cx} {mu : Mu} {s : Shared} {P : PV → Mu → Prop} {v : Value} {pv : PV} (S : St c mu s.heap) (h : P pv mu) (r : Rep s.heap pv v) : Post c mu s P v s :=
  ⟨pv, mu, h, Step.refl S, r⟩
theorem PostB.pure0 {c : Cx} {mu : Mu} {s : Shared} {P : Bool → Mu → Prop} {v : Bool} (S : St c mu s.heap) (h : P v mu) : PostB c mu s P v s :=
  ⟨mu, h, Step.refl S⟩
theorem PostB.pure {c : Cx} {mu : Mu} {s : Shared} {P : Bool → Mu → Prop} {v : Bool} {k : Nat} (S : St c mu s.heap) (h : P v mu) : PostB c mu s P v { s with toks := k } :=
  ⟨mu, h, Step.tok S⟩

/-- the triples -/
def EvE (c : Cx) (n : Nat) (sc : Scope) (m : Lm) (mu : Mu) (e : PySem.Expr) (P : PV → Mu → Prop) : Prop :=
  ∀ env A s, env.scope = sc → AOk n A → 0 < s.toks → St c mu s.heap → Fm c mu s.heap env m → wpAny c.M A (eval e env) (Post c mu s P) NoE s
def Tst (c : Cx) (n : Nat) (sc : Scope) (m : Lm) (mu : Mu) (e : PySem.Expr) (P : Bool → Mu → Prop) : Prop :=
  ∀ env A s, env.scope = sc → AOk n A → 0 < s.toks → St c mu s.heap → Fm c mu s.heap env m → wpAny c.M A (isTrue e env (eval e env)) (PostB c mu s P) NoE s
def EvA (c : Cx) (n : Nat) (sc : Scope) (m : Lm) (mu : Mu) (es : List PySem.Expr) (P : List PV → Mu → Prop) : Prop :=
  ∀ env A s pos, env.scope = sc → AOk n A → 0 < s.toks → St c mu s.heap → Fm c mu s.heap env m → wpAny c.M A (spliced (backTo pos (starEach es env))) (PostL c mu s P) NoE s
/-- keywords, all named -/
def EvK (c : Cx) (n : Nat) (sc : Scope) (m : Lm) (mu : Mu) (ks : List Keyword) (P : List (Str × PV) → Mu → Prop) : Prop :=
  ∀ env A s pos, env.scope = sc → AOk n A → 0 < s.toks → St c mu s.heap → Fm c mu s.heap env m →
    wpAny c.M A (evalAll ((backToKw pos (keywordEach ks env)).map (·.2))) (fun vs s' => PostD c mu s P (((backToKw pos (keywordEach ks env)).filterMap (·.1)).zip vs) s') NoE s
/-- operations on values -/
def OpB (c : Cx) (n : Nat) (mu : Mu) (op : Operator) (a b : PV) (P : PV → Mu → Prop) : Prop :=
  ∀ A s va vb, AOk n A → 0 < s.toks → St c mu s.heap → Rep s.heap a va → Rep s.heap b vb → wpAny c.M A (binaryOp op va vb) (Post c mu s P) NoE s
def OpI (c : Cx) (n : Nat) (mu : Mu) (op : Operator) (a b : PV) (P : PV → Mu → Prop) : Prop :=
  ∀ A s va vb, AOk n A → 0 < s.toks → St c mu s.heap → Rep s.heap a va → Rep s.heap b vb → wpAny c.M A (inplaceOp op va vb) (Post c mu s P) NoE s
def OpC (c : Cx) (n : Nat) (mu : Mu) (op : CmpOp) (a b : PV) (P : PV → Mu → Prop) : Prop :=
  ∀ A s va vb, AOk n A → 0 < s.toks → St c mu s.heap → Rep s.heap a va → Rep s.heap b vb → wpAny c.M A (compareOp op va vb) (Post c mu s P) NoE s
def OpU (c : Cx) (n : Nat) (mu : Mu) (op : UnaryOp) (a : PV) (P : PV → Mu → Prop) : Prop :=
  ∀ A s va, AOk n A → 0 < s.toks → St c mu s.heap → Rep s.heap a va → wpAny c.M A (unaryOp op va) (Post c mu s P) NoE s
def OpT (c : Cx) (n : Nat) (mu : Mu) (a : PV) (P : Bool → Mu → Prop) : Prop :=
  ∀ A s va, AOk n A → 0 < s.toks → St c mu s.heap → Rep s.heap a va → wpAny c.M A (truthy va) (PostB c mu s P) NoE s
def OpG (c : Cx) (n : Nat) (mu : Mu) (a i : PV) (P : PV → Mu → Prop) : Prop :=
  ∀ A s va vi, AOk n A → 0 < s.toks → St c mu s.heap → Rep s.heap a va → Rep s.heap i vi → wpAny c.M A (getItem va vi) (Post c mu s P) NoE s
def CallV (c : Cx) (n : Nat) (mu : Mu) (f : Value) (args : List PV) (kw : List (Str × PV)) (P : PV → Mu → Prop) : Prop :=
  ∀ A s vs kvs, AOk n A → 0 < s.toks → St c mu s.heap → Reps s.heap args vs → RepD s.heap kw kvs → wpAny c.M A (call f vs kvs) (Post c mu s P) NoE s
def Keepr (c : Cx) (mu : Mu) (f : Value) : Prop :=
  ∀ A s (Q : Keeper → Shared → Prop) E, St c mu s.heap → (∀ k, Q k s) → wpAny c.M A (keeperOf f) Q E s
def Meth (c : Cx) (mu : Mu) (ov : PV) (name : Str) (f : Value) : Prop :=
  ∀ A s v pl (Q : Value × List Value → Shared → Prop) E, St c mu s.heap → Rep s.heap ov v → Q (f, [v]) s → wpAny c.M A (getMethod v name pl) Q E s

inductive FV where
  | next | brk | cont
  | ret (d : PV)
inductive RepF (h : Heap) : FV → Flow → Prop
  | next : RepF h .next .next
  | brk : RepF h .brk .brk
  | cont : RepF h .cont .cont
  | ret {d : PV} {v : Value} : Rep h d v → RepF h (.ret d) (.ret v)
def TchK (K : Bool) (env : Env) : Addr → Prop := fun b => b = env.locals ∨ (K = true ∧ ∃ x, env.cells.lookup x = some b)
abbrev Tch (env : Env) : Addr → Prop := TchK true env
def PostS (c : Cx) (env : Env) (mu : Mu) (s : Shared) (P : FV → Lm → Mu → Prop) (f : Flow) (s' : Shared) : Prop :=
  ∃ fv m' mu', P fv m' mu' ∧ Step c (Tch env) mu s mu' s' ∧ Fm c mu' s'.heap env m' ∧ RepF s'.heap fv f
def ExS (c : Cx) (n : Nat) (sc : Scope) (m : Lm) (mu : Mu) (ss : List Stmt) (P : FV → Lm → Mu → Prop) : Prop :=
  ∀ env A s, env.scope = sc → AOk n A → 0 < s.toks → St c mu s.heap → Fm c mu s.heap env m → wpAny c.M A (execs ss env) (PostS c env mu s P) NoE s
def Ex1 (c : Cx) (n : Nat) (sc : Scope) (m : Lm) (mu : Mu) (st : Stmt) (P : FV → Lm → Mu → Prop) : Prop :=
  ∀ env A s, env.scope = sc → AOk n A → 0 < s.toks → St c mu s.heap → Fm c mu s.heap env m → wpAny c.M A (exec st env) (PostS c env mu s P) NoE s
def AsgT (K : Bool) (c : Cx) (n : Nat) (sc : Scope) (m : Lm) (mu : Mu) (t : PySem.Expr) (d : PV) (P : Lm → Mu → Prop) : Prop :=
  ∀ env A s v, env.scope = sc → AOk n A → 0 < s.toks → St c mu s.heap → Fm c mu s.heap env m → Rep s.heap d v →
    wpAny c.M A (assign t env v) (fun _ s' => ∃ m' mu', P m' mu' ∧ Step c (TchK K env) mu s mu' s' ∧ Fm c mu' s'.heap env m') NoE s

theorem PostS.after {c : Cx} {env : Env} {mu mu1 : Mu} {s s1 s2 : Shared} {P : FV → Lm → Mu → Prop} {f : Flow} (x : Step c (Tch env) mu s mu1 s1) (p : PostS c env mu1 s1 P f s2) : PostS c env mu s P f s2 :=
  let ⟨fv, m, mu2, a, b, d⟩ := p; ⟨fv, m, mu2, a, x.trans b, d⟩

section
variable {c : Cx} {n : Nat} {sc : Scope} {m : Lm} {mu : Mu}

/-- monadic glue: an expression, then what follows on the state behind it -/
theorem EvE.bind {e : PySem.Expr} {P : PV → Mu → Prop} (h : EvE c n sc m mu e P) {env : Env} {A : Around} {s : Shared} (he : env.scope = sc) (hA : AOk n A) (ht : 0 < s.toks) (S : St c mu s.heap) (F : Fm c mu s.heap env m)
    {Q : Value → Shared → Prop} {E : Value → Shared → Prop}
    (k : ∀ v s1 d mu1, P d mu1 → Step c noT mu s mu1 s1 → 0 < s1.toks → St c mu1 s1.heap → Fm c mu1 s1.heap env m → Rep s1.heap d v → TK s.heap s1.heap → Q v s1) : wpAny c.M A (eval e env) Q E s := by
  refine wpAny_mono (wpAny_toks (h env A s he hA ht S F)) (fun v s1 p => ?_) fun _ _ x => x.2.elim
  obtain ⟨hle, d, mu1, hp, x, r⟩ := p
  exact k v s1 d mu1 hp x (Nat.lt_of_lt_of_le ht hle) x.st (F.step S x) r (x.tk0 S)
theorem Tst.bind {e : PySem.Expr} {P : Bool → Mu → Prop} (h : Tst c n sc m mu e P) {env : Env} {A : Around} {s : Shared} (he : env.scope = sc) (hA : AOk n A) (ht : 0 < s.toks) (S : St c mu s.heap) (F : Fm c mu s.heap env m)
    {Q : Bool → Shared → Prop} {E : Value → Shared → Prop}
    (k : ∀ b s1 mu1, P b mu1 → Step c noT mu s mu1 s1 → 0 < s1.toks → St c mu1 s1.heap → Fm c mu1 s1.heap env m → TK s.heap s1.heap → Q b s1) : wpAny c.M A (isTrue e env (eval e env)) Q E s := by
  refine wpAny_mono (wpAny_toks (h env A s he hA ht S F)) (fun v s1 p => ?_) fun _ _ x => x.2.elim
  obtain ⟨hle, mu1, hp, x⟩ := p
  exact k v s1 mu1 hp x (Nat.lt_of_lt_of_le ht hle) x.st (F.step S x) (x.tk0 S)
theorem EvA.bind {es : List PySem.Expr} {P : List PV → Mu → Prop} (h : EvA c n sc m mu es P) {env : Env} {A : Around} {s : Shared} {pos : Pos} (he : env.scope = sc) (hA : AOk n A) (ht : 0 < s.toks) (S : St c mu s.heap) (F : Fm c mu s.heap env m)
    {Q : List Value → Shared → Prop} {E : Value → Shared → Prop}
    (k : ∀ v s1 d mu1, P d mu1 → Step c noT mu s mu1 s1 → 0 < s1.toks → St c mu1 s1.heap → Fm c mu1 s1.heap env m → Reps s1.heap d v → TK s.heap s1.heap → Q v s1) : wpAny c.M A (spliced (backTo pos (starEach es env))) Q E s := by
  refine wpAny_mono (wpAny_toks (h env A s pos he hA ht S F)) (fun v s1 p => ?_) fun _ _ x => x.2.elim
  obtain ⟨hle, d, mu1, hp, x, r⟩ := p
  exact k v s1 d mu1 hp x (Nat.lt_of_lt_of_le ht hle) x.st (F.step S x) r (x.tk0 S)
/-- a tree of values whose end is a Post, then what follows -/
theorem post_bind {A : Around} {s : Shared} {t : Sem Value} {P : PV → Mu → Prop} (h : wpAny c.M A t (Post c mu s P) NoE s) (ht : 0 < s.toks) (S : St c mu s.heap)
    {Q : Value → Shared → Prop} {E : Value → Shared → Prop}
    (k : ∀ v s1 d mu1, P d mu1 → Step c noT mu s mu1 s1 → 0 < s1.toks → St c mu1 s1.heap → Rep s1.heap d v → TK s.heap s1.heap → Q v s1) : wpAny c.M A t Q E s := by
  refine wpAny_mono (wpAny_toks h) (fun v s1 p => ?_) fun _ _ x => x.2.elim
  obtain ⟨hle, d, mu1, hp, x, r⟩ := p
  exact k v s1 d mu1 hp x (Nat.lt_of_lt_of_le ht hle) x.st r (x.tk0 S)
theorem postB_bind {A : Around} {s : Shared} {t : Sem Bool} {P : Bool → Mu → Prop} (h : wpAny c.M A t (PostB c mu s P) NoE s) (ht : 0 < s.toks) (S : St c mu s.heap)
    {Q : Bool → Shared → Prop} {E : Value → Shared → Prop}
    (k : ∀ v s1 mu1, P v mu1 → Step c noT mu s mu1 s1 → 0 < s1.toks → St c mu1 s1.heap → TK s.heap s1.heap → Q v s1) : wpAny c.M A t Q E s := by
  refine wpAny_mono (wpAny_toks h) (fun v s1 p => ?_) fun _ _ x => x.2.elim
  obtain ⟨hle, mu1, hp, x⟩ := p
  exact k v s1 mu1 hp x (Nat.lt_of_lt_of_le ht hle) x.st (x.tk0 S)

theorem EvE.imp {e : PySem.Expr} {P Q : PV → Mu → Prop} (h : EvE c n sc m mu e P) (k : ∀ d mu', P d mu' → Q d mu') : EvE c n sc m mu e Q :=
  fun env A s he hA ht S F => wpAny_mono (h env A s he hA ht S F) (fun _ _ ⟨d, mu', a, b⟩ => ⟨d, mu', k _ _ a, b⟩) fun _ _ x => x
theorem ExS.imp {ss : List Stmt} {P Q : FV → Lm → Mu → Prop} (h : ExS c n sc m mu ss P) (k : ∀ f m' mu', P f m' mu' → Q f m' mu') : ExS c n sc m mu ss Q :=
  fun env A s he hA ht S F => wpAny_mono (h env A s he hA ht S F) (fun _ _ ⟨f, m', mu', a, b⟩ => ⟨f, m', mu', k _ _ _ a, b⟩) fun _ _ x => x

/-! ## expressions -/
theorem EvE.int {i : Int} {k : Nat} {pos : Pos} {P : PV → Mu → Prop} (h : P (.int i) mu) : EvE c n sc m mu (.Constant (.int i) k pos) P :=
  fun _ _ s _ _ _ S _ => wpAny_Constant_int (Post.pure (s := s) S h (.int i _))
theorem EvE.str {x : Str} {k : Nat} {pos : Pos} {P : PV → Mu → Prop} (h : P (.str x) mu) : EvE c n sc m mu (.Constant (.str x) k pos) P :=
  fun _ _ s _ _ _ S _ => Constant_str (Post.pure (s := s) S h (.str x _))
theorem EvE.nil {k : Nat} {pos : Pos} {P : PV → Mu → Prop} (h : P .none mu) : EvE c n sc m mu (.Constant .none k pos) P :=
  fun _ _ _ _ _ _ S _ => wpAny_pure (Post.pure0 S h .none)
theorem EvE.boolc {b : Bool} {k : Nat} {pos : Pos} {P : PV → Mu → Prop} (h : P (.bool b) mu) : EvE c n sc m mu (.Constant (.bool b) k pos) P :=
  fun _ _ _ _ _ _ S _ => wpAny_pure (Post.pure0 S h (.bool b))

theorem EvE.loc {x : Str} {pos : Pos} {d : PV} {P : PV → Mu → Prop} (hl : m.lookup x = some d) (hk : sc.names.lookup x = some .local) (h : P d mu) (hd : (x == ("__debug__" : Str)) = false := by decide) :
    EvE c n sc m mu (.Name x pos) P := by
  intro env A s he hA ht S F
  have hk' : env.kindOf x = some .local := by unfold Env.kindOf; rw [he]; exact hk
  obtain ⟨mc, hn, hv⟩ := F.loc
  obtain ⟨v, hv1, hv2⟩ := hv x d hl hk'
  exact wpAny_Name (wpAny_loadName_local F.fn hk' hn hv1 (Post.pure0 S h hv2)) hd
theorem EvE.cell {x : Str} {pos : Pos} {d : PV} {P : PV → Mu → Prop} (hl : m.lookup x = some d) (hk : sc.names.lookup x = some .cell) (h : P d mu) (hd : (x == ("__debug__" : Str)) = false := by decide) :
    EvE c n sc m mu (.Name x pos) P := by
  intro env A s he hA ht S F
  have hk' : env.kindOf x = some .cell := by unfold Env.kindOf; rw [he]; exact hk
  obtain ⟨ca, v, hc, hi, hv⟩ := F.cel x d hl (.inl hk')
  exact wpAny_Name (wpAny_loadName_cell F.fn hk' hc hi (Post.pure0 S h hv)) hd
theorem EvE.glob {x : Str} {pos : Pos} {v : Value} {d : PV} {P : PV → Mu → Prop} (hk : sc.names.lookup x = some .globalImplicit) (hv : c.mg x = some v) (hr : ∀ hp, Rep hp d v) (h : P d mu) (hd : (x == ("__debug__" : Str)) = false := by decide) :
    EvE c n sc m mu (.Name x pos) P := by
  intro env A s he hA ht S F
  have hk' : env.kindOf x = some .globalImplicit := by unfold Env.kindOf; rw [he]; exact hk
  refine Name_function_global F.fn hk' (loadGlobal_global (mg := c.mg) ?_ hv (Post.pure0 S h (hr _))) hd
  rw [F.gl]; exact c.g.keeps S.base
theorem EvE.builtin {x : Str} {pos : Pos} {v : Value} {d : PV} {P : PV → Mu → Prop} (hk : sc.names.lookup x = some .globalImplicit) (hg : c.mg x = none) (hn : x ≠ ("__name__" : Str)) (hv : bootBuiltins x = some v) (hr : ∀ hp, Rep hp d v) (h : P d mu) (hd : (x == ("__debug__" : Str)) = false := by decide) :
    EvE c n sc m mu (.Name x pos) P := by
  intro env A s he hA ht S F
  have hk' : env.kindOf x = some .globalImplicit := by unfold Env.kindOf; rw [he]; exact hk
  refine Name_function_global F.fn hk' (loadGlobal_builtin (mg := c.mg) (mb := c.mb) ?_ hg ?_ ((c.bi x hn).trans hv) (Post.pure0 S h (hr _))) hd
  · rw [F.gl]; exact c.g.keeps S.base
  · rw [F.bu]; exact c.b.keeps S.base

theorem EvE.binop {l r : PySem.Expr} {op : Operator} {pos : Pos} {P : PV → Mu → Prop}
    (h : EvE c n sc m mu l fun a mu1 => EvE c n sc m mu1 r fun b mu2 => OpB c n mu2 op a b P) : EvE c n sc m mu (.BinOp l op r pos) P := by
  intro env A s he hA ht S F
  refine wpAny_BinOp (EvE.bind h he hA ht S F fun va s1 a mu1 h1 x1 t1 S1 F1 r1 _ => ?_)
  refine EvE.bind h1 he hA t1 S1 F1 fun vb s2 b mu2 h2 x2 t2 S2 F2 r2 k2 => ?_
  exact wpAny_mono (h2 A s2 va vb hA t2 S2 (r1.mono k2) r2) (fun _ _ p => p.after x2 |>.after x1) fun _ _ x => x
theorem EvE.unop {e : PySem.Expr} {op : UnaryOp} {pos : Pos} {P : PV → Mu → Prop}
    (h : EvE c n sc m mu e fun a mu1 => OpU c n mu1 op a P) : EvE c n sc m mu (.UnaryOp op e pos) P := by
  intro env A s he hA ht S F
  show wpAny c.M A (do let v ← eval e env; standAt pos; holding [v] (unaryOp op v)) _ _ s
  refine wpAny_bind (EvE.bind h he hA ht S F fun va s1 a mu1 h1 x1 t1 S1 F1 r1 _ => wpAny_bind (wpAny_standAt (wpAny_holding ?_)))
  exact wpAny_mono (h1 A s1 va hA t1 S1 r1) (fun _ _ p => p.after x1) fun _ _ x => x
theorem EvE.cmp {l r : PySem.Expr} {op : CmpOp} {pos : Pos} {P : PV → Mu → Prop}
    (h : EvE c n sc m mu l fun a mu1 => EvE c n sc m mu1 r fun b mu2 => OpC c n mu2 op a b P) (hm : behindInMarks op r = false := by with_unfolding_all rfl) : EvE c n sc m mu (.Compare l [op] [r] pos) P := by
  intro env A s he hA ht S F
  refine wpAny_Compare1 (EvE.bind h he hA ht S F fun va s1 a mu1 h1 x1 t1 S1 F1 r1 _ => ?_) hm
  refine EvE.bind h1 he hA t1 S1 F1 fun vb s2 b mu2 h2 x2 t2 S2 F2 r2 k2 => ?_
  exact wpAny_mono (h2 A s2 va vb hA t2 S2 (r1.mono k2) r2) (fun _ _ p => p.after x2 |>.after x1) fun _ _ x => x
theorem Tst.cmp {l r : PySem.Expr} {op : CmpOp} {pos : Pos} {P : Bool → Mu → Prop}
    (h : EvE c n sc m mu l fun a mu1 => EvE c n sc m mu1 r fun b mu2 => OpC c n mu2 op a b fun d mu3 => OpT c n mu3 d P) (hm : behindInMarks op r = false := by with_unfolding_all rfl) : Tst c n sc m mu (.Compare l [op] [r] pos) P := by
  intro env A s he hA ht S F
  refine wpAny_isTrue_Compare1 (EvE.bind h he hA ht S F fun va s1 a mu1 h1 x1 t1 S1 F1 r1 _ => ?_) hm
  refine EvE.bind h1 he hA t1 S1 F1 fun vb s2 b mu2 h2 x2 t2 S2 F2 r2 k2 => ?_
  refine post_bind (h2 A s2 va vb hA t2 S2 (r1.mono k2) r2) t2 S2 fun vc s3 d mu3 h3 x3 t3 S3 r3 _ => ?_
  exact wpAny_mono (h3 A s3 vc hA t3 S3 r3) (fun _ _ p => p.after x3 |>.after x2 |>.after x1) fun _ _ x => x
/-- any other test -/
theorem Tst.of {e : PySem.Expr} {P : Bool → Mu → Prop} (h : EvE c n sc m mu e fun d mu1 => OpT c n mu1 d P)
    (hs : ∀ env whole, isTrue e env whole = (do let v ← whole; standAt e.pos; holding [v] (truthy v)) := by intro _ _; rfl) : Tst c n sc m mu e P := by
  intro env A s he hA ht S F
  rw [hs]
  refine wpAny_bind (EvE.bind h he hA ht S F fun va s1 a mu1 h1 x1 t1 S1 F1 r1 _ => wpAny_bind (wpAny_standAt (wpAny_holding ?_)))
  exact wpAny_mono (h1 A s1 va hA t1 S1 r1) (fun _ _ p => p.after x1) fun _ _ x => x
theorem Tst.not {e : PySem.Expr} {pos : Pos} {P : Bool → Mu → Prop} (h : Tst c n sc m mu e fun b mu1 => P (!b) mu1) : Tst c n sc m mu (.UnaryOp .Not e pos) P := by
  intro env A s he hA ht S F
  show wpAny c.M A (do return !(← isTrue e env (eval e env))) _ _ s
  refine wpAny_bind (Tst.bind h he hA ht S F fun b s1 mu1 h1 x1 t1 S1 F1 _ => wpAny_pure ⟨mu1, h1, x1⟩)
/-- and, or in a test -/
def TstL (c : Cx) (n : Nat) (sc : Scope) (m : Lm) (mu : Mu) (op : BoolOp) (es : List PySem.Expr) (P : Bool → Mu → Prop) : Prop :=
  ∀ env A s, env.scope = sc → AOk n A → 0 < s.toks → St c mu s.heap → Fm c mu s.heap env m → wpAny c.M A (allTrue op es env) (PostB c mu s P) NoE s
theorem Tst.boolop {op : BoolOp} {es : List PySem.Expr} {pos : Pos} {P : Bool → Mu → Prop} (h : TstL c n sc m mu op es P) : Tst c n sc m mu (.BoolOp op es pos) P :=
  fun env A s he hA ht S F => h env A s he hA ht S F
theorem TstL.and_nil {P : Bool → Mu → Prop} (h : P true mu) : TstL c n sc m mu .And [] P := fun _ _ _ _ _ _ S _ => wpAny_pure (PostB.pure0 S h)
theorem TstL.or_nil {P : Bool → Mu → Prop} (h : P false mu) : TstL c n sc m mu .Or [] P := fun _ _ _ _ _ _ S _ => wpAny_pure (PostB.pure0 S h)
theorem TstL.and_cons {e : PySem.Expr} {es : List PySem.Expr} {P : Bool → Mu → Prop} (h : Tst c n sc m mu e fun b mu1 => if b = true then TstL c n sc m mu1 .And es P else P false mu1) : TstL c n sc m mu .And (e :: es) P := by
  intro env A s he hA ht S F
  rw [allTrue]
  refine wpAny_bind (Tst.bind h he hA ht S F fun b s1 mu1 h1 x1 t1 S1 F1 _ => ?_)
  cases b with
  | true => exact wpAny_mono (h1 env A s1 he hA t1 S1 F1) (fun _ _ p => p.after x1) fun _ _ x => x
  | false => exact wpAny_pure ⟨mu1, h1, x1⟩
theorem TstL.or_cons {e : PySem.Expr} {es : List PySem.Expr} {P : Bool → Mu → Prop} (h : Tst c n sc m mu e fun b mu1 => if b = true then P true mu1 else TstL c n sc m mu1 .Or es P) : TstL c n sc m mu .Or (e :: es) P := by
  intro env A s he hA ht S F
  rw [allTrue]
  refine wpAny_bind (Tst.bind h he hA ht S F fun b s1 mu1 h1 x1 t1 S1 F1 _ => ?_)
  cases b with
  | false => exact wpAny_mono (h1 env A s1 he hA t1 S1 F1) (fun _ _ p => p.after x1) fun _ _ x => x
  | true => exact wpAny_pure ⟨mu1, h1, x1⟩
theorem EvE.ifexp {t a b : PySem.Expr} {pos : Pos} {P : PV → Mu → Prop} (h : Tst c n sc m mu t fun r mu1 => if r = true then EvE c n sc m mu1 a P else EvE c n sc m mu1 b P) : EvE c n sc m mu (.IfExp t a b pos) P := by
  intro env A s he hA ht S F
  show wpAny c.M A (do if ← isTrue t env (eval t env) then eval a env else eval b env) _ _ s
  refine wpAny_bind (Tst.bind h he hA ht S F fun r s1 mu1 h1 x1 t1 S1 F1 _ => ?_)
  cases r with
  | true => exact wpAny_mono (h1 env A s1 he hA t1 S1 F1) (fun _ _ p => p.after x1) fun _ _ x => x
  | false => exact wpAny_mono (h1 env A s1 he hA t1 S1 F1) (fun _ _ p => p.after x1) fun _ _ x => x
/-! ## arguments -/
theorem EvA.nil {P : List PV → Mu → Prop} (h : P [] mu) : EvA c n sc m mu [] P := fun _ _ _ _ _ _ _ S _ => wpAny_pure ⟨[], mu, h, Step.refl S, .nil⟩
theorem EvA.cons {e : PySem.Expr} {es : List PySem.Expr} {P : List PV → Mu → Prop} (h : EvE c n sc m mu e fun a mu1 => EvA c n sc m mu1 es fun as mu2 => P (a :: as) mu2)
    (hs : ∀ env, starEach (e :: es) env = (false, eval e env) :: starEach es env := by intro _; rfl) : EvA c n sc m mu (e :: es) P := by
  intro env A s pos he hA ht S F
  rw [hs]
  show wpAny c.M A (spliced ((false, eval e env) :: backTo pos (starEach es env))) _ _ s
  refine spliced_cons (EvE.bind h he hA ht S F fun va s1 d mu1 h1 x1 t1 S1 F1 r1 _ => ?_)
  refine EvA.bind h1 he hA t1 S1 F1 fun vs s2 ds mu2 h2 x2 t2 S2 F2 r2 k2 => ?_
  exact ⟨d :: ds, mu2, h2, x1.trans x2, .cons (r1.mono k2) r2⟩
theorem EvE.tuple {es : List PySem.Expr} {k : Nat} {pos : Pos} {P : PV → Mu → Prop} (h : EvA c n sc m mu es fun ds mu1 => ds.length ≤ sizeLine ∧ P (.tuple ds) mu1) : EvE c n sc m mu (.Tuple es k pos) P := by
  intro env A s he hA ht S F
  show wpAny c.M A (do standAt pos; newTuple (← spliced (backTo pos (starEach es env)))) _ _ s
  refine wpAny_bind (wpAny_standAt (wpAny_bind (EvA.bind h he hA ht S F fun vs s1 ds mu1 h1 x1 t1 S1 F1 r1 _ => ?_)))
  refine wpAny_newTuple ?_ (by rw [r1.length]; exact h1.1)
  have x2 : Step c noT mu1 s1 mu1 { s1 with heap := s1.heap.push { cls := .type "tuple", data := .seq vs.toArray } } := Step.pushOff S1
  exact ⟨.tuple ds, mu1, h1.2, x1.trans x2, .tuple (Heap.get?_push_size _ rfl) (r1.mono (x2.tk0 S1))⟩
theorem EvE.list {es : List PySem.Expr} {pos : Pos} {P : PV → Mu → Prop} (h : EvA c n sc m mu es fun ds mu1 => ds.length ≤ sizeLine ∧ ∀ a, mu1 a = none → P (.ref a) (upd mu1 a (.list ds))) : EvE c n sc m mu (.List es pos) P := by
  intro env A s he hA ht S F
  show wpAny c.M A (do standAt pos; newList (← spliced (backTo pos (starEach es env)))) _ _ s
  refine wpAny_bind (wpAny_standAt (wpAny_bind (EvA.bind h he hA ht S F fun vs s1 ds mu1 h1 x1 t1 S1 F1 r1 _ => ?_)))
  refine wpAny_newList ?_ (by rw [r1.length]; exact h1.1)
  have x0 : Step c noT mu1 s1 mu1 { s1 with heap := s1.heap.push { cls := .type "list", data := .seq vs.toArray } } := Step.pushOff S1
  have x2 : Step c noT mu1 s1 (upd mu1 s1.heap.objs.size (.list ds)) { s1 with heap := s1.heap.push { cls := .type "list", data := .seq vs.toArray } } := Step.push S1 ⟨vs, 0, Heap.get?_push_size _ rfl, r1.mono (x0.tk0 S1)⟩
  exact ⟨.ref s1.heap.objs.size, _, h1.2 _ (S1.off (Nat.le_refl _)), x1.trans x2, .ref _⟩
end
end Mine

open PySem PySem.W PySem.Calls PyProof.Rows
set_option Elab.async false
set_option linter.unusedVariables false
namespace Mine

/-! # calls of the text's own defs -/
def Binds (c : Cx) (mu : Mu) (fd : FuncData) (args : List PV) (kw : List (Str × PV)) (K : List (Str × PV) → Mu → Prop) : Prop :=
  ∀ A s vs kvs, AOk 0 A → St c mu s.heap → Reps s.heap args vs → RepD s.heap kw kvs → wpAny c.M A (bindArgs fd ⟨vs, kvs⟩) (PostD c mu s K) NoE s

theorem RepD.mem {h : Heap} {ds : List (Str × PV)} {vs : List (Str × Value)} (r : RepD h ds vs) {x : Str} {d : PV} (hx : ds.lookup x = some d) : ∃ v, vs.lookup x = some v ∧ Rep h d v := by
  induction r with
  | nil => simp at hx
  | @cons k d' v ds vs a _ ih =>
    rw [List.lookup_cons] at hx ⊢
    cases hb : x == k with
    | true => rw [hb] at hx; cases hx; exact ⟨v, rfl, a⟩
    | false => rw [hb] at hx; exact ih hx
theorem RepD.names {h : Heap} {ds : List (Str × PV)} {vs : List (Str × Value)} (r : RepD h ds vs) : vs.map (·.1) = ds.map (·.1) := by
  induction r with
  | nil => rfl
  | cons _ _ ih => simp [ih]

theorem bindL_keep {k : Str → Option NameKind} : ∀ (binds : List (Str × Value)) (m0 : Str → Option Value) (x : Str), (x ∉ binds.map (·.1)) → bindL k binds m0 x = m0 x
  | [], _, _, _ => rfl
  | (y, v) :: r, m0, x, h => by
    unfold bindL
    simp only [List.map_cons, List.mem_cons, not_or] at h
    rw [bindL_keep r _ x h.2]
    split
    · simp [h.1]
    · rfl
theorem bindC_keep {k : Str → Option NameKind} : ∀ (binds : List (Str × Value)) (m0 : Str → Option Value) (x : Str), (x ∉ binds.map (·.1)) → bindC k binds m0 x = m0 x
  | [], _, _, _ => rfl
  | (y, v) :: r, m0, x, h => by
    unfold bindC
    simp only [List.map_cons, List.mem_cons, not_or] at h
    rw [bindC_keep r _ x h.2]
    split
    · rfl
    · simp [h.1]
theorem bindL_at {k : Str → Option NameKind} : ∀ (binds : List (Str × Value)) (m0 : Str → Option Value) (x : Str) (v : Value), (binds.map (·.1)).Nodup → binds.lookup x = some v → k x = some .local → bindL k binds m0 x = some v
  | (y, w) :: r, m0, x, v, hn, hl, hk => by
    unfold bindL
    simp only [List.map_cons, List.nodup_cons] at hn
    rw [List.lookup_cons] at hl
    cases hb : x == y with
    | true =>
      rw [hb] at hl; cases hl
      have hxy := beq_iff_eq.mp hb
      subst hxy
      rw [bindL_keep r _ x hn.1, if_pos hk]; simp
    | false => rw [hb] at hl; exact bindL_at r _ x v hn.2 hl hk
theorem bindC_at {k : Str → Option NameKind} : ∀ (binds : List (Str × Value)) (m0 : Str → Option Value) (x : Str) (v : Value), (binds.map (·.1)).Nodup → binds.lookup x = some v → k x ≠ some .local → bindC k binds m0 x = some v
  | (y, w) :: r, m0, x, v, hn, hl, hk => by
    unfold bindC
    simp only [List.map_cons, List.nodup_cons] at hn
    rw [List.lookup_cons] at hl
    cases hb : x == y with
    | true =>
      rw [hb] at hl; cases hl
      have hxy := beq_iff_eq.mp hb
      subst hxy
      rw [bindC_keep r _ x hn.1, if_neg hk]; simp
    | false => rw [hb] at hl; exact bindC_at r _ x v hn.2 hl hk

/-- what a def's frame hands back -/
def retOf : FV → PV
  | .ret d => d
  | _ => .none

/-- the kinds of the bound names -/
def kindsOk (names : List (Str × NameKind)) (binds : List Str) : Bool := binds.all fun x => names.lookup x == some .local || names.lookup x == some .cell
theorem cellsFrom_has {x : Str} : ∀ (names : List (Str × NameKind)) (k : Nat) (acc : List (Str × Addr)), names.lookup x = some .cell ∨ (acc.lookup x).isSome = true → ((cellsFrom k names acc).lookup x).isSome = true :=
  fun names k acc h => cellsFrom_some names k acc h

structure FnOk (c : Cx) (a : Addr) (fd : FuncData) (body : List Stmt) : Prop where
  obj : ∃ o, c.base.get? a = some o ∧ o.data = .func fd
  co : fd.scope.isCoroutine = false
  gen : fd.scope.isGenerator = false
  kind : fd.scope.kind = .function
  body : fd.body = .stmts body
  code : c.base.CodeRec fd.code fd.qualname
  clos : fd.closure = []
  gl : fd.globals = mainGlobals
  bu : fd.builtins = builtinsNs

theorem fn_body {c : Cx} {n : Nat} {mu mu1 : Mu} {a : Addr} {fd : FuncData} {body : List Stmt} {binds : List (Str × PV)} {P : PV → Mu → Prop} (hf : FnOk c a fd body) {A : Around} {s s1 s2 : Shared} {bv : List (Str × Value)} (hA : AOk (n + 1) A)
    (x1 : Step c noT mu s mu1 s1) (rb : RepD s1.heap binds bv) (hnd : (binds.map (·.1)).Nodup) (hko : kindsOk fd.scope.names (binds.map (·.1)) = true) (hx : ExS c n fd.scope binds mu1 body fun fl _ mu2 => P (retOf fl) mu2)
    {env : Env} (he : env = newEnv fd.scope s1.heap.objs.size fd.globals (cellsFrom (s1.heap.objs.size + 1) fd.scope.names []) (fd.qualname ++ ".<locals>.") (some a) fd.code none fd.builtins)
    (I : InCallC s1 env.locals (bindL env.kindOf bv fun _ => none) env.cells (bindC env.kindOf bv fun _ => none) s2) (ht2 : 0 < s2.toks) :
    s2.heap.NoLimit ∧ codeAny c.M A (.func body env) (fun r s' => match r with | .ok (.ret v) => Post c mu s P v s' | .ok _ => False | .error e => NoE e s') s2 := by
  have S1 := x1.st
  have hnames := rb.names
  have hkb : ∀ y ∈ bv, fd.scope.names.lookup y.1 = some .local ∨ fd.scope.names.lookup y.1 = some .cell := fun y hy => by
    have := List.all_eq_true.mp hko y.1 (hnames ▸ List.mem_map_of_mem hy)
    simpa using this
  have hsc : env.scope = fd.scope := by rw [he]; rfl
  have hL : env.locals = s1.heap.objs.size := by rw [he]; rfl
  have hcl : env.cells = cellsFrom (s1.heap.objs.size + 1) fd.scope.names [] := by rw [he]; rfl
  obtain ⟨h2, tk2, rfl⟩ := I.toInCall.same
  have keep := I.toInCall.keep
  have hsz : s1.heap.objs.size < h2.objs.size := Nat.lt_of_le_of_lt I.toInCall.fresh I.toInCall.ns.lt
  have tkp : TK s1.heap h2 := fun b o e _ => keep b o e
  have S2 : St c mu1 h2 := ⟨fun b o e => keep b o (S1.base b o e), fun b o e => (S1.objs b o e).mono (fun o' q => keep _ _ q) tkp, S1.new⟩
  have F2 : Fm c mu1 h2 env binds := {
    fn := by rw [hsc]; exact hf.kind
    gl := by rw [he]; exact hf.gl
    bu := by rw [he]; exact hf.bu
    loc := ⟨_, I.toInCall.ns, fun y pv e hk => by
      obtain ⟨v, hv, rv⟩ := rb.mem e
      exact ⟨v, bindL_at bv _ y v (hnames ▸ hnd) hv hk, rv.mono tkp⟩⟩
    cel := fun y pv e hk => by
      obtain ⟨v, hv, rv⟩ := rb.mem e
      have hne : env.kindOf y ≠ some .local := by rcases hk with q | q <;> rw [q] <;> decide
      have hcell : fd.scope.names.lookup y = some .cell := by
        have := hkb (y, v) (mem_of_lookup hv)
        rcases this with q | q
        · exact absurd (by unfold Env.kindOf; rw [hsc]; exact q) hne
        · exact q
      obtain ⟨ca, hca⟩ := Option.isSome_iff_exists.mp (cellsFrom_has (x := y) fd.scope.names (s1.heap.objs.size + 1) [] (.inl hcell))
      have hca' : env.cells.lookup y = some ca := by rw [hcl]; exact hca
      have hi := I.cell y ca hca'
      rw [bindC_at bv _ y v (hnames ▸ hnd) hv hne] at hi
      exact ⟨ca, v, hca', hi, rv.mono tkp⟩
    has := fun y hk => by
      have hcell : fd.scope.names.lookup y = some .cell := by unfold Env.kindOf at hk; rw [hsc] at hk; exact hk
      obtain ⟨ca, hca⟩ := Option.isSome_iff_exists.mp (cellsFrom_has (x := y) fd.scope.names (s1.heap.objs.size + 1) [] (.inl hcell))
      exact ⟨ca, by rw [hcl]; exact hca⟩
    cells := fun y ca e => ⟨_, I.cell y ca e⟩
    offL := S1.off (by rw [hL]; exact Nat.le_refl _)
    offC := fun y ca e => by
      have := I.above y ca (mem_of_lookup e)
      rw [hL] at this
      exact ⟨S1.off (Nat.le_of_lt this), by rw [hL]; exact Nat.ne_of_gt this, S1.baseNone (Nat.le_of_lt this)⟩
    apart := fun y z ca h1 h2 => name_of_addr I.apart (mem_of_lookup h1) (mem_of_lookup h2)
    notB := by rw [hL]; exact S1.baseNone (Nat.le_refl _) }
  have above : ∀ b, Tch env b → s1.heap.objs.size ≤ b := fun b hb => by
    rcases hb with q | ⟨_, y, q⟩
    · rw [q, hL]; exact Nat.le_refl _
    · have := I.above y b (mem_of_lookup q); rw [hL] at this; exact Nat.le_of_lt this
  refine ⟨c.nolim.keeps S2.base, codeAny_func ?_⟩
  refine wpAny_mono (hx env _ _ hsc (hA.deeper env) ht2 S2 F2) (fun f s3 p => ?_) fun _ _ e => e.elim
  · obtain ⟨fl, m3, mu3, hp, x3, F3, rf⟩ := p
    have x13 : Step c noT mu1 s1 mu3 s3 := {
      shape := by obtain ⟨h, tk, e⟩ := x3.shape; exact ⟨h, tk, e⟩
      st := x3.st
      keep := fun b o e hm _ => x3.keep b o (keep b o e) hm fun q => absurd (Heap.lt_size e) (Nat.not_lt.mpr (above b q))
      alive := fun b o e hm => x3.alive b o (keep b o e) hm
      dom := fun b hb => by
        rcases x3.dom b hb with q | q
        · exact .inl q
        · cases e : s1.heap.get? b with
          | none => exact .inr rfl
          | some o => have := keep b o e; rw [q] at this; cases this }
    have fin : ∀ v, Rep s3.heap (retOf fl) v → Post c mu s P v s3 := fun v rv => ⟨retOf fl, mu3, hp, x1.trans x13, rv⟩
    cases rf with
    | next => exact fin _ .none
    | brk => exact fin _ .none
    | cont => exact fin _ .none
    | ret r => exact fin _ r

theorem CallV.fn {c : Cx} {n : Nat} {mu : Mu} {a : Addr} {fd : FuncData} {body : List Stmt} {args : List PV} {kw : List (Str × PV)} {P : PV → Mu → Prop} (hf : FnOk c a fd body)
    (h : Binds c mu fd args kw fun binds mu1 => (binds.map (·.1)).Nodup ∧ kindsOk fd.scope.names (binds.map (·.1)) = true ∧ ExS c n fd.scope binds mu1 body fun fl _ mu2 => P (retOf fl) mu2) :
    CallV c (n + 1) mu (.ref a) args kw P := by
  intro A s vs kvs hA ht S r rk
  refine wpAny_call ?_
  obtain ⟨o, ho, hd⟩ := hf.obj
  refine codeAny_call_function hA.room (S.base _ _ ho) hd hf.co hf.gen hf.body (hf.code.keeps S.base) ?_
  rw [hf.clos]
  refine wpAny_mono (wpAny_toks (h A.in1 s vs kvs (hA.in1.le (Nat.zero_le _)) S r rk)) (fun bv s1 p => ?_) fun _ _ x => x.2.elim
  obtain ⟨hle, binds, mu1, ⟨hnd, hko, hx⟩, x1, rb⟩ := p
  refine wpAny_with_toks (n := 1) (Nat.lt_of_lt_of_le ht hle) (wpAny_newFunctionEnv_cells hf.kind (fun y hy => ?_) fun env he s2 I ht2 => fn_body hf hA x1 rb hnd hko hx he I ht2)
  have := List.all_eq_true.mp hko y.1 (rb.names ▸ List.mem_map_of_mem hy)
  have q : fd.scope.names.lookup y.1 = some .local ∨ fd.scope.names.lookup y.1 = some .cell := by simpa using this
  exact q.imp id fun q => ⟨q, cellsFrom_has _ _ _ (.inl q)⟩
end Mine

open PySem PySem.W PySem.Calls PyProof.Rows
set_option Elab.async false
set_option linter.unusedVariables false
namespace Mine

def setL : Lm → Str → PV → Lm
  | [], x, d => [(x, d)]
  | (y, e) :: r, x, d => if y == x then (y, d) :: r else (y, e) :: setL r x d
theorem lookup_setL (m : Lm) (x : Str) (d : PV) (y : Str) : (setL m x d).lookup y = if y = x then some d else m.lookup y := by
  induction m with
  | nil =>
    simp only [setL, List.lookup_cons, List.lookup_nil]
    by_cases h : y = x
    · subst h; simp
    · have : (y == x) = false := beq_eq_false_iff_ne.mpr h
      simp [this, h]
  | cons p r ih =>
    obtain ⟨z, e⟩ := p
    simp only [setL]
    by_cases hz : z = x
    · subst hz
      simp only [beq_self_eq_true, if_true, List.lookup_cons]
      by_cases h : y = z
      · subst h; simp
      · have : (y == z) = false := beq_eq_false_iff_ne.mpr h
        simp [this, h]
    · have hz' : (z == x) = false := beq_eq_false_iff_ne.mpr hz
      simp only [hz', Bool.false_eq_true, if_false, List.lookup_cons]
      by_cases h : y = z
      · subst h; simp [hz]
      · have : (y == z) = false := beq_eq_false_iff_ne.mpr h
        simp only [this]
        exact ih

theorem ns_notT {h : Heap} {a : Addr} {m} (hn : h.Ns a m) : ∀ o, h.get? a = some o → ¬ IsT o := fun o e ht => by
  obtain ⟨o', es, ep, e', hd, _⟩ := hn
  rw [e] at e'; cases e'
  obtain ⟨_, xs, k, hq⟩ := ht
  rw [hd] at hq; cases hq
theorem cell_notT {h : Heap} {a : Addr} {v} (hn : h.IsCell a v) : ∀ o, h.get? a = some o → ¬ IsT o := fun o e ht => by
  obtain ⟨o', e', hd⟩ := hn
  rw [e] at e'; cases e'
  obtain ⟨_, xs, k, hq⟩ := ht
  rw [hd] at hq; cases hq

section
variable {c : Cx} {n : Nat} {sc : Scope} {m : Lm} {mu : Mu}

theorem Fm.weak {h : Heap} {env : Env} {m' : Lm} (F : Fm c mu h env m) (hw : ∀ x d, m'.lookup x = some d → m.lookup x = some d) : Fm c mu h env m' :=
  { F with
    loc := let ⟨mc, hn, hv⟩ := F.loc; ⟨mc, hn, fun x pv e hk => hv x pv (hw x pv e) hk⟩
    cel := fun x pv e hk => F.cel x pv (hw x pv e) hk }

/-- a name stored -/
theorem store {env : Env} {A : Around} {s : Shared} {x : Str} {v : Value} {d : PV} {K : Bool} (hk : env.kindOf x = some .local ∨ (K = true ∧ env.kindOf x = some .cell)) (S : St c mu s.heap) (F : Fm c mu s.heap env m) (r : Rep s.heap d v) :
    wpAny c.M A (storeName env x v) (fun _ s' => Step c (TchK K env) mu s mu s' ∧ Fm c mu s'.heap env (setL m x d)) NoE s := by
  obtain ⟨mc, hn, hv⟩ := F.loc
  rcases hk with hk | ⟨hK, hk⟩
  · refine wpAny_storeName_local hk hn (fun h' hn' hs' => ?_) (by rw [F.fn]; rfl)
    have hal : ∃ o, h'.get? env.locals = some o := let ⟨o, _, _, e, _⟩ := hn'; ⟨o, e⟩
    have x1 : Step c (TchK K env) mu s mu { s with heap := h', toks := s.toks + 1 } := Step.turn S F.offL F.notB (ns_notT hn) hs' (.inl rfl) hal
    have tk : TK s.heap h' := fun b o e ht => (hs'.2 b (fun q => by subst q; exact ns_notT hn o e ht)).trans e
    refine ⟨x1, ?_⟩
    exact { F with
      loc := ⟨_, hn', fun y pv e hky => by
        rw [lookup_setL] at e
        by_cases hy : y = x
        · rw [if_pos hy] at e; cases e; exact ⟨v, by simp [hy], r.mono tk⟩
        · rw [if_neg hy] at e
          obtain ⟨u, h1, h2⟩ := hv y pv e hky
          exact ⟨u, by simp [hy, h1], h2.mono tk⟩⟩
      cel := fun y pv e hky => by
        rw [lookup_setL] at e
        by_cases hy : y = x
        · rw [hy, hk] at hky; rcases hky with q | q <;> cases q
        · rw [if_neg hy] at e
          obtain ⟨ca, u, h1, h2, h3⟩ := F.cel y pv e hky
          exact ⟨ca, u, h1, h2.sameBut hs' (F.offC y ca h1).2.1, h3.mono tk⟩
      cells := fun y ca e => let ⟨u, h2⟩ := F.cells y ca e; ⟨u, h2.sameBut hs' (F.offC y ca e).2.1⟩ }
  · obtain ⟨ca, hca⟩ := F.has x hk
    obtain ⟨v0, hv0⟩ := F.cells x ca hca
    refine wpAny_storeName_cell F.fn hk hca hv0 fun h' hc' hs' => ?_
    have hal : ∃ o, h'.get? ca = some o := let ⟨o, e, _⟩ := hc'; ⟨o, e⟩
    have x1 : Step c (TchK K env) mu s mu { s with heap := h', toks := s.toks } := Step.turn S (F.offC x ca hca).1 (F.offC x ca hca).2.2 (cell_notT hv0) hs' (.inr ⟨hK, x, hca⟩) hal
    have tk : TK s.heap h' := fun b o e ht => (hs'.2 b (fun q => by subst q; exact cell_notT hv0 o e ht)).trans e
    refine ⟨x1, ?_⟩
    exact { F with
      loc := ⟨mc, hn.sameBut hs' (Ne.symm (F.offC x ca hca).2.1), fun y pv e hky => by
        rw [lookup_setL] at e
        by_cases hy : y = x
        · rw [hy, hk] at hky; cases hky
        · rw [if_neg hy] at e
          obtain ⟨u, h1, h2⟩ := hv y pv e hky
          exact ⟨u, h1, h2.mono tk⟩⟩
      cel := fun y pv e hky => by
        rw [lookup_setL] at e
        by_cases hy : y = x
        · rw [if_pos hy] at e; cases e; rw [hy]; exact ⟨ca, v, hca, hc', r.mono tk⟩
        · rw [if_neg hy] at e
          obtain ⟨cb, u, h1, h2, h3⟩ := F.cel y pv e hky
          exact ⟨cb, u, h1, h2.sameBut hs' (fun q => hy (F.apart y x ca (q ▸ h1) hca)), h3.mono tk⟩
      cells := fun y cb e => by
        by_cases hy : y = x
        · subst hy; rw [hca] at e; cases e; exact ⟨_, hc'⟩
        · obtain ⟨u, h2⟩ := F.cells y cb e
          exact ⟨u, h2.sameBut hs' (fun q => hy (F.apart y x ca (q ▸ e) hca))⟩ }

def kindB (K : Bool) (sc : Scope) (x : Str) : Bool := sc.names.lookup x == some .local || (K && sc.names.lookup x == some .cell)
theorem kind_of {K : Bool} {env : Env} (he : env.scope = sc) {x : Str} (h : kindB K sc x = true) : env.kindOf x = some .local ∨ (K = true ∧ env.kindOf x = some .cell) := by
  unfold Env.kindOf; rw [he]
  simpa [kindB] using h

/-! ## targets -/
theorem AsgT.name {K : Bool} {x : Str} {pos : Pos} {d : PV} {P : Lm → Mu → Prop} (hk : kindB K sc x = true) (h : P (setL m x d) mu) : AsgT K c n sc m mu (.Name x pos) d P := by
  intro env A s v he hA ht S F r
  show wpAny c.M A (do standAt pos; bindName env x v) _ _ s
  refine wpAny_bind (wpAny_standAt (wpAny_bindName ?_))
  exact wpAny_mono (store (kind_of he hk) S F r) (fun _ s' ⟨x1, F1⟩ => ⟨_, _, h, x1, F1⟩) fun _ _ x => x

theorem Step.toT {T : Addr → Prop} {mu1 : Mu} {s s1 : Shared} (x : Step c noT mu s mu1 s1) : Step c T mu s mu1 s1 := x.weaken fun _ h => h.elim
theorem Fm.tkT {K : Bool} {env : Env} {s s1 : Shared} {mu1 : Mu} (F : Fm c mu s.heap env m) (S : St c mu s.heap) (x : Step c (TchK K env) mu s mu1 s1) : TK s.heap s1.heap :=
  x.tk S fun b o hb e => by
    rcases hb with q | ⟨_, y, q⟩
    · subst q; obtain ⟨mc, hn, _⟩ := F.loc; exact ns_notT hn o e
    · obtain ⟨v, hv⟩ := F.cells y b q; exact cell_notT hv o e

/-- several targets in order -/
def AsgL (K : Bool) (c : Cx) (n : Nat) (sc : Scope) (m : Lm) (mu : Mu) (ts : List PySem.Expr) (ds : List PV) (P : Lm → Mu → Prop) : Prop :=
  ∀ env A s vs, env.scope = sc → AOk n A → 0 < s.toks → St c mu s.heap → Fm c mu s.heap env m → Reps s.heap ds vs →
    wpAny c.M A (assignInOrder ((assignEach ts env).map (·.2)) vs) (fun _ s' => ∃ m' mu', P m' mu' ∧ Step c (TchK K env) mu s mu' s' ∧ Fm c mu' s'.heap env m') NoE s
theorem AsgL.nil {K : Bool} {P : Lm → Mu → Prop} (h : P m mu) : AsgL K c n sc m mu [] [] P := fun env A s vs he hA ht S F r => by
  cases r
  exact wpAny_pure ⟨m, mu, h, Step.refl S, F⟩
theorem AsgL.cons {K : Bool} {t : PySem.Expr} {ts : List PySem.Expr} {d : PV} {ds : List PV} {P : Lm → Mu → Prop} (h : AsgT K c n sc m mu t d fun m1 mu1 => AsgL K c n sc m1 mu1 ts ds P)
    (hs : ∀ env, assignEach (t :: ts) env = (false, assign t env) :: assignEach ts env := by intro _; rfl) : AsgL K c n sc m mu (t :: ts) (d :: ds) P := by
  intro env A s vs he hA ht S F r
  cases r with
  | @cons _ v _ vs r0 rs =>
  rw [hs]
  show wpAny c.M A (do holding vs (assign t env v); assignInOrder ((assignEach ts env).map (·.2)) vs) _ _ s
  refine wpAny_bind (wpAny_holding (wpAny_mono (wpAny_toks (h env A s v he hA ht S F r0)) (fun _ s1 p => ?_) fun _ _ x => x.2))
  obtain ⟨hle, m1, mu1, h1, x1, F1⟩ := p
  refine wpAny_mono (h1 env A s1 vs he hA (Nat.lt_of_lt_of_le ht hle) x1.st F1 (rs.mono (F.tkT S x1))) (fun _ s2 p => ?_) fun _ _ x => x
  obtain ⟨m2, mu2, h2, x2, F2⟩ := p
  exact ⟨m2, mu2, h2, x1.trans x2, F2⟩
theorem AsgT.tuple {K : Bool} {ts : List PySem.Expr} {k : Nat} {pos : Pos} {ds : List PV} {P : Lm → Mu → Prop} (h : AsgL K c n sc m mu ts ds P) (hlen : ts.length = ds.length)
    (hst : ∀ env, (assignEach ts env).length = ts.length ∧ (assignEach ts env).findIdx? (·.1) = none := by intro _; exact ⟨rfl, rfl⟩) : AsgT K c n sc m mu (.Tuple ts k pos) (.tuple ds) P := by
  intro env A s v he hA ht S F r
  cases r with
  | @tuple a vs q _ e rs =>
  refine wpAny_assign_Tuple (items := vs.toArray) hA.hd ⟨_, e, rfl, _, rfl⟩ (by rw [(hst env).1, hlen]; simp [rs.length]) (hst env).2 fun h' hk => ?_
  have x1 : Step c noT mu s mu { s with heap := h', toks := s.toks } := Step.ext S fun b o q => hk b o (Nat.ne_of_lt (Heap.lt_size q)) q
  refine wpAny_mono (h env A _ vs he hA ht x1.st (F.step S x1) (rs.mono (x1.tk0 S))) (fun _ s2 p => ?_) fun _ _ x => x
  obtain ⟨m2, mu2, h2, x2, F2⟩ := p
  exact ⟨m2, mu2, h2, (x1.toT).trans x2, F2⟩

/-! ## statements -/
theorem ExS.nil {P : FV → Lm → Mu → Prop} (h : P .next m mu) : ExS c n sc m mu [] P := fun env A s he hA ht S F => wpAny_execs_nil ⟨.next, m, mu, h, Step.refl S, F, .next⟩
theorem ExS.cons {st : Stmt} {ss : List Stmt} {P : FV → Lm → Mu → Prop}
    (h : Ex1 c n sc m mu st fun fl m1 mu1 => match fl with | .next => ExS c n sc m1 mu1 ss P | fl => P fl m1 mu1) : ExS c n sc m mu (st :: ss) P := by
  intro env A s he hA ht S F
  refine wpAny_execs_cons (wpAny_mono (wpAny_toks (h env A s he hA ht S F)) (fun f s1 p => ?_) fun _ _ x => x.2)
  obtain ⟨hle, fl, m1, mu1, hp, x1, F1, rf⟩ := p
  cases rf with
  | next => exact wpAny_mono (hp env A s1 he hA (Nat.lt_of_lt_of_le ht hle) x1.st F1) (fun _ _ q => q.after x1) fun _ _ x => x
  | brk => exact ⟨.brk, m1, mu1, hp, x1, F1, .brk⟩
  | cont => exact ⟨.cont, m1, mu1, hp, x1, F1, .cont⟩
  | ret r => exact ⟨.ret _, m1, mu1, hp, x1, F1, .ret r⟩
theorem Ex1.assign {t value : PySem.Expr} {pos : Pos} {P : FV → Lm → Mu → Prop} (h : EvE c n sc m mu value fun d mu1 => AsgT true c n sc m mu1 t d fun m2 mu2 => P .next m2 mu2)
    (h1 : ∀ env, env.scope = sc → swapsWithSole [t] value pos.line env = pure false := by intro _ _; rfl) (h2 : ∀ env, swappedStores [t] value env = pure none := by intro _; rfl)
    (h3 : ∀ env, (assignEach [t] env).map (·.2) = [assign t env] := by intro _; rfl) : Ex1 c n sc m mu (.Assign [t] value pos) P := by
  intro env A s he hA ht S F
  show wpAny c.M A (do
    standAt pos
    if ← swapsWithSole [t] value pos.line env then do
      evalThenUse value env fun v => assignAll v ((assignEach [t] env).map (·.2))
      pure .next
    else do
      let v ← eval value env
      assignStores env v (← swappedStores [t] value env) ((assignEach [t] env).map (·.2))) _ _ s
  rw [h1 env he, h2, h3]
  refine wpAny_bind (wpAny_standAt (wpAny_bind (wpAny_pure ?_)))
  simp only [Bool.false_eq_true, if_false]
  refine wpAny_bind (EvE.bind h he hA ht S F fun v s1 d mu1 hp x1 t1 S1 F1 r1 _ => wpAny_bind (wpAny_pure ?_))
  unfold assignStores assignAll
  refine wpAny_bind (wpAny_mono (hp env A s1 v he hA t1 S1 F1 r1) (fun _ s2 p => ?_) fun _ _ x => x)
  obtain ⟨m2, mu2, h2, x2, F2⟩ := p
  exact wpAny_pure ⟨.next, m2, mu2, h2, (x1.toT).trans x2, F2, .next⟩
theorem Ex1.if {t : PySem.Expr} {b o : List Stmt} {pos : Pos} {P : FV → Lm → Mu → Prop} (h : Tst c n sc m mu t fun r mu1 => if r = true then ExS c n sc m mu1 b P else ExS c n sc m mu1 o P) : Ex1 c n sc m mu (.If t b o pos) P := by
  intro env A s he hA ht S F
  refine wpAny_If (Tst.bind h he hA ht S F fun r s1 mu1 hp x1 t1 S1 F1 _ => ?_)
  cases r with
  | true => exact wpAny_mono (hp env A s1 he hA t1 S1 F1) (fun _ _ q => q.after x1.toT) fun _ _ x => x
  | false => exact wpAny_mono (hp env A s1 he hA t1 S1 F1) (fun _ _ q => q.after x1.toT) fun _ _ x => x
theorem Ex1.ret {e : PySem.Expr} {pos : Pos} {P : FV → Lm → Mu → Prop} (h : EvE c n sc m mu e fun d mu1 => P (.ret d) m mu1) : Ex1 c n sc m mu (.Return (some e) pos) P := by
  intro env A s he hA ht S F
  refine wpAny_Return_some (EvE.bind h he hA ht S F fun v s1 d mu1 hp x1 t1 S1 F1 r1 _ => ?_)
  exact ⟨.ret d, m, mu1, hp, x1.toT, F1, .ret r1⟩
def PV.isRef : PV → Bool
  | .ref _ | .tuple _ => true
  | _ => false
theorem Ex1.expr {e : PySem.Expr} {pos : Pos} {P : FV → Lm → Mu → Prop} (h : EvE c n sc m mu e fun d mu1 => d.isRef = false ∧ P .next m mu1)
    (hs : ∀ env, swapsWith e none pos.line env = pure false := by intro _; rfl) : Ex1 c n sc m mu (.Expr e pos) P := by
  intro env A s he hA ht S F
  have hi : interactive env = false := by unfold interactive; rw [F.fn]; rfl
  rw [exec_Expr env e pos hi (hs env)]
  refine wpAny_bind (wpAny_standAt (wpAny_bind (EvE.bind h he hA ht S F fun v s1 d mu1 hp x1 t1 S1 F1 r1 _ => ?_)))
  have hv : ∀ a, v ≠ .ref a := fun a q => by subst q; cases r1 <;> cases hp.1
  rw [dropValue_plain hv]
  exact wpAny_pure ⟨.next, m, mu1, hp.2, x1.toT, F1, .next⟩
theorem loadN {env : Env} {A : Around} {s : Shared} {x : Str} {d : PV} {Q : Value → Shared → Prop} {E : Value → Shared → Prop} (hk : env.kindOf x = some .local ∨ env.kindOf x = some .cell) (hl : m.lookup x = some d) (F : Fm c mu s.heap env m)
    (h : ∀ v, Rep s.heap d v → Q v s) : wpAny c.M A (loadName env x) Q E s := by
  rcases hk with hk | hk
  · obtain ⟨mc, hn, hv⟩ := F.loc
    obtain ⟨v, h1, h2⟩ := hv x d hl hk
    exact wpAny_loadName_local F.fn hk hn h1 (h v h2)
  · obtain ⟨ca, v, h1, h2, h3⟩ := F.cel x d hl (.inl hk)
    exact wpAny_loadName_cell F.fn hk h1 h2 (h v h3)
theorem Ex1.aug {x : Str} {pos' pos : Pos} {op : Operator} {value : PySem.Expr} {a : PV} {P : FV → Lm → Mu → Prop} (hl : m.lookup x = some a) (hk : kindB true sc x = true)
    (h : EvE c n sc m mu value fun b mu2 => OpI c n mu2 op a b fun d mu3 => P .next (setL m x d) mu3) : Ex1 c n sc m mu (.AugAssign (.Name x pos') op value pos) P := by
  intro env A s he hA ht S F
  refine wpAny_AugAssign_Name (loadN ((kind_of he hk).imp id And.right) hl F fun va ra => ?_)
  refine EvE.bind h he hA ht S F fun vb s2 b mu2 h2 x2 t2 S2 F2 r2 k2 => ?_
  refine post_bind (h2 A s2 va vb hA t2 S2 (ra.mono k2) r2) t2 S2 fun vd s3 d mu3 h3 x3 t3 S3 r3 k3 => ?_
  refine wpAny_mono (store (kind_of he hk) S3 (F2.step S2 x3) r3) (fun _ s4 ⟨x4, F4⟩ => ?_) fun _ _ x => x
  exact ⟨.next, _, mu3, h3, ((x2.trans x3).toT).trans x4, F4, .next⟩
end
end Mine

open PySem PySem.W PySem.Calls PyProof.Rows
set_option Elab.async false
set_option linter.unusedVariables false
namespace Mine

/-! # iteration -/
structure Iter (c : Cx) (n : Nat) (okT : PySem.Expr → Prop) (I : Addr) (priv : List Addr) (src : Mu → Prop) (xs : List PV) (J : Nat → Heap → Prop) : Prop where
  frame : ∀ i h h', J i h → (∀ b ∈ priv, ∀ o, h.get? b = some o → h'.get? b = some o) → TK h h' → J i h'
  notT : ∀ i h, J i h → ∀ b ∈ priv, ∃ o, h.get? b = some o ∧ ¬ IsT o
  next : ∀ i d A s mu target, okT target → xs[i]? = some d → AOk n A → 0 < s.toks → St c mu s.heap → src mu → (∀ b ∈ priv, mu b = none) → J i s.heap →
    wpAny c.M A (pyNext (.ref I)) (fun r s1 => ∃ v, r = some v ∧ wpAny c.M A (letOwnedTupleGo target (.ref I) v)
      (fun _ s' => ∃ h' tk, s' = { s with heap := h', toks := tk } ∧ (∀ b o, b ∉ priv → s.heap.get? b = some o → h'.get? b = some o) ∧ Rep h' d v ∧ J (i + 1) h') NoE s1) NoE s
  self : ∀ i A s (Q : Value → Shared → Prop) E, AOk n A → J i s.heap → Q (.ref I) s → wpAny c.M A (pyIter (.ref I)) Q E s
  done : ∀ i A s mu, i = xs.length → AOk n A → 0 < s.toks → St c mu s.heap → src mu → (∀ b ∈ priv, mu b = none) → J i s.heap →
    wpAny c.M A (pyNext (.ref I)) (fun r s' => r = none ∧ ∃ h' tk, s' = { s with heap := h', toks := tk } ∧ (∀ b o, b ∉ priv → s.heap.get? b = some o → h'.get? b = some o)) NoE s

/-- what pyIter of a value gives: the items, the objects that go out of the ledger -/
def IterOf (c : Cx) (n : Nat) (okT : PySem.Expr → Prop) (mu : Mu) (d : PV) (xs : List PV) (src : Mu → Prop) (mu1 : Mu) : Prop :=
  Sub mu1 mu ∧ ∀ A s v, AOk n A → 0 < s.toks → St c mu s.heap → Rep s.heap d v →
    wpAny c.M A (pyIter v) (fun it s' => ∃ I priv J h' tk, it = .ref I ∧ s' = { s with heap := h', toks := tk } ∧ (∀ b o, b ∉ priv → s.heap.get? b = some o → h'.get? b = some o) ∧
      (∀ b ∈ priv, c.base.get? b = none ∧ mu1 b = none ∧ (s.heap.get? b = none ∨ mu b ≠ none)) ∧ Iter c n okT I priv src xs J ∧ J 0 h') NoE s

/-- behind a private step -/
theorem St.priv {c : Cx} {mu : Mu} {h h' : Heap} {priv : List Addr} (S : St c mu h) (hp : ∀ b ∈ priv, mu b = none ∧ c.base.get? b = none) (hk : ∀ b o, b ∉ priv → h.get? b = some o → h'.get? b = some o) (tk : TK h h') : St c mu h' :=
  ⟨fun b o e => hk b o (fun q => by have := (hp b q).2; rw [e] at this; cases this) (S.base b o e),
   fun a o e => (S.objs a o e).mono (fun o' q => hk a o' (fun p => by have := (hp a p).1; rw [e] at this; cases this) q) tk, S.new⟩

def LoopE (c : Cx) (n : Nat) (sc : Scope) (src : Mu → Prop) (target : PySem.Expr) (body orelse : List Stmt) (P : FV → Lm → Mu → Prop) : List PV → Lm → Mu → Prop
  | [], m, mu => src mu ∧ ExS c n sc m mu orelse P
  | x :: xs, m, mu => src mu ∧ AsgT true c n sc m mu target x fun m1 mu1 => ExS c n sc m1 mu1 body fun fl m2 mu2 => match fl with
    | .next | .cont => LoopE c n sc src target body orelse P xs m2 mu2
    | .brk => P .next m2 mu2
    | .ret r => P (.ret r) m2 mu2

section
variable {c : Cx} {n : Nat} {sc : Scope} {m : Lm} {mu : Mu}

theorem tk_priv {h h' : Heap} {priv : List Addr} (hn : ∀ b ∈ priv, ∃ o, h.get? b = some o ∧ ¬ IsT o) (hk : ∀ b o, b ∉ priv → h.get? b = some o → h'.get? b = some o) : TK h h' :=
  fun a o e ht => hk a o (fun q => by obtain ⟨o', e', hn'⟩ := hn a q; rw [e] at e'; cases e'; exact hn' ht) e

theorem Fm.priv {env : Env} {h h' : Heap} {priv : List Addr} (F : Fm c mu h env m) (hL : env.locals ∉ priv) (hC : ∀ x ca, env.cells.lookup x = some ca → ca ∉ priv) (hk : ∀ b o, b ∉ priv → h.get? b = some o → h'.get? b = some o) (tk : TK h h') : Fm c mu h' env m := by
  obtain ⟨mc, hn, hv⟩ := F.loc
  exact { F with
    loc := ⟨mc, hn.at' fun o e => hk _ o hL e, fun y pv e hky => let ⟨v, a, b⟩ := hv y pv e hky; ⟨v, a, b.mono tk⟩⟩
    cel := fun y pv e hky => let ⟨ca, v, a, ⟨o, b, d⟩, r⟩ := F.cel y pv e hky; ⟨ca, v, a, ⟨o, hk ca o (hC y ca a) b, d⟩, r.mono tk⟩
    cells := fun y ca e => let ⟨v, ⟨o, b, d⟩⟩ := F.cells y ca e; ⟨v, ⟨o, hk ca o (hC y ca e) b, d⟩⟩ }

/-- the running loop: what is known between two turns -/
structure Mid (c : Cx) (env : Env) (mu0 : Mu) (s0 : Shared) (priv : List Addr) (J : Nat → Heap → Prop) (i : Nat) (m : Lm) (mu : Mu) (s : Shared) : Prop where
  step : Step c (Tch env) mu0 s0 mu s
  fm : Fm c mu s.heap env m
  pv : ∀ b ∈ priv, mu b = none ∧ c.base.get? b = none
  j : J i s.heap
  toks : 0 < s.toks

theorem for_loop {okT : PySem.Expr → Prop} {I : Addr} {priv : List Addr} {src : Mu → Prop} {xs : List PV} {J : Nat → Heap → Prop} {target : PySem.Expr} {body orelse : List Stmt} {P : FV → Lm → Mu → Prop} {env : Env} {A : Around} {mu0 : Mu} {s0 : Shared}
    (W : Iter c n okT I priv src xs J) (hT : okT target) (he : env.scope = sc) (hA : AOk n A) (hL : env.locals ∉ priv) (hC : ∀ x ca, env.cells.lookup x = some ca → ca ∉ priv)
    (h0 : ∀ b ∈ priv, s0.heap.get? b = none ∨ mu0 b ≠ none)
    (i : Nat) (hi : i ≤ xs.length) (s : Shared) (hl : LoopE c n sc src target body orelse P (xs.drop i) m mu) (hm : Mid c env mu0 s0 priv J i m mu s) :
    codeAny c.M A (.forLoop target (.ref I) body orelse env) (fun r s' => match r with | .ok f => PostS c env mu0 s0 P f s' | .error e => cameBackBy c.M A env NoE e s') s := by
  refine codeAny_forLoop_any (fun k s' => ∃ i m mu, k = xs.length + 1 - i ∧ i ≤ xs.length ∧ LoopE c n sc src target body orelse P (xs.drop i) m mu ∧ Mid c env mu0 s0 priv J i m mu s') ?_ (xs.length + 1 - i) ⟨i, m, mu, rfl, hi, hl, hm⟩
  clear hl hm
  rintro k s ⟨i, m, mu, rfl, hi, hl, hm⟩
  have hpm : ∀ b ∈ priv, mu b = none := fun b hb => (hm.pv b hb).1
  cases hx : xs.drop i with
  | nil =>
    rw [hx] at hl
    have hxi : i = xs.length := by have := congrArg List.length hx; simp at this; omega
    refine wpAny_mono (wpAny_toks (W.done i A s mu hxi hA hm.toks hm.step.st hl.1 hpm hm.j)) (fun r s1 p => ?_) fun _ _ x => x.2.elim
    obtain ⟨hle, rfl, h', tk, rfl, hk⟩ := p
    have tkk := tk_priv (W.notT i _ hm.j) hk
    have S1 : St c mu h' := hm.step.st.priv hm.pv hk tkk
    have F1 : Fm c mu h' env m := hm.fm.priv hL hC hk tkk
    have x1 : Step c (Tch env) mu0 s0 mu { s with heap := h', toks := tk } := {
      shape := by obtain ⟨h2, tk2, e⟩ := hm.step.shape; rw [e]; exact ⟨_, _, rfl⟩
      st := S1
      keep := fun b o e hmb hTb => hk b o (fun q => by rcases h0 b q with z | z; rw [e] at z; cases z; exact z hmb) (hm.step.keep b o e hmb hTb)
      alive := fun b o e hmb => by
        obtain ⟨o1, e1⟩ := hm.step.alive b o e hmb
        exact ⟨o1, hk b o1 (fun q => by rcases h0 b q with z | z; rw [e] at z; cases z; exact z hmb) e1⟩
      dom := hm.step.dom }
    refine wpAny_mono (hl.2 env A _ he hA (Nat.lt_of_lt_of_le hm.toks hle) S1 F1) (fun f s3 p => p.after x1) fun _ _ x => x.elim
  | cons d rest =>
    rw [hx] at hl
    have hxi : xs[i]? = some d := by
      have := congrArg (fun l => l[0]?) hx
      simpa using this
    have hlt : i < xs.length := (List.getElem?_eq_some_iff.mp hxi).1
    have hrest : xs.drop (i + 1) = rest := by
      have := congrArg List.tail hx
      simpa [List.tail_drop] using this
    refine wpAny_mono (wpAny_toks (W.next i d A s mu target hT hxi hA hm.toks hm.step.st hl.1 hpm hm.j)) (fun r s1 p => ?_) fun _ _ x => x.2.elim
    obtain ⟨hle, v, rfl, p⟩ := p
    refine wpAny_mono (wpAny_toks p) (fun _ s2 p => ?_) fun _ _ x => x.2.elim
    obtain ⟨hle2, h', tk, rfl, hk, rd, hj⟩ := p
    have tkk := tk_priv (W.notT i _ hm.j) hk
    have S1 : St c mu h' := hm.step.st.priv hm.pv hk tkk
    have F1 : Fm c mu h' env m := hm.fm.priv hL hC hk tkk
    have t1 : 0 < tk := Nat.lt_of_lt_of_le (Nat.lt_of_lt_of_le hm.toks hle) hle2
    have x1 : Step c (Tch env) mu0 s0 mu { s with heap := h', toks := tk } := {
      shape := by obtain ⟨h2, tk2, e⟩ := hm.step.shape; rw [e]; exact ⟨_, _, rfl⟩
      st := S1
      keep := fun b o e hmb hTb => hk b o (fun q => by rcases h0 b q with z | z; rw [e] at z; cases z; exact z hmb) (hm.step.keep b o e hmb hTb)
      alive := fun b o e hmb => by
        obtain ⟨o1, e1⟩ := hm.step.alive b o e hmb
        exact ⟨o1, hk b o1 (fun q => by rcases h0 b q with z | z; rw [e] at z; cases z; exact z hmb) e1⟩
      dom := hm.step.dom }
    have offT : ∀ b ∈ priv, ¬ Tch env b := fun b hb q => by
      rcases q with q | ⟨_, y, q⟩
      · exact hL (q ▸ hb)
      · exact hC y b q hb
    have next : ∀ {mu2 : Mu} {sa sb : Shared}, Step c (Tch env) mu sa mu2 sb → J (i + 1) sa.heap → TK sa.heap sb.heap → J (i + 1) sb.heap ∧ ∀ b ∈ priv, mu2 b = none ∧ c.base.get? b = none := fun {mu2 sa sb} x hja tka => by
      refine ⟨W.frame _ _ _ hja (fun b hb o e => x.keep b o e (hpm b hb) (offT b hb)) tka, fun b hb => ⟨?_, (hm.pv b hb).2⟩⟩
      obtain ⟨o, e, _⟩ := W.notT _ _ hja b hb
      exact keepNone x e (hpm b hb)
    refine wpAny_mono (wpAny_toks (hl.2 env A _ v he hA t1 S1 F1 rd)) (fun _ s3 p => ?_) fun _ _ x => x.2.elim
    obtain ⟨hle3, m3, mu3, h3, x3, F3⟩ := p
    have t3 : 0 < s3.toks := Nat.lt_of_lt_of_le t1 hle3
    refine wpAny_mono (wpAny_toks (h3 env A s3 he hA t3 x3.st F3)) (fun f s4 p => ?_) fun _ _ x => x.2.elim
    obtain ⟨hle4, fl, m4, mu4, h4, x4, F4, rf⟩ := p
    have x34 := x3.trans x4
    have more : LoopE c n sc src target body orelse P (xs.drop (i + 1)) m4 mu4 → ∃ k', k' < xs.length + 1 - i ∧ ∃ i m mu, k' = xs.length + 1 - i ∧ i ≤ xs.length ∧ LoopE c n sc src target body orelse P (xs.drop i) m mu ∧ Mid c env mu0 s0 priv J i m mu s4 := fun hlo => by
      obtain ⟨hj4, hp4⟩ := next x34 hj (F1.tkT S1 x34)
      exact ⟨xs.length + 1 - (i + 1), by omega, i + 1, m4, mu4, rfl, hlt, hlo, x1.trans x34, F4, hp4, hj4, Nat.lt_of_lt_of_le t3 hle4⟩
    cases rf with
    | next => exact more (hrest ▸ h4)
    | cont => exact more (hrest ▸ h4)
    | brk => exact ⟨.next, m4, mu4, h4, x1.trans x34, F4, .next⟩
    | ret r => exact ⟨.ret _, m4, mu4, h4, x1.trans x34, F4, .ret r⟩

theorem Ex1.for {okT : PySem.Expr → Prop} {target iter : PySem.Expr} {body orelse : List Stmt} {pos : Pos} {P : FV → Lm → Mu → Prop} (hT : okT target)
    (h : EvE c n sc m mu iter fun d mu1 => ∃ xs src mu2, IterOf c n okT mu1 d xs src mu2 ∧ LoopE c n sc src target body orelse P xs m mu2)
    (hs : ∀ env x, foldedSetIterable iter env x = pure x := by intro _ _; rfl) : Ex1 c n sc m mu (.For target iter body orelse pos) P := by
  intro env A s he hA ht S F
  show wpAny c.M A (do
    standAt pos
    let x ← foldedSetIterable iter env (← eval iter env)
    standAt iter.pos
    runOwn (.forLoop target (← holding [x] (pyIter x)) body orelse env) env) _ _ s
  refine wpAny_bind (wpAny_standAt (wpAny_bind (EvE.bind h he hA ht S F fun v s1 d mu1 hp x1 t1 S1 F1 r1 _ => ?_)))
  rw [hs]
  obtain ⟨xs, src, mu2, ⟨hsub, hit⟩, hlo⟩ := hp
  refine wpAny_bind (wpAny_pure (wpAny_bind (wpAny_standAt (wpAny_bind (wpAny_holding (wpAny_mono (wpAny_toks (hit A s1 v hA t1 S1 r1)) (fun it s2 p => ?_) fun _ _ x => x.2.elim))))))
  obtain ⟨hle, I, priv, J, h', tk, rfl, rfl, hk, hpv, W, hj⟩ := p
  refine wpAny_runOwn ?_
  have hn1 : ∀ b ∈ priv, ∀ o, s1.heap.get? b = some o → mu1 b ≠ none := fun b hb o e => by
    rcases (hpv b hb).2.2 with z | z
    · rw [e] at z; cases z
    · exact z
  have hL : env.locals ∉ priv := fun q => by
    obtain ⟨mc, hn, _⟩ := F1.loc
    obtain ⟨o, _, _, e, _⟩ := hn
    exact hn1 _ q o e F1.offL
  have hC : ∀ x ca, env.cells.lookup x = some ca → ca ∉ priv := fun x ca hx q => by
    obtain ⟨_, o, e, _⟩ := F1.cells x ca hx
    exact hn1 _ q o e (F1.offC x ca hx).1
  have tkk : TK s1.heap h' := fun a o e hto => hk a o (fun q => hn1 a q o e (S1.tupOff e hto)) e
  have sub0 : ∀ b, mu2 b ≠ none → mu1 b ≠ none := fun b hb => by
    obtain ⟨o, e⟩ := Option.ne_none_iff_exists'.mp hb
    rw [hsub b o e]; simp
  have S1' : St c mu2 s1.heap := ⟨S1.base, fun a o e => S1.objs a o (hsub a o e), fun a ha => S1.new a (sub0 a ha)⟩
  have S2 : St c mu2 h' := S1'.priv (fun b hb => ⟨(hpv b hb).2.1, (hpv b hb).1⟩) hk tkk
  have off2 : ∀ b, mu1 b = none → mu2 b = none := fun b hb => by
    cases q : mu2 b with
    | none => rfl
    | some z => exact absurd hb (sub0 b (by rw [q]; simp))
  have F2 : Fm c mu2 h' env m := { (F1.priv hL hC hk tkk) with
    offL := off2 _ F1.offL
    offC := fun x ca e => ⟨off2 _ (F1.offC x ca e).1, (F1.offC x ca e).2⟩ }
  have x2 : Step c (Tch env) mu1 s1 mu2 { s1 with heap := h', toks := tk } := {
    shape := ⟨_, _, rfl⟩
    st := S2
    keep := fun b o e hm _ => hk b o (fun q => hn1 b q o e hm) e
    alive := fun b o e hm => ⟨o, hk b o (fun q => hn1 b q o e hm) e⟩
    dom := fun b hb => .inl (sub0 b hb) }
  exact codeAny_mono (for_loop W hT he hA hL hC (mu0 := mu1) (s0 := s1) (fun b hb => (hpv b hb).2.2) 0 (Nat.zero_le _) _ (by simpa using hlo)
    ⟨x2, F2, fun b hb => ⟨(hpv b hb).2.1, (hpv b hb).1⟩, hj, Nat.lt_of_lt_of_le t1 hle⟩) fun r s' q => by
      cases r with
      | ok f => exact q.after x1.toT
      | error e => exact q
end
end Mine

open PySem PySem.W PySem.Calls PyProof.Rows
set_option Elab.async false
set_option linter.unusedVariables false
namespace Mine

/-! # comprehensions -/
def relab (scope sc : Scope) : Scope :=
  { scope with names := scope.names.map fun (n, k) => if (k == .free && sc.kind == .function && sc.names.lookup n == some .cell) then (n, .cell) else (n, k) }
def capt (scope : Scope) (m : Lm) : Lm := m.filter fun p => scope.names.lookup p.1 == some .free
theorem lookup_capt {scope : Scope} {m : Lm} {x : Str} {d : PV} (h : (capt scope m).lookup x = some d) : scope.names.lookup x = some .free ∧ m.lookup x = some d := by
  unfold capt at h
  induction m with
  | nil => simp at h
  | cons p r ih =>
    obtain ⟨y, e⟩ := p
    by_cases hp : scope.names.lookup y = some .free
    · have hb : (scope.names.lookup y == some NameKind.free) = true := by rw [hp]; rfl
      rw [List.filter_cons_of_pos (by simpa using hp), List.lookup_cons] at h
      rw [List.lookup_cons]
      cases hxy : x == y with
      | true => rw [hxy] at h; exact ⟨by rw [beq_iff_eq.mp hxy]; exact hp, h⟩
      | false => rw [hxy] at h; exact ih h
    · rw [List.filter_cons_of_neg (by simpa using hp)] at h
      rw [List.lookup_cons]
      cases hxy : x == y with
      | true => have := (ih h).1; rw [beq_iff_eq.mp hxy] at this; exact absurd this hp
      | false => exact ih h
theorem lookup_relab {sc : Scope} : ∀ {names : List (Str × NameKind)} {x : Str} {k : NameKind}, names.lookup x = some k →
    (names.map fun (n, k) => if (k == NameKind.free && sc.kind == .function && sc.names.lookup n == some .cell) then (n, NameKind.cell) else (n, k)).lookup x = some (if (k == NameKind.free && sc.kind == .function && sc.names.lookup x == some .cell) = true then .cell else k)
  | [], _, _, h => by simp at h
  | (y, k') :: r, x, k, h => by
    rw [List.lookup_cons] at h
    simp only [List.map_cons]
    cases hxy : x == y with
    | true =>
      rw [hxy] at h; cases h
      have := beq_iff_eq.mp hxy; subst this
      by_cases hc : (k' == NameKind.free && sc.kind == .function && sc.names.lookup x == some .cell) = true
      · rw [if_pos hc, if_pos hc, List.lookup_cons, beq_self_eq_true]
      · rw [if_neg hc, if_neg hc, List.lookup_cons, beq_self_eq_true]
    | false =>
      rw [hxy] at h
      have ih := lookup_relab (sc := sc) h
      by_cases hc : (k' == NameKind.free && sc.kind == .function && sc.names.lookup y == some .cell) = true
      · rw [if_pos hc, List.lookup_cons, hxy]; exact ih
      · rw [if_neg hc, List.lookup_cons, hxy]; exact ih
theorem lookup_relab_none {sc : Scope} : ∀ {names : List (Str × NameKind)} {x : Str}, names.lookup x = none →
    (names.map fun (n, k) => if (k == NameKind.free && sc.kind == .function && sc.names.lookup n == some .cell) then (n, NameKind.cell) else (n, k)).lookup x = none
  | [], _, _ => rfl
  | (y, k') :: r, x, h => by
    rw [List.lookup_cons] at h
    simp only [List.map_cons]
    cases hxy : x == y with
    | true => rw [hxy] at h; cases h
    | false =>
      rw [hxy] at h
      have ih := lookup_relab_none (sc := sc) h
      by_cases hc : (k' == NameKind.free && sc.kind == .function && sc.names.lookup y == some .cell) = true
      · rw [if_pos hc, List.lookup_cons, hxy]; exact ih
      · rw [if_neg hc, List.lookup_cons, hxy]; exact ih

/-- the closure that a comprehension takes -/
theorem closure_go {env : Env} : ∀ (names : List (Str × NameKind)) (acc : List (Str × Addr)), (∀ x ∈ names, x.2 = .free → ∃ ca, env.cells.lookup x.1 = some ca) →
    ∃ cl : List (Str × Addr), (forIn names acc fun (x : Str × NameKind) (r : List (Str × Addr)) => if (x.2 == NameKind.free) = true then do let a ← cellOf env x.1; pure (ForInStep.yield ((x.1, a) :: r)) else pure (ForInStep.yield r)) = (pure cl : Sem (List (Str × Addr))) ∧
      (∀ p ∈ cl, p ∈ acc ∨ env.cells.lookup p.1 = some p.2) ∧ (∀ x ∈ names, x.2 = .free → (cl.lookup x.1).isSome = true) ∧ (∀ x, (acc.lookup x).isSome = true → (cl.lookup x).isSome = true)
  | [], acc, _ => ⟨acc, rfl, fun p hp => .inl hp, fun _ hx => (nomatch hx), fun _ h => h⟩
  | (y, k) :: r, acc, h => by
    have hr := fun x hx => h x (List.mem_cons_of_mem _ hx)
    by_cases hk : k = .free
    · subst hk
      obtain ⟨ca, hca⟩ := h (y, .free) List.mem_cons_self rfl
      obtain ⟨cl, e, h1, h2, h3⟩ := closure_go (env := env) r ((y, ca) :: acc) hr
      have hc : cellOf env y = pure ca := by unfold cellOf; rw [hca]
      refine ⟨cl, ?_, fun p hp => ?_, fun x hx hf => ?_, fun x hx => h3 x ?_⟩
      · rw [List.forIn_cons]
        show ((if (NameKind.free == NameKind.free) = true then do let a ← cellOf env y; pure (ForInStep.yield ((y, a) :: acc)) else pure (ForInStep.yield acc)) >>= _) = _
        rw [if_pos (by rfl), hc, pure_bind, pure_bind]; exact e
      · rcases h1 p hp with q | q
        · rcases List.mem_cons.mp q with q | q
          · subst q; exact .inr hca
          · exact .inl q
        · exact .inr q
      · rcases List.mem_cons.mp hx with q | q
        · subst q; exact h3 y (by rw [List.lookup_cons, beq_self_eq_true]; rfl)
        · exact h2 x q hf
      · rw [List.lookup_cons]; cases x == y <;> simp_all
    · obtain ⟨cl, e, h1, h2, h3⟩ := closure_go (env := env) r acc hr
      have hb : (k == NameKind.free) = false := by simpa using hk
      refine ⟨cl, ?_, h1, fun x hx hf => ?_, h3⟩
      · rw [List.forIn_cons]
        show ((if (k == NameKind.free) = true then do let a ← cellOf env y; pure (ForInStep.yield ((y, a) :: acc)) else pure (ForInStep.yield acc)) >>= _) = _
        rw [if_neg (by rw [hb]; exact Bool.false_ne_true), pure_bind]; exact e
      · rcases List.mem_cons.mp hx with q | q
        · subst q; exact absurd hf hk
        · exact h2 x q hf
theorem closure_is {env : Env} {scope : Scope} (h : ∀ x ∈ scope.names, x.2 = .free → ∃ ca, env.cells.lookup x.1 = some ca) :
    ∃ cl, closureFor scope env = pure cl ∧ (∀ x ca, cl.lookup x = some ca → env.cells.lookup x = some ca) ∧ (∀ x ∈ scope.names, x.2 = .free → (cl.lookup x.1).isSome = true) := by
  obtain ⟨cl, e, h1, h2, _⟩ := closure_go (env := env) scope.names [] h
  refine ⟨cl, ?_, fun x ca hx => ?_, h2⟩
  · unfold closureFor
    simp only [bind_pure]
    exact e
  · rcases h1 _ (mem_of_lookup hx) with q | q
    · cases q
    · exact q

/-- tests of a comprehension's clause -/
def IfsE (c : Cx) (n : Nat) (sc : Scope) (m : Lm) (mu : Mu) (ifs : List PySem.Expr) (P : Bool → Mu → Prop) : Prop :=
  ∀ env A s, env.scope = sc → AOk n A → 0 < s.toks → St c mu s.heap → Fm c mu s.heap env m →
    wpAny c.M A (forIn ifs true fun c r => if r = true then do let ok ← isTrue c env (eval c env); pure (ForInStep.yield ok) else pure (ForInStep.yield r)) (PostB c mu s P) NoE s
theorem IfsE.nil {c : Cx} {n : Nat} {sc : Scope} {m : Lm} {mu : Mu} {P : Bool → Mu → Prop} (h : P true mu) : IfsE c n sc m mu [] P := fun env A s he hA ht S F => wpAny_tests_nil (PostB.pure0 S h)
theorem IfsE.one {c : Cx} {n : Nat} {sc : Scope} {m : Lm} {mu : Mu} {t : PySem.Expr} {P : Bool → Mu → Prop} (h : Tst c n sc m mu t P) : IfsE c n sc m mu [t] P := fun env A s he hA ht S F => wpAny_tests_one (h env A s he hA ht S F)

def CompE (c : Cx) (n : Nat) (sc : Scope) (src : Mu → Prop) (target : PySem.Expr) (ifs : List PySem.Expr) (elt : PySem.Expr) (P : List PV → Mu → Prop) : List PV → List PV → Lm → Mu → Prop
  | [], acc, _, mu => src mu ∧ P acc mu
  | x :: xs, acc, m, mu => src mu ∧ acc.length ≤ sizeLine ∧ AsgT false c n sc m mu target x fun m1 mu1 => IfsE c n sc m1 mu1 ifs fun ok mu2 =>
      if ok = true then EvE c n sc m1 mu2 elt fun d mu3 => CompE c n sc src target ifs elt P xs (acc ++ [d]) m1 mu3 else CompE c n sc src target ifs elt P xs acc m1 mu2

/-- scopes of comprehensions: no cells of their own, every name once -/
def compOk (scope sc : Scope) : Bool :=
  scope.kind == .function && scope.names.all (fun x => x.2 != .cell) && scope.names.all (fun x => scope.names.lookup x.1 == some x.2) && scope.names.all (fun x => x.2 != .free || sc.names.lookup x.1 == some .cell)

structure MidC (c : Cx) (cenv : Env) (D : Addr) (mu0 : Mu) (s0 : Shared) (priv : List Addr) (J : Nat → Heap → Prop) (i : Nat) (acc : List PV) (m : Lm) (mu : Mu) (s : Shared) : Prop where
  step : Step c noT mu0 s0 mu s
  fm : Fm c mu s.heap cenv m
  pv : ∀ b ∈ priv, mu b = none ∧ c.base.get? b = none
  j : J i s.heap
  toks : 0 < s.toks
  accL : ∃ vs n, s.heap.get? D = some (listOf vs.toArray n) ∧ Reps s.heap acc vs
  muD : mu D = none

section
variable {c : Cx} {n : Nat} {sc : Scope} {m : Lm} {mu : Mu}

theorem list_notT {vs : List Value} {k : Nat} : ¬ IsT (listOf vs.toArray k) := by simp [IsT]

/-- a step in a comprehension's frame, seen from outside -/
theorem Step.outer {T : Addr → Prop} {mu0 mu1 mu2 : Mu} {s0 s1 s2 : Shared} (x : Step c noT mu0 s0 mu1 s1) (y : Step c T mu1 s1 mu2 s2) (hT : ∀ b, T b → s0.heap.get? b = none) : Step c noT mu0 s0 mu2 s2 where
  shape := by obtain ⟨h, tk, rfl⟩ := x.shape; obtain ⟨h2, tk2, rfl⟩ := y.shape; exact ⟨h2, tk2, rfl⟩
  st := y.st
  keep := fun b o e hm _ => y.keep b o (x.keep b o e hm id) (keepNone x e hm) fun q => by rw [hT b q] at e; cases e
  alive := fun b o e hm => y.alive b o (x.keep b o e hm id) (keepNone x e hm)
  dom := fun b hb => by
    rcases y.dom b hb with h | h
    · exact x.dom b h
    · cases e : s0.heap.get? b with
      | none => exact .inr rfl
      | some o =>
        cases q : mu0 b with
        | some z => exact .inl (by simp)
        | none => have := x.keep b o e q id; rw [h] at this; cases this

theorem compLoop_tests {elt target iter : PySem.Expr} {ifs : List PySem.Expr} {scope : Scope} {pos : Pos} {it acc : Value} {env : Env} {A : Around} {R : Result → Shared → Prop} {s : Shared} (I : Nat → Shared → Prop)
    (turn : ∀ n s, I n s → wpAny c.M A (pyNext it) (fun r s₁ => match r with
      | none => R (.ok .next) s₁
      | some v => wpAny c.M A (letOwnedTupleGo target it v) (fun _ s₁' => wpAny c.M A (assign target env v) (fun _ s₂ =>
          wpAny c.M A (forIn ifs true fun c r => if r = true then do let ok ← isTrue c env (eval c env); pure (ForInStep.yield ok) else pure (ForInStep.yield r)) (fun ok s₃ =>
            if ok = true then wpAny c.M A (eval elt env) (fun x s₄ =>
              wpAny c.M A (call (.builtin "list.append") [acc, x]) (fun _ s₅ => ∃ m, m < n ∧ I m s₅) NoE s₄) NoE s₃
            else ∃ m, m < n ∧ I m s₃) NoE s₂) NoE s₁') NoE s₁) NoE s)
    (n : Nat) (h : I n s) :
    codeAny c.M A (.compLoop (.ListComp elt [⟨target, iter, ifs, 0⟩] scope pos) 0 it acc env) R s := by
  refine codeAny_loop rfl I (fun n s hI => ?_) n h
  show wpAny _ A ((compTurn (.ListComp elt [⟨target, iter, ifs, 0⟩] scope pos) 0 it acc env).onRaise (fun x => do noteFrame x env; theTreesLotGoes x)) _ _ s
  refine wpAny_noted ?_
  rw [compTurn_list]
  refine wpAny_bind (wpAny_standAt (wpAny_bind (wpAny_mono (turn n s hI) (fun r s₁ h₁ => ?_) fun _ _ h' => h'.elim)))
  cases r with
  | none => exact wpAny_pure h₁
  | some v =>
    refine wpAny_bind (wpAny_mono h₁ (fun _ s₁' h₁' => ?_) fun _ _ h' => h'.elim)
    refine wpAny_bind (wpAny_mono h₁' (fun _ s₂ h₂ => wpAny_bind (wpAny_mono h₂ (fun ok s₃ h₃ => ?_) fun _ _ h' => h'.elim)) fun _ _ h' => h'.elim)
    cases ok with
    | false => exact wpAny_pure ⟨rfl, h₃⟩
    | true =>
      exact wpAny_bind (wpAny_bind (wpAny_mono h₃ (fun x s₄ h₄ => wpAny_bind (wpAny_mono h₄ (fun _ s₅ h₅ => wpAny_pure (wpAny_pure ⟨rfl, h₅⟩)) fun _ _ h' => h'.elim)) fun _ _ h' => h'.elim))

/-- what stands behind the loop -/
def CDone (c : Cx) (mu0 : Mu) (s0 : Shared) (C D : Addr) (P : List PV → Mu → Prop) (s' : Shared) : Prop :=
  ∃ ys mu3, P ys mu3 ∧ mu3 D = none ∧ Step c noT mu0 s0 (upd mu3 D (.list ys)) s' ∧ (∃ m, s'.heap.Ns C m) ∧ mu3 C = none ∧ 0 < s'.toks

theorem comp_loop {okT : PySem.Expr → Prop} {I : Addr} {priv : List Addr} {src : Mu → Prop} {xs : List PV} {J : Nat → Heap → Prop} {target elt iter : PySem.Expr} {ifs : List PySem.Expr} {scope : Scope} {pos : Pos} {P : List PV → Mu → Prop} {cenv : Env} {A : Around} {D : Addr} {mu0 : Mu} {s0 : Shared}
    (W : Iter c n okT I priv src xs J) (hT : okT target) (he : cenv.scope = sc) (hA : AOk n A) (hL : cenv.locals ∉ priv) (hC : ∀ x ca, cenv.cells.lookup x = some ca → ca ∉ priv)
    (h0 : ∀ b ∈ priv, s0.heap.get? b = none ∨ mu0 b ≠ none) (hL0 : s0.heap.get? cenv.locals = none) (hD0 : s0.heap.get? D = none) (hDb : c.base.get? D = none) (hDL : D ≠ cenv.locals) (hDp : D ∉ priv) (hDC : ∀ x, cenv.cells.lookup x ≠ some D)
    (s : Shared) (hl : CompE c n sc src target ifs elt P xs [] m mu) (hm : MidC c cenv D mu0 s0 priv J 0 [] m mu s) :
    codeAny c.M A (.compLoop (.ListComp elt [⟨target, iter, ifs, 0⟩] scope pos) 0 (.ref I) (.ref D) cenv) (fun r s' => r = .ok .next ∧ CDone c mu0 s0 cenv.locals D P s') s := by
  refine compLoop_tests (fun k s' => ∃ i acc m mu, k = xs.length + 1 - i ∧ i ≤ xs.length ∧ CompE c n sc src target ifs elt P (xs.drop i) acc m mu ∧ MidC c cenv D mu0 s0 priv J i acc m mu s') ?_ (xs.length + 1 - 0) ⟨0, [], m, mu, rfl, Nat.zero_le _, by simpa using hl, hm⟩
  clear hl hm
  rintro k s ⟨i, acc, m, mu, rfl, hi, hl, hm⟩
  have hpm : ∀ b ∈ priv, mu b = none := fun b hb => (hm.pv b hb).1
  have privStep : ∀ {h' : Heap} {tk : Nat}, (∀ b o, b ∉ priv → s.heap.get? b = some o → h'.get? b = some o) → St c mu h' → Step c noT mu0 s0 mu { s with heap := h', toks := tk } := fun {h' tk} hk S1 => {
      shape := by obtain ⟨h2, tk2, e⟩ := hm.step.shape; rw [e]; exact ⟨_, _, rfl⟩
      st := S1
      keep := fun b o e hmb hTb => hk b o (fun q => by rcases h0 b q with z | z; rw [e] at z; cases z; exact z hmb) (hm.step.keep b o e hmb hTb)
      alive := fun b o e hmb => ⟨o, hk b o (fun q => by rcases h0 b q with z | z; rw [e] at z; cases z; exact z hmb) (hm.step.keep b o e hmb id)⟩
      dom := hm.step.dom }
  obtain ⟨vs, nn, eD, rD⟩ := hm.accL
  cases hx : xs.drop i with
  | nil =>
    rw [hx] at hl
    have hxi : i = xs.length := by have := congrArg List.length hx; simp at this; omega
    refine wpAny_mono (wpAny_toks (W.done i A s mu hxi hA hm.toks hm.step.st hl.1 hpm hm.j)) (fun r s1 p => ?_) fun _ _ x => x.2.elim
    obtain ⟨hle, rfl, h', tk, rfl, hk⟩ := p
    have tkk := tk_priv (W.notT i _ hm.j) hk
    have S1 : St c mu h' := hm.step.st.priv hm.pv hk tkk
    have F1 : Fm c mu h' cenv m := hm.fm.priv hL hC hk tkk
    have x1 := privStep (tk := tk) hk S1
    have eD1 : h'.get? D = some (listOf vs.toArray nn) := hk D _ hDp eD
    refine ⟨rfl, acc, mu, hl.2, hm.muD, ?_, let ⟨mc, hn, _⟩ := F1.loc; ⟨mc, hn⟩, F1.offL, Nat.lt_of_lt_of_le hm.toks hle⟩
    refine ⟨x1.shape, ⟨S1.base, fun a o e => ?_, fun a ha => ?_⟩, x1.keep, x1.alive, fun b hb => ?_⟩
    · by_cases q : a = D
      · subst q; simp at e; subst e; exact ⟨vs, nn, eD1, rD.mono tkk⟩
      · rw [upd_ne mu _ q] at e; exact S1.objs a o e
    · by_cases q : a = D
      · subst q; exact hDb
      · rw [upd_ne mu _ q] at ha; exact S1.new a ha
    · by_cases q : b = D
      · subst q; exact .inr hD0
      · rw [upd_ne mu _ q] at hb; exact x1.dom b hb
  | cons d rest =>
    rw [hx] at hl
    have hxi : xs[i]? = some d := by
      have := congrArg (fun l => l[0]?) hx
      simpa using this
    have hlt : i < xs.length := (List.getElem?_eq_some_iff.mp hxi).1
    have hrest : xs.drop (i + 1) = rest := by
      have := congrArg List.tail hx
      simpa [List.tail_drop] using this
    refine wpAny_mono (wpAny_toks (W.next i d A s mu target hT hxi hA hm.toks hm.step.st hl.1 hpm hm.j)) (fun r s1 p => ?_) fun _ _ x => x.2.elim
    obtain ⟨hle, v, rfl, p⟩ := p
    refine wpAny_mono (wpAny_toks p) (fun _ s2 p => ?_) fun _ _ x => x.2.elim
    obtain ⟨hle2, h', tk, rfl, hk, rd, hj⟩ := p
    have tkk := tk_priv (W.notT i _ hm.j) hk
    have S1 : St c mu h' := hm.step.st.priv hm.pv hk tkk
    have F1 : Fm c mu h' cenv m := hm.fm.priv hL hC hk tkk
    have t1 : 0 < tk := Nat.lt_of_lt_of_le (Nat.lt_of_lt_of_le hm.toks hle) hle2
    have x1 := privStep (tk := tk) hk S1
    have eD1 : h'.get? D = some (listOf vs.toArray nn) := hk D _ hDp eD
    have rD1 : Reps h' acc vs := rD.mono tkk
    have offT : ∀ b ∈ priv, ¬ TchK false cenv b := fun b hb q => by
      rcases q with q | ⟨q, _⟩
      · exact hL (q ▸ hb)
      · cases q
    have dT : ¬ TchK false cenv D := fun q => by
      rcases q with q | ⟨q, _⟩
      · exact hDL q
      · cases q
    -- what a step of the frame's leaves
    have next : ∀ {mu2 : Mu} {sa sb : Shared}, Step c (TchK false cenv) mu sa mu2 sb → J (i + 1) sa.heap → TK sa.heap sb.heap → sa.heap.get? D = some (listOf vs.toArray nn) → J (i + 1) sb.heap ∧ (∀ b ∈ priv, mu2 b = none ∧ c.base.get? b = none) ∧ sb.heap.get? D = some (listOf vs.toArray nn) ∧ mu2 D = none := fun {mu2 sa sb} x hja tka ea => by
      refine ⟨W.frame _ _ _ hja (fun b hb o e => x.keep b o e (hpm b hb) (offT b hb)) tka, fun b hb => ⟨?_, (hm.pv b hb).2⟩, x.keep D _ ea hm.muD dT, keepNone x ea hm.muD⟩
      obtain ⟨o, e, _⟩ := W.notT _ _ hja b hb
      exact keepNone x e (hpm b hb)
    have hTL : ∀ b, TchK false cenv b → s0.heap.get? b = none := fun b q => by
      rcases q with q | ⟨q, _⟩
      · rw [q]; exact hL0
      · cases q
    refine wpAny_mono (wpAny_toks (hl.2.2 cenv A _ v he hA t1 S1 F1 rd)) (fun _ s3 p => ?_) fun _ _ x => x.2.elim
    obtain ⟨hle3, m3, mu3, h3, x3, F3⟩ := p
    have t3 : 0 < s3.toks := Nat.lt_of_lt_of_le t1 hle3
    refine wpAny_mono (wpAny_toks (h3 cenv A s3 he hA t3 x3.st F3)) (fun ok s4 p => ?_) fun _ _ x => x.2.elim
    obtain ⟨hle4, mu4, h4, x4⟩ := p
    have t4 : 0 < s4.toks := Nat.lt_of_lt_of_le t3 hle4
    have F4 : Fm c mu4 s4.heap cenv m3 := F3.step x3.st x4
    have x34 : Step c (TchK false cenv) mu { s with heap := h', toks := tk } mu4 s4 := x3.trans x4.toT
    cases ok with
    | false =>
      have h4' : CompE c n sc src target ifs elt P rest acc m3 mu4 := h4
      obtain ⟨hj4, hp4, eD4, mD4⟩ := next x34 hj (F1.tkT S1 x34) eD1
      exact ⟨xs.length + 1 - (i + 1), by omega, i + 1, acc, m3, mu4, rfl, hlt, hrest ▸ h4', x1.outer x34 hTL, F4, hp4, hj4, t4, ⟨vs, nn, eD4, rD1.mono (F1.tkT S1 x34)⟩, mD4⟩
    | true =>
      have h4' : EvE c n sc m3 mu4 elt fun d mu3 => CompE c n sc src target ifs elt P rest (acc ++ [d]) m3 mu3 := h4
      refine EvE.bind h4' he hA t4 x4.st F4 fun w s5 d5 mu5 h5 x5 t5 S5 F5 r5 k5 => ?_
      have x35 : Step c (TchK false cenv) mu { s with heap := h', toks := tk } mu5 s5 := x34.trans x5.toT
      obtain ⟨hj5, hp5, eD5, mD5⟩ := next x35 hj (F1.tkT S1 x35) eD1
      have rD5 : Reps s5.heap acc vs := rD1.mono (F1.tkT S1 x35)
      refine wpAny_list_append_plain (items := vs.toArray) ⟨nn, eD5⟩ (fun h6 hl6 hs6 => ?_) (by rw [List.size_toArray, rD.length]; exact hl.2.1)
      obtain ⟨n6, e6⟩ := hl6
      have notD : ∀ o, s5.heap.get? D = some o → ¬ IsT o := fun o e => by rw [eD5] at e; cases e; exact list_notT
      have tk6 : TK s5.heap h6 := fun b o e ht => (hs6.2 b (fun q => by subst q; exact notD o e ht)).trans e
      have x6 : Step c (fun b => b = D) mu5 s5 mu5 { s5 with heap := h6, toks := s5.toks } := Step.turn S5 mD5 hDb notD hs6 rfl ⟨_, e6⟩
      have hj6 : J (i + 1) h6 := W.frame _ _ _ hj5 (fun b hb o e => (hs6.2 b (fun q => hDp (q ▸ hb))).trans e) tk6
      have F6 : Fm c mu5 h6 cenv m3 := F5.priv (priv := [D]) (by simpa using Ne.symm hDL) (fun x ca hx q => hDC x (by simp at q; rw [← q]; exact hx)) (fun b o hb e => (hs6.2 b (by simpa using hb)).trans e) tk6
      refine ⟨xs.length + 1 - (i + 1), by omega, i + 1, acc ++ [d5], m3, mu5, rfl, hlt, hrest ▸ h5, ((x1.outer x35 hTL).outer x6 (fun b q => by rw [q]; exact hD0)), F6, hp5, hj6, t5, ⟨vs ++ [w], n6, ?_, (rD5.mono tk6).append (.cons (r5.mono tk6) .nil)⟩, mD5⟩
      rw [e6]; simp

theorem compOk_of {scope : Scope} (h : compOk scope sc = true) : scope.kind = .function ∧ (∀ x ∈ scope.names, x.2 ≠ .cell) ∧ (∀ x ∈ scope.names, scope.names.lookup x.1 = some x.2) ∧ (∀ x ∈ scope.names, x.2 = .free → sc.names.lookup x.1 = some .cell) := by
  unfold compOk at h
  simp only [Bool.and_eq_true, List.all_eq_true, beq_iff_eq, bne_iff_ne, Bool.or_eq_true, ne_eq] at h
  obtain ⟨⟨⟨h1, h2⟩, h3⟩, h4⟩ := h
  exact ⟨h1, h2, h3, fun x hx hf => (h4 x hx).resolve_left (fun q => q hf)⟩

/-- the frame of a comprehension -/
theorem Fm.comp {scope : Scope} {env : Env} {s s3 : Shared} {mu1 : Mu} {cl : List (Str × Addr)} {C : Addr} (hco : compOk scope sc = true) (he : env.scope = sc) (F : Fm c mu1 s.heap env m) (hcl : ∀ x ca, cl.lookup x = some ca → env.cells.lookup x = some ca)
    (hcl2 : ∀ x ∈ scope.names, x.2 = .free → (cl.lookup x.1).isSome = true) {cenv : Env} (h1 : cenv.scope = relab scope sc) (h2 : cenv.locals = C) (h3 : cenv.cells = cl) (h4 : cenv.globals = env.globals) (h5 : cenv.builtins = env.builtins)
    (hk : ∀ b o, mu1 b = none → s.heap.get? b = some o → s3.heap.get? b = some o) (hns : ∃ mc, s3.heap.Ns C mc) (hC : s.heap.get? C = none) (hCm : mu1 C = none) (hCb : c.base.get? C = none) (tk : TK s.heap s3.heap) {mu2 : Mu} (hsub : ∀ b, mu1 b = none → mu2 b = none) : Fm c mu2 s3.heap cenv (capt scope m) := by
  obtain ⟨ck, cn, cu, cf⟩ := compOk_of hco
  have kindIs : ∀ x k, scope.names.lookup x = some k → cenv.kindOf x = some (if (k == NameKind.free && sc.kind == .function && sc.names.lookup x == some .cell) = true then .cell else k) := fun x k hx => by
    unfold Env.kindOf; rw [h1]; exact lookup_relab hx
  obtain ⟨mc, hmc⟩ := hns
  exact {
    fn := by rw [h1]; exact ck
    gl := h4.trans F.gl
    bu := h5.trans F.bu
    loc := ⟨mc, h2 ▸ hmc, fun x pv e hk' => by
      obtain ⟨hf, _⟩ := lookup_capt e
      rw [kindIs x _ hf] at hk'
      split at hk' <;> cases hk'⟩
    cel := fun x pv e _ => by
      obtain ⟨hf, hm⟩ := lookup_capt e
      have hkx : env.kindOf x = some .cell := by unfold Env.kindOf; rw [he]; exact cf (x, .free) (mem_of_lookup hf) rfl
      obtain ⟨ca, v, q1, ⟨o, q2, q3⟩, q4⟩ := F.cel x pv hm (.inl hkx)
      obtain ⟨ca', q5⟩ := Option.isSome_iff_exists.mp (hcl2 (x, .free) (mem_of_lookup hf) rfl)
      have := hcl x ca' q5
      rw [q1] at this; cases this
      exact ⟨ca, v, by rw [h3]; exact q5, ⟨o, hk ca o (F.offC x ca q1).1 q2, q3⟩, q4.mono tk⟩
    has := fun x hk' => by
      have hsome : ∃ k, scope.names.lookup x = some k := by
        cases q : scope.names.lookup x with
        | some k => exact ⟨k, rfl⟩
        | none =>
          have : cenv.kindOf x = none := by unfold Env.kindOf; rw [h1]; exact lookup_relab_none q
          rw [this] at hk'; cases hk'
      obtain ⟨k, hkk⟩ := hsome
      have hfree : k = .free := by
        rw [kindIs x k hkk] at hk'
        split at hk'
        · rename_i hc; simp at hc; exact hc.1.1
        · cases hk'; exact absurd rfl (cn (x, .cell) (mem_of_lookup hkk))
      subst hfree
      obtain ⟨ca, q⟩ := Option.isSome_iff_exists.mp (hcl2 (x, .free) (mem_of_lookup hkk) rfl)
      exact ⟨ca, by rw [h3]; exact q⟩
    cells := fun x ca e => by
      rw [h3] at e
      obtain ⟨v, o, q2, q3⟩ := F.cells x ca (hcl x ca e)
      exact ⟨v, o, hk ca o (F.offC x ca (hcl x ca e)).1 q2, q3⟩
    offL := by rw [h2]; exact hsub _ hCm
    offC := fun x ca e => by
      rw [h3] at e
      have hc := hcl x ca e
      obtain ⟨a1, a2, a3⟩ := F.offC x ca hc
      refine ⟨hsub _ a1, fun q => ?_, a3⟩
      obtain ⟨v, o, q2, q3⟩ := F.cells x ca hc
      rw [q, h2, hC] at q2; cases q2
    apart := fun x y ca e1 e2 => by rw [h3] at e1 e2; exact F.apart x y ca (hcl x ca e1) (hcl y ca e2)
    notB := by rw [h2]; exact hCb }

/-- the comprehension up to what its list is used for -/
theorem comp_run {okT : PySem.Expr → Prop} {target iter elt : PySem.Expr} {ifs : List PySem.Expr} {scope : Scope} {pos pos' : Pos} {P : List PV → Mu → Prop} (hT : okT target) (hco : compOk scope sc = true)
    (h : EvE c n sc m mu iter fun d mu1 => ∃ xs src mu2, IterOf c n okT mu1 d xs src mu2 ∧ CompE c n (relab scope sc) src target ifs elt P xs [] (capt scope m) mu2)
    (hs : ∀ env x, foldedSetIterable iter env x = pure x) {env : Env} {A : Around} {s : Shared} (he : env.scope = sc) (hA : AOk n A) (ht : 0 < s.toks) (S : St c mu s.heap) (F : Fm c mu s.heap env m)
    {use : Option (Value → Sem Unit)} {Q : Value → Shared → Prop}
    (k : ∀ C D s', (mu C = none → s.heap.get? C = none) → C ≠ D → c.base.get? C = none → CDone c mu s C D P s' → compPost c.M A NoE use Q (.ref D) C (.ok .next) s') :
    wpAny c.M A (comprehension (.ListComp elt [⟨target, iter, ifs, 0⟩] scope pos) scope env pos' (newList []) false (eval iter env) use) Q NoE s := by
  obtain ⟨ck, cn, cu, cf⟩ := compOk_of hco
  obtain ⟨cl, hcl0, hcl, hcl2⟩ := closure_is (env := env) (scope := scope) fun x hx hf => by
    have hkx : env.kindOf x.1 = some .cell := by unfold Env.kindOf; rw [he]; exact cf x hx hf
    exact F.has _ hkx
  refine wpAny_comprehension_free (g := ⟨target, iter, ifs, 0⟩) (gs := []) rfl (hs env) hcl0 ck (fun x hx hl => by rw [cu x hx, hl]) ?_
  refine EvE.bind h he hA ht S F fun v s1 d mu1 hp x1 t1 S1 F1 r1 _ => ?_
  obtain ⟨xs, src, mu2, ⟨hsub, hit⟩, hlo⟩ := hp
  refine wpAny_mono (wpAny_toks (hit A s1 v hA t1 S1 r1)) (fun it s2 p => ?_) fun _ _ x => x.2.elim
  obtain ⟨hle, I, priv, J, h2, tk2, rfl, rfl, hk2, hpv, W, hj⟩ := p
  refine wpAny_newList ?_
  refine wpAny_with_toks (n := 1) (Nat.lt_of_lt_of_le t1 hle) (wpAny_newFunctionEnv cn (by intro y hy; cases hy) (fun h4 hns hsb ht4 => ?_) ck)
  have hn1 : ∀ b ∈ priv, ∀ o, s1.heap.get? b = some o → mu1 b ≠ none := fun b hb o e => by
    rcases (hpv b hb).2.2 with z | z
    · rw [e] at z; cases z
    · exact z
  dsimp only at hns hsb ht4 ⊢
  -- the new addresses
  have hDC : h2.objs.size ≠ (h2.push { cls := .type "list", data := .seq ([] : List Value).toArray }).objs.size := by rw [Heap.size_push]; exact Nat.ne_of_lt (Nat.lt_succ_self _)
  have below : ∀ b, b < h2.objs.size → b ≠ (h2.push { cls := .type "list", data := .seq ([] : List Value).toArray }).objs.size := fun b hb => by rw [Heap.size_push]; exact Nat.ne_of_lt (Nat.lt_succ_of_lt hb)
  generalize hCe : (h2.push { cls := .type "list", data := .seq ([] : List Value).toArray }).objs.size = C at *
  generalize hDe : h2.objs.size = D at *
  have keep4 : ∀ b o, h2.get? b = some o → h4.get? b = some o := fun b o e => hsb.extBut b o (below b (hDe ▸ Heap.lt_size e)) (Heap.get?_push_of_some _ (Heap.get?_push_of_some _ e))
  have D2 : h2.get? D = none := get_none (Nat.le_of_eq hDe)
  have C2 : h2.get? C = none := get_none (by rw [← hCe, Heap.size_push]; exact Nat.le_succ _)
  have old : ∀ b o, mu1 b = none → s1.heap.get? b = some o → h4.get? b = some o := fun b o hm e => keep4 b o (hk2 b o (fun q => hn1 b q o e hm) e)
  have jalive : ∀ b ∈ priv, ∃ o, h2.get? b = some o ∧ ¬ IsT o := W.notT 0 _ hj
  have fresh : ∀ b, h2.get? b = none → b ∉ priv := fun b hb q => by obtain ⟨o, e, _⟩ := jalive b q; rw [hb] at e; cases e
  have freshM : ∀ b, h2.get? b = none → s1.heap.get? b = none := fun b hb => by
    cases e : s1.heap.get? b with
    | none => rfl
    | some o => have := hk2 b o (fresh b hb) e; rw [hb] at this; cases this
  have nomu1 : ∀ b, h2.get? b = none → mu1 b = none := fun b hb => by
    cases e : mu1 b with
    | none => rfl
    | some o =>
      obtain ⟨o', e', _⟩ := (S1.objs b o e).noTup
      rw [freshM b hb] at e'; cases e'
  have nobase : ∀ b, h2.get? b = none → c.base.get? b = none := fun b hb => by
    cases e : c.base.get? b with
    | none => rfl
    | some o => have := S1.base b o e; rw [freshM b hb] at this; cases this
  have sub0 : ∀ b, mu2 b ≠ none → mu1 b ≠ none := fun b hb => by
    obtain ⟨o, e⟩ := Option.ne_none_iff_exists'.mp hb
    rw [hsub b o e]; simp
  have off2 : ∀ b, mu1 b = none → mu2 b = none := fun b hb => by
    cases q : mu2 b with
    | none => rfl
    | some z => exact absurd hb (sub0 b (by rw [q]; simp))
  have tk14 : TK s1.heap h4 := fun a o e hto => old a o (S1.tupOff e hto) e
  have S1' : St c mu2 s1.heap := ⟨S1.base, fun a o e => S1.objs a o (hsub a o e), fun a ha => S1.new a (sub0 a ha)⟩
  have S2 : St c mu2 h2 := S1'.priv (fun b hb => ⟨(hpv b hb).2.1, (hpv b hb).1⟩) hk2 (fun a o e hto => hk2 a o (fun q => hn1 a q o e (S1.tupOff e hto)) e)
  have S4 : St c mu2 h4 := ⟨fun b o e => keep4 b o (S2.base b o e), fun a o e => (S2.objs a o e).mono (fun o' q => keep4 a o' q) (fun b o' q _ => keep4 b o' q), S2.new⟩
  -- the steps seen from s
  have x14 : Step c noT mu1 s1 mu2 { s1 with heap := h4, toks := tk2 } := {
    shape := ⟨_, _, rfl⟩
    st := S4
    keep := fun b o e hm _ => old b o hm e
    alive := fun b o e hm => ⟨o, old b o hm e⟩
    dom := fun b hb => .inl (sub0 b hb) }
  have hCs : mu C = none → s.heap.get? C = none := fun hm => by
    cases q : s.heap.get? C with
    | none => rfl
    | some o => have := x1.keep C o q hm id; rw [freshM C C2] at this; cases this
  have hL : ∀ x ca, env.cells.lookup x = some ca → ca ∉ priv := fun x ca hx q => by
    obtain ⟨_, o, e, _⟩ := F1.cells x ca hx
    exact hn1 _ q o e (F1.offC x ca hx).1
  have D4 : h4.get? D = some (listOf ([] : List Value).toArray 0) := hsb.extBut D _ hDC (Heap.get?_push_of_some _ (hDe ▸ Heap.get?_push_size _ rfl))
  have hj4 : J 0 h4 := W.frame _ _ _ hj (fun b hb o e => keep4 b o e) fun b o e _ => keep4 b o e
  have loop : ∀ cenv : Env, cenv.scope = relab scope sc → cenv.locals = C → cenv.cells = cl → cenv.globals = env.globals → cenv.builtins = env.builtins →
      codeAny c.M A (.compLoop (.ListComp elt [⟨target, iter, ifs, 0⟩] scope pos) 0 (.ref I) (.ref D) cenv) (compPost c.M A NoE use Q (.ref D) C) { s1 with heap := h4, toks := tk2 } := fun cenv e1 e2 e3 e4 e5 => by
    have F4 : Fm c mu2 h4 cenv (capt scope m) := Fm.comp (s3 := { s1 with heap := h4, toks := tk2 }) hco he F1 hcl hcl2 e1 e2 e3 e4 e5 old ⟨_, hns⟩ (freshM C C2) (nomu1 C C2) (nobase C C2) tk14 off2
    refine codeAny_mono (comp_loop (sc := relab scope sc) (mu0 := mu1) (s0 := s1) (P := P) W hT e1 hA (by rw [e2]; exact fresh C C2) (fun x ca hx => by rw [e3] at hx; exact hL x ca (hcl x ca hx)) (fun b hb => (hpv b hb).2.2) (by rw [e2]; exact freshM C C2) (freshM D D2) (nobase D D2)
      (by rw [e2]; exact hDC) (fresh D D2) (fun x hx => ?_) _ hlo ⟨x14, F4, fun b hb => ⟨(hpv b hb).2.1, (hpv b hb).1⟩, hj4, ht4, ⟨[], 0, D4, .nil⟩, off2 _ (nomu1 D D2)⟩) fun r s' q => ?_
    · rw [e3] at hx
      obtain ⟨_, o, e, _⟩ := F1.cells x D (hcl x D hx)
      rw [freshM D D2] at e; cases e
    · obtain ⟨rfl, ys, mu3, p1, p2, p3, p4, p5, p6⟩ := q
      rw [e2] at p4 p5
      exact k C D s' hCs (Ne.symm hDC) (nobase C C2) ⟨ys, mu3, p1, p2, x1.trans p3, p4, p5, p6⟩
  have l0 := loop { newEnv scope C env.globals cl env.qual none .none (some env) 0 with scope := relabel scope env } (by rw [← he]; rfl) rfl rfl rfl rfl
  exact codeAny_compStart_list l0 (W.self 0 _ _ _ _ hA hj4 l0)

/-- behind a comprehension: its names go -/
theorem CDone.step {C D : Addr} {P : List PV → Mu → Prop} {s s' : Shared} {h' : Heap} (hC : mu C = none → s.heap.get? C = none) (hCD : C ≠ D) (hCb : c.base.get? C = none) {ys : List PV} {mu3 : Mu} (x : Step c noT mu s (upd mu3 D (.list ys)) s') (hns : ∃ m, s'.heap.Ns C m) (hC3 : mu3 C = none) (hs : Heap.SameBut C s'.heap h') :
    Step c noT mu s (upd mu3 D (.list ys)) { s' with heap := h' } := by
  obtain ⟨mc, hn⟩ := hns
  have hCu : upd mu3 D (.list ys) C = none := by rw [upd_ne _ _ hCD]; exact hC3
  have tk : TK s'.heap h' := fun b o e ht => (hs.2 b (fun q => by subst q; exact ns_notT hn o e ht)).trans e
  exact {
    shape := by obtain ⟨h, tk, rfl⟩ := x.shape; exact ⟨_, _, rfl⟩
    st := ⟨fun b o e => (hs.2 b (fun q => by rw [q, hCb] at e; cases e)).trans (x.st.base b o e), fun a o e => (x.st.objs a o e).mono (fun o' q => (hs.2 a (fun z => by rw [z, hCu] at e; cases e)).trans q) tk, x.st.new⟩
    keep := fun b o e hm hT => (hs.2 b (fun q => by subst q; rw [hC hm] at e; cases e)).trans (x.keep b o e hm hT)
    alive := fun b o e hm => ⟨o, (hs.2 b (fun q => by subst q; rw [hC hm] at e; cases e)).trans (x.keep b o e hm id)⟩
    dom := x.dom }

theorem EvE.listcomp {okT : PySem.Expr → Prop} {target iter elt : PySem.Expr} {ifs : List PySem.Expr} {scope : Scope} {pos : Pos} {P : PV → Mu → Prop} (hT : okT target) (hco : compOk scope sc = true)
    (h : EvE c n sc m mu iter fun d mu1 => ∃ xs src mu2, IterOf c n okT mu1 d xs src mu2 ∧ CompE c n (relab scope sc) src target ifs elt (fun ys mu3 => ∀ D, mu3 D = none → P (.ref D) (upd mu3 D (.list ys))) xs [] (capt scope m) mu2)
    (hs : ∀ env x, foldedSetIterable iter env x = pure x := by intro _ _; rfl) : EvE c n sc m mu (.ListComp elt [⟨target, iter, ifs, 0⟩] scope pos) P := by
  intro env A s he hA ht S F
  rw [eval_ListComp]
  refine comp_run hT hco h hs he hA ht S F fun C D s' hC hCD hCb q => ?_
  obtain ⟨ys, mu3, p1, p2, p3, p4, p5, p6⟩ := q
  obtain ⟨mc, hmc⟩ := p4
  exact ⟨mc, hmc, fun h' hs' => ⟨.ref D, _, p1 D p2, CDone.step (P := fun _ _ => True) hC hCD hCb p3 ⟨mc, hmc⟩ p5 hs', .ref D⟩⟩

end
end Mine

open PySem PySem.W PySem.Calls PyProof.Rows
set_option Elab.async false
set_option linter.unusedVariables false
namespace Mine

def noStar : List PySem.Expr → Bool
  | [] => true
  | .Starred _ _ :: _ => false
  | _ :: r => noStar r
def allNamed : List Keyword → Bool
  | [] => true
  | ⟨some _, _, _⟩ :: r => allNamed r
  | _ => false
theorem noStar_any : ∀ {es : List PySem.Expr} (env : Env) (pos : Pos), noStar es = true → (backTo pos (starEach es env)).any (·.1) = false
  | [], _, _, _ => rfl
  | e :: r, env, pos, h => by
    have ih := fun h => noStar_any (es := r) env pos h
    cases e <;> first | (simp [noStar] at h; done) | (simp only [noStar] at h; have := ih h; simpa [starEach, backTo] using this)
theorem allNamed_all : ∀ {ks : List Keyword} (env : Env) (pos : Pos), allNamed ks = true → (backToKw pos (keywordEach ks env)).all (·.1.isSome) = true
  | [], _, _, _ => rfl
  | ⟨some x, e, p⟩ :: r, env, pos, h => by
    have := allNamed_all (ks := r) env pos h
    simpa [keywordEach, backToKw] using this
  | ⟨none, e, p⟩ :: r, env, pos, h => by simp [allNamed] at h
section
variable {c : Cx} {n : Nat} {sc : Scope} {m : Lm} {mu : Mu}

/-! # calls -/
theorem evalArgs_go {f : Value} {args : List (Bool × Sem Value)} {kws : List (Option Str × Sem Value)} {M : Model} {A : Around} {E : Value → Shared → Prop} {s : Shared} {Q : Args → Shared → Prop} (hs : args.any (·.1) = false) (hall : kws.all (·.1.isSome) = true)
    (h : wpAny M A (spliced args) (fun vs s₁ => wpAny M A (evalAll (kws.map (·.2))) (fun ks s₂ => Q ⟨vs, (kws.filterMap (·.1)).zip ks⟩ s₂) E s₁) E s) :
    wpAny M A (evalArgs f true args kws) Q E s := by
  cases args with
  | nil =>
    unfold evalArgs
    show wpAny M A (spliced [] >>= _) Q E s
    refine wpAny_bind (wpAny_mono h (fun vs s₁ h₁ => wpAny_holding ?_) fun _ _ x => x)
    simp only [hall, if_true]
    exact wpAny_bind (wpAny_mono h₁ (fun ks s₂ h₂ => wpAny_bind (wpAny_pure (wpAny_pure h₂))) fun _ _ x => x)
  | cons a r =>
    obtain ⟨b, t⟩ := a
    have hb : b = false := by simp only [List.any_cons, Bool.or_eq_false_iff] at hs; exact hs.1
    subst hb
    exact evalArgs_kw hall h

theorem EvK.nil {P : List (Str × PV) → Mu → Prop} (h : P [] mu) : EvK c n sc m mu [] P := fun env A s pos he hA ht S F => wpAny_pure ⟨[], mu, h, Step.refl S, .nil⟩
theorem EvK.cons {x : Str} {e : PySem.Expr} {p : Pos} {ks : List Keyword} {P : List (Str × PV) → Mu → Prop} (h : EvE c n sc m mu e fun d mu1 => EvK c n sc m mu1 ks fun kw mu2 => P ((x, d) :: kw) mu2) : EvK c n sc m mu (⟨some x, e, p⟩ :: ks) P := by
  intro env A s pos he hA ht S F
  show wpAny c.M A (evalAll ((do let v ← eval e env; standAt pos; pure v) :: (backToKw pos (keywordEach ks env)).map (·.2))) _ _ s
  refine wpAny_evalAll_cons (wpAny_bind (EvE.bind h he hA ht S F fun va s1 d mu1 h1 x1 t1 S1 F1 r1 _ => wpAny_bind (wpAny_standAt (wpAny_pure ?_))))
  refine wpAny_mono (h1 env A s1 pos he hA t1 S1 F1) (fun vs s2 p => ?_) fun _ _ x => x
  obtain ⟨kw, mu2, h2, x2, r2⟩ := p
  exact ⟨(x, d) :: kw, mu2, h2, x1.trans x2, .cons (r1.mono (x2.tk0 S1)) r2⟩

/-- the call of a value with its arguments -/
theorem callWith_go {f : Value} {first : List PV} {vfirst : List Value} {es : List PySem.Expr} {ks : List Keyword} {P : PV → Mu → Prop} {env : Env} {A : Around} {s : Shared} {pos pos' : Pos}
    (h : EvA c n sc m mu es fun ds mu1 => EvK c n sc m mu1 ks fun kw mu2 => Keepr c mu2 f ∧ CallV c n mu2 f (first ++ ds) kw P)
    (hst : noStar es = true) (hks : allNamed ks = true)
    (he : env.scope = sc) (hA : AOk n A) (ht : 0 < s.toks) (S : St c mu s.heap) (F : Fm c mu s.heap env m) (rf : Reps s.heap first vfirst) :
    wpAny c.M A (callWith pos f vfirst (backTo pos' (starEach es env)) (backToKw pos' (keywordEach ks env))) (Post c mu s P) NoE s := by
  unfold callWith
  refine wpAny_bind (wpAny_holding (evalArgs_go (noStar_any env pos' hst) (allNamed_all env pos' hks) ?_))
  refine EvA.bind h he hA ht S F fun vs s1 ds mu1 h1 x1 t1 S1 F1 r1 k1 => ?_
  refine wpAny_mono (wpAny_toks (h1 env A s1 pos' he hA t1 S1 F1)) (fun kvs s2 p => ?_) fun _ _ x => x.2
  obtain ⟨hle, kw, mu2, ⟨hkp, hcl⟩, x2, r2⟩ := p
  have k2 := x2.tk0 S1
  refine wpAny_bind (wpAny_standAt (wpAny_bind (hkp A s2 _ _ x2.st fun k => ?_)))
  have hc := hcl A s2 (vfirst ++ vs) _ hA (Nat.lt_of_lt_of_le t1 hle) x2.st (((rf.mono k1).mono k2).append (r1.mono k2)) r2
  have tail : ∀ {t : Sem Value}, wpAny c.M A t (Post c mu2 s2 P) NoE s2 → wpAny c.M A (t >>= fun r => holding [r] point >>= fun _ => pure r) (Post c mu s P) NoE s2 :=
    fun ht => wpAny_bind (wpAny_mono ht (fun r s3 p => wpAny_bind (wpAny_holding (wpAny_point (wpAny_pure (p.after x2 |>.after x1))))) fun _ _ x => x)
  have hm : ∀ mark, wpAny c.M A (callMarked mark f (vfirst ++ vs) (((backToKw pos' (keywordEach ks env)).filterMap (·.1)).zip kvs)) (Post c mu2 s2 P) NoE s2 := fun mark => by unfold callMarked; exact wpAny_keep hc
  have ho : ∀ l, wpAny c.M A (operate l (call f (vfirst ++ vs) (((backToKw pos' (keywordEach ks env)).filterMap (·.1)).zip kvs))) (Post c mu2 s2 P) NoE s2 := fun l => wpAny_operating hc
  dsimp only
  generalize ((backTo pos' (starEach es env)).any (fun x => x.1) || (backToKw pos' (keywordEach ks env)).any fun x => x.1.isNone) = st
  cases k <;> cases st <;> dsimp only <;> first | exact tail hc | exact tail (hm _) | exact tail (ho _) | (split <;> first | exact tail hc | exact tail (hm _))

theorem Keepr.builtin {id : String} : Keepr c mu (.builtin id) := fun A s Q E S h => wpAny_pure (h _)
theorem Keepr.type {id : String} : Keepr c mu (.type id) := fun A s Q E S h => wpAny_pure (h _)
theorem Keepr.fn {a : Addr} {fd : FuncData} {body : List Stmt} (hf : FnOk c a fd body) : Keepr c mu (.ref a) := fun A s Q E S h => by
  obtain ⟨o, ho, hd⟩ := hf.obj
  unfold keeperOf
  refine wpAny_bind (wpAny_load (S.base _ _ ho) ?_)
  rw [hd]; exact wpAny_pure (h _)

/-- f(..), f no attribute -/
theorem EvE.call {fe : PySem.Expr} {f : Value} {fp : PV} {es : List PySem.Expr} {ks : List Keyword} {pos : Pos} {P : PV → Mu → Prop}
    (h : EvE c n sc m mu fe fun d mu0 => d = fp ∧ EvA c n sc m mu0 es fun ds mu1 => EvK c n sc m mu1 ks fun kw mu2 => Keepr c mu2 f ∧ CallV c n mu2 f ds kw P)
    (hfp : ∀ hp v, Rep hp fp v → v = f) (hst : noStar es = true := by rfl) (hks : allNamed ks = true := by rfl)
    (hev : ∀ env, eval (.Call fe es ks pos) env = (do callWith pos (← eval fe env) [] (backTo pos (starEach es env)) (backToKw pos (keywordEach ks env))) := by intro _; rfl) : EvE c n sc m mu (.Call fe es ks pos) P := by
  intro env A s he hA ht S F
  rw [hev]
  refine wpAny_bind (EvE.bind h he hA ht S F fun v s0 d mu0 h0 x0 t0 S0 F0 r0 _ => ?_)
  obtain ⟨rfl, h0⟩ := h0
  have := hfp _ _ r0
  subst this
  exact wpAny_mono (callWith_go (first := []) h0 hst hks he hA t0 S0 F0 .nil) (fun _ _ p => p.after x0) fun _ _ x => x

/-- o.name(..) -/
theorem EvE.method {o : PySem.Expr} {name : Str} {es : List PySem.Expr} {ks : List Keyword} {apos pos : Pos} {P : PV → Mu → Prop}
    (h : EvE c n sc m mu o fun d mu0 => ∃ f, Meth c mu0 d name f ∧ EvA c n sc m mu0 es fun ds mu1 => EvK c n sc m mu1 ks fun kw mu2 => Keepr c mu2 f ∧ CallV c n mu2 f (d :: ds) kw P)
    (hb : ∀ env, attributeBase o name env (eval o env) = eval o env := by intro _; rfl) (hst : noStar es = true := by rfl) (hks : allNamed ks = true := by rfl)
    (hlen : (es.length + ks.length + (if ks.isEmpty then 0 else 1) < 30) := by decide) (hline : (apos.endLine == pos.line) = true := by rfl) : EvE c n sc m mu (.Call (.Attribute o name apos) es ks pos) P := by
  intro env A s he hA ht S F
  rw [arm_eval_Call, hb]
  refine wpAny_bind (EvE.bind h he hA ht S F fun v s0 d mu0 h0 x0 t0 S0 F0 r0 _ => ?_)
  obtain ⟨f, hm, h0⟩ := h0
  refine wpAny_bind (wpAny_standAt ?_)
  have hform : methodCallForm (es.length + ks.length) (backTo pos (starEach es env)) (backToKw pos (keywordEach ks env)) = true := by
    have h1 := noStar_any env pos hst
    have h2 := allNamed_all env pos hks
    unfold methodCallForm
    simp only [Bool.and_eq_true, decide_eq_true_eq]
    refine ⟨⟨?_, h2⟩, ?_⟩
    · rw [List.all_eq_true]; intro x hx
      rw [List.any_eq_false] at h1
      simpa using h1 x hx
    · have : (backToKw pos (keywordEach ks env)).isEmpty = ks.isEmpty := by
        cases ks with
        | nil => rfl
        | cons k r => cases k; rfl
      rw [this]; exact hlen
  have hpos : methodCallPos true o env apos pos = pure pos := by unfold methodCallPos; simp [hline]
  unfold methodCall
  rw [hform]
  refine wpAny_bind (wpAny_holding ?_)
  show wpAny c.M A (getMethod v name _) _ _ s0
  refine hm A s0 v _ _ _ S0 r0 ?_
  refine wpAny_bind (wpAny_of_eq hpos ?_)
  exact wpAny_mono (callWith_go (first := [d]) h0 hst hks he hA t0 S0 F0 (.cons r0 .nil)) (fun _ _ p => p.after x0) fun _ _ x => x

/-! # subscripts -/
def OpSub (c : Cx) (n : Nat) (mu : Mu) (slice : PySem.Expr) (a i : PV) (P : PV → Mu → Prop) : Prop :=
  ∀ A s va vi value, AOk n A → 0 < s.toks → St c mu s.heap → Rep s.heap a va → Rep s.heap i vi → wpAny c.M A (subscriptTail value slice va vi) (Post c mu s P) NoE s
theorem EvE.sub {value slice : PySem.Expr} {pos : Pos} {P : PV → Mu → Prop} (h : EvE c n sc m mu value fun a mu1 => EvE c n sc m mu1 slice fun i mu2 => OpSub c n mu2 slice a i P) : EvE c n sc m mu (.Subscript value slice pos) P := by
  intro env A s he hA ht S F
  refine Subscript_ (EvE.bind h he hA ht S F fun va s1 a mu1 h1 x1 t1 S1 F1 r1 _ => ?_)
  refine EvE.bind h1 he hA t1 S1 F1 fun vb s2 b mu2 h2 x2 t2 S2 F2 r2 k2 => ?_
  exact wpAny_mono (h2 A s2 va vb value hA t2 S2 (r1.mono k2) r2) (fun _ _ p => p.after x2 |>.after x1) fun _ _ x => x
/-- the value is of a built-in type -/
def Ty (c : Cx) (mu : Mu) (a : PV) (T : String) : Prop := ∀ (s : Shared) (v : Value), St c mu s.heap → Rep s.heap a v → s.TypeIs v T
theorem OpSub.of {slice : PySem.Expr} {a i : PV} {T id : String} {P : PV → Mu → Prop} (hT : Ty c mu a T) (hl : typeLookup (.type T) "__getitem__" = pure (some (.builtin id))) (h : OpG c n mu a i P)
    (hs : ∀ o i, ∃ ops, subscripted slice false o i = operate ops (getItem o i) := by intro _ _; exact ⟨_, rfl⟩) : OpSub c n mu slice a i P := by
  intro A s va vi value hA ht S ra ri
  obtain ⟨ops, e⟩ := hs va vi
  exact tail_any (hT s va S ra) hl (h A s va vi hA ht S ra ri) e
end
end Mine

open PySem PySem.W PySem.Calls PyProof.Rows
set_option Elab.async false
set_option linter.unusedVariables false
namespace Mine

def anyT : PySem.Expr → Prop := fun _ => True

def ownIters : List String := ["enumerate", "zip", "dict_itemiterator", "dict_reverseitemiterator", "odict_iterator", "itertools.zip_longest", "itertools.pairwise"]
theorem letOwned_plain {M : Model} {A : Around} {E : Value → Shared → Prop} {s : Shared} {target : PySem.Expr} {I : Addr} {v : Value} {o : Obj} {T : String} {Q : Unit → Shared → Prop} (ho : s.heap.get? I = some o) (hc : o.cls = .type T) (hT : ownIters.contains T = false) (h : Q () s) :
    wpAny M A (letOwnedTupleGo target (.ref I) v) Q E s := by
  have go : wpAny M A (do
    let (.ref r, .ref a) := (Value.ref I, v) | return
    let o ← load r
    match o.cls, o.data with
    | .type n, .fields vs =>
      if ["enumerate", "zip", "dict_itemiterator", "dict_reverseitemiterator", "odict_iterator", "itertools.zip_longest", "itertools.pairwise"].contains n && vs[0]? == some (rawInt a) then
        rule "for.unpacks-the-owned-tuple"
        updateField r 0 .none
    | _, _ => pure ()) Q E s := by
    cases v with
    | ref a =>
      refine wpAny_bind (wpAny_load ho ?_)
      rw [hc]
      cases o.data with
      | fields vs =>
        show wpAny M A (if (ownIters.contains T && vs[0]? == some (rawInt a)) = true then _ else _) Q E s
        rw [hT, Bool.false_and, if_neg Bool.false_ne_true]
        exact wpAny_pure h
      | _ => exact wpAny_pure h
    | _ => exact wpAny_pure h
  unfold letOwnedTupleGo
  cases target <;> first | exact go | exact wpAny_pure h

section
variable {c : Cx} {n : Nat} {mu : Mu}

/-! ## lists -/
theorem iter_list {I l : Addr} {xs : List PV} {src : Mu → Prop} {priv : List Addr} {J : Nat → Heap → Prop} (hIl : I ≠ l)
    (hI : I ∈ priv) (hp : ∀ b ∈ priv, b = I ∨ b = l)
    (hJ : ∀ i h, J i h → h.IsListIter I l i)
    (hL : ∀ mu i (h : Heap), St c mu h → src mu → J i h → ∃ vs, h.IsList l vs.toArray ∧ Reps h xs vs)
    (hJ' : ∀ i j (h h' : Heap), J i h → h'.IsListIter I l j → (∀ b o, b ≠ I → h.get? b = some o → h'.get? b = some o) → TK h h' → J j h')
    (hfr : ∀ i h h', J i h → (∀ b ∈ priv, ∀ o, h.get? b = some o → h'.get? b = some o) → TK h h' → J i h')
    (hnt : ∀ i h, J i h → l ∈ priv → ∃ o, h.get? l = some o ∧ ¬ IsT o) : Iter c n anyT I priv src xs J where
  frame := hfr
  notT := fun i h hj b hb => by
    rcases hp b hb with q | q
    · subst q; obtain ⟨o, e, hc, _⟩ := hJ i h hj; exact ⟨o, e, fun ht => by have := ht.1; rw [hc] at this; simp at this⟩
    · subst q; exact hnt i h hj hb
  next := fun i d A s mu target _ hx hA ht S hs hm hj => by
    obtain ⟨vs, hl, rs⟩ := hL mu i s.heap S hs hj
    obtain ⟨v, hv, rv⟩ := rs.get hx
    have hit := hJ i s.heap hj
    refine wpAny_pyNext_list_item hit hl (x := v) (by simpa using hv) fun h' hit' hs' => ⟨v, rfl, ?_⟩
    obtain ⟨o, e, hc, _⟩ := id hit'
    refine letOwned_plain e hc (by decide) ⟨h', s.toks, rfl, fun b o' hb e' => hs'.extBut b o' (fun q => hb (q ▸ hI)) e', ?_, ?_⟩
    · exact rv.mono fun b o' e' hto => hs'.extBut b o' (fun q => by subst q; obtain ⟨o2, e2, hc2, _⟩ := hit; rw [e'] at e2; cases e2; have := hto.1; rw [hc2] at this; simp at this) e'
    · exact hJ' i (i + 1) _ _ hj hit' (fun b o' hb e' => hs'.extBut b o' hb e') fun b o' e' hto => hs'.extBut b o' (fun q => by subst q; obtain ⟨o2, e2, hc2, _⟩ := hit; rw [e'] at e2; cases e2; have := hto.1; rw [hc2] at this; simp at this) e'
  self := fun i A s Q E _ hj h => wpAny_pyIter_listiter (hJ i _ hj) h
  done := fun i A s mu hx hA ht S hs hm hj => by
    obtain ⟨vs, hl, rs⟩ := hL mu i s.heap S hs hj
    refine wpAny_pyNext_list_end hA.hd (hJ i _ hj) hl (by
      have := rs.length
      simp; omega) fun h' he' => ⟨rfl, h', s.toks, rfl, fun b o hb e => he' b o (fun q => hb (q ▸ hI)) e⟩

theorem sub_refl (mu : Mu) : Sub mu mu := fun _ _ e => e
theorem fresh_priv {h : Heap} (S : St c mu h) : ∀ b ∈ [h.objs.size], c.base.get? b = none ∧ mu b = none ∧ (h.get? b = none ∨ mu b ≠ none) := fun b hb => by
  rw [List.mem_singleton.mp hb]
  exact ⟨S.baseNone (Nat.le_refl _), S.off (Nat.le_refl _), .inl (get_none (Nat.le_refl _))⟩

/-- a list of the ledger that stays in it -/
theorem IterOf.list {l : Addr} {xs : List PV} (hl : mu l = some (.list xs)) : IterOf c n anyT mu (.ref l) xs (fun mu' => mu' l = some (.list xs)) mu := by
  refine ⟨sub_refl mu, fun A s v hA ht S r => ?_⟩
  cases r
  obtain ⟨vs, k, e, rs⟩ := S.objs l _ hl
  have hne : s.heap.objs.size ≠ l := Nat.ne_of_gt (Heap.lt_size e)
  refine wpAny_pyIter_list (items := vs.toArray) ⟨_, e, rfl, k, rfl⟩ ⟨_, [s.heap.objs.size], fun i h => h.IsListIter s.heap.objs.size l i, _, _, rfl, rfl, fun b o _ e' => Heap.get?_push_of_some _ e', fresh_priv S, ?_, ⟨_, Heap.get?_push_size _ rfl, rfl, rfl⟩⟩
  refine iter_list hne (by simp) (fun b hb => .inl (by simpa using hb)) (fun i h hj => hj) (fun mu' i h S' hs hj => ?_) (fun i j h h' _ hj _ _ => hj) (fun i h h' hj hk _ => hj.at fun o e => hk _ (by simp) o e) (fun i h hj hb => absurd (by simpa using hb) (Ne.symm hne))
  obtain ⟨vs', k', e', rs'⟩ := S'.objs l _ hs
  exact ⟨vs', ⟨_, e', rfl, k', rfl⟩, rs'⟩

/-- a list that nothing else holds: it goes out of the ledger -/
theorem IterOf.listTmp {l : Addr} {xs : List PV} {mu0 : Mu} (h0 : mu0 l = none) : IterOf c n anyT (upd mu0 l (.list xs)) (.ref l) xs (fun _ => True) mu0 := by
  refine ⟨fun a o e => by rw [upd_ne _ _ (fun q => by rw [q, h0] at e; cases e)]; exact e, fun A s v hA ht S r => ?_⟩
  cases r
  obtain ⟨vs, k, e, rs⟩ := S.objs l (.list xs) (by simp)
  have hne : s.heap.objs.size ≠ l := Nat.ne_of_gt (Heap.lt_size e)
  have tkp : TK s.heap (s.heap.push { cls := .type "list_iterator", data := .fields #[.ref l, .int 0 0] }) := fun b o e' _ => Heap.get?_push_of_some _ e'
  refine wpAny_pyIter_list (items := vs.toArray) ⟨_, e, rfl, k, rfl⟩ ⟨_, [s.heap.objs.size, l], fun i h => h.IsListIter s.heap.objs.size l i ∧ ∃ vs k, h.get? l = some (listOf vs.toArray k) ∧ Reps h xs vs, _, _, rfl, rfl, fun b o _ e' => Heap.get?_push_of_some _ e', ?_, ?_,
    ⟨⟨_, Heap.get?_push_size _ rfl, rfl, rfl⟩, vs, k, Heap.get?_push_of_some _ e, rs.mono tkp⟩⟩
  · intro b hb
    rcases List.mem_cons.mp hb with q | q
    · subst q
      have h1 := fresh_priv S s.heap.objs.size (by simp)
      exact ⟨h1.1, by have := h1.2.1; rwa [upd_ne _ _ hne] at this, h1.2.2⟩
    · rw [List.mem_singleton.mp q]
      exact ⟨S.new l (by simp), h0, .inr (by simp)⟩
  · refine iter_list hne (by simp) (fun b hb => by simpa using hb) (fun i h hj => hj.1) (fun mu' i h S' hs hj => ?_) (fun i j h h' hj hj' hk tk => ⟨hj', ?_⟩) (fun i h h' hj hk tk => ⟨hj.1.at fun o e => hk _ (by simp) o e, ?_⟩) (fun i h hj hb => ?_)
    · obtain ⟨_, vs', k', e', rs'⟩ := hj; exact ⟨vs', ⟨_, e', rfl, k', rfl⟩, rs'⟩
    · obtain ⟨_, vs', k', e', rs'⟩ := hj; exact ⟨vs', k', hk l _ (Ne.symm hne) e', rs'.mono tk⟩
    · obtain ⟨_, vs', k', e', rs'⟩ := hj; exact ⟨vs', k', hk l (by simp) _ e', rs'.mono tk⟩
    · obtain ⟨_, vs', k', e', rs'⟩ := hj; exact ⟨_, e', list_notT⟩

/-- a list of the base -/
def BaseList (c : Cx) (l : Addr) (xs : List PV) : Prop := ∃ vs, c.base.IsList l vs.toArray ∧ Reps c.base xs vs
theorem BaseList.at {l : Addr} {xs : List PV} (hb : BaseList c l xs) {h : Heap} (S : St c mu h) : ∃ vs, h.IsList l vs.toArray ∧ Reps h xs vs := by
  obtain ⟨vs, hl, rs⟩ := hb
  exact ⟨vs, hl.at fun o e => S.base _ _ e, rs.mono fun b o e _ => S.base b o e⟩
/-! ## from the library's walks: one private object -/
theorem iter_walk {I : Addr} {k : Nat} {Pw : Nat → Value → Prop} {Stw : Nat → Heap → Prop} {xs : List PV} {T : String} (W : ∀ A : Around, A.handled = none → Walks c.prog c.w A I [I] [I] k Pw Stw) (hk : xs.length = k)
    (hP : ∀ i v d (h : Heap), Pw i v → xs[i]? = some d → Rep h d v) (hO : ∀ i h, Stw i h → ∃ o, h.get? I = some o ∧ o.cls = .type T) (hT : ownIters.contains T = false) (hT2 : T ≠ "tuple") : Iter c n anyT I [I] (fun _ => True) xs Stw where
  frame := fun i h h' st hk _ => (W {} rfl).frame i h h' st hk
  notT := fun i h st b hb => by
    rw [List.mem_singleton.mp hb]
    obtain ⟨o, e, hc⟩ := hO i h st
    exact ⟨o, e, fun q => hT2 (by have := q.1; rw [hc] at this; exact Value.type.inj this)⟩
  next := fun i d A s mu target _ hx hA ht S hs hm st => by
    have hi : i < k := by rw [← hk]; exact (List.getElem?_eq_some_iff.mp hx).1
    refine (W A hA.hd).item i s _ _ hi st fun v h' tk hpv st' hkp => ⟨v, rfl, ?_⟩
    obtain ⟨o, e, hc⟩ := hO _ _ st'
    exact letOwned_plain (s := { s with heap := h', toks := tk }) e hc hT ⟨h', tk, rfl, hkp, hP i v d h' hpv hx, st'⟩
  self := fun i A s Q E hA st h => (W A hA.hd).self i s Q E st h
  done := fun i A s mu hx hA ht S hs hm st => by
    rw [hx, hk] at st
    exact (W A hA.hd).done s _ _ st fun h' tk hkp => ⟨rfl, h', tk, rfl, hkp⟩

def rangeL (a b st : Int) : List PV := (List.range (Builtin.Range.rangeSize a b st).toNat).map fun (i : Nat) => PV.int (a + (i : Int) * st)
theorem rangeSize_nonneg (a b st : Int) : 0 ≤ Builtin.Range.rangeSize a b st := by
  unfold Builtin.Range.rangeSize
  split
  · split
    · have := Int.ediv_nonneg (a := b - a - 1) (b := st) (by omega) (by omega); omega
    · omega
  · split
    · have := Int.ediv_nonneg (a := a - b - 1) (b := -st) (by omega) (by omega); omega
    · omega

theorem IterOf.range {r : Addr} {a b st : Int} (h0 : mu r = none) (hsm : Builtin.Range.small a b st = true) : IterOf c n anyT (upd mu r (.rng a b st)) (.ref r) (rangeL a b st) (fun _ => True) mu := by
  refine ⟨fun x o e => by rw [upd_ne _ _ (fun q => by rw [q, h0] at e; cases e)]; exact e, fun A s v hA ht S r0 => ?_⟩
  cases r0
  obtain ⟨t, u, w, e⟩ := S.objs r (.rng a b st) (by simp)
  have hne : s.heap.objs.size ≠ r := Nat.ne_of_gt (Heap.lt_size e)
  refine wpAny_pyIter_range e hsm ⟨_, [s.heap.objs.size], fun i h => IsRangeIter h s.heap.objs.size (a + (i : Nat) * st) (((Builtin.Range.rangeSize a b st).toNat : Int) - (i : Nat)) st, _, _, rfl, rfl, fun b o _ e' => Heap.get?_push_of_some _ e', ?_, ?_, ?_⟩
  · intro b hb
    have h1 := fresh_priv S b hb
    have hb' : b ≠ r := by rw [List.mem_singleton.mp hb]; exact hne
    exact ⟨h1.1, by have := h1.2.1; rwa [upd_ne _ _ hb'] at this, h1.2.2⟩
  · refine iter_walk (T := "range_iterator") (fun A' hA' => (Walks.range hA' _ a st (Builtin.Range.rangeSize a b st).toNat).bound) (by simp [rangeL]) (fun i v d h hp hd => ?_) (fun i h hh => ⟨_, hh, rfl⟩) (by decide) (by decide)
    obtain ⟨hi, tk, rfl⟩ := hp
    have : (rangeL a b st)[i]? = some (.int (a + (i : Int) * st)) := by simp [rangeL, hi]
    rw [this] at hd; cases hd
    exact .int _ _
  · show IsRangeIter _ _ _ _ _
    have e1 : ((Builtin.Range.rangeSize a b st).toNat : Int) - ((0 : Nat) : Int) = Builtin.Range.rangeSize a b st := by have := rangeSize_nonneg a b st; omega
    have e2 : a + ((0 : Nat) : Int) * st = a := by simp
    rw [e1, e2]
    exact Heap.get?_push_size _ rfl
end
end Mine

open PySem PySem.W PySem.Calls PyProof.Rows
set_option Elab.async false
set_option linter.unusedVariables false
namespace Mine

section
variable {c : Cx} {n : Nat} {sc : Scope} {m : Lm} {mu : Mu}

/-! # ints -/
theorem OpB.addI {a b : Int} {P : PV → Mu → Prop} (h : P (.int (a + b)) mu) : OpB c n mu .Add (.int a) (.int b) P := fun A s va vb hA ht S ra rb => by
  cases ra; cases rb; exact PySem.P.add_int (Post.pure S h (.int _ _))
theorem OpB.subI {a b : Int} {P : PV → Mu → Prop} (h : P (.int (a - b)) mu) : OpB c n mu .Sub (.int a) (.int b) P := fun A s va vb hA ht S ra rb => by
  cases ra; cases rb; exact PySem.P.sub_int (Post.pure S h (.int _ _))
theorem OpI.addI {a b : Int} {P : PV → Mu → Prop} (h : P (.int (a + b)) mu) : OpI c n mu .Add (.int a) (.int b) P := fun A s va vb hA ht S ra rb => by
  cases ra; cases rb; exact PySem.P.iadd_int (Post.pure S h (.int _ _))
theorem OpI.subI {a b : Int} {P : PV → Mu → Prop} (h : P (.int (a - b)) mu) : OpI c n mu .Sub (.int a) (.int b) P := fun A s va vb hA ht S ra rb => by
  cases ra; cases rb; exact PySem.P.isub_int (Post.pure S h (.int _ _))
theorem OpB.modI {a b : Int} {P : PV → Mu → Prop} (hb : b ≠ 0) (h : P (.int (a.fmod b)) mu) : OpB c n mu .Mod (.int a) (.int b) P := fun A s va vb hA ht S ra rb => by
  cases ra; cases rb; exact PyProof.Rows.mod_int' hb (Post.pure S h (.int _ _))
theorem OpB.divI {a b : Int} {P : PV → Mu → Prop} (hb : b ≠ 0) (hp : b.natAbs < 1000) (h : P (.int (a.fdiv b)) mu) : OpB c n mu .FloorDiv (.int a) (.int b) P := fun A s va vb hA ht S ra rb => by
  cases ra; cases rb; exact PyProof.Rows.floordiv_int hb (Post.pure S h (.int _ _)) (Or.inl (PyProof.noPylong_small (by omega)))
theorem OpI.divI {a b : Int} {P : PV → Mu → Prop} (hb : b ≠ 0) (hp : b.natAbs < 1000) (h : P (.int (a.fdiv b)) mu) : OpI c n mu .FloorDiv (.int a) (.int b) P := fun A s va vb hA ht S ra rb => by
  cases ra; cases rb; exact PyProof.Rows.ifloordiv_int hb (Post.pure S h (.int _ _)) (Or.inl (PyProof.noPylong_small (by omega)))
theorem OpU.negI {a : Int} {P : PV → Mu → Prop} (h : P (.int (-a)) mu) : OpU c n mu .USub (.int a) P := fun A s va hA ht S ra => by
  cases ra; exact PySem.P.neg_int (Post.pure S h (.int _ _))
theorem OpC.eqI {a b : Int} {P : PV → Mu → Prop} (h : P (.bool (decide (a = b))) mu) : OpC c n mu .Eq (.int a) (.int b) P := fun A s va vb hA ht S ra rb => by
  cases ra; cases rb; exact PySem.P.eq_int (Post.pure0 S h (by rw [show (a == b) = decide (a = b) from rfl]; exact .bool _))
theorem OpC.neI {a b : Int} {P : PV → Mu → Prop} (h : P (.bool (decide (a ≠ b))) mu) : OpC c n mu .NotEq (.int a) (.int b) P := fun A s va vb hA ht S ra rb => by
  cases ra; cases rb; exact PySem.P.ne_int (Post.pure0 S h (by rw [show (a != b) = decide (a ≠ b) from by simp [bne, BEq.beq]]; exact .bool _))
theorem OpC.ltI {a b : Int} {P : PV → Mu → Prop} (h : P (.bool (decide (a < b))) mu) : OpC c n mu .Lt (.int a) (.int b) P := fun A s va vb hA ht S ra rb => by
  cases ra; cases rb; exact PySem.P.lt_int (Post.pure0 S h (.bool _))
theorem OpC.leI {a b : Int} {P : PV → Mu → Prop} (h : P (.bool (decide (a ≤ b))) mu) : OpC c n mu .LtE (.int a) (.int b) P := fun A s va vb hA ht S ra rb => by
  cases ra; cases rb; exact PySem.P.le_int (Post.pure0 S h (.bool _))
theorem OpC.gtI {a b : Int} {P : PV → Mu → Prop} (h : P (.bool (decide (a > b))) mu) : OpC c n mu .Gt (.int a) (.int b) P := fun A s va vb hA ht S ra rb => by
  cases ra; cases rb; exact PySem.P.gt_int (Post.pure0 S h (.bool _))
theorem OpC.geI {a b : Int} {P : PV → Mu → Prop} (h : P (.bool (decide (a ≥ b))) mu) : OpC c n mu .GtE (.int a) (.int b) P := fun A s va vb hA ht S ra rb => by
  cases ra; cases rb; exact PySem.P.ge_int (Post.pure0 S h (.bool _))

/-! # truth -/
theorem OpT.bool {b : Bool} {P : Bool → Mu → Prop} (h : P b mu) : OpT c n mu (.bool b) P := fun A s va hA ht S ra => by
  cases ra; exact wpAny_truthy_bool (PostB.pure0 S h)
theorem OpT.int {a : Int} {P : Bool → Mu → Prop} (h : P (decide (a ≠ 0)) mu) : OpT c n mu (.int a) P := fun A s va hA ht S ra => by
  cases ra; exact PySem.P.truthy_int (PostB.pure0 S (by rw [show (a != 0) = decide (a ≠ 0) from by simp [bne, BEq.beq]]; exact h))
theorem OpT.str {x : Str} {P : Bool → Mu → Prop} (hsz : x.length < 2 ^ 62) (h : P (decide (x ≠ Str.empty)) mu) : OpT c n mu (.str x) P := fun A s va hA ht S ra => by
  cases ra
  refine PySem.P.truthy_str (by omega) (PostB.pure S ?_)
  have : ((x.length : Int) != 0) = decide (x ≠ Str.empty) := by
    obtain ⟨⟨l⟩⟩ := x
    cases l
    · simp [Str.length, Str.empty]
    · simp [Str.length, Str.empty]; omega
  rw [this]; exact h
theorem OpT.none {P : Bool → Mu → Prop} (h : P false mu) : OpT c n mu .none P := fun A s va hA ht S ra => by
  cases ra; exact wpAny_pure (PostB.pure0 S h)
/-! # is None -/
theorem OpC.isNone {a : PV} {P : PV → Mu → Prop} (ha : ∀ id, a ≠ .bi id) (h : P (.bool (match a with | .none => true | _ => false)) mu) : OpC c n mu .Is a .none P := fun A s va vb hA ht S ra rb => by
  cases rb
  cases ra <;> first | (exact wpAny_is_plain rfl (Post.pure0 S h (.bool _))) | (exact absurd rfl (ha _))
theorem OpC.isNotNone {a : PV} {P : PV → Mu → Prop} (ha : ∀ id, a ≠ .bi id) (h : P (.bool (match a with | .none => false | _ => true)) mu) : OpC c n mu .IsNot a .none P := fun A s va vb hA ht S ra rb => by
  cases rb
  cases ra <;> first | (exact wpAny_isNot_plain rfl (Post.pure0 S h (.bool _))) | (exact absurd rfl (ha _))

/-! # strs -/
theorem str_eq_empty {x : Str} (h : (x.length == 0) = true) : x = Str.empty := by
  obtain ⟨⟨l⟩⟩ := x
  cases l <;> simp_all [Str.length, Str.empty]
theorem OpI.addS {x y : Str} {P : PV → Mu → Prop} (hsz : x.length + y.length ≤ sizeLine) (h : P (.str (x ++ y)) mu) : OpI c n mu .Add (.str x) (.str y) P := fun A s va vb hA ht S ra rb => by
  cases ra; cases rb
  refine PySem.P.iadd_str ?_
  split
  · rename_i hx; have := str_eq_empty hx; subst this
    exact Post.pure0 S (by rw [Str.empty_append] at h; exact h) (.str _ _)
  · split
    · rename_i hy; have := str_eq_empty hy; subst this
      exact Post.pure0 S (by rw [Str.append_empty] at h; exact h) (.str _ _)
    · exact ⟨by rw [Str.length_append]; exact hsz, Post.pure S h (.str _ _)⟩
theorem OpC.eqS {x y : Str} {P : PV → Mu → Prop} (h : P (.bool (decide (x = y))) mu) : OpC c n mu .Eq (.str x) (.str y) P := fun A s va vb hA ht S ra rb => by
  cases ra; cases rb
  refine PySem.P.eq_str (Post.pure0 S h ?_)
  have : (x.cps.toList == y.cps.toList) = decide (x = y) := by
    obtain ⟨⟨l⟩⟩ := x; obtain ⟨⟨k⟩⟩ := y
    by_cases h : l = k <;> simp [h]
  rw [this]; exact .bool _
theorem OpC.neS {x y : Str} {P : PV → Mu → Prop} (h : P (.bool (decide (x ≠ y))) mu) : OpC c n mu .NotEq (.str x) (.str y) P := fun A s va vb hA ht S ra rb => by
  cases ra; cases rb
  refine PySem.P.ne_str (Post.pure0 S h ?_)
  have : (x.cps.toList != y.cps.toList) = decide (x ≠ y) := by
    obtain ⟨⟨l⟩⟩ := x; obtain ⟨⟨k⟩⟩ := y
    by_cases h : l = k <;> simp [h]
  rw [this]; exact .bool _
theorem OpC.inS {x y : Str} {P : PV → Mu → Prop} (h : P (.bool (Txt.contains x y)) mu) : OpC c n mu .In (.str y) (.str x) P := fun A s va vb hA ht S ra rb => by
  cases ra; cases rb
  exact PySem.P.in_str (Post.pure0 S h (.bool _))
theorem OpG.str {x : Str} {i : Int} {ch : Nat} {P : PV → Mu → Prop} (hr : -(2 ^ 63 : Int) ≤ i ∧ i < 2 ^ 63) (hc : (seqIndex? i x.length).bind (x.cps[·]?) = some ch) (h : P (.str ⟨#[ch]⟩) mu) : OpG c n mu (.str x) (.int i) P := fun A s va vb hA ht S ra rb => by
  cases ra; cases rb
  exact PySem.P.getItem_str (by simp; omega) hc (Post.pure S h (.str _ _))
theorem Ty.str {x : Str} : Ty c mu (.str x) "str" := fun s v S r => by cases r; exact typeIs_str _ _ _
theorem Ty.tuple {ds : List PV} : Ty c mu (.tuple ds) "tuple" := fun s v S r => by cases r with | tuple e _ => exact ⟨_, e, rfl⟩
theorem Ty.list {l : Addr} {xs : List PV} (hl : mu l = some (.list xs)) : Ty c mu (.ref l) "list" := fun s v S r => by
  cases r; obtain ⟨vs, k, e, rs⟩ := S.objs l _ hl; exact ⟨_, e, rfl⟩
theorem Ty.baseList {l : Addr} {xs : List PV} (hl : BaseList c l xs) : Ty c mu (.ref l) "list" := fun s v S r => by
  cases r; obtain ⟨vs, ⟨o, e, hc, _⟩, _⟩ := hl.at S; exact ⟨_, e, hc⟩
theorem CallV.lenS {x : Str} {P : PV → Mu → Prop} (hsz : x.length < 2 ^ 62) (h : P (.int x.length) mu) : CallV c n mu (.builtin "len") [.str x] [] P := fun A s vs kvs hA ht S r rk => by
  cases r with | cons r0 r =>
  cases r; cases rk; cases r0
  exact PySem.P.len_str (by omega) (Post.pure S h (.int _ _))
/-! # lists -/
theorem CallV.lenL {l : Addr} {xs : List PV} {P : PV → Mu → Prop} (hl : mu l = some (.list xs)) (hsz : xs.length < 2 ^ 62) (h : P (.int xs.length) mu) : CallV c n mu (.builtin "len") [.ref l] [] P := fun A s vs kvs hA ht S r rk => by
  cases r with | cons r0 r =>
  cases r; cases rk; cases r0
  obtain ⟨ws, k, e, rs⟩ := S.objs l _ hl
  have hlen := rs.length
  refine call_len_list (items := ws.toArray) ⟨_, e, rfl, k, rfl⟩ (by simp; omega) ?_
  exact Post.pure S h (by rw [show ((ws.toArray.size : Nat) : Int) = xs.length from by simp [hlen]]; exact .int _ _)
theorem OpG.base {l : Addr} {xs : List PV} {i : Int} {d : PV} {P : PV → Mu → Prop} (hl : BaseList c l xs) (h0 : 0 ≤ i) (h1 : i < 2 ^ 63) (hd : xs[i.toNat]? = some d) (h : P d mu) : OpG c n mu (.ref l) (.int i) P := fun A s va vi hA ht S ra ri => by
  cases ra; cases ri
  obtain ⟨ws, hli, rs⟩ := hl.at S
  obtain ⟨v, hv, rv⟩ := rs.get hd
  exact wpAny_getItem_list hli h0 h1 (by simpa using hv) (Post.pure0 S h rv)
theorem OpG.list {l : Addr} {xs : List PV} {i : Int} {d : PV} {P : PV → Mu → Prop} (hl : mu l = some (.list xs)) (h0 : 0 ≤ i) (h1 : i < 2 ^ 63) (hd : xs[i.toNat]? = some d) (h : P d mu) : OpG c n mu (.ref l) (.int i) P := fun A s va vi hA ht S ra ri => by
  cases ra; cases ri
  obtain ⟨ws, k, e, rs⟩ := S.objs l _ hl
  obtain ⟨v, hv, rv⟩ := rs.get hd
  exact wpAny_getItem_list (items := ws.toArray) ⟨_, e, rfl, k, rfl⟩ h0 h1 (by simpa using hv) (Post.pure0 S h rv)
theorem Step.pushT {T : Addr → Prop} {s : Shared} {o : Obj} {x : AO} {k : Nat} (S : St c mu s.heap) (r : RepO c (s.heap.push o) s.heap.objs.size x) : Step c T mu s (upd mu s.heap.objs.size x) { s with heap := s.heap.push o, toks := k } :=
  (Step.push S r).trans (Step.tok (Step.push (T := T) (s := s) S r).st)
theorem CallV.range1 {b : Int} {P : PV → Mu → Prop} (h : ∀ r, mu r = none → P (.ref r) (upd mu r (.rng 0 b 1))) : CallV c n mu (.type "range") [.int b] [] P := fun A s vs kvs hA ht S r rk => by
  cases r with | cons r0 r =>
  cases r; cases rk; cases r0
  refine call_range_1 ?_
  exact ⟨_, _, h _ (S.off (Nat.le_refl _)), Step.pushT S (by exact ⟨_, _, _, Heap.get?_push_size _ rfl⟩), .ref _⟩
end
end Mine

open PySem PySem.W PySem.Calls PyProof.Rows PySem.Builtin.Re
set_option Elab.async false
set_option linter.unusedVariables false
set_option maxRecDepth 100000
namespace Mine
theorem slot_search : Slot "re.Pattern" "search" "re.Pattern.search" :=
  .of (owner := "re.Pattern") (n := "search") (by rw [typeLookup_type, builtinLookup_eq_fast]; kernel_rfl) (by decide +kernel) (by decide +kernel) (by decide +kernel)
    (by first | exact .inl (by decide +kernel) | exact .inr (by decide +kernel)) (by rw [isSubtype_type]; kernel_rfl)
theorem entry_search : entryFor table "re.Pattern.search" = some Builtin.«re.Pattern.search» := entryFor_of_fast (by kernel_rfl)
theorem args_search (a b : Value) : argsOk "re.Pattern.search" ⟨[a, b], []⟩ := by unfold argsOk; kernel_rfl
theorem plain_pattern : PlainAttrs "re.Pattern" := ⟨⟨"object.__getattribute__", by rw [typeLookup_type, builtinLookup_eq_fast]; kernel_rfl, by decide +kernel⟩, by rw [typeLookup_type, builtinLookup_eq_fast]; kernel_rfl⟩
theorem ty_search : typeOf (.builtin "re.Pattern.search") = pure (.type "method_descriptor") := by kernel_rfl

section
variable {M : Model} {A : Around} {E : Value → Shared → Prop} {s : Shared}
theorem named_eq (v : Value) : reNamed "re.Pattern.search" "search" ["string", "pos", "endpos"] 1 [v] [] = pure [some v, none, none] := by rfl

theorem wp_target {p T : Addr} {x : Str} {t : Tok} {fs ws : Array Value} {k : Nat} {Q : ReTarget → Shared → Prop} {o : Obj} (hp : s.heap.get? p = some o) (hd : o.data = .fields fs) (h6 : reRawNat (fs.getD 6 .none) = 0) (h5 : fs.getD 5 .none = .ref T) {oT : Obj} (hT : s.heap.get? T = some oT) (hdT : oT.data = .seq ws k)
    (hsz : x.cps.size ≤ 2 ^ 62)
    (h : Q { pattern := .ref p, string := .str x t, code := (ws.map reRawOf).map (·.toNat), text := x.cps, kind := 0, groups := reRawNat (fs.getD 2 .none), pos := 0, lim := x.cps.size } s) :
    wpAny M A (reTarget "re.Pattern.search" "search" ⟨[.ref p, .str x t], []⟩) Q E s := by
  unfold reTarget
  refine wpAny_bind (wpAny_of_eq (named_eq _) ?_)
  refine wpAny_bind (wpAny_pure (wpAny_bind (wpAny_pure (wpAny_bind (wpAny_fieldsOf hp hd ?_)))))
  refine wpAny_bind (wpAny_pure ?_)
  dsimp only
  rw [h6]
  simp only [beq_self_eq_true, Bool.true_and, Nat.reduceBEq, Bool.false_eq_true, if_false, Bool.and_true]
  refine wpAny_bind (wpAny_pure ?_)
  refine wpAny_bind ?_
  unfold reRawItems
  rw [h5]
  refine wpAny_bind (wpAny_seqItems hT hdT (wpAny_pure (wpAny_pure ?_)))
  have e : min ((2 ^ 63 - 1 : Int)).toNat x.cps.size = x.cps.size := by
    have : ((2 ^ 63 - 1 : Int)).toNat = 2 ^ 63 - 1 := by decide
    omega
  simp only [Option.getD_some]
  rw [show min (0 : Int).toNat x.cps.size = 0 from by simp]
  rw [e]
  exact h
end

/-! ## the machine over a first set -/
/-- a pattern that is one set of signs: the set by the header, the set by the body -/
structure SetCode (code : Array Nat) (f : Nat → Bool) : Prop where
  head : (Sre.header code) = (1, 15) ∨ (Sre.header code) = (1, 11)
  info : code.getD 2 0 = 4
  info0 : code.getD 0 0 = 14
  first : ∀ ch seen, ∃ seen', Sre.inSet code ch code.size 5 true seen = .ok (f ch, seen')
  body : ∀ ch seen, ∃ seen', Sre.accepts code (Sre.header code).2 ch seen = .ok (f ch, seen')
  isIn : code.getD (Sre.header code).2 0 = 13
  width : code.getD ((Sre.header code).2 + Sre.itemWidth code (Sre.header code).2) 0 = 1
  size : (Sre.header code).2 + Sre.itemWidth code (Sre.header code).2 < code.size

theorem admitted_spec {code : Array Nat} {f : Nat → Bool} (hc : SetCode code f) (m : Sre.M) (hm : m.code = code) (hl : m.lim = m.text.size) : ∀ (k s : Nat) (seen : Sre.Seen), m.lim + 1 - s ≤ k → s ≤ m.lim →
    (∃ seen', Sre.M.admitted m k s seen = .ok (none, seen') ∧ ∀ j, s ≤ j → j < m.text.size → f (m.text.getD j 0) = false) ∨
    (∃ i seen', Sre.M.admitted m k s seen = .ok (some i, seen') ∧ s ≤ i ∧ i < m.text.size ∧ f (m.text.getD i 0) = true)
  | 0, s, seen, hk, hs => by omega
  | k + 1, s, seen, hk, hs => by
    unfold Sre.M.admitted
    by_cases hge : s ≥ m.lim
    · rw [if_pos hge]; exact .inl ⟨seen, rfl, fun j h1 h2 => by omega⟩
    · rw [if_neg hge, hm]
      obtain ⟨seen', e⟩ := hc.first (m.text.getD s 0) seen
      rw [e]
      cases hf : f (m.text.getD s 0) with
      | true => exact .inr ⟨s, seen', rfl, Nat.le_refl _, by omega, hf⟩
      | false =>
        rcases admitted_spec hc m hm hl k (s + 1) seen' (by omega) (by omega) with ⟨s2, e2, h2⟩ | ⟨i, s2, e2, h3, h4, h5⟩
        · refine .inl ⟨s2, e2, fun j h1 h6 => ?_⟩
          by_cases hj : j = s
          · subst hj; exact hf
          · exact h2 j (by omega) h6
        · exact .inr ⟨i, s2, e2, by omega, h4, h5⟩


theorem forSearch_eq (code text : Array Nat) : Sre.forSearch code text 0 0 text.size false =
    (let m : Sre.M := { code, text, lim := text.size, start := 0, pc := (Sre.header code).2, pos := 0, handed := 0, marks := Array.replicate (2 * 0) none, mustAdvance := false, seen := if (Sre.header code).2 == 0 then {} else ({} : Sre.Seen).add 14 }
     let hinted := (Sre.header code).2 != 0 && code.getD 2 0 &&& 5 != 0
     if 0 > text.size || text.size - 0 < (Sre.header code).1 then m.say false
     else { m with lastStart := if (Sre.header code).1 > 1 && !hinted then max 0 (text.size - ((Sre.header code).1 - 1)) else text.size }.attemptFrom 0 true) := rfl

theorem run_said {m : Sre.M} (h1 : m.outcome = none) (h2 : m.frames = []) (h3 : m.answer = some false) : (m.runFor 4).outcome = some .failed := by
  have e : m.step = { m with outcome := some .failed } := by
    unfold Sre.M.step
    rw [h1, h2, h3]; rfl
  unfold Sre.M.runFor
  rw [h1, e]
  rfl

theorem step_in {code : Array Nat} {f : Nat → Bool} (hc : SetCode code f) {m : Sre.M} (h1 : m.outcome = none) (h2 : m.answer = none) (h3 : m.code = code) (h4 : m.pc = (Sre.header code).2) (h5 : m.pos < m.lim) (h6 : f (m.text.getD m.pos 0) = true) :
    ∃ seen', m.step = { m with seen := seen', pc := m.pc + Sre.itemWidth code (Sre.header code).2, pos := m.pos + 1 } := by
  obtain ⟨seen', e⟩ := hc.body (m.text.getD m.pos 0) (m.seen.add 13)
  refine ⟨seen', ?_⟩
  have hlt : m.pc < m.code.size := by have := hc.size; rw [h3, h4]; omega
  have hw : m.word 0 = 13 := by unfold Sre.M.word; rw [h3, h4]; exact hc.isIn
  unfold Sre.M.step
  rw [h1, h2]
  simp only [Option.isSome_none, Bool.false_eq_true, if_false, if_pos hlt]
  unfold Sre.M.exec
  rw [hw]
  have ho : Sre.ops[13]? = some Sre.Op.IN := rfl
  rw [ho]
  simp only [ge_iff_le, Nat.not_le.mpr h5, if_false, h3, h4, e, h6, h1, h2]

theorem step_ok {code : Array Nat} {f : Nat → Bool} (hc : SetCode code f) {m : Sre.M} (h1 : m.outcome = none) (h2 : m.answer = none) (h3 : m.code = code) (h4 : m.pc = (Sre.header code).2 + Sre.itemWidth code (Sre.header code).2) (h5 : m.wholeText = false) (h6 : m.mustAdvance = false) :
    ∃ seen', m.step = { m with seen := seen', handed := m.pos, answer := some true } := by
  have hlt : m.pc < m.code.size := by have := hc.size; rw [h3, h4]; omega
  have hw : m.word 0 = 1 := by unfold Sre.M.word; rw [h3, h4]; exact hc.width
  refine ⟨m.seen.add 1, ?_⟩
  unfold Sre.M.step
  rw [h1, h2]
  simp only [Option.isSome_none, Bool.false_eq_true, if_false, if_pos hlt]
  unfold Sre.M.exec
  rw [hw]
  have ho : Sre.ops[1]? = some Sre.Op.SUCCESS := rfl
  rw [ho]
  simp only [h5, h6, Bool.false_and, Bool.or_false, Bool.and_false, Bool.false_eq_true, if_false, Sre.M.say, h1, h2]

theorem search_run {code : Array Nat} {f : Nat → Bool} (hc : SetCode code f) (text : Array Nat) :
    (((Sre.forSearch code text 0 0 text.size false).runFor 4).outcome = some .failed ∧ ∀ j, j < text.size → f (text.getD j 0) = false) ∨
    (((Sre.forSearch code text 0 0 text.size false).runFor 4).outcome = some .matched ∧ ∃ j, j < text.size ∧ f (text.getD j 0) = true) := by
  rw [forSearch_eq]
  have h1 : (Sre.header code).1 = 1 := by rcases hc.head with h | h <;> rw [h]
  have hB : ((Sre.header code).2 == 0) = false := by rcases hc.head with h | h <;> rw [h] <;> rfl
  generalize hB' : (Sre.header code).2 = B at *
  simp only [h1, hB, hc.info, Bool.false_eq_true, if_false]
  by_cases hz : text.size = 0
  · left
    rw [if_pos (by simp [hz])]
    exact ⟨run_said rfl rfl rfl, fun j hj => by omega⟩
  rw [if_neg (by rw [Bool.or_eq_true, decide_eq_true_eq, decide_eq_true_eq]; omega)]
  rw [if_neg (by simp)]
  generalize hm : ({ code := code, text := text, lim := text.size, start := 0, lastStart := text.size, pc := B, pos := 0, handed := 0, marks := Array.replicate (2 * 0) none, seen := ({} : Sre.Seen).add 14 } : Sre.M) = m
  have hcode : m.code = code := by rw [← hm]
  have htext : m.text = text := by rw [← hm]
  have hlim : m.lim = text.size := by rw [← hm]
  have hfs : m.hasFirstSet = true := by
    unfold Sre.M.hasFirstSet
    rw [hcode, hc.info0, hc.info]; rfl
  unfold Sre.M.attemptFrom
  rw [hfs]
  simp only [Bool.not_true, Bool.false_eq_true, if_false]
  rcases admitted_spec hc m hcode (by rw [hlim, htext]) (m.lim + 1 - 0) 0 m.seen (Nat.le_refl _) (Nat.zero_le _) with ⟨seen', e, hn⟩ | ⟨i, seen', e, _, hi, hfi⟩
  · left
    rw [e]
    refine ⟨run_said (by rw [← hm]; rfl) (by rw [← hm]; rfl) rfl, fun j hj => by rw [← htext]; exact hn j (Nat.zero_le _) (by rw [htext]; exact hj)⟩
  · right
    rw [e]
    rw [htext] at hi hfi
    refine ⟨?_, i, hi, hfi⟩
    dsimp only
    have ha : ({ m with mustAdvance := false, seen := seen' } : Sre.M).attemptAt i true = { m with mustAdvance := false, seen := seen', start := i, pos := i, lastmark := -1, lastindex := -1, frames := [{ wait := .nextStart, pc := m.pc, pos := i, outermost := true }], weight := 1, handed := i, outermost := true } := by
      rw [← hm]; rfl
    rw [ha]
    generalize ha' : ({ m with mustAdvance := false, seen := seen', start := i, pos := i, lastmark := -1, lastindex := -1, frames := [{ wait := .nextStart, pc := m.pc, pos := i, outermost := true }], weight := 1, handed := i, outermost := true } : Sre.M) = m1
    have o1 : m1.outcome = none := by rw [← ha', ← hm]
    obtain ⟨s2, e2⟩ := step_in hc (m := m1) o1 (by rw [← ha', ← hm]) (by rw [← ha']; exact hcode) (by rw [← ha', ← hm]; exact hB'.symm) (by rw [← ha', ← hm]; exact hi) (by rw [← ha']; show f (m.text.getD i 0) = true; rw [htext]; exact hfi)
    generalize hm2 : ({ m1 with seen := s2, pc := m1.pc + Sre.itemWidth code (Sre.header code).2, pos := m1.pos + 1 } : Sre.M) = m2 at e2
    have o2 : m2.outcome = none := by rw [← hm2]; exact o1
    obtain ⟨s3, e3⟩ := step_ok hc (m := m2) o2 (by rw [← hm2, ← ha', ← hm]) (by rw [← hm2, ← ha']; exact hcode) (by rw [← hm2, ← ha', ← hm]; show B + _ = _; rw [hB']) (by rw [← hm2, ← ha', ← hm]) (by rw [← hm2, ← ha'])
    generalize hm3 : ({ m2 with seen := s3, handed := m2.pos, answer := some true } : Sre.M) = m3 at e3
    have o3 : m3.outcome = none := by rw [← hm3]; exact o2
    have e4 : ∃ m4, m3.step = m4 ∧ m4.outcome = none ∧ m4.answer = some true ∧ m4.frames = [] := by
      refine ⟨_, rfl, ?_⟩
      rw [← hm3, ← hm2, ← ha', ← hm]
      exact ⟨rfl, rfl, rfl⟩
    obtain ⟨m4, e4, o4, a4, f4⟩ := e4
    have e5 : m4.step.outcome = some .matched := by
      unfold Sre.M.step
      rw [o4, a4, f4]; rfl
    unfold Sre.M.runFor; rw [o1, e2]
    unfold Sre.M.runFor; rw [o2, e3]
    unfold Sre.M.runFor; rw [o3, e4]
    unfold Sre.M.runFor; rw [o4]
    simp only [Option.isSome_none, Bool.false_eq_true, if_false]
    unfold Sre.M.runFor
    exact e5

section
variable {c : Cx} {n : Nat} {mu : Mu}
theorem rules_go {M : Model} {A : Around} {E : Value → Shared → Prop} {s : Shared} {Q : PUnit → Shared → Prop} {b : Nat → PUnit → Sem (ForInStep PUnit)} (l : List Nat) (hb : ∀ i u, (∃ g, b i u = (rule g >>= fun _ => pure (ForInStep.yield PUnit.unit))) ∨ b i u = pure (ForInStep.yield PUnit.unit)) (h : Q ⟨⟩ s) :
    wpAny M A (forIn l PUnit.unit b) Q E s := by
  refine wpAny_forIn_list _ (fun _ _ s' => s' = s) _ (fun x rest u s' hs => ?_) (fun b s' hs => by subst hs; exact h) l _ rfl
  subst hs
  rcases hb x u with ⟨g, e⟩ | e
  · rw [e]; exact wpAny_bind (wpAny_rule (wpAny_pure rfl))
  · rw [e]; exact wpAny_pure rfl

theorem drive_go {M : Model} {A : Around} {E : Value → Shared → Prop} {s : Shared} {Q : Sre.M → Shared → Prop} {m : Sre.M} (ho : (m.runFor 4).outcome.isSome = true) (h : Q (m.runFor 4) s) : wpAny M A (reDrive (2 ^ 64) m) Q E s := by
  have e : ∀ k, reDrive (k + 1) m = pure (m.runFor 4) := fun k => by
    rw [reDrive]
    show (if (m.runFor 4).outcome.isSome = true then _ else _) = _
    rw [if_pos ho]; rfl
  rw [show (2 ^ 64 : Nat) = 18446744073709551615 + 1 from rfl, e]
  exact wpAny_pure h

/-- the search of a set of signs -/
theorem CallV.search {p T : Addr} {x : Str} {fs ws : Array Value} {k : Nat} {code : Array Nat} {f : Nat → Bool} {P : PV → Mu → Prop} (hp : c.base.get? p = some { cls := .type "re.Pattern", data := .fields fs }) (h6 : reRawNat (fs.getD 6 .none) = 0) (h5 : fs.getD 5 .none = .ref T) (h2 : reRawNat (fs.getD 2 .none) = 0)
    (hT : c.base.get? T = some { cls := .type "tuple", data := .seq ws k }) (hcode : (ws.map reRawOf).map (·.toNat) = code) (hc : SetCode code f) (hsz : x.length ≤ 2 ^ 62)
    (h0 : x.cps.any f = false → P .none mu) (h1 : x.cps.any f = true → ∀ a o, mu a = none → o.cls = .type "re.Match" → o.dict = none → P (.ref a) (upd mu a (.obj o))) : CallV c n mu (.builtin "re.Pattern.search") [.ref p, .str x] [] P := fun A s vs kvs hA ht S r rk => by
  cases r with | cons r0 r =>
  cases r with | cons r1 r =>
  cases r; cases rk; cases r0; cases r1
  rename_i t
  refine wpAny_call_entry slot_search ⟨_, S.base _ _ hp, rfl⟩ entry_search ?_ (args_search _ _)
  unfold Builtin.«re.Pattern.search»
  refine wpAny_bind (wp_target (S.base _ _ hp) rfl h6 h5 (S.base _ _ hT) rfl hsz ?_)
  dsimp only
  rw [h2, hcode]
  unfold reAnswer reRunToEnd
  have any_iff : x.cps.any f = true ↔ ∃ j, j < x.cps.size ∧ f (x.cps.getD j 0) = true := by
    rw [Array.any_eq_true]
    constructor
    · rintro ⟨i, hi, hf⟩; exact ⟨i, hi, by rw [Array.getD_eq_getD_getElem?, Array.getElem?_eq_getElem hi]; exact hf⟩
    · rintro ⟨i, hi, hf⟩; refine ⟨i, hi, ?_⟩; rw [Array.getD_eq_getD_getElem?, Array.getElem?_eq_getElem hi] at hf; exact hf
  rcases search_run hc x.cps with ⟨ho, hn⟩ | ⟨ho, j, hj, hfj⟩
  · refine wpAny_bind (wpAny_bind (drive_go (by rw [ho]; rfl) (wpAny_bind (rules_go _ (fun i u => by split <;> first | exact .inl ⟨_, rfl⟩ | exact .inr rfl) ?_))))
    rw [ho]
    refine wpAny_pure (wpAny_pure ⟨_, rfl, Post.pure0 S (h0 ?_) .none⟩)
    cases q : x.cps.any f with
    | false => rfl
    | true => obtain ⟨j, hj, hf⟩ := any_iff.mp q; rw [hn j hj] at hf; cases hf
  · refine wpAny_bind (wpAny_bind (drive_go (by rw [ho]; rfl) (wpAny_bind (rules_go _ (fun i u => by split <;> first | exact .inl ⟨_, rfl⟩ | exact .inr rfl) ?_))))
    rw [ho]
    refine wpAny_pure ?_
    refine wpAny_bind ?_
    unfold reNewMatch
    simp only [List.range_zero, List.flatMap_nil, List.any_nil, Bool.false_eq_true, if_false]
    refine wpAny_bind (wpAny_newTuple ?_)
    refine wpAny_newObj_type ?_
    refine wpAny_pure ⟨_, rfl, ?_⟩
    have x1 : Step c noT mu s mu { s with heap := s.heap.push { cls := .type "tuple", data := .seq ([rawInt ((Sre.forSearch code x.cps 0 0 x.cps.size false).runFor 4).start, rawInt ((Sre.forSearch code x.cps 0 0 x.cps.size false).runFor 4).handed] : List Value).toArray } } := Step.pushOff S
    refine ⟨.ref _, _, h1 (any_iff.mpr ⟨j, hj, hfj⟩) _ _ (x1.st.off (Nat.le_refl _)) ?_ ?_, x1.trans (Step.push x1.st ⟨Heap.get?_push_size _ rfl, ?_⟩), .ref _⟩
    · rfl
    · rfl
    · simp [IsT]
end
end Mine

open PySem PySem.W PySem.Calls PyProof.Rows
set_option Elab.async false
set_option linter.unusedVariables false
set_option maxRecDepth 100000
namespace Mine

section
variable {c : Cx} {n : Nat} {sc : Scope} {m : Lm} {mu : Mu}

theorem Meth.str {x : Str} {name : Str} {id : String} (slot : Slot "str" name id) (hty : typeOf (.builtin id) = pure (.type "method_descriptor")) : Meth c mu (.str x) name (.builtin id) := fun A s v pl Q E S r h => by
  cases r
  exact getMethod_builtin (typeIs_str _ _ _) F.plainAttrs_str slot hty (fun a q => by cases q) h
theorem Meth.list {l : Addr} {xs : List PV} {name : Str} {id : String} (hl : mu l = some (.list xs)) (slot : Slot "list" name id) (hty : typeOf (.builtin id) = pure (.type "method_descriptor")) : Meth c mu (.ref l) name (.builtin id) := fun A s v pl Q E S r h => by
  cases r
  obtain ⟨vs, k, e, rs⟩ := S.objs l _ hl
  exact getMethod_builtin ⟨_, e, rfl⟩ F.plainAttrs_list slot hty (fun a q => by cases q; exact ⟨_, e, rfl⟩) h
theorem Meth.pattern {p : Addr} {fs : Array Value} (hp : c.base.get? p = some { cls := .type "re.Pattern", data := .fields fs }) : Meth c mu (.ref p) "search" (.builtin "re.Pattern.search") := fun A s v pl Q E S r h => by
  cases r
  exact getMethod_builtin ⟨_, S.base _ _ hp, rfl⟩ plain_pattern slot_search ty_search (fun a q => by cases q; exact ⟨_, S.base _ _ hp, rfl⟩) h

/-! ## forgetting -/
theorem St.sub {mu' : Mu} {h : Heap} (hs : Sub mu mu') (S : St c mu' h) : St c mu h :=
  ⟨S.base, fun a o e => S.objs a o (hs a o e), fun a ha => S.new a (by obtain ⟨o, e⟩ := Option.ne_none_iff_exists'.mp ha; rw [hs a o e]; simp)⟩
theorem Fm.sub {mu' : Mu} {h : Heap} {env : Env} (hs : Sub mu mu') (F : Fm c mu' h env m) : Fm c mu h env m :=
  have hn : ∀ b, mu' b = none → mu b = none := fun b hb => by
    cases q : mu b with
    | none => rfl
    | some o => rw [hs b o q] at hb; cases hb
  { F with offL := hn _ F.offL, offC := fun x ca e => ⟨hn _ (F.offC x ca e).1, (F.offC x ca e).2⟩ }
theorem Step.subT {T : Addr → Prop} {mu' mu2 : Mu} {s s2 : Shared} (hs : Sub mu mu') (x : Step c T mu s mu2 s2) : Step c T mu' s mu2 s2 :=
  have hn : ∀ b, mu' b = none → mu b = none := fun b hb => by
    cases q : mu b with
    | none => rfl
    | some o => rw [hs b o q] at hb; cases hb
  ⟨x.shape, x.st, fun b o e hm hT => x.keep b o e (hn b hm) hT, fun b o e hm => x.alive b o e (hn b hm), fun b hb => (x.dom b hb).imp (fun h => fun q => h (hn b q)) id⟩
theorem ExS.forget {mu' : Mu} {ss : List Stmt} {P : FV → Lm → Mu → Prop} (hs : Sub mu mu') (h : ExS c n sc m mu ss P) : ExS c n sc m mu' ss P := fun env A s he hA ht S F =>
  wpAny_mono (h env A s he hA ht (S.sub hs) (F.sub hs)) (fun _ _ ⟨fl, m2, mu2, a, x, F2, r⟩ => ⟨fl, m2, mu2, a, Step.subT hs x, F2, r⟩) fun _ _ x => x
/-- forgetting names of the frame -/
theorem ExS.weak {m' : Lm} {ss : List Stmt} {P : FV → Lm → Mu → Prop} (hw : ∀ x d, m.lookup x = some d → m'.lookup x = some d) (h : ExS c n sc m mu ss P) : ExS c n sc m' mu ss P := fun env A s he hA ht S F => h env A s he hA ht S (F.weak hw)
theorem sub_upd {a : Addr} {o : AO} (h : mu a = none) : Sub mu (upd mu a o) := fun b x e => by
  rw [upd_ne _ _ (fun q => by rw [q, h] at e; cases e)]; exact e
theorem Sub.trans {mu1 mu2 mu3 : Mu} (h : Sub mu1 mu2) (k : Sub mu2 mu3) : Sub mu1 mu3 := fun a o e => k a o (h a o e)

/-! ## a match is true -/
/-! ## f-strings -/
def EvJ (c : Cx) (n : Nat) (sc : Scope) (m : Lm) (mu : Mu) (es : List PySem.Expr) (acc : Str) (P : PV → Mu → Prop) : Prop :=
  ∀ env A s, env.scope = sc → AOk n A → 0 < s.toks → St c mu s.heap → Fm c mu s.heap env m → wpAny c.M A (joinParts acc (evalEach es env)) (Post c mu s P) NoE s
theorem EvJ.nil {acc : Str} {P : PV → Mu → Prop} (hsz : acc.length ≤ sizeLine) (h : P (.str acc) mu) : EvJ c n sc m mu [] acc P := fun env A s he hA ht S F =>
  wpAny_mkStr (Post.pure S h (.str _ _)) hsz
theorem EvJ.cons {e : PySem.Expr} {es : List PySem.Expr} {acc : Str} {P : PV → Mu → Prop} (h : EvE c n sc m mu e fun d mu1 => ∃ y, d = .str y ∧ acc.length + y.length ≤ sizeLine ∧ EvJ c n sc m mu1 es (acc ++ y) P) : EvJ c n sc m mu (e :: es) acc P := by
  intro env A s he hA ht S F
  show wpAny c.M A (joinParts acc (eval e env :: evalEach es env)) _ _ s
  rw [joinParts]
  refine wpAny_bind (EvE.bind h he hA ht S F fun v s1 d mu1 hp x1 t1 S1 F1 r1 _ => ?_)
  obtain ⟨y, rfl, hz, h1⟩ := hp
  cases r1
  refine wpAny_bind (wpAny_pure ?_)
  show wpAny c.M A (if acc.length + y.length > sizeLine then _ else _) _ _ s1
  rw [if_neg (Nat.not_lt.mpr hz)]
  first
    | exact wpAny_mono (h1 env A s1 he hA t1 S1 F1) (fun _ _ p => p.after x1) fun _ _ x => x
    | exact wpAny_bind (wpAny_pure (wpAny_mono (h1 env A s1 he hA t1 S1 F1) (fun _ _ p => p.after x1) fun _ _ x => x))
theorem EvE.joined {e1 e2 : PySem.Expr} {es : List PySem.Expr} {pos : Pos} {P : PV → Mu → Prop} (h : EvJ c n sc m mu (e1 :: e2 :: es) Str.empty P) : EvE c n sc m mu (.JoinedStr (e1 :: e2 :: es) pos) P := fun env A s he hA ht S F => by
  rw [arm_eval_JoinedStr]
  exact h env A s he hA ht S F
theorem EvE.fmtS {e : PySem.Expr} {pos : Pos} {P : PV → Mu → Prop} (h : EvE c n sc m mu e fun d mu1 => ∃ y, d = .str y ∧ y.length ≤ sizeLine ∧ P (.str y) mu1) : EvE c n sc m mu (.FormattedValue e 115 none pos) P := fun env A s he hA ht S F => by
  rw [arm_eval_FormattedValue]
  refine wpAny_bind (EvE.bind h he hA ht S F fun v s1 d mu1 hp x1 t1 S1 F1 r1 _ => ?_)
  obtain ⟨y, rfl, hz, h1⟩ := hp
  cases r1
  refine wpAny_bind (wpAny_standAt (wpAny_bind (wpAny_holding ?_)))
  show wpAny c.M A (habitSame "fstring-hands-on-the-str" (.str y _)) _ _ s1
  have fin : ∀ t (s2 : Shared), Step c noT mu1 s1 mu1 s2 → wpAny c.M A (formatField (.str y t) Str.empty) (Post c mu s P) NoE s2 := fun t s2 x2 => by
    show wpAny _ _ (do rule "fstring.same-str"; habitSame "fstring-hands-on-the-str" (.str y t)) _ _ s2
    refine wpAny_bind (wpAny_rule (wpAny_habitSame_str ?_ ?_ hz))
    · exact ⟨_, mu1, h1, x1.trans x2, .str _ _⟩
    · exact ⟨_, mu1, h1, (x1.trans x2).trans (Step.tok x2.st), .str _ _⟩
  exact wpAny_habitSame_str (fin _ _ (Step.refl S1)) (fin _ _ (Step.tok S1)) hz

/-! ## join -/
theorem Reps.strs {h : Heap} : ∀ {xs : List Str} {vs : List Value}, Reps h (xs.map .str) vs → ∃ l : List (Str × Tok), strValues l = vs ∧ l.map (·.1) = xs
  | [], vs, r => by cases r; exact ⟨[], rfl, rfl⟩
  | x :: xs, vs, r => by
    cases r with
    | cons r0 r =>
      cases r0
      obtain ⟨l, e1, e2⟩ := Reps.strs r
      exact ⟨(x, _) :: l, by subst e1; rfl, by simp [e2]⟩
theorem CallV.joinL {l : Addr} {sep : Str} {xs : List Str} {P : PV → Mu → Prop} (hl : mu l = some (.list (xs.map .str))) (hok : JoinOk sep xs = true) (h : P (.str (Txt.join sep xs)) mu) : CallV c n mu (.builtin "str.join") [.str sep, .ref l] [] P := fun A s vs kvs hA ht S r rk => by
  cases r with | cons r0 r =>
  cases r with | cons r1 r =>
  cases r; cases rk; cases r0; cases r1
  obtain ⟨ws, k, e, rs⟩ := S.objs l _ hl
  obtain ⟨ps, e1, e2⟩ := rs.strs
  refine SC.join (l := ps) (texts := xs) ⟨_, by rw [e, ← e1], rfl, k, rfl⟩ e2 hok fun t' k' => Post.pure S h (.str _ _)
/-! ## replace by written texts -/
theorem EvE.replaceC {o : PySem.Expr} {y z : Str} {k1 k2 : Nat} {apos p1 p2 pos : Pos} {P : PV → Mu → Prop} (hyz : (y == z) = false)
    (h : EvE c n sc m mu o fun d mu1 => ∃ x, d = .str x ∧ x.length + (x.length + 1) * z.length ≤ 16777216 ∧ P (.str (Txt.replace x y z)) mu1)
    (hb : ∀ env, attributeBase o "replace" env (eval o env) = eval o env := by intro _; rfl) (hline : (apos.endLine == pos.line) = true := by rfl) :
    EvE c n sc m mu (.Call (.Attribute o "replace" apos) [.Constant (.str y) k1 p1, .Constant (.str z) k2 p2] [] pos) P := by
  intro env A s he hA ht S F
  rw [arm_eval_Call, hb]
  refine wpAny_bind (EvE.bind h he hA ht S F fun v s0 d mu0 h0 x0 t0 S0 F0 r0 _ => ?_)
  obtain ⟨x, rfl, hsz, h0⟩ := h0
  cases r0
  refine wpAny_bind (wpAny_standAt ?_)
  have hpos : methodCallPos true o env apos pos = pure pos := by unfold methodCallPos; simp [hline]
  unfold methodCall
  refine wpAny_bind (wpAny_holding ?_)
  show wpAny c.M A (getMethod _ "replace" _) _ _ s0
  refine GM.replace ?_
  refine wpAny_bind (wpAny_of_eq hpos ?_)
  refine callWith_builtin rfl ?_
  show wpAny c.M A (evalArgs (.builtin "str.replace") true [(false, eval (.Constant (.str y) k1 p1) env), (false, eval (.Constant (.str z) k2 p2) env)] []) _ _ s0
  refine evalArgs_plain (spliced_cons (Constant_str (spliced_cons (Constant_str (spliced_nil ?_)))))
  refine SC.replace (Nat.ne_of_gt t0) (Nat.succ_ne_zero _) (Nat.ne_of_lt (Nat.lt_succ_self _)) hyz hsz fun t' k => ?_
  exact ⟨_, mu0, h0, x0.trans (Step.tok (s := s0) S0), .str _ _⟩
end
end Mine

open PySem PySem.W PySem.Calls PyProof.Rows
set_option Elab.async false
set_option linter.unusedVariables false
set_option maxRecDepth 100000
namespace Mine

theorem env_split (scope : Scope) (g : Addr) (x : Str) (v : Value) (rest : List (Str × Value)) (q : Str) (f : Option Addr) (cd : Value) (b : Addr) :
    newFunctionEnv scope g [] ((x, v) :: rest) q f cd none b = (newFunctionEnv scope g [] [] q f cd none b >>= fun env => storeName env x v >>= fun _ => (forIn rest PUnit.unit fun (p : Str × Value) (_ : PUnit) => (do storeName env p.1 p.2; pure (ForInStep.yield PUnit.unit) : Sem (ForInStep PUnit))) >>= fun _ => pure env) := by
  unfold newFunctionEnv
  simp only [bind_assoc, List.forIn_cons, List.forIn_nil, pure_bind]

/-- a frame whose first name is a local: at least one token is spent -/
theorem newEnv_pos {M : Model} {A : Around} {E : Value → Shared → Prop} {s : Shared} {scope : Scope} {globals : Addr} {x : Str} {v : Value} {rest : List (Str × Value)} {qual : Str} {func : Option Addr} {code : Value} {builtins : Addr} {Q : Env → Shared → Prop}
    (hk : scope.kind = .function) (hx : scope.names.lookup x = some .local)
    (hkind : ∀ y ∈ rest, scope.names.lookup y.1 = some .local ∨ (scope.names.lookup y.1 = some .cell ∧ ((cellsFrom (s.heap.objs.size + 1) scope.names []).lookup y.1).isSome = true))
    (hQ : ∀ env, env = newEnv scope s.heap.objs.size globals (cellsFrom (s.heap.objs.size + 1) scope.names []) qual func code none builtins →
      ∀ s', InCallC s env.locals (bindL env.kindOf ((x, v) :: rest) fun _ => none) env.cells (bindC env.kindOf ((x, v) :: rest) fun _ => none) s' → 0 < s'.toks → Q env s') :
    wpAny M A (newFunctionEnv scope globals [] ((x, v) :: rest) qual func code none builtins) Q E s := by
  rw [env_split]
  refine wpAny_bind (wpAny_newFunctionEnv_cells hk (fun y hy => by cases hy) fun env he s1 I => ?_)
  have hkx : env.kindOf x = some .local := by rw [he]; exact hx
  have hkf : env.scope.kind = .function := by rw [he]; exact hk
  obtain ⟨h1, tk1, rfl⟩ := I.toInCall.same
  refine wpAny_bind (wpAny_storeName_local hkx I.toInCall.ns (fun h' hn' hs' => ?_) (by rw [hkf]; rfl))
  have I2 : InCallC s env.locals (fun y => if y = x then some v else none) env.cells (fun _ => none) { s with heap := h', toks := tk1 + 1 } := by
    refine ⟨⟨⟨_, _, rfl⟩, hn', fun b o e => hs'.extBut b o (Nat.ne_of_lt (Nat.lt_of_lt_of_le (Heap.lt_size e) I.toInCall.fresh)) (I.toInCall.keep b o e), I.toInCall.fresh⟩, fun k c hc => (I.cell k c hc).sameBut hs' (Nat.ne_of_gt (I.above k c (mem_of_lookup hc))), I.apart, I.above⟩
  refine wpAny_bind (wpAny_with_toks (n := 1) (by show 1 ≤ tk1 + 1; omega) (wpAny_bindParams (s₀ := s) (env := env) _ (fun _ _ _ => rfl) hkf rest _ _ _ _ I2 (fun y hy => by
    have := hkind y hy
    rw [he]; exact this) fun s' I3 ht => wpAny_pure (hQ env he s' ?_ ht)))
  have e1 : bindL env.kindOf ((x, v) :: rest) (fun _ => none) = bindL env.kindOf rest (fun y => if y = x then some v else none) := by
    rw [bindL, if_pos hkx]
  have e2 : bindC env.kindOf ((x, v) :: rest) (fun _ => none) = bindC env.kindOf rest (fun _ => none) := by
    rw [bindC, if_pos hkx]
  rw [e1, e2]; exact I3

end Mine

open PySem PySem.W PySem.Calls PyProof.Rows
set_option Elab.async false
set_option linter.unusedVariables false
set_option maxRecDepth 100000
namespace Mine

theorem ifd {p : Prop} [Decidable p] {X Y : Prop} (h1 : p → X) (h2 : ¬ p → Y) : if decide p = true then X else Y := by
  by_cases h : p <;> simp [h] <;> first | exact h1 h | exact h2 h
theorem ifT {X Y : Prop} (h : X) : if true = true then X else Y := by simpa using h
theorem ifF {X Y : Prop} (h : Y) : if false = true then X else Y := by simpa using h

section
variable {c : Cx} {n : Nat} {sc : Scope} {m : Lm} {mu : Mu}

/-! ## binding -/
theorem Binds.p1 {fd : FuncData} {x : Str} {d : PV} {K : List (Str × PV) → Mu → Prop} (hb : ∀ v, bindArgs fd ⟨[v], []⟩ = pure [(x, v)]) (h : K [(x, d)] mu) : Binds c mu fd [d] [] K := fun A s vs kvs hA S r rk => by
  cases r with | cons r0 r =>
  cases r; cases rk
  rw [hb]; exact wpAny_pure ⟨_, mu, h, Step.refl S, .cons r0 .nil⟩
theorem Binds.p2 {fd : FuncData} {x y : Str} {d e : PV} {K : List (Str × PV) → Mu → Prop} (hb : ∀ v w, bindArgs fd ⟨[v, w], []⟩ = pure [(x, v), (y, w)]) (h : K [(x, d), (y, e)] mu) : Binds c mu fd [d, e] [] K := fun A s vs kvs hA S r rk => by
  cases r with | cons r0 r =>
  cases r with | cons r1 r =>
  cases r; cases rk
  rw [hb]; exact wpAny_pure ⟨_, mu, h, Step.refl S, .cons r0 (.cons r1 .nil)⟩
/-! ## calls by name -/
theorem EvE.callFn {x : Str} {p pos : Pos} {a : Addr} {es : List PySem.Expr} {ks : List Keyword} {P : PV → Mu → Prop} (hk : sc.names.lookup x = some .globalImplicit) (hv : c.mg x = some (.ref a))
    (h : EvA c n sc m mu es fun ds mu1 => EvK c n sc m mu1 ks fun kw mu2 => Keepr c mu2 (.ref a) ∧ CallV c n mu2 (.ref a) ds kw P) (hd : (x == ("__debug__" : Str)) = false := by decide) (hst : noStar es = true := by rfl) (hks : allNamed ks = true := by rfl) :
    EvE c n sc m mu (.Call (.Name x p) es ks pos) P :=
  EvE.call (fp := .ref a) (f := .ref a) (EvE.glob hk hv (fun _ => .ref a) ⟨rfl, h⟩ hd) (fun _ _ r => by cases r; rfl) hst hks
theorem EvE.callBi {x : Str} {p pos : Pos} {id : String} {es : List PySem.Expr} {P : PV → Mu → Prop} (hk : sc.names.lookup x = some .globalImplicit) (hg : c.mg x = none) (hn : x ≠ ("__name__" : Str)) (hv : bootBuiltins x = some (.builtin id))
    (h : EvA c n sc m mu es fun ds mu1 => CallV c n mu1 (.builtin id) ds [] P) (hd : (x == ("__debug__" : Str)) = false := by decide) (hst : noStar es = true := by rfl) :
    EvE c n sc m mu (.Call (.Name x p) es [] pos) P :=
  EvE.call (fp := .bi id) (f := .builtin id) (EvE.builtin hk hg hn hv (fun _ => .bi id) ⟨rfl, fun env A s pos he hA ht S F => wpAny_mono (h env A s pos he hA ht S F) (fun _ _ ⟨ds, mu1, q, x, r⟩ => ⟨ds, mu1, EvK.nil ⟨Keepr.builtin, q⟩, x, r⟩) fun _ _ x => x⟩ hd) (fun _ _ r => by cases r; rfl) hst rfl
theorem EvE.callTy {x : Str} {p pos : Pos} {id : String} {es : List PySem.Expr} {P : PV → Mu → Prop} (hk : sc.names.lookup x = some .globalImplicit) (hg : c.mg x = none) (hn : x ≠ ("__name__" : Str)) (hv : bootBuiltins x = some (.type id))
    (h : EvA c n sc m mu es fun ds mu1 => CallV c n mu1 (.type id) ds [] P) (hd : (x == ("__debug__" : Str)) = false := by decide) (hst : noStar es = true := by rfl) :
    EvE c n sc m mu (.Call (.Name x p) es [] pos) P :=
  EvE.call (fp := .ty id) (f := .type id) (EvE.builtin hk hg hn hv (fun _ => .ty id) ⟨rfl, fun env A s pos he hA ht S F => wpAny_mono (h env A s pos he hA ht S F) (fun _ _ ⟨ds, mu1, q, x, r⟩ => ⟨ds, mu1, EvK.nil ⟨Keepr.type, q⟩, x, r⟩) fun _ _ x => x⟩ hd) (fun _ _ r => by cases r; rfl) hst rfl

/-! ## methods without keywords -/
theorem EvE.methB {o : PySem.Expr} {name : Str} {es : List PySem.Expr} {apos pos : Pos} {P : PV → Mu → Prop}
    (h : EvE c n sc m mu o fun d mu0 => ∃ id, Meth c mu0 d name (.builtin id) ∧ EvA c n sc m mu0 es fun ds mu1 => CallV c n mu1 (.builtin id) (d :: ds) [] P)
    (hb : ∀ env, attributeBase o name env (eval o env) = eval o env := by intro _; rfl) (hst : noStar es = true := by rfl)
    (hlen : (es.length + ([] : List Keyword).length + (if ([] : List Keyword).isEmpty then 0 else 1) < 30) := by decide) (hline : (apos.endLine == pos.line) = true := by rfl) : EvE c n sc m mu (.Call (.Attribute o name apos) es [] pos) P :=
  EvE.method (h.imp fun d mu0 ⟨id, hm, q⟩ => ⟨.builtin id, hm, fun env A s pos he hA ht S F => wpAny_mono (q env A s pos he hA ht S F) (fun _ _ ⟨ds, mu1, q, x, r⟩ => ⟨ds, mu1, EvK.nil ⟨Keepr.builtin, q⟩, x, r⟩) fun _ _ x => x⟩) hb hst rfl hlen hline

/-! ## statements, in a row -/
def SeqP (c : Cx) (n : Nat) (sc : Scope) (ss : List Stmt) (P : FV → Lm → Mu → Prop) (fl : FV) (m : Lm) (mu : Mu) : Prop := match fl with
  | .next => ExS c n sc m mu ss P
  | fl => P fl m mu
theorem SeqP.next {ss : List Stmt} {P : FV → Lm → Mu → Prop} (h : ExS c n sc m mu ss P) : SeqP c n sc ss P .next m mu := h
theorem SeqP.ret {ss : List Stmt} {P : FV → Lm → Mu → Prop} {d : PV} (h : P (.ret d) m mu) : SeqP c n sc ss P (.ret d) m mu := h
theorem ExS.seq {st : Stmt} {ss : List Stmt} {P : FV → Lm → Mu → Prop} (h : Ex1 c n sc m mu st (SeqP c n sc ss P)) : ExS c n sc m mu (st :: ss) P :=
  ExS.cons (fun env A s he hA ht S F => wpAny_mono (h env A s he hA ht S F) (fun _ _ ⟨fl, m', mu', a, b⟩ => ⟨fl, m', mu', by cases fl <;> exact a, b⟩) fun _ _ x => x)
theorem ExS.asg {t value : PySem.Expr} {pos : Pos} {ss : List Stmt} {P : FV → Lm → Mu → Prop} (h : EvE c n sc m mu value fun d mu1 => AsgT true c n sc m mu1 t d fun m2 mu2 => ExS c n sc m2 mu2 ss P)
    (h1 : ∀ env, env.scope = sc → swapsWithSole [t] value pos.line env = pure false := by intro _ _; rfl) (h2 : ∀ env, swappedStores [t] value env = pure none := by intro _; rfl)
    (h3 : ∀ env, (assignEach [t] env).map (·.2) = [PySem.assign t env] := by intro _; rfl) : ExS c n sc m mu (.Assign [t] value pos :: ss) P := ExS.seq (Ex1.assign h h1 h2 h3)
theorem ExS.if {t : PySem.Expr} {b o : List Stmt} {pos : Pos} {ss : List Stmt} {P : FV → Lm → Mu → Prop} (h : Tst c n sc m mu t fun r mu1 => if r = true then ExS c n sc m mu1 b (SeqP c n sc ss P) else ExS c n sc m mu1 o (SeqP c n sc ss P)) : ExS c n sc m mu (.If t b o pos :: ss) P := ExS.seq (Ex1.if h)
theorem ExS.ret {e : PySem.Expr} {pos : Pos} {ss : List Stmt} {P : FV → Lm → Mu → Prop} (h : EvE c n sc m mu e fun d mu1 => P (.ret d) m mu1) : ExS c n sc m mu (.Return (some e) pos :: ss) P := ExS.seq (Ex1.ret h)
theorem ExS.expr {e : PySem.Expr} {pos : Pos} {ss : List Stmt} {P : FV → Lm → Mu → Prop} (h : EvE c n sc m mu e fun d mu1 => d.isRef = false ∧ ExS c n sc m mu1 ss P)
    (hs : ∀ env, swapsWith e none pos.line env = pure false := by intro _; rfl) : ExS c n sc m mu (.Expr e pos :: ss) P := ExS.seq (Ex1.expr h hs)
theorem ExS.aug {x : Str} {pos' pos : Pos} {op : Operator} {value : PySem.Expr} {a : PV} {ss : List Stmt} {P : FV → Lm → Mu → Prop} (hl : m.lookup x = some a) (hk : kindB true sc x = true)
    (h : EvE c n sc m mu value fun b mu2 => OpI c n mu2 op a b fun d mu3 => ExS c n sc (setL m x d) mu3 ss P) : ExS c n sc m mu (.AugAssign (.Name x pos') op value pos :: ss) P := ExS.seq (Ex1.aug hl hk h)
theorem ExS.for {okT : PySem.Expr → Prop} {target iter : PySem.Expr} {body orelse : List Stmt} {pos : Pos} {ss : List Stmt} {P : FV → Lm → Mu → Prop} (hT : okT target)
    (h : EvE c n sc m mu iter fun d mu1 => ∃ xs src mu2, IterOf c n okT mu1 d xs src mu2 ∧ LoopE c n sc src target body orelse (SeqP c n sc ss P) xs m mu2)
    (hs : ∀ env x, foldedSetIterable iter env x = pure x := by intro _ _; rfl) : ExS c n sc m mu (.For target iter body orelse pos :: ss) P := ExS.seq (Ex1.for hT h hs)

/-! ## chained comparisons of ints in a test -/
theorem Tst.cmp2 {l r1 r2 : PySem.Expr} {op1 op2 : CmpOp} {pos : Pos} {P : Bool → Mu → Prop}
    (h : EvE c n sc m mu l fun a mu1 => EvE c n sc m mu1 r1 fun b mu2 => OpC c n mu2 op1 a b fun d mu3 => OpT c n mu3 d fun t mu4 => if t = true then EvE c n sc m mu4 r2 fun e mu5 => OpC c n mu5 op2 b e fun d2 mu6 => OpT c n mu6 d2 P else P false mu4)
    (hm : lastMarks [op1, op2] [r1, r2] = false := by with_unfolding_all rfl) : Tst c n sc m mu (.Compare l [op1, op2] [r1, r2] pos) P := by
  intro env A s he hA ht S F
  refine isTrue_chain (EvE.bind h he hA ht S F fun va s1 a mu1 h1 x1 t1 S1 F1 ra _ => ?_) hm
  refine test_link (EvE.bind h1 he hA t1 S1 F1 fun vb s2 b mu2 h2 x2 t2 S2 F2 rb k2 => ?_)
  refine post_bind (h2 A s2 va vb hA t2 S2 (ra.mono k2) rb) t2 S2 fun vc s3 d mu3 h3 x3 t3 S3 rc k3 => ?_
  refine postB_bind (h3 A s3 vc hA t3 S3 rc) t3 S3 fun t s4 mu4 h4 x4 t4 S4 k4 => ?_
  cases t with
  | false => exact ⟨mu4, h4, ((x1.trans x2).trans x3).trans x4⟩
  | true =>
    simp only [if_true] at h4 ⊢
    have F4 := (F2.step S2 x3).step S3 x4
    refine test_last (EvE.bind h4 he hA t4 S4 F4 fun ve s5 e mu5 h5 x5 t5 S5 F5 re k5 => ?_)
    refine post_bind (h5 A s5 vb ve hA t5 S5 (((rb.mono k3).mono k4).mono k5) re) t5 S5 fun vd s6 d2 mu6 h6 x6 t6 S6 rd k6 => ?_
    exact wpAny_mono (h6 A s6 vd hA t6 S6 rd) (fun _ _ p => p.after ((((x1.trans x2).trans x3).trans x4).trans (x5.trans x6))) fun _ _ x => x

/-! ## signs of a text -/
theorem seqIndex_nat {i : Int} {k : Nat} (h0 : 0 ≤ i) (h1 : i.toNat < k) : seqIndex? i k = some i.toNat := by
  unfold seqIndex?
  have h2 : i < (k : Int) := by omega
  have h3 : ¬ i < 0 := by omega
  simp only [h3, if_false, h0, h2, decide_true, Bool.and_self, if_true]
theorem OpSub.strN {slice : PySem.Expr} {x : Str} {i : Int} {ch : Nat} {P : PV → Mu → Prop} (h0 : 0 ≤ i) (h1 : i < 2 ^ 62) (hx : x.cps[i.toNat]? = some ch) (h : P (.str ⟨#[ch]⟩) mu)
    (hs : ∀ o i, ∃ ops, subscripted slice false o i = operate ops (getItem o i) := by intro _ _; exact ⟨_, rfl⟩) : OpSub c n mu slice (.str x) (.int i) P :=
  OpSub.of Ty.str F.slot_str_getitem.lookup (OpG.str ⟨by omega, by omega⟩ (by
    have hlt := (Array.getElem?_eq_some_iff.mp hx).1
    rw [seqIndex_nat (k := x.length) h0 hlt]; exact hx) h) hs
end
end Mine

open PySem PySem.W PySem.Calls PyProof.Rows
set_option Elab.async false
set_option linter.unusedVariables false
set_option maxRecDepth 100000
namespace Mine

/-! # texts as lists of numbers -/
abbrev S (l : List Nat) : Str := ⟨l.toArray⟩
theorem S_append (a b : List Nat) : S a ++ S b = S (a ++ b) := by
  show Str.mk (a.toArray ++ b.toArray) = _
  simp
theorem S_length (a : List Nat) : (S a).length = a.length := by simp [Str.length]
theorem S_of (x : Str) : S x.cps.toList = x := by obtain ⟨⟨l⟩⟩ := x; rfl
theorem S_inj {a b : List Nat} : S a = S b ↔ a = b := by
  constructor
  · intro h; have := congrArg (fun x => x.cps.toList) h; simpa using this
  · intro h; rw [h]
theorem S_cps (a : List Nat) : (S a).cps.toList = a := by simp

/-- a backslash ahead of quotation marks and backslashes -/
def escL (l : List Nat) : List Nat := l.flatMap fun ch => if ch = 34 ∨ ch = 92 then [92, ch] else [ch]
theorem escL_cons (a : Nat) (b : List Nat) : escL (a :: b) = (if a = 34 ∨ a = 92 then [92, a] else [a]) ++ escL b := by simp [escL]
theorem escL_length (l : List Nat) : (escL l).length ≤ 2 * l.length := by
  induction l with
  | nil => simp [escL]
  | cons a r ih => rw [escL_cons]; split <;> simp <;> omega

/-- one sign replaced -/
def replL (ch : Nat) (z : List Nat) (l : List Nat) : List Nat := l.flatMap fun k => if k = ch then z else [k]
theorem replL_free (ch : Nat) (z : List Nat) : ∀ l : List Nat, ch ∉ l → replL ch z l = l
  | [], _ => rfl
  | k :: r, h => by
    have h1 : k ≠ ch := fun e => h (e ▸ List.mem_cons_self ..)
    have h2 : ch ∉ r := fun m => h (List.mem_cons_of_mem _ m)
    have ih := replL_free ch z r h2
    unfold replL at ih ⊢
    rw [List.flatMap_cons, ih, if_neg h1]; rfl
theorem replL_join (ch : Nat) (z : List Nat) : ∀ parts : List Str, (∀ p ∈ parts, ch ∉ p.cps.toList) → replL ch z (Str.join ⟨#[ch]⟩ parts).cps.toList = (Str.join (S z) parts).cps.toList
  | [], _ => rfl
  | [p], h => replL_free ch z _ (h p (List.mem_singleton.mpr rfl))
  | p :: q :: r, h => by
    have ih := replL_join ch z (q :: r) fun a ha => h a (List.mem_cons_of_mem _ ha)
    show replL ch z (p ++ ⟨#[ch]⟩ ++ Str.join ⟨#[ch]⟩ (q :: r)).cps.toList = (p ++ S z ++ Str.join (S z) (q :: r)).cps.toList
    simp only [Str.cps_append, Array.toList_append]
    have e : ∀ a b, replL ch z (a ++ b) = replL ch z a ++ replL ch z b := fun a b => by simp [replL]
    rw [e, e, ih, replL_free ch z _ (h p (List.mem_cons_self ..))]
    simp [replL]
theorem replace_list (x : Str) (ch : Nat) (z : List Nat) : Txt.replace x ⟨#[ch]⟩ (S z) = S (replL ch z x.cps.toList) := by
  have h := StrLaws.replace_one x (S z) ch
  have h2 := replL_join ch z _ (StrLaws.split_free x ch)
  rw [StrLaws.join_split] at h2
  rw [h, h2, S_of]
theorem esc_two (l : List Nat) : replL 34 [92, 34] (replL 92 [92, 92] l) = escL l := by
  induction l with
  | nil => rfl
  | cons a r ih =>
    unfold replL escL at *
    rw [List.flatMap_cons, List.flatMap_append, ih, List.flatMap_cons]
    congr 1
    by_cases h1 : a = 92
    · subst h1; simp
    · by_cases h2 : a = 34
      · subst h2; simp
      · simp [h1, h2]

/-! # frames: fewer names -/
def SubL : Lm → Lm → Prop
  | [], _ => True
  | p :: r, m' => m'.lookup p.1 = some p.2 ∧ SubL r m'
theorem SubL.look {m m' : Lm} (h : SubL m m') : ∀ x d, m.lookup x = some d → m'.lookup x = some d := by
  induction m with
  | nil => intro x d e; simp at e
  | cons p r ih =>
    intro x d e
    obtain ⟨y, d'⟩ := p
    rw [List.lookup_cons] at e
    cases hxy : x == y with
    | true => rw [hxy] at e; cases e; rw [beq_iff_eq.mp hxy]; exact h.1
    | false => rw [hxy] at e; exact ih h.2 x d e

section
variable {c : Cx} {n : Nat} {sc : Scope} {m : Lm} {mu : Mu}
theorem AsgT.weak {K : Bool} {m' : Lm} {t : PySem.Expr} {d : PV} {P : Lm → Mu → Prop} (hw : SubL m m') (h : AsgT K c n sc m mu t d P) : AsgT K c n sc m' mu t d P := fun env A s v he hA ht S F r => h env A s v he hA ht S (F.weak hw.look) r
theorem ExS.weakL {m' : Lm} {ss : List Stmt} {P : FV → Lm → Mu → Prop} (hw : SubL m m') (h : ExS c n sc m mu ss P) : ExS c n sc m' mu ss P := ExS.weak hw.look h
end
/-! # outcomes that do not hang on the way -/
section
variable {c : Cx} {n : Nat} {sc : Scope} {m : Lm} {mu : Mu}
theorem EvJ.lit {x : Str} {k : Nat} {pos : Pos} {es : List PySem.Expr} {acc : Str} {P : PV → Mu → Prop} (hz : acc.length + x.length ≤ sizeLine) (h : EvJ c n sc m mu es (acc ++ x) P) : EvJ c n sc m mu (.Constant (.str x) k pos :: es) acc P :=
  EvJ.cons (EvE.str ⟨_, rfl, hz, h⟩)
theorem EvJ.fmt {e : PySem.Expr} {pos : Pos} {es : List PySem.Expr} {acc : Str} {P : PV → Mu → Prop} (h : EvE c n sc m mu e fun d mu1 => ∃ y, d = .str y ∧ acc.length + y.length ≤ sizeLine ∧ EvJ c n sc m mu1 es (acc ++ y) P) : EvJ c n sc m mu (.FormattedValue e 115 none pos :: es) acc P :=
  EvJ.cons (EvE.fmtS (h.imp fun d mu1 ⟨y, e, hz, h⟩ => ⟨y, e, by omega, y, rfl, hz, h⟩))
end
end Mine

open PySem PySem.W PySem.Calls PyProof.Rows
set_option Elab.async false
set_option linter.unusedVariables false
set_option maxRecDepth 100000
namespace Mine

section
variable {c : Cx} {n : Nat} {sc : Scope} {m : Lm} {mu : Mu}

/-! ## ways that meet again -/
theorem ExS.join {st : Stmt} {ss : List Stmt} {P : FV → Lm → Mu → Prop} {m1 : Lm} {mu1 : Mu} (h : Ex1 c n sc m mu st fun fl m' mu' => fl = .next ∧ mu' = mu1 ∧ SubL m1 m') (h2 : ExS c n sc m1 mu1 ss P) : ExS c n sc m mu (st :: ss) P :=
  ExS.seq fun env A s he hA ht S F => wpAny_mono (h env A s he hA ht S F) (fun _ _ ⟨fl, m', mu', ⟨e1, e2, e3⟩, b⟩ => ⟨fl, m', mu', by subst e1; subst e2; exact ExS.weakL e3 h2, b⟩) fun _ _ x => x

/-! ## comprehensions, item by item -/
theorem CompE.all {src : Mu → Prop} {target elt : PySem.Expr} {ifs : List PySem.Expr} {P : List PV → Mu → Prop} {m0 : Lm} (p : PV → Bool) (g : PV → PV) (hs : src mu) (xs acc : List PV) (m : Lm) (hl : acc.length + xs.length ≤ sizeLine) (hm : SubL m0 m)
    (hstep : ∀ x ∈ xs, AsgT false c n sc m0 mu target x fun m1 mu1 => mu1 = mu ∧ SubL m0 m1 ∧ IfsE c n sc m1 mu ifs fun ok mu2 => ok = p x ∧ mu2 = mu ∧ (p x = true → EvE c n sc m1 mu elt fun d mu3 => d = g x ∧ mu3 = mu))
    (hP : P (acc ++ (xs.filter p).map g) mu) : CompE c n sc src target ifs elt P xs acc m mu := by
  induction xs generalizing acc m with
  | nil => exact ⟨hs, by simpa using hP⟩
  | cons x xs ih0 =>
    refine ⟨hs, by simp at hl; omega, AsgT.weak hm fun env A s v he hA ht S F r => wpAny_mono (hstep x (List.mem_cons_self ..) env A s v he hA ht S F r) (fun _ _ ⟨m1, mu1, ⟨e1, e2, q⟩, b⟩ => ⟨m1, mu1, ?_, b⟩) fun _ _ x => x⟩
    subst e1
    intro env A s he hA ht S F
    refine wpAny_mono (q env A s he hA ht S F) (fun ok _ ⟨mu2, ⟨a1, a2, a3⟩, b⟩ => ⟨mu2, ?_, b⟩) fun _ _ x => x
    subst a2; subst a1
    have ih := fun acc' => ih0 acc' m1
    have hst := fun x hx => hstep x (List.mem_cons_of_mem _ hx)
    cases hp : p x with
    | true =>
      simp only [if_true]
      refine (a3 hp).imp fun d mu' ⟨d1, d2⟩ => ?_
      subst d1; subst d2
      refine ih _ (by simp at hl ⊢; omega) e2 hst ?_
      rw [List.filter_cons_of_pos hp] at hP
      simpa using hP
    | false =>
      simp only [Bool.false_eq_true, if_false]
      refine ih _ (by simp at hl ⊢; omega) e2 hst ?_
      rw [List.filter_cons_of_neg (by simp [hp])] at hP
      exact hP

/-! ## loops, item by item -/
theorem LoopE.from {src : Mu → Prop} {target : PySem.Expr} {body orelse : List Stmt} {P : FV → Lm → Mu → Prop} (Inv : Nat → Lm) (hs : src mu) (xs : List PV) (k : Nat) (m : Lm) (hm : SubL (Inv k) m)
    (hstep : ∀ i x, xs[i]? = some x → AsgT true c n sc (Inv (k + i)) mu target x fun m1 mu1 => ExS c n sc m1 mu1 body fun fl m2 mu2 => (fl = .next ∨ fl = .cont) ∧ mu2 = mu ∧ SubL (Inv (k + i + 1)) m2)
    (hP : ExS c n sc (Inv (k + xs.length)) mu orelse P) : LoopE c n sc src target body orelse P xs m mu := by
  induction xs generalizing k m with
  | nil => exact ⟨hs, ExS.weakL hm hP⟩
  | cons x xs ih0 =>
    refine ⟨hs, AsgT.weak hm fun env A s v he hA ht S F r => wpAny_mono (hstep 0 x rfl env A s v he hA ht S F r) (fun _ _ ⟨m1, mu1, q, b⟩ => ⟨m1, mu1, ?_, b⟩) fun _ _ x => x⟩
    refine ExS.imp q fun fl m2 mu2 ⟨e1, e2, e3⟩ => ?_
    subst e2
    have := ih0 (k + 1) m2 e3 (fun i x hx => by
      have := hstep (i + 1) x (by simpa using hx)
      rwa [show k + (i + 1) = k + 1 + i from by omega] at this) (by rwa [show k + (x :: xs).length = k + 1 + xs.length from by simp; omega] at hP)
    rcases e1 with e | e <;> subst e <;> exact this
theorem LoopE.ind {src : Mu → Prop} {target : PySem.Expr} {body orelse : List Stmt} {P : FV → Lm → Mu → Prop} {xs : List PV} (Inv : Nat → Lm) (hs : src mu) (hm : SubL (Inv 0) m)
    (hstep : ∀ i x, xs[i]? = some x → AsgT true c n sc (Inv i) mu target x fun m1 mu1 => ExS c n sc m1 mu1 body fun fl m2 mu2 => (fl = .next ∨ fl = .cont) ∧ mu2 = mu ∧ SubL (Inv (i + 1)) m2)
    (hP : ExS c n sc (Inv xs.length) mu orelse P) : LoopE c n sc src target body orelse P xs m mu :=
  LoopE.from Inv hs xs 0 m hm (fun i x hx => by rw [Nat.zero_add]; exact hstep i x hx) (by rw [Nat.zero_add]; exact hP)

/-! ## ranges -/
theorem fitsLong {a : Int} (h : -1000000000 ≤ a ∧ a ≤ 1000000000) : Builtin.Range.rangeFitsLong a = true := by
  unfold Builtin.Range.rangeFitsLong; simp; omega
theorem small_up {a b : Int} (ha : -1000000 ≤ a ∧ a ≤ 1000000) (hb : -1000000 ≤ b ∧ b ≤ 1000000) : Builtin.Range.small a b 1 = true := by
  unfold Builtin.Range.small
  rw [fitsLong (by omega), fitsLong (by omega), fitsLong (by omega), fitsLong (by
    unfold Builtin.Range.rangeSize; simp only [show (1 : Int) > 0 from by decide, if_true, Int.ediv_one]; split <;> omega)]
  simp [fitsLong (a := b) (by omega)]
theorem rangeL_up {a : Int} {k : Nat} : rangeL a (a + k) 1 = (List.range k).map fun (i : Nat) => PV.int (a + i) := by
  unfold rangeL
  have : (Builtin.Range.rangeSize a (a + k) 1).toNat = k := by
    unfold Builtin.Range.rangeSize; simp only [show (1 : Int) > 0 from by decide, if_true, Int.ediv_one]; split <;> omega
  rw [this]; simp
/-! ## one sign, many times -/
theorem rangeL_up0 {k : Nat} : rangeL 0 (k : Int) 1 = (List.range k).map fun (i : Nat) => PV.int (i : Int) := by
  have := rangeL_up (a := 0) (k := k)
  rw [Int.zero_add] at this
  rw [this]
  exact List.map_congr_left fun i _ => by rw [Int.zero_add]
end
end Mine

open PySem PySem.W PySem.Calls PyProof.Rows
set_option Elab.async false
set_option linter.unusedVariables false
set_option maxRecDepth 100000
namespace Mine
theorem ints_rep {h : Heap} : ∀ {vs : List Value} {ns : List Int}, IntsAre vs ns → Reps h (ns.map .int) vs := by
  intro vs ns hI
  induction ns generalizing vs with
  | nil => cases vs with
    | nil => exact .nil
    | cons v r => cases hI
  | cons a r ih => cases vs with
    | nil => cases hI
    | cons v rs => cases hI with | cons n t hI => exact .cons (.int _ _) (ih hI)
end Mine

open PySem PySem.W PySem.Calls PyProof.Rows
set_option Elab.async false
set_option linter.unusedVariables false
set_option maxRecDepth 100000
namespace Mine

/-! # while -/
def WhE (c : Cx) (n : Nat) (sc : Scope) (test : PySem.Expr) (body orelse : List Stmt) (P : FV → Lm → Mu → Prop) : Nat → Lm → Mu → Prop
  | 0, _, _ => False
  | k + 1, m, mu => Tst c n sc m mu test fun b mu1 => if b = true then ExS c n sc m mu1 body fun fl m2 mu2 => match fl with
    | .next | .cont => WhE c n sc test body orelse P k m2 mu2
    | .brk => P .next m2 mu2
    | .ret r => P (.ret r) m2 mu2
    else ExS c n sc m mu1 orelse P

section
variable {c : Cx} {n : Nat} {sc : Scope} {m : Lm} {mu : Mu}

theorem Ex1.while {test : PySem.Expr} {body orelse : List Stmt} {pos : Pos} {P : FV → Lm → Mu → Prop} (k : Nat) (h : WhE c n sc test body orelse P k m mu) : Ex1 c n sc m mu (.While test body orelse pos) P := by
  intro env A s0 he hA ht S F
  refine wpAny_While (codeAny_whileLoop (fun k s => ∃ m1 mu1, WhE c n sc test body orelse P k m1 mu1 ∧ Step c (Tch env) mu s0 mu1 s ∧ Fm c mu1 s.heap env m1 ∧ 0 < s.toks) ?_ k ⟨m, mu, h, Step.refl S, F, ht⟩)
  rintro k s ⟨m1, mu1, h1, x1, F1, t1⟩
  cases k with
  | zero => exact h1.elim
  | succ k =>
    refine Tst.bind h1 he hA t1 x1.st F1 (E := _) fun b s2 mu2 h2 x2 t2 S2 F2 _ => ?_
    cases b with
    | false =>
      simp only [Bool.false_eq_true, if_false] at h2 ⊢
      exact wpAny_mono (h2 env A s2 he hA t2 S2 F2) (fun f s3 p => p.after (x1.trans x2.toT)) fun _ _ x => x.elim
    | true =>
      simp only [if_true] at h2 ⊢
      refine wpAny_mono (wpAny_toks (h2 env A s2 he hA t2 S2 F2)) (fun f s3 p => ?_) fun _ _ x => x.2.elim
      obtain ⟨hle, fl, m3, mu3, h3, x3, F3, rf⟩ := p
      have x := (x1.trans x2.toT).trans x3
      cases rf with
      | next => exact ⟨k, Nat.lt_succ_self _, m3, mu3, h3, x, F3, Nat.lt_of_lt_of_le t2 hle⟩
      | cont => exact ⟨k, Nat.lt_succ_self _, m3, mu3, h3, x, F3, Nat.lt_of_lt_of_le t2 hle⟩
      | brk => exact ⟨.next, m3, mu3, h3, x, F3, .next⟩
      | ret r => exact ⟨.ret _, m3, mu3, h3, x, F3, .ret r⟩

theorem ExS.while {test : PySem.Expr} {body orelse : List Stmt} {pos : Pos} {ss : List Stmt} {P : FV → Lm → Mu → Prop} (k : Nat) (h : WhE c n sc test body orelse (SeqP c n sc ss P) k m mu) : ExS c n sc m mu (.While test body orelse pos :: ss) P := ExS.seq (Ex1.while k h)

/-! # slices -/
def EvP (c : Cx) (n : Nat) (sc : Scope) (m : Lm) (mu : Mu) (e : Option PySem.Expr) (P : Option Nat → Mu → Prop) : Prop := match e with
  | none => P none mu
  | some e => EvE c n sc m mu e fun d mu1 => ∃ k : Nat, d = .int (k : Int) ∧ P (some k) mu1
theorem EvP.none {P : Option Nat → Mu → Prop} (h : P .none mu) : EvP c n sc m mu .none P := h
theorem EvP.some {e : PySem.Expr} {P : Option Nat → Mu → Prop} (h : EvE c n sc m mu e fun d mu1 => ∃ k : Nat, d = .int (k : Int) ∧ P (.some k) mu1) : EvP c n sc m mu (.some e) P := h
def pk {α : Type} (l : List α) (lo hi : Option Nat) : List α := (l.take (hi.getD l.length)).drop (lo.getD 0)

theorem EvP.bind {e : Option PySem.Expr} {P : Option Nat → Mu → Prop} (h : EvP c n sc m mu e P) {env : Env} {A : Around} {s : Shared} (he : env.scope = sc) (hA : AOk n A) (ht : 0 < s.toks) (S : St c mu s.heap) (F : Fm c mu s.heap env m)
    {Q : Value → Shared → Prop} {E : Value → Shared → Prop}
    (k : ∀ (o : Option (Int × Tok)) s1 (p : Option Nat) mu1, P p mu1 → o.map (·.1) = Option.map (fun k : Nat => (k : Int)) p → Step c noT mu s mu1 s1 → 0 < s1.toks → St c mu1 s1.heap → Fm c mu1 s1.heap env m → TK s.heap s1.heap → Q (partValue o) s1) : wpAny c.M A (evalPart e env) Q E s := by
  cases e with
  | none => exact wpAny_evalPart_none (k .none s .none mu h rfl (Step.refl S) ht S F (fun _ _ e _ => e))
  | some e =>
    refine wpAny_evalPart_some (EvE.bind h he hA ht S F fun v s1 d mu1 hp x t S1 F1 r tk => ?_)
    obtain ⟨j, rfl, hp⟩ := hp
    cases r with | int _ t => exact k (.some (_, _)) s1 (.some j) mu1 hp rfl x ‹_› S1 F1 tk
/-! # slices of lists -/
def ListAt (c : Cx) (mu : Mu) (l : Addr) (xs : List PV) : Prop := mu l = some (.list xs) ∨ BaseList c l xs
theorem ListAt.at {l : Addr} {xs : List PV} (h : ListAt c mu l xs) {hp : Heap} (S : St c mu hp) : ∃ vs, hp.IsList l vs.toArray ∧ Reps hp xs vs := by
  rcases h with h | h
  · obtain ⟨vs, k, e, rs⟩ := S.objs l _ h; exact ⟨vs, ⟨_, e, rfl, k, rfl⟩, rs⟩
  · exact h.at S
theorem part_is {o : Option (Int × Tok)} : IsPart (partValue o) (o.map (·.1)) := by
  cases o with
  | none => exact .none
  | some p => exact .int _ _
theorem pick_pk (vs : List Value) (lo hi : Option Nat) (hh : lo = none ∨ hi = none) : slicePick vs.toArray (Option.map (fun k : Nat => (k : Int)) lo) (Option.map (fun k : Nat => (k : Int)) hi) none = (pk vs lo hi).toArray := by
  cases lo with
  | none => cases hi with
    | none => rw [Option.map_none, slicePick_all]; simp [pk]
    | some b => rw [Option.map_none, Option.map_some, slicePick_upto']; simp [pk]
  | some a => cases hi with
    | none => rw [Option.map_none, Option.map_some, slicePick_from']; simp [pk]
    | some b => rcases hh with h | h <;> cases h
/-! # lists -/
theorem CallV.append {l : Addr} {xs : List PV} {d : PV} {P : PV → Mu → Prop} (hl : mu l = some (.list xs)) (hsz : xs.length ≤ sizeLine) (h : P .none (upd mu l (.list (xs ++ [d])))) : CallV c n mu (.builtin "list.append") [.ref l, d] [] P := fun A s vs kvs hA ht S r rk => by
  cases r with | cons r0 r =>
  cases r with | cons r1 r =>
  cases r; cases rk; cases r0
  rename_i v
  obtain ⟨ws, k, e, rs⟩ := S.objs l _ hl
  refine wpAny_list_append_plain (items := ws.toArray) ⟨k, e⟩ (fun h' hl' hs' => ?_) (by rw [List.size_toArray, rs.length]; exact hsz)
  obtain ⟨k', e'⟩ := hl'
  have tk : TK s.heap h' := fun b o eb hto => hs'.extBut b o (fun q => by subst q; rw [e] at eb; cases eb; exact list_notT hto) eb
  refine ⟨.none, _, h, Step.set (k := s.toks) S (by rw [hl]; simp) hs' ⟨ws ++ [v], k', by rw [e']; simp, (rs.mono tk).append (.cons (r1.mono tk) .nil)⟩, .none⟩
theorem EvE.appendC {o e : PySem.Expr} {apos pos : Pos} {P : PV → Mu → Prop} (h : EvE c n sc m mu o fun d mu0 => ∃ l ys, d = .ref l ∧ mu0 l = some (.list ys) ∧ EvE c n sc m mu0 e fun x mu1 => ∃ xs, mu1 l = some (.list xs) ∧ xs.length ≤ sizeLine ∧ P .none (upd mu1 l (.list (xs ++ [x]))))
    (hb : ∀ env, attributeBase o "append" env (eval o env) = eval o env := by intro _; rfl) (hse : ∀ env, starEach [e] env = (false, eval e env) :: starEach [] env := by intro _; rfl) (hst : noStar [e] = true := by rfl) (hline : (apos.endLine == pos.line) = true := by rfl) : EvE c n sc m mu (.Call (.Attribute o "append" apos) [e] [] pos) P := by
  refine EvE.methB (h.imp fun d mu0 ⟨l, ys, e1, hl, q⟩ => ⟨"list.append", ?_, EvA.cons (q.imp fun x mu1 ⟨xs, h1, h2, h3⟩ => EvA.nil ?_) ?_⟩) hb hst (by simp) hline
  · subst e1; exact Meth.list hl F.slot_list_append F.type_list_append
  · subst e1; exact CallV.append h1 h2 h3
  · exact hse
end
end Mine

open PySem PySem.W PySem.Calls PyProof.Rows
set_option Elab.async false
set_option linter.unusedVariables false
set_option maxRecDepth 100000
namespace Mine
section
variable {c : Cx} {n : Nat} {sc : Scope} {m : Lm} {mu : Mu}

/-! # tuples -/
/-! # equality -/
open SeqAt in
open SeqAt in
open SeqAt in
end
end Mine

open PySem PySem.W PySem.Calls PyProof.Rows
set_option Elab.async false
set_option linter.unusedVariables false
set_option maxRecDepth 100000
namespace Mine
section
variable {c : Cx} {n : Nat} {sc : Scope} {m : Lm} {mu : Mu}

theorem pk_to {α : Type} (l : List α) (k : Nat) : pk l none (some k) = l.take k := by simp [pk]
theorem pk_all {α : Type} (l : List α) : pk l none none = l := by simp [pk]
end
end Mine

open PySem PySem.W PySem.Calls PyProof.Rows
set_option Elab.async false
set_option linter.unusedVariables false
set_option maxRecDepth 100000
namespace Mine
section
variable {c : Cx} {n : Nat} {sc : Scope} {m : Lm} {mu : Mu}

/-! # objects of own classes -/
theorem inst_at {x C dx : Addr} {es : List DictEntry} {k : Nat} (hx : mu x = some (.inst C dx)) (hd : mu dx = some (.obj (dictOf es k))) {h : Heap} (S : St c mu h) : PySem.W.InstAt h x (instObj C dx) C (some (dictOf es k)) :=
  ⟨S.objs x _ hx, rfl, rfl, (S.objs dx _ hd).1⟩
theorem Meth.inst {K : Frag} {x C dx f : Addr} {es : List DictEntry} {k : Nat} {name : Str} (hK : K.In c.base) (hx : mu x = some (.inst C dx)) (hd : mu dx = some (.obj (dictOf es k))) (hg : plainGet K C name = true)
    (hf : findIn K (.ref C) name = some (some (.ref f))) (ht : isFn K (.ref f) = true) (hl : getL name es = some none) : Meth c mu (.ref x) name (.ref f) := fun A s v pl Q E S r h => by
  cases r
  exact method_fn (hK.keeps S.base) (inst_at hx hd S) (plainGet_of hg).1 (plainGet_of hg).2 hf (beq_iff_eq.mp ht) (by show (lookIn name (dictOf es k)).map _ = _; rw [lookIn_dict, hl]; rfl) h
theorem EvE.attrOwn {K : Frag} {value : PySem.Expr} {name : Str} {pos : Pos} {P : PV → Mu → Prop} (hK : K.In c.base)
    (h : EvE c n sc m mu value fun d mu1 => ∃ x C dx es k v dv attr, d = .ref x ∧ mu1 x = some (.inst C dx) ∧ mu1 dx = some (.obj (dictOf es k)) ∧ plainGet K C name = true ∧ hasDictIn K C = true ∧ findIn K (.ref C) name = some attr ∧ noGet K attr = true ∧ getL name es = some (some v) ∧ handedIn v = true ∧ (∀ h, Rep h dv v) ∧ P dv mu1)
    (hb : ∀ env, attributeBase value name env (eval value env) = eval value env := by intro _; rfl) (ht : ∀ o r, letTemporaryGo value o r = pure () := by intro _ _; rfl) : EvE c n sc m mu (.Attribute value name pos) P := by
  intro env A s he hA htk S F
  rw [arm_eval_Attribute, hb]
  refine wpAny_bind (EvE.bind h he hA htk S F fun v0 s1 d mu1 h1 x1 t1 S1 F1 r1 _ => ?_)
  obtain ⟨x, C, dx, es, k, v, dv, attr, rfl, hx, hd, hg, hh, ha, hn, hl, hv, hr, hP⟩ := h1
  cases r1
  refine wpAny_bind (wpAny_standAt (wpAny_bind (wpAny_holding ?_)))
  refine get_value (hK.keeps S1.base) (inst_at hx hd S1) (plainGet_of hg).1 (findObj_own hh ha hn hl) hv ?_
  refine wpAny_bind (wpAny_of_eq (ht _ _) (wpAny_pure ?_))
  exact ⟨dv, mu1, hP, x1.trans (Step.tok S1), hr _⟩

/-! # making -/
def CallK (c : Cx) (n : Nat) (mu : Mu) (f : Value) (args : List PV) (kw : List (Str × PV)) (P : PV → Mu → Prop) : Prop :=
  ∀ A s vs kvs, AOk n A → 0 < s.toks → St c mu s.heap → Reps s.heap args vs → RepD s.heap kw kvs →
    codeAny c.M A (.call f ⟨vs, kvs⟩) (fun r s' => match r with | .ok (.ret v) => Post c mu s P v s' | .ok _ => False | .error e => False) s
theorem CallK.toV {f : Value} {args : List PV} {kw : List (Str × PV)} {P : PV → Mu → Prop} (h : CallK c n mu f args kw P) : CallV c n mu f args kw P := fun A s vs kvs hA ht S r rk => wpAny_call (h A s vs kvs hA ht S r rk)
theorem CallK.fn {a : Addr} {fd : FuncData} {body : List Stmt} {args : List PV} {kw : List (Str × PV)} {P : PV → Mu → Prop} (hf : FnOk c a fd body)
    (h : Binds c mu fd args kw fun binds mu1 => (binds.map (·.1)).Nodup ∧ kindsOk fd.scope.names (binds.map (·.1)) = true ∧ ExS c n fd.scope binds mu1 body fun fl _ mu2 => P (retOf fl) mu2) :
    CallK c (n + 1) mu (.ref a) args kw P := by
  intro A s vs kvs hA ht S r rk
  obtain ⟨o, ho, hd⟩ := hf.obj
  refine codeAny_call_function hA.room (S.base _ _ ho) hd hf.co hf.gen hf.body (hf.code.keeps S.base) ?_
  rw [hf.clos]
  refine wpAny_mono (wpAny_toks (h A.in1 s vs kvs (hA.in1.le (Nat.zero_le _)) S r rk)) (fun bv s1 p => ?_) fun _ _ x => x.2.elim
  obtain ⟨hle, binds, mu1, ⟨hnd, hko, hx⟩, x1, rb⟩ := p
  refine wpAny_with_toks (n := 1) (Nat.lt_of_lt_of_le ht hle) (wpAny_newFunctionEnv_cells hf.kind (fun y hy => ?_) fun env he s2 I ht2 => fn_body hf hA x1 rb hnd hko hx he I ht2)
  have := List.all_eq_true.mp hko y.1 (rb.names ▸ List.mem_map_of_mem hy)
  have q : fd.scope.names.lookup y.1 = some .local ∨ fd.scope.names.lookup y.1 = some .cell := by simpa using this
  exact q.imp id fun q => ⟨q, cellsFrom_has _ _ _ (.inl q)⟩
theorem AOk.typeCall {A : Around} {C : Addr} {rest : List Value} {kw : List (Str × Value)} (h : AOk (n + 1) A) : AOk n (A.under (.builtin "type.__call__" ⟨.ref C :: rest, kw⟩)) := by
  have hw : (Code.builtin "type.__call__" ⟨.ref C :: rest, kw⟩).weight = 1 := by kernel_rfl
  have hu : (Code.builtin "type.__call__" ⟨.ref C :: rest, kw⟩).cUnits = 1 := by kernel_rfl
  refine ⟨h.hd, ?_, ?_⟩
  · show A.depth + (Code.builtin "type.__call__" _).weight + n < _
    have := h.dp; rw [hw]; omega
  · show A.units + (Code.builtin "type.__call__" _).cUnits + 20 * n < _
    have := h.un; rw [hu]; omega
theorem CallV.make {K : Frag} {C fI : Addr} {args : List PV} {kw : List (Str × PV)} {P : PV → Mu → Prop} (hK : K.In c.base) (hm : makesIn K C = true) (hi : findIn K (.ref C) "__init__" = some (some (.ref fI))) (hf : typeIn K (.ref fI) = some (.type "function"))
    (h : ∀ x dx, mu x = none → mu dx = none → x ≠ dx → CallK c n (upd (upd mu dx (.obj (dictOf [] 0))) x (.inst C dx)) (.ref fI) (.ref x :: args) kw fun d mu2 => d = .none ∧ P (.ref x) mu2) : CallV c (n + 1) mu (.ref C) args kw P := by
  intro A s vs kvs hA ht S r rk
  refine wpAny_call ?_
  have X := hK.keeps S.base
  have x1 : Step c noT mu s (upd mu s.heap.objs.size (.obj (dictOf [] 0))) { s with heap := s.heap.push emptyDict } := Step.push S ⟨Heap.get?_push_size _ rfl, by simp [IsT]⟩
  have x2 := Step.push (T := noT) (s := { s with heap := s.heap.push emptyDict }) (o := instObj C s.heap.objs.size) (x := .inst C s.heap.objs.size) x1.st (Heap.get?_push_size _ rfl)
  have hsz : (s.heap.push emptyDict).objs.size = s.heap.objs.size + 1 := Heap.size_push ..
  obtain ⟨hp, g, d, t, os⟩ := s
  simp only at *
  rw [hsz] at x2
  refine make_core (makes_of X hm) (looks_findIn X hi) (fun self => bind_fn X self hf) (.inl rfl) ?_
  have tk : TK hp ((hp.push emptyDict).push (instObj C hp.objs.size)) := fun b o e _ => Heap.get?_push_of_some _ (Heap.get?_push_of_some _ e)
  refine codeAny_mono (h (hp.objs.size + 1) hp.objs.size (S.off (Nat.le_succ _)) (S.off (Nat.le_refl _)) (Nat.ne_of_gt (Nat.lt_succ_self _)) _ ⟨(hp.push emptyDict).push (instObj C hp.objs.size), g, d, t, os⟩ (.ref (hp.objs.size + 1) :: vs) kvs hA.typeCall ht x2.st (.cons (.ref _) (r.mono tk)) (rk.mono tk)) fun r' s' q => ?_
  match r', q with
  | .ok (.ret v), q =>
    obtain ⟨d', mu2, ⟨e1, hP⟩, x3, r3⟩ := q
    subst e1; cases r3
    exact ⟨rfl, _, mu2, hP, (x1.trans x2).trans x3, .ref _⟩

/-! # storing an attribute -/
theorem osa_own {K : Frag} {A : Around} {s : Shared} {x C dx : Addr} {es : List DictEntry} {k : Nat} {name : Str} {tk : Tok} {v : Value} {R : Result → Shared → Prop} (X : K.In s.heap) (I : PySem.W.InstAt s.heap x (instObj C dx) C (some (dictOf es k)))
    (hp : plainOver K C = true) (ht : takerIn K C name = some none) (hh : hasDictIn K C = true) (hl : (getL name es).isSome = true) (hz : (putL name (PyData.keyHash c.w.params name) (.str name s.toks) v es).length ≤ 1000)
    (h : ∀ h', h'.get? dx = some (dictOf (putL name (PyData.keyHash c.w.params name) (.str name s.toks) v es) (putN name es k)) → Heap.SameBut dx s.heap h' → R (.ok (.ret .none)) { s with heap := h', toks := s.toks + 1 }) :
    codeAny c.M A (.call (.builtin "object.__setattr__") ⟨[.ref x, .str name tk, v], []⟩) R s := by
  refine osa_open X I hp ht fun b => ?_
  obtain ⟨cd, hc, hd'⟩ := any_some hh
  have D : s.heap.get? dx = some (dictOf es k) := I.dict
  have hput := putName_dict name (PyData.keyHash c.w.params name) (.str name s.toks) v es k
  have D' : (s.heap.update dx (Obj.putName name (PyData.keyHash c.w.params name) (.str name s.toks) v)).get? dx = some (dictOf (putL name (PyData.keyHash c.w.params name) (.str name s.toks) v es) (putN name es k)) := by
    rw [← hput]
    exact Heap.get?_update_self _ D (by rw [hput]; rfl)
  refine wpAny_bind (wpAny_pure (wpAny_bind (wpAny_bind (wpAny_loadPart I.at_ (wpAny_bind ((looks_clsIn X hc).here ?_))))))
  rw [hd']
  refine wpAny_pure (a := some dx) (wpAny_bind (wpAny_pure (wpAny_bind ?_)))
  unfold nsSet
  refine wpAny_bind (wpAny_bind (wpAny_askSetting (wpAny_pure (wpAny_bind (wpAny_mkText (wpAny_bind (wpAny_loadPart D ?_)))))))
  have cc : (!es.toArray.any (·.key.isStr name) && es.toArray.any (·.refKey)) = false := by
    rw [List.any_toArray, List.any_toArray]
    unfold getL at hl
    split at hl
    · rename_i en he
      rw [List.any_eq_true.mpr ⟨en, List.mem_of_find?_eq_some he, List.find?_some he⟩]; rfl
    · split at hl
      · cases hl
      · rename_i z; rw [Bool.not_eq_true] at z; rw [z, Bool.and_false]
  dsimp only
  rw [aRefKeyMayBeTheName_at, cc]
  refine wpAny_updatePart D ?_
  refine wpAny_bind (wpAny_lookBehind D' (pastItsLine_dict (by rw [List.size_toArray, sizeLine_eq]; omega)) ?_)
  exact wpAny_pure (h _ D' (Heap.SameBut.update ..))
theorem AsgT.attrRef {Kb : Bool} {K : Frag} {o : PySem.Expr} {name : Str} {pos : Pos} {l : Addr} {P : Lm → Mu → Prop} (hK : K.In c.base)
    (h : EvE c n sc m mu o fun dv mu1 => ∃ x C dx es k, dv = .ref x ∧ mu1 x = some (.inst C dx) ∧ mu1 dx = some (.obj (dictOf es k)) ∧ findIn K (.ref C) "__setattr__" = some (some (.builtin "object.__setattr__")) ∧ plainOver K C = true ∧ takerIn K C name = some none ∧ hasDictIn K C = true ∧ (getL name es).isSome = true ∧
      ∀ tok, (putL name (PyData.keyHash c.w.params name) (.str name tok) (.ref l) es).length ≤ 1000 ∧ P m (upd mu1 dx (.obj (dictOf (putL name (PyData.keyHash c.w.params name) (.str name tok) (.ref l) es) (putN name es k))))) : AsgT Kb c n sc m mu (.Attribute o name pos) (.ref l) P := by
  intro env A s v he hA ht S F r
  cases r
  rw [arm_assign_Attribute]
  refine wpAny_bind (wpAny_holding (EvE.bind h he hA ht S F fun v0 s1 d mu1 h1 x1 t1 S1 F1 r1 _ => ?_))
  obtain ⟨x, C, dx, es, k, rfl, hx, hd, hs, hp, htk, hh, hl, hP⟩ := h1
  cases r1
  refine wpAny_bind (wpAny_standAt (wpAny_bind (wpAny_holding ?_)))
  have X := hK.keeps S1.base
  have I := inst_at hx hd S1
  refine set_plain X I hs (osa_own (s := { s1 with toks := s1.toks + 1 }) X I hp htk hh hl (hP _).1 fun h' e' hs' => ?_)
  have x2 : Step c (TchK Kb env) mu1 s1 _ { s1 with heap := h', toks := s1.toks + 1 + 1 } := Step.set (k := s1.toks + 1 + 1) S1 (by rw [hd]; simp) hs' (x := .obj (dictOf (putL name (PyData.keyHash c.w.params name) (.str name (s1.toks + 1)) (.ref l) es) (putN name es k))) ⟨e', by simp [IsT]⟩
  have F2 : Fm c (upd mu1 dx (.obj (dictOf (putL name (PyData.keyHash c.w.params name) (.str name (s1.toks + 1)) (.ref l) es) (putN name es k)))) h' env m := F1.step S1 (s1 := { s1 with heap := h', toks := s1.toks + 1 + 1 }) (Step.set (T := noT) (k := s1.toks + 1 + 1) S1 (by rw [hd]; simp) hs' ⟨e', by simp [IsT]⟩)
  refine wpAny_release ?_
  exact ⟨m, _, (hP _).2, x1.toT.trans x2, F2⟩
end
end Mine

open PySem PySem.W PySem.Calls PyProof.Rows
set_option Elab.async false
set_option linter.unusedVariables false
set_option maxRecDepth 100000
namespace Mine
def isCtl (ch : Nat) : Bool := decide (ch ≤ 31) || decide (ch = 127)
def ctlCode : Array Nat := #[14, 10, 4, 1, 1, 22, 0, 31, 16, 127, 0, 13, 7, 22, 0, 31, 16, 127, 0, 1]
theorem ctl_at (ch : Nat) (seen : Sre.Seen) : Sre.inSet ctlCode ch 20 5 true seen = if (decide (0 ≤ ch) && decide (ch ≤ 31)) = true then .ok (true, seen.add 22) else if (ch == 127) = true then .ok (true, (seen.add 22).add 16) else .ok (false, ((seen.add 22).add 16).add 0) := by rfl
theorem ctl_in (ch : Nat) (seen : Sre.Seen) : Sre.accepts ctlCode 11 ch seen = if (decide (0 ≤ ch) && decide (ch ≤ 31)) = true then .ok (true, seen.add 22) else if (ch == 127) = true then .ok (true, (seen.add 22).add 16) else .ok (false, ((seen.add 22).add 16).add 0) := by rfl
theorem ctl_go (ch : Nat) (seen : Sre.Seen) {r : Except String (Bool × Sre.Seen)} (h : r = if (decide (0 ≤ ch) && decide (ch ≤ 31)) = true then .ok (true, seen.add 22) else if (ch == 127) = true then .ok (true, (seen.add 22).add 16) else .ok (false, ((seen.add 22).add 16).add 0)) : ∃ seen', r = .ok (isCtl ch, seen') := by
  rw [h]
  unfold isCtl
  by_cases h1 : ch ≤ 31
  · simp [h1]
  · by_cases h2 : ch = 127
    · simp [h2]
    · simp [h1, h2]
theorem ctl_set : SetCode ctlCode isCtl where
  head := .inr (by decide +kernel)
  info := by decide +kernel
  info0 := by decide +kernel
  first := fun ch seen => ctl_go ch seen (ctl_at ch seen)
  body := fun ch seen => by
    have e : (Sre.header ctlCode).2 = 11 := by decide +kernel
    rw [e]
    exact ctl_go ch seen (ctl_in ch seen)
  isIn := by decide +kernel
  width := by decide +kernel
  size := by decide +kernel
def isCtlV (ch : Nat) : Bool := decide (ch ≤ 8) || (decide (10 ≤ ch) && decide (ch ≤ 31)) || decide (ch = 127)
def ctlVCode : Array Nat := #[14, 14, 4, 1, 1, 9, 4294966783, 0, 0, 2147483648, 0, 0, 0, 0, 0, 13, 11, 9, 4294966783, 0, 0, 2147483648, 0, 0, 0, 0, 0, 1]
def setBitV (ch : Nat) : Bool := decide (ch < 256) && (ctlVCode.getD (5 + (1 + ch / 32)) 0).testBit (ch % 32)
theorem setBitV_is (ch : Nat) : setBitV ch = isCtlV ch := by
  by_cases h : ch < 256
  · have : ∀ k : Fin 256, setBitV k.1 = isCtlV k.1 := by decide +kernel
    exact this ⟨ch, h⟩
  · have h1 : setBitV ch = false := by unfold setBitV; simp [h]
    have h2 : isCtlV ch = false := by
      unfold isCtlV
      simp only [Bool.or_eq_false_iff, Bool.and_eq_false_iff, decide_eq_false_iff_not]
      omega
    rw [h1, h2]
theorem ctlV_first (ch : Nat) (seen : Sre.Seen) : Sre.inSet ctlVCode ch 28 5 true seen = if setBitV ch = true then .ok (true, seen.add 9) else .ok (false, (seen.add 9).add 0) := by rfl
theorem ctlV_body (ch : Nat) (seen : Sre.Seen) : Sre.accepts ctlVCode 15 ch seen = if (decide (ch < 256) && (ctlVCode.getD (17 + (1 + ch / 32)) 0).testBit (ch % 32)) = true then .ok (true, seen.add 9) else .ok (false, (seen.add 9).add 0) := by rfl
theorem ctlV_set : SetCode ctlVCode isCtlV where
  head := .inl (by decide +kernel)
  info := by decide +kernel
  info0 := by decide +kernel
  first := fun ch seen => by
    rw [← setBitV_is]
    show ∃ seen', Sre.inSet ctlVCode ch 28 5 true seen = _
    rw [ctlV_first]
    cases setBitV ch <;> exact ⟨_, rfl⟩
  body := fun ch seen => by
    rw [← setBitV_is]
    have e : (Sre.header ctlVCode).2 = 15 := by decide +kernel
    rw [e, ctlV_body]
    have e2 : ∀ k, k < 8 → ctlVCode.getD (17 + (1 + k)) 0 = ctlVCode.getD (5 + (1 + k)) 0 := by decide +kernel
    have e3 : (decide (ch < 256) && (ctlVCode.getD (17 + (1 + ch / 32)) 0).testBit (ch % 32)) = setBitV ch := by
      unfold setBitV
      by_cases h : ch < 256
      · rw [e2 (ch / 32) (by omega)]
      · simp [h]
    rw [e3]
    cases setBitV ch <;> exact ⟨_, rfl⟩
  isIn := by decide +kernel
  width := by decide +kernel
  size := by decide +kernel
end Mine

open PySem PySem.W PySem.Calls PyProof.Rows
set_option Elab.async false
set_option linter.unusedVariables false
set_option maxRecDepth 100000
namespace Mine
section
variable {c : Cx} {n : Nat} {sc : Scope} {m : Lm} {mu : Mu}
/-! # types -/
theorem CallV.typeStr {x : Str} {P : PV → Mu → Prop} (h : P (.ty "str") mu) : CallV c n mu (.type "type") [.str x] [] P := fun A s vs kvs hA ht S r rk => by
  cases r with | cons r0 r =>
  cases r; cases rk; cases r0
  exact call_type_of (typeIs_str _ _ _) (by decide) (Post.pure0 S h (.ty _))
theorem CallV.typeList {l : Addr} {xs : List PV} {P : PV → Mu → Prop} (hl : mu l = some (.list xs)) (h : P (.ty "list") mu) : CallV c n mu (.type "type") [.ref l] [] P := fun A s vs kvs hA ht S r rk => by
  cases r with | cons r0 r =>
  cases r; cases rk; cases r0
  obtain ⟨vs, k, e, rs⟩ := S.objs l _ hl
  exact call_type_of ⟨_, e, rfl⟩ (by decide) (Post.pure0 S h (.ty _))
theorem OpC.isTy {a b : String} {P : PV → Mu → Prop} (h : P (.bool (decide (a = b))) mu) : OpC c n mu .Is (.ty a) (.ty b) P := fun A s va vb hA ht S ra rb => by
  cases ra; cases rb
  refine wpAny_is_plain rfl (Post.pure0 S h ?_)
  have : (Value.type a == Value.type b) = decide (a = b) := by
    by_cases h : a = b
    · subst h; simp
    · simp [h]
  rw [this]; exact .bool _
theorem OpC.isNotTy {a b : String} {P : PV → Mu → Prop} (h : P (.bool (decide (a ≠ b))) mu) : OpC c n mu .IsNot (.ty a) (.ty b) P := fun A s va vb hA ht S ra rb => by
  cases ra; cases rb
  refine wpAny_isNot_plain rfl (Post.pure0 S h ?_)
  have : (!(Value.type a == Value.type b)) = decide (a ≠ b) := by
    by_cases h : a = b
    · subst h; simp
    · simp [h]
  rw [this]; exact .bool _
theorem Binds.k21 {fd : FuncData} {x y z : Str} {d e f : PV} {K : List (Str × PV) → Mu → Prop} (hb : ∀ v w u, bindArgs fd ⟨[v, w], [(z, u)]⟩ = pure [(x, v), (y, w), (z, u)]) (h : K [(x, d), (y, e), (z, f)] mu) : Binds c mu fd [d, e] [(z, f)] K := fun A s vs kvs hA S r rk => by
  cases r with | cons r0 r =>
  cases r with | cons r1 r =>
  cases r
  cases rk with | cons r2 rk =>
  cases rk
  rw [hb]; exact wpAny_pure ⟨_, mu, h, Step.refl S, .cons r0 (.cons r1 (.cons r2 .nil))⟩
theorem EvE.debug {pos : Pos} {P : PV → Mu → Prop} (h : P (.bool true) mu) : EvE c n sc m mu (.Name (Str.ofString "__debug__") pos) P := by
  intro env A s he hA ht S F
  show wpAny c.M A (do standAt pos; if (Str.ofString "__debug__" == ("__debug__" : Str)) = true then debugConstant else loadName env (Str.ofString "__debug__")) _ _ s
  rw [if_pos (by decide +kernel)]
  exact wpAny_bind (wpAny_standAt (wpAny_bind (wpAny_rule (wpAny_pure (Post.pure0 S h (.bool true))))))
/-- given arguments and defaults that are constants -/
theorem Binds.dflt {fd : FuncData} {args : List PV} {xs : List (Str × PV)} {T : Addr} {items : Array Value} {k : Nat} {o : Obj} {K : List (Str × PV) → Mu → Prop} (ht : c.base.get? T = some o) (hd : o.data = .seq items k)
    (hb : ∀ (h : Heap) vs, Reps h args vs → ∃ g ys, bindArgs fd ⟨vs, []⟩ = (seqItems? (.ref T) >>= g) ∧ g (some items) = pure ys ∧ RepD h xs ys) (h : K xs mu) : Binds c mu fd args [] K := fun A s vs kvs hA S r rk => by
  cases rk
  obtain ⟨g, ys, e1, e2, r2⟩ := hb s.heap vs r
  rw [e1]
  refine wpAny_bind (wpAny_seqItems (S.base _ _ ht) hd ?_)
  rw [e2]
  exact wpAny_pure ⟨_, mu, h, Step.refl S, r2⟩
/-! # slices of lists that an expression gives -/
theorem sub_slice {M : Model} {A : Around} {E : Value → Shared → Prop} {s : Shared} {env : Env} {value : PySem.Expr} {lower upper : Option PySem.Expr} {p pos : Pos} {T id : String} {Q : Value → Shared → Prop}
    (hgo : ∀ {o r : Value} {s : Shared} {Q : Unit → Shared → Prop}, Q () s → wpAny M A (letTemporaryGo value o r) Q E s)
    (hl : typeLookup (.type T) "__getitem__" = pure (some (.builtin id)))
    (h : wpAny M A (eval value env) (fun o s₁ => wpAny M A (eval (.Slice lower upper none p) env) (fun i s₂ => s₂.TypeIs o T ∧ wpAny M A (getItem o i) Q E s₂) E s₁) E s) :
    wpAny M A (eval (.Subscript value (.Slice lower upper none p) pos) env) Q E s := by
  rw [arm_eval_Subscript]
  refine wpAny_bind (wpAny_mono h (fun o s₁ h₁ => wpAny_bind (wpAny_holding (wpAny_mono h₁ (fun i s₂ h₂ => wpAny_bind (wpAny_standAt ?_)) fun _ _ x => x))) fun _ _ x => x)
  rw [getitemInPython_of_ne h₂.1.not_modules]
  have fin : wpAny M A (operate [i, o] (getItem o i)) (fun r s₃ => wpAny M A (letTemporaryGo value o r >>= fun _ => pure r) Q E s₃) E s₂ :=
    wpAny_operating (wpAny_mono h₂.2 (fun r s₃ h₃ => wpAny_bind (hgo (wpAny_pure h₃))) fun _ _ x => x)
  refine wpAny_bind ?_
  first
    | exact wpAny_bind (wpAny_specialOf h₂.1 hl (wpAny_pure (wpAny_bind fin)))
    | exact wpAny_bind (wpAny_specialOf h₂.1 hl (wpAny_bind (wpAny_pure (wpAny_bind fin))))
    | exact wpAny_bind (wpAny_specialOf h₂.1 hl (wpAny_pure (wpAny_bind fin)))
    | exact wpAny_bind (wpAny_specialOf h₂.1 hl (wpAny_bind fin))
theorem EvE.sliceL2 {value : PySem.Expr} {lower upper : Option PySem.Expr} {p pos : Pos} {P : PV → Mu → Prop}
    (h : EvE c n sc m mu value fun d mu1 => EvP c n sc m mu1 lower fun lo mu2 => EvP c n sc m mu2 upper fun hi mu3 => ∃ l xs, d = .ref l ∧ ListAt c mu3 l xs ∧ (lo = none ∨ hi = none) ∧ xs.length ≤ sizeLine ∧ ∀ D, mu3 D = none → P (.ref D) (upd mu3 D (.list (pk xs lo hi)))) : EvE c n sc m mu (.Subscript value (.Slice lower upper none p) pos) P := by
  intro env A s he hA htk S F
  refine sub_slice (T := "list") wpAny_letTemporaryGo list_getitem_lookup (EvE.bind h he hA htk S F fun v s1 d mu1 h1 x1 t1 S1 F1 r1 _ => ?_)
  refine wpAny_Slice (EvP.bind h1 he hA t1 S1 F1 fun o1 s2 lo mu2 h2 e1 x2 t2 S2 F2 k2 => ?_)
  refine EvP.bind h2 he hA t2 S2 F2 fun o2 s3 hi mu3 h3 e2 x3 t3 S3 F3 k3 => ?_
  obtain ⟨l, xs, rfl, hl, hor, hsz, h3⟩ := h3
  cases r1
  obtain ⟨vs, hli, rs⟩ := hl.at S3
  refine wpAny_evalPart_none ⟨(hli.push _).typeIs, ?_⟩
  refine wpAny_getItem_list_slice (hli.push _) (Heap.IsSliceOf.new ..) part_is part_is .none (by simp) ?_ (by rw [List.size_toArray, rs.length]; exact hsz)
  rw [e1, e2, pick_pk vs lo hi hor, Heap.size_push]
  let sl : Obj := { cls := .type "slice", data := .fields #[partValue o1, partValue o2, .none] }
  have x4 : Step c noT mu3 s3 mu3 { s3 with heap := s3.heap.push sl } := Step.pushOff S3
  have hsz4 : (s3.heap.push sl).objs.size = s3.heap.objs.size + 1 := Heap.size_push ..
  have rs4 : Reps ((s3.heap.push sl).push (listOf (pk vs lo hi).toArray 0)) (pk xs lo hi) (pk vs lo hi) := by
    have : Reps s3.heap (pk xs lo hi) (pk vs lo hi) := by
      unfold pk; rw [rs.length]; exact (rs.take _).drop _
    exact this.mono fun b o e _ => Heap.get?_push_of_some _ (Heap.get?_push_of_some _ e)
  have x5 := Step.push (T := noT) (s := { s3 with heap := s3.heap.push sl }) (o := listOf (pk vs lo hi).toArray 0) (x := .list (pk xs lo hi)) x4.st ⟨_, 0, Heap.get?_push_size _ rfl, rs4⟩
  have hoff : mu3 (s3.heap.objs.size + 1) = none := S3.off (by omega)
  have x5' : Step c noT mu3 { s3 with heap := s3.heap.push sl } (upd mu3 (s3.heap.objs.size + 1) (.list (pk xs lo hi))) { s3 with heap := (s3.heap.push sl).push (listOf (pk vs lo hi).toArray 0) } := by
    rw [← hsz4]; exact x5
  exact ⟨_, _, h3 _ hoff, (((x1.trans x2).trans x3).trans x4).trans x5', .ref _⟩
end
end Mine

open PySem PySem.W PySem.Calls PyProof.Rows
set_option Elab.async false
set_option linter.unusedVariables false
set_option maxRecDepth 100000
namespace Mine
section
variable {c : Cx} {n : Nat} {sc : Scope} {m : Lm} {mu : Mu}

/-! # special methods of own classes -/
structure InstK (c : Cx) (mu : Mu) (K : Frag) (x C f : Addr) (name : Str) : Prop where
  hK : K.In c.base
  inst : ∃ dx es k, mu x = some (.inst C dx) ∧ mu dx = some (.obj (dictOf es k))
  find : findIn K (.ref C) name = some (some (.ref f))
  fn : isFn K (.ref f) = true
theorem InstK.at {K : Frag} {x C f : Addr} {name : Str} (h : InstK c mu K x C f name) {hp : Heap} (S : St c mu hp) : ∃ ox od, PySem.W.InstAt hp x ox C od := by
  obtain ⟨dx, es, k, hx, hd⟩ := h.inst
  exact ⟨_, _, inst_at hx hd S⟩
/-- del x[i] for an object -/
theorem ExS.delInst {K : Frag} {o i : PySem.Expr} {p pos : Pos} {ss : List Stmt} {P : FV → Lm → Mu → Prop}
    (h : EvE c n sc m mu o fun dv mu1 => EvE c n sc m mu1 i fun iv mu2 => ∃ x C f, dv = .ref x ∧ InstK c mu2 K x C f "__delitem__" ∧ noSeq K C = true ∧ CallV c n mu2 (.ref f) [.ref x, iv] [] fun _ mu3 => ExS c n sc m mu3 ss P) : ExS c n sc m mu (.Delete [.Subscript o i p] pos :: ss) P := by
  refine ExS.seq fun env A s he hA ht S F => ?_
  refine wpAny_Delete (wpAny_deleteEach_cons (wpAny_delete_Subscript ?_))
  refine EvE.bind h he hA ht S F fun v0 s1 d1 mu1 h1 x1 t1 S1 F1 r1 k1 => ?_
  refine EvE.bind h1 he hA t1 S1 F1 fun v2 s2 d2 mu2 h2 x2 t2 S2 F2 r2 k2 => ?_
  obtain ⟨x, C, f, rfl, hi, hq, hc⟩ := h2
  cases r1
  obtain ⟨ox, od, I⟩ := hi.at S2
  have X := hi.hK.keeps S2.base
  unfold delItem sequenceKey
  refine wpAny_holding (wpAny_bind (wpAny_bind (I.type.here ?_)))
  refine wpAny_bind ((anyM_none X hq).here ?_)
  rw [if_pos (show (!false) = true from rfl)]
  refine wpAny_pure (wpAny_bind (special_fn X I hi.find (beq_iff_eq.mp hi.fn) (post_bind (hc A s2 [.ref x, v2] [] hA t2 S2 (.cons (.ref x) (.cons r2 .nil)) .nil) t2 S2 fun v3 s3 d3 mu3 h3 x3 t3 S3 r3 _ => ?_)))
  exact wpAny_pure (wpAny_deleteEach_nil ⟨.next, m, mu3, h3, ((x1.trans x2).trans x3).toT, F2.step S2 x3, .next⟩)

/-! # l[:] = .. -/
theorem slice_bounds_all (k : Nat) : sliceBounds none none none k = (0, (k : Int), 1) := by
  unfold sliceBounds; simp
theorem setItem_all {A : Around} {s : Shared} {l b sl : Addr} {xs ys : Array Value} {E : Value → Shared → Prop} {Q : Unit → Shared → Prop} (hl : s.heap.IsList l xs) (hb : s.heap.IsList b ys) (hs : s.heap.IsSliceOf sl .none .none .none) (hne : l ≠ b)
    (hx : xs.size ≤ 1000000) (hy : ys.size ≤ 1000000) (h : ∀ h' , (∃ k, h'.get? l = some (listOf ys k)) → Heap.SameBut l s.heap h' → Q () { s with heap := h' }) (hp : ∃ k, s.heap.get? l = some (listOf xs k)) : wpAny c.M A (setItem (.ref l) (.ref sl) (.ref b)) Q E s := by
  obtain ⟨o, ho, hc, ne, hd⟩ := id hl
  obtain ⟨ob, hob, hcb, nb, hdb⟩ := id hb
  obtain ⟨os, hos, hcs, hds⟩ := id hs
  have hTs : s.TypeIs (.ref sl) "slice" := ⟨os, hos, hcs⟩
  unfold setItem
  refine wpAny_holding ?_
  refine wpAny_bind (wpAny_sequenceKey hl.typeIs (by decide) ?_)
  refine wpAny_bind (wpAny_callSpecial?_slot (name := Str.ofString "__setitem__") hl.typeIs slot_list_setitem
    (wpAny_call_entry slot_list_setitem hl.typeIs entry_list_setitem ?_ (args_list_setitem _ _ _)))
  show wpAny _ _ (Builtin.List.listSubscript? (.ref sl) >>= _) _ _ s
  refine wpAny_bind ?_
  unfold Builtin.List.listSubscript?
  refine wpAny_bind (wpAny_specialOf hTs slice_no_index ?_)
  simp only [Option.isNone_none, if_true]
  refine wpAny_pure ?_
  show wpAny _ _ (typeOf (.ref sl) >>= _) _ _ s
  refine wpAny_bind (wpAny_typeOf hTs ?_)
  rw [if_neg (by decide)]
  rw [listSliceParts_eq]
  refine wpAny_bind (wpAny_bind (wpAny_field hos hds (x := .none) rfl (wpAny_bind (wpAny_listPart .none ?_))))
  rw [if_neg (by decide)]
  refine wpAny_bind (wpAny_field hos hds (x := .none) rfl (wpAny_bind (wpAny_listPart .none ?_)))
  refine wpAny_bind (wpAny_field hos hds (x := .none) rfl (wpAny_bind (wpAny_listPart .none (wpAny_pure ?_))))
  have hsr : Builtin.List.listSameRef (.ref l) (.ref b) = false := by simp [Builtin.List.listSameRef, hne]
  dsimp only
  rw [hsr]
  simp only [Bool.false_eq_true, if_false]
  refine wpAny_bind (m := Builtin.List.listAllItems _ _) ?_
  unfold Builtin.List.listAllItems
  refine wpAny_bind (wpAny_typeOf hb.typeIs ?_)
  rw [if_pos (by decide)]
  refine wpAny_bind (wpAny_seqItems hob hdb (wpAny_pure ?_))
  refine wpAny_bind (listItems_at ho hd ?_)
  refine wpAny_bind (wpAny_of_eq (sliceIndices_raw none none none xs.size (by simp)) ?_)
  rw [slice_bounds_all]
  dsimp only
  rw [if_pos (by decide)]
  refine wpAny_bind (wpAny_rule ?_)
  have hlong : Builtin.List.listTooLong (xs.size + ys.size) = false := by
    unfold Builtin.List.listTooLong sizeLine; simp; omega
  rw [hlong]
  simp only [Bool.false_eq_true, if_false]
  obtain ⟨kp, hp⟩ := hp
  have ho2 := ho
  rw [hp] at ho2; cases ho2
  have hf : xs.extract 0 (0 : Int).toNat ++ ys ++ xs.extract (max (0 : Int) (xs.size : Int)).toNat = ys := by
    apply Array.ext'
    simp
  have e1 : (s.heap.update l (Obj.mapSeq fun zs => zs.extract 0 (0 : Int).toNat ++ ys ++ zs.extract (max (0 : Int) (xs.size : Int)).toNat)).get? l = some (Obj.mapSeq (fun zs => zs.extract 0 (0 : Int).toNat ++ ys ++ zs.extract (max (0 : Int) (xs.size : Int)).toNat) (listOf xs kp)) := Heap.get?_update_self _ ho (by rfl)
  have e2 : ∃ k', (s.heap.update l (Obj.mapSeq fun zs => zs.extract 0 (0 : Int).toNat ++ ys ++ zs.extract (max (0 : Int) (xs.size : Int)).toNat)).get? l = some (listOf ys k') := by
    rw [e1]
    unfold Obj.mapSeq
    dsimp only
    rw [hf]
    exact ⟨_, rfl⟩
  refine wpAny_bind (listUpdate_at ho hd (wpAny_bind (wpAny_letGo (wpAny_pure ⟨_, rfl, wpAny_pure (h _ e2 (Heap.SameBut.update ..))⟩))) (by unfold sizeLine; omega) (by rw [hf]; unfold sizeLine; omega))
/-- l[:] = b, b a list that only this statement sees -/
theorem AsgT.sliceAll {Kb : Bool} {mu0 : Mu} {o : PySem.Expr} {p pos : Pos} {b : Addr} {ys : List PV} {P : Lm → Mu → Prop} (h0 : mu0 b = none)
    (h : EvE c n sc m (upd mu0 b (.list ys)) o fun dv mu1 => mu1 = upd mu0 b (.list ys) ∧ ∃ l xs, dv = .ref l ∧ mu0 l = some (.list xs) ∧ xs.length ≤ 1000000 ∧ ys.length ≤ 1000000 ∧ P m (upd mu0 l (.list ys))) : AsgT Kb c n sc m (upd mu0 b (.list ys)) (.Subscript o (.Slice none none none p) pos) (.ref b) P := by
  intro env A s v he hA ht S F r
  cases r
  rw [arm_assign_Subscript]
  refine wpAny_bind (wpAny_holding (EvE.bind h he hA ht S F fun v0 s1 d1 mu1 h1 x1 t1 S1 F1 r1 k1 => ?_))
  obtain ⟨rfl, l, xs, rfl, hl, hx, hy, hP⟩ := h1
  cases r1
  have hlb : l ≠ b := fun q => by rw [q, h0] at hl; cases hl
  have hl' : upd mu0 b (.list ys) l = some (.list xs) := by rw [upd_ne _ _ hlb]; exact hl
  refine wpAny_bind (wpAny_holding (wpAny_Slice (wpAny_evalPart_none (wpAny_evalPart_none (wpAny_evalPart_none ?_)))))
  let sl : Obj := { cls := .type "slice", data := .fields #[.none, .none, .none] }
  have x2 : Step c noT (upd mu0 b (.list ys)) s1 (upd mu0 b (.list ys)) { s1 with heap := s1.heap.push sl } := Step.pushOff S1
  obtain ⟨vs, k, e, rs⟩ := S1.objs l _ hl'
  obtain ⟨ws, kb, eb, rb⟩ := S1.objs b (.list ys) (by simp)
  refine wpAny_bind (wpAny_standAt (wpAny_bind (wpAny_holding ?_)))
  refine setItem_all (c := c) (s := { s1 with heap := s1.heap.push sl }) (xs := vs.toArray) (ys := ws.toArray) ⟨_, Heap.get?_push_of_some _ e, rfl, k, rfl⟩ ⟨_, Heap.get?_push_of_some _ eb, rfl, kb, rfl⟩ (Heap.IsSliceOf.new ..) hlb (by rw [List.size_toArray, rs.length]; exact hx) (by rw [List.size_toArray, rb.length]; exact hy) (fun h' he' hs' => ?_) ⟨_, Heap.get?_push_of_some _ e⟩
  refine wpAny_release ?_
  obtain ⟨k', e'⟩ := he'
  have tk : TK s1.heap h' := fun b o eb' hto => hs'.extBut b o (fun q => by subst q; rw [e] at eb'; cases eb'; exact list_notT hto) (Heap.get?_push_of_some _ eb')
  have S2 : St c (upd mu0 b (.list ys)) (s1.heap.push sl) := x2.st
  have x3 : Step c noT (upd mu0 b (.list ys)) { s1 with heap := s1.heap.push sl } (upd (upd mu0 b (.list ys)) l (.list ys)) { s1 with heap := h' } := Step.set (s := { s1 with heap := s1.heap.push sl }) (k := s1.toks) S2 (by rw [hl']; simp) hs' ⟨ws, k', e', rb.mono tk⟩
  have hsub : Sub (upd mu0 l (.list ys)) (upd (upd mu0 b (.list ys)) l (.list ys)) := fun a x ea => by
    by_cases hal : a = l
    · subst hal; simpa using ea
    · rw [upd_ne _ _ hal] at ea ⊢
      have hab : a ≠ b := fun q => by rw [q, h0] at ea; cases ea
      rw [upd_ne _ _ hab]; exact ea
  have x4 := ((x1.trans x2).trans x3).forget hsub
  exact ⟨m, _, hP, x4.toT, F.step S x4⟩
end
end Mine

open PySem PySem.W PySem.Calls PyProof.Rows
set_option Elab.async false
set_option linter.unusedVariables false
set_option maxRecDepth 100000
namespace Mine
/-! # enumerate over a list that only it sees -/
def tupT (t : PySem.Expr) : Prop := ∃ elts k pos, t = .Tuple elts k pos
theorem tupT.mk {elts : List PySem.Expr} {k : Nat} {pos : Pos} : tupT (.Tuple elts k pos) := ⟨_, _, _, rfl⟩
def enumL (xs : List PV) : List PV := xs.zipIdx.map fun p => .tuple [.int (p.2 : Int), p.1]
theorem enumL_get {xs : List PV} {i : Nat} {x : PV} (h : (enumL xs)[i]? = some x) : ∃ d, xs[i]? = some d ∧ x = .tuple [.int (i : Int), d] := by
  unfold enumL at h
  rw [List.getElem?_map, List.getElem?_zipIdx] at h
  cases e : xs[i]? with
  | none => rw [e] at h; cases h
  | some d => rw [e] at h; simp at h; exact ⟨d, rfl, h.symm⟩
theorem enumL_length (xs : List PV) : (enumL xs).length = xs.length := by simp [enumL]
def enumObj (it : Addr) : Obj := { cls := .type "enumerate", dict := none, data := .fields #[.none, .bool false, .ref it, rawInt 0, .none, .none], slots := #[] }
section
variable {c : Cx} {n : Nat} {sc : Scope} {m : Lm} {mu : Mu}
theorem CallV.enum {l : Addr} {xs : List PV} {P : PV → Mu → Prop} (hl : mu l = some (.list xs))
    (h : ∀ e it oi, mu e = none → mu it = none → e ≠ it → (oi.cls = .type "list_iterator" ∧ oi.data = .fields #[.ref l, .int 0 0]) → P (.ref e) (upd (upd mu it (.obj oi)) e (.obj (enumObj it)))) : CallV c n mu (.type "enumerate") [.ref l] [] P := fun A s vs kvs hA ht S r rk => by
  cases r with | cons r0 r =>
  cases r; cases rk; cases r0
  obtain ⟨vs, k, e, rs⟩ := S.objs l _ hl
  refine call_enumerate_list (items := vs.toArray) ⟨_, e, rfl, k, rfl⟩ fun h' he hi hsz hk => ?_
  obtain ⟨oi, ei, hc, hd⟩ := id hi
  have tk : TK s.heap h' := fun b o eb _ => hk b o eb
  have ne : ¬ IsT oi := fun q => by have := q.1; rw [hc] at this; simp at this
  have n1 : mu s.heap.objs.size = none := S.off (Nat.le_refl _)
  have n2 : mu (s.heap.objs.size + 1) = none := S.off (Nat.le_succ _)
  refine ⟨_, _, h (s.heap.objs.size + 1) s.heap.objs.size oi n2 n1 (Nat.succ_ne_self _) ⟨hc, hd⟩, ?_, .ref _⟩
  exact {
    shape := ⟨_, _, rfl⟩
    st := {
      base := fun b o eb => hk b o (S.base b o eb)
      objs := fun a y ea => by
        by_cases h1 : a = s.heap.objs.size + 1
        · subst h1; simp at ea; subst ea; exact ⟨he, by simp [IsT, enumObj]⟩
        · rw [upd_ne _ _ h1] at ea
          by_cases h2 : a = s.heap.objs.size
          · subst h2; simp at ea; subst ea; exact ⟨ei, ne⟩
          · rw [upd_ne _ _ h2] at ea
            exact (S.objs a y ea).mono (fun o q => hk _ _ q) tk
      new := fun a ha => by
        by_cases h1 : a = s.heap.objs.size + 1
        · subst h1; exact S.baseNone (Nat.le_succ _)
        · rw [upd_ne _ _ h1] at ha
          by_cases h2 : a = s.heap.objs.size
          · subst h2; exact S.baseNone (Nat.le_refl _)
          · rw [upd_ne _ _ h2] at ha; exact S.new a ha }
    keep := fun b o eb _ _ => hk b o eb
    alive := fun b o eb _ => ⟨o, hk b o eb⟩
    dom := fun b hb => by
      by_cases h1 : b = s.heap.objs.size + 1
      · subst h1; exact .inr (get_none (Nat.le_succ _))
      · rw [upd_ne _ _ h1] at hb
        by_cases h2 : b = s.heap.objs.size
        · subst h2; exact .inr (get_none (Nat.le_refl _))
        · rw [upd_ne _ _ h2] at hb; exact .inl hb }
theorem IterOf.enum {mu0 : Mu} {l e it : Addr} {xs : List PV} {oi : Obj} (hl : mu0 l = none) (hi : upd mu0 l (.list xs) it = none) (he : upd mu0 l (.list xs) e = none) (hei : e ≠ it) (hoi : oi.cls = .type "list_iterator" ∧ oi.data = .fields #[.ref l, .int 0 0]) :
    IterOf c n tupT (upd (upd (upd mu0 l (.list xs)) it (.obj oi)) e (.obj (enumObj it))) (.ref e) (enumL xs) (fun _ => True) mu0 := by
  have hil : it ≠ l := fun q => by rw [q] at hi; simp at hi
  have hel : e ≠ l := fun q => by rw [q] at he; simp at he
  rw [upd_ne _ _ hil] at hi
  rw [upd_ne _ _ hel] at he
  refine ⟨fun a o ea => ?_, fun A s v hA ht S r => ?_⟩
  · have h1 : a ≠ e := fun q => by rw [q, he] at ea; cases ea
    have h2 : a ≠ it := fun q => by rw [q, hi] at ea; cases ea
    have h3 : a ≠ l := fun q => by rw [q, hl] at ea; cases ea
    rw [upd_ne _ _ h1, upd_ne _ _ h2, upd_ne _ _ h3]; exact ea
  cases r
  have ge : s.heap.get? e = some (enumObj it) := (S.objs e (.obj (enumObj it)) (by simp)).1
  have gi : s.heap.get? it = some oi := (S.objs it (.obj oi) (by rw [upd_ne _ _ (Ne.symm hei)]; simp)).1
  obtain ⟨vs, k, gl, rs⟩ := S.objs l (.list xs) (by rw [upd_ne _ _ (Ne.symm hel), upd_ne _ _ (Ne.symm hil)]; simp)
  refine wpAny_pyIter_enum (i := 0) (old := .none) ge ⟨e, [e, it, l], fun i h => ((∃ old, IsEnum h e it i old) ∧ h.IsListIter it l i) ∧ ∃ vs k, h.get? l = some (listOf vs.toArray k) ∧ Reps h xs vs, s.heap, s.toks, rfl, rfl, fun b o _ eb => eb, fun b hb => ?_, ?_, ⟨⟨_, ge⟩, ⟨oi, gi, hoi⟩⟩, vs, k, gl, rs⟩
  · have hin : upd (upd (upd mu0 l (.list xs)) it (.obj oi)) e (.obj (enumObj it)) b ≠ none ∧ mu0 b = none := by
      rcases List.mem_cons.mp hb with q | q
      · subst q; exact ⟨by simp, he⟩
      · rcases List.mem_cons.mp q with q | q
        · subst q; exact ⟨by rw [upd_ne _ _ (Ne.symm hei)]; simp, hi⟩
        · rw [List.mem_singleton.mp q]; exact ⟨by rw [upd_ne _ _ (Ne.symm hel), upd_ne _ _ (Ne.symm hil)]; simp, hl⟩
    exact ⟨S.new b hin.1, hin.2, .inr hin.1⟩
  exact {
    frame := fun i h h' hj hk tk => by
      obtain ⟨⟨⟨old, h1⟩, h2⟩, vs, k, h3, h4⟩ := hj
      exact ⟨⟨⟨old, hk e (by simp) _ h1⟩, h2.at fun o x => hk it (by simp) o x⟩, vs, k, hk l (by simp) _ h3, h4.mono tk⟩
    notT := fun i h hj b hb => by
      obtain ⟨⟨⟨old, h1⟩, h2⟩, vs, k, h3, h4⟩ := hj
      rcases List.mem_cons.mp hb with q | q
      · subst q; exact ⟨_, h1, by simp [IsT]⟩
      · rcases List.mem_cons.mp q with q | q
        · subst q; obtain ⟨o, ho, hc, _⟩ := h2; exact ⟨o, ho, fun q => by have := q.1; rw [hc] at this; simp at this⟩
        · rw [List.mem_singleton.mp q]; exact ⟨_, h3, list_notT⟩
    next := fun i d A s mu target hT hx hA ht S hs hm hj => by
      obtain ⟨⟨⟨old, h1⟩, h2⟩, vs, k, h3, h4⟩ := hj
      obtain ⟨d, hd, rfl⟩ := enumL_get hx
      obtain ⟨v, hv, rv⟩ := h4.get hd
      obtain ⟨elts, kk, pos, rfl⟩ := hT
      refine wpAny_pyNext_enum_item h1 h2 (items := vs.toArray) ⟨_, h3, rfl, k, rfl⟩ (x := v) (by simpa using hv) hei fun h' g1 g2 g3 g4 g5 => ⟨_, rfl, ?_⟩
      refine wpAny_letOwnedTupleGo_enum (s := { s with heap := h', toks := s.toks + 1 }) g1 fun h'' q1 q2 => ?_
      have hse : s.heap.objs.size ≠ e := Nat.ne_of_gt (Heap.lt_size h1)
      have kp : ∀ b o, b ∉ [e, it, l] → s.heap.get? b = some o → h''.get? b = some o := fun b o hb eb => (q2.2 b (fun q => hb (by simp [q]))).trans (g5 b o (fun q => hb (by simp [q])) (fun q => hb (by simp [q])) eb)
      have tk : TK s.heap h'' := fun b o eb hto => by
        refine (q2.2 b (fun q => ?_)).trans (g5 b o (fun q => ?_) (fun q => ?_) eb)
        · rw [q, h1] at eb; cases eb; simp [IsT] at hto
        · rw [q, h1] at eb; cases eb; simp [IsT] at hto
        · obtain ⟨o2, e2, hc2, _⟩ := id h2; rw [q, e2] at eb; cases eb; have := hto.1; rw [hc2] at this; simp at this
      have g3' : h''.get? s.heap.objs.size = some { cls := .type "tuple", data := .seq #[.int i s.toks, v] } := (q2.2 _ hse).trans g3
      refine ⟨h'', s.toks + 1, rfl, kp, .tuple (vs := [.int i s.toks, v]) g3' (.cons (.int _ _) (.cons (rv.mono tk) .nil)), ⟨⟨v, by simpa using q1⟩, g2.at fun o y => (q2.2 it (Ne.symm hei)).trans y⟩, vs, k, ?_, h4.mono tk⟩
      exact (q2.2 l (Ne.symm hel)).trans (g5 l _ (Ne.symm hel) (Ne.symm hil) h3)
    self := fun i A s Q E hA hj hq => by
      obtain ⟨⟨⟨old, h1⟩, h2⟩, _⟩ := hj
      exact wpAny_pyIter_enum h1 hq
    done := fun i A s mu hx hA ht S hs hm hj => by
      obtain ⟨⟨⟨old, h1⟩, h2⟩, vs, k, h3, h4⟩ := hj
      rw [enumL_length] at hx
      refine wpAny_pyNext_enum_end hA.hd h1 h2 (items := vs.toArray) ⟨_, h3, rfl, k, rfl⟩ (by have := h4.length; simp; omega) fun h' hx' => ⟨rfl, h', s.toks, rfl, fun b o hb eb => hx' b o (fun q => hb (by simp [q])) eb⟩ }
end
end Mine

open PySem PySem.W PySem.Calls PyProof.Rows
set_option Elab.async false
set_option linter.unusedVariables false
set_option maxRecDepth 100000
namespace Mine
/-! # values as data; equality -/
mutual
def IsD (c : Cx) (mu : Mu) : PyData → PV → Prop
  | .none, d => d = .none
  | .bool b, d => d = .bool b
  | .int i, d => d = .int i
  | .str x, d => d = .str x
  | .tuple xs, d => ∃ ds, d = .tuple ds ∧ IsDs c mu xs ds
  | .list xs, d => ∃ l ds, d = .ref l ∧ ListAt c mu l ds ∧ IsDs c mu xs ds
  | .dict _, _ => False
def IsDs (c : Cx) (mu : Mu) : List PyData → List PV → Prop
  | [], ds => ds = []
  | x :: xs, ds => ∃ d r, ds = d :: r ∧ IsD c mu x d ∧ IsDs c mu xs r
end
section
variable {c : Cx} {n : Nat} {sc : Scope} {m : Lm} {mu : Mu}
mutual
theorem IsD.reads {h : Heap} (S : St c mu h) : ∀ (D : PyData) {d : PV} {v : Value}, IsD c mu D d → Rep h d v → ∃ as, Reads h v D as
  | .none, d, v, q, r => by rw [IsD] at q; subst q; cases r; exact ⟨_, .none⟩
  | .bool b, d, v, q, r => by rw [IsD] at q; subst q; cases r; exact ⟨_, .bool _⟩
  | .int i, d, v, q, r => by rw [IsD] at q; subst q; cases r; exact ⟨_, .int _ _⟩
  | .str x, d, v, q, r => by rw [IsD] at q; subst q; cases r; exact ⟨_, .str _ _⟩
  | .tuple xs, d, v, q, r => by
    rw [IsD] at q
    obtain ⟨ds, rfl, hx⟩ := q
    cases r with
    | tuple e rs =>
      obtain ⟨as, ra⟩ := IsDs.reads S xs hx rs
      exact ⟨as, .tuple e rfl rfl (by simpa using ra)⟩
  | .list xs, d, v, q, r => by
    rw [IsD] at q
    obtain ⟨l, ds, rfl, hl, hx⟩ := q
    cases r
    obtain ⟨vs, ⟨o, ho, hc, k, hd⟩, rs⟩ := hl.at S
    obtain ⟨as, ra⟩ := IsDs.reads S xs hx rs
    exact ⟨_, .list ho hc hd (by simpa using ra)⟩
  | .dict _, d, v, q, r => by rw [IsD] at q; exact q.elim
theorem IsDs.reads {h : Heap} (S : St c mu h) : ∀ (xs : List PyData) {ds : List PV} {vs : List Value}, IsDs c mu xs ds → Reps h ds vs → ∃ as, ReadsAll h vs xs as
  | [], ds, vs, q, r => by rw [IsDs] at q; subst q; cases r; exact ⟨_, .nil⟩
  | x :: xs, ds, vs, q, r => by
    rw [IsDs] at q
    obtain ⟨d, r', rfl, hd, hr⟩ := q
    cases r with
    | cons r0 rs =>
      obtain ⟨as, ra⟩ := IsD.reads S x hd r0
      obtain ⟨bs, rb⟩ := IsDs.reads S xs hr rs
      exact ⟨_, .cons ra rb⟩
end
theorem IsDs.map {α : Type} {f : α → PyData} {g : α → PV} : ∀ (l : List α), (∀ x ∈ l, IsD c mu (f x) (g x)) → IsDs c mu (l.map f) (l.map g)
  | [], _ => by simp [IsDs]
  | x :: l, h => by
    rw [List.map_cons, List.map_cons, IsDs]
    exact ⟨_, _, rfl, h x (List.mem_cons_self ..), IsDs.map l fun y hy => h y (List.mem_cons_of_mem _ hy)⟩
theorem canLayAll0_map {α : Type} {f : α → PyData} : ∀ (l : List α), (∀ x ∈ l, (f x).canLay0 = true) → PyData.canLayAll0 (l.map f) = true
  | [], _ => by simp [PyData.canLayAll0]
  | x :: l, h => by
    rw [List.map_cons, PyData.canLayAll0, h x (List.mem_cons_self ..), canLayAll0_map l fun y hy => h y (List.mem_cons_of_mem _ hy)]; rfl
theorem depthAll_map {α : Type} {f : α → PyData} {k : Nat} : ∀ (l : List α), (∀ x ∈ l, (f x).depth ≤ k) → PyData.depthAll (l.map f) ≤ k
  | [], _ => by simp [PyData.depthAll]
  | x :: l, h => by
    rw [List.map_cons, PyData.depthAll]
    have h1 := h x (List.mem_cons_self ..)
    have h2 := depthAll_map l fun y hy => h y (List.mem_cons_of_mem _ hy)
    omega
theorem OpC.eqG {a b : PV} {D D' : PyData} {P : PV → Mu → Prop} (ha : IsD c mu D a) (hb : IsD c mu D' b) (hc : D.canLay0 = true) (hc' : D'.canLay0 = true) (hn : 1 ≤ n) (hdp : D.depth ≤ 19) (h : P (.bool (PyData.eqv D D')) mu) : OpC c n mu .Eq a b P := fun A s va vb hA ht S ra rb => by
  obtain ⟨as, r1⟩ := IsD.reads S D ha ra
  obtain ⟨bs, r2⟩ := IsD.reads S D' hb rb
  exact SeqAt.compareEq_reads r1 r2 hc hc' (by have := hA.un; omega) (Post.pure0 S h (.bool _))
theorem OpC.eqD {a b : PV} {D : PyData} {P : PV → Mu → Prop} (ha : IsD c mu D a) (hb : IsD c mu D b) (hc : D.canLay0 = true) (hn : 1 ≤ n) (hdp : D.depth ≤ 19) (h : P (.bool true) mu) : OpC c n mu .Eq a b P :=
  OpC.eqG ha hb hc hc hn hdp (by rw [SeqAt.eqv_refl D hc]; exact h)
/-! # membership in a list of texts -/
end
end Mine

open PySem PySem.W PySem.Calls PyProof.Rows
set_option Elab.async false
set_option linter.unusedVariables false
set_option maxRecDepth 100000
namespace Mine
/-! # texts of numbers -/
def dig (i : Nat) : List Nat := (Str.ofString (toString (i : Int))).cps.toList
theorem S_dig (i : Nat) : Str.ofString (toString (i : Int)) = S (dig i) := (S_of _).symm
def lowL (v : List Nat) : List Nat := v.map lo1
theorem S_lower {v : List Nat} (h : ∀ ch ∈ v, ch < 128) : Txt.lower (S v) = S (lowL v) := by
  rw [lower_ascii (by simpa using h)]
  show Str.mk (v.toArray.map lo1) = _
  simp [lowL]
section
variable {c : Cx} {n : Nat} {sc : Scope} {m : Lm} {mu : Mu}
theorem CallV.strInt {i : Nat} {P : PV → Mu → Prop} (hi : i < 1000000) (h : P (.str (S (dig i))) mu) : CallV c n mu (.type "str") [.int (i : Int)] [] P := fun A s vs kvs hA ht S r rk => by
  cases r with | cons r0 r =>
  cases r; cases rk; cases r0
  refine _root_.PySem.P.str_of_int ?_ (Post.pure (s := s) S h ?_)
  · have : (Int.natAbs (i : Int)) = i := by omega
    rw [this]
    by_cases h0 : i = 0
    · subst h0; decide
    · exact (Nat.log2_lt h0).mpr (Nat.lt_of_lt_of_le hi (by decide))
  · rw [S_dig]; exact .str _ _
theorem CallV.lower {v : List Nat} {P : PV → Mu → Prop} (hv : ∀ ch ∈ v, ch < 128) (hl : v.length ≤ 1000000) (h : P (.str (S (lowL v))) mu) : CallV c n mu (.builtin "str.lower") [.str (S v)] [] P := fun A s vs kvs hA ht S r rk => by
  cases r with | cons r0 r =>
  cases r; cases rk; cases r0
  refine SCL.lower (by rw [S_length]; omega) fun _ => Post.pure (s := s) S h ?_
  rw [S_lower hv]; exact .str _ _
/-! # lists -/
theorem ints_all {h : Heap} : ∀ {ns : List Int} {vs : List Value}, Reps h (ns.map .int) vs → ∃ xs : List (Int × Tok), vs = xs.map (fun p => Value.int p.1 p.2) ∧ xs.map (·.1) = ns
  | [], vs, r => by cases r; exact ⟨[], rfl, rfl⟩
  | a :: ns, vs, r => by
    cases r with
    | cons r0 r =>
      obtain ⟨xs, rfl, e⟩ := ints_all r
      cases r0 with
      | int _ t => exact ⟨(a, t) :: xs, rfl, by simp [e]⟩
/-- the greatest of a list that only this call sees -/
theorem CallV.maxTmp {l : Addr} {ns : List Int} {M : Int} {P : PV → Mu → Prop} (h0 : mu l = none) (hM : M ∈ ns) (hle : ∀ a ∈ ns, a ≤ M) (h : P (.int M) mu) : CallV c n (upd mu l (.list (ns.map .int))) (.builtin "max") [.ref l] [] P := fun A s vs kvs hA ht S r rk => by
  cases r with | cons r0 r =>
  cases r; cases rk; cases r0
  obtain ⟨vs, k, e, rs⟩ := S.objs l (.list (ns.map .int)) (by simp)
  obtain ⟨xs, rfl, exs⟩ := ints_all rs
  have hit : intItems xs.toArray = (xs.map (fun p => Value.int p.1 p.2)).toArray := by simp [intItems]
  have hne : 0 < xs.toArray.size := by
    have : ns ≠ [] := fun q => by rw [q] at hM; cases hM
    rw [List.size_toArray]
    cases xs with
    | nil => simp at exs; exact absurd exs this
    | cons _ _ => simp
  refine max_intList hA.hd (xs := xs.toArray) ⟨_, e, rfl, k, by rw [hit]⟩ hne fun v h' tk hv hk => ?_
  obtain ⟨t, rfl⟩ := intItems_at hv
  obtain ⟨h1, h2⟩ := argBest_gt (numAt xs.toArray) (xs.toArray.size - 1)
  have hall : ∀ j, j < xs.length → numAt xs.toArray j = ns.getD j 0 := fun j hj => by
    rw [numAt_eq, ← exs]
  have hlen : xs.length = ns.length := by rw [← exs]; simp
  have hbj : argBest (fun i j => decide (numAt xs.toArray i > numAt xs.toArray j)) (xs.toArray.size - 1) < xs.length := by
    rw [List.size_toArray] at h1 hne ⊢
    omega
  have eM : numAt xs.toArray (argBest (fun i j => decide (numAt xs.toArray i > numAt xs.toArray j)) (xs.toArray.size - 1)) = M := by
    refine Int.le_antisymm ?_ ?_
    · rw [hall _ hbj]; exact hle _ (getD_mem (by rw [← hlen]; exact hbj))
    · obtain ⟨j, hj, ej⟩ := mem_getD hM
      have := h2 j (by rw [List.size_toArray]; omega)
      rw [hall j (by omega), ej] at this
      exact this
  rw [eM]
  exact ⟨_, mu, h, (Step.ext (k := tk) S hk).forget (sub_upd h0), .int _ _⟩
theorem CallV.listL {l : Addr} {xs : List PV} {P : PV → Mu → Prop} (hl : ListAt c mu l xs) (hsz : xs.length ≤ sizeLine) (h : ∀ D, mu D = none → P (.ref D) (upd mu D (.list xs))) : CallV c n mu (.type "list") [.ref l] [] P := fun A s vs kvs hA ht S r rk => by
  cases r with | cons r0 r =>
  cases r; cases rk; cases r0
  obtain ⟨vs, ⟨o, ho, hc, k, hd⟩, rs⟩ := hl.at S
  refine call_list_seq l (.inl rfl) ho hc hd (fun h' c' hk hD => ?_) (by rw [List.size_toArray, rs.length]; exact hsz)
  have n1 : mu s.heap.objs.size = none := S.off (Nat.le_refl _)
  have tk : TK s.heap h' := fun b o eb _ => hk b o eb
  refine ⟨_, _, h _ n1, ?_, .ref _⟩
  exact {
    shape := ⟨_, _, rfl⟩
    st := {
      base := fun b o eb => hk b o (S.base b o eb)
      objs := fun a y ea => by
        by_cases h2 : a = s.heap.objs.size
        · subst h2; simp at ea; subst ea; exact ⟨vs, c', hD, rs.mono tk⟩
        · rw [upd_ne _ _ h2] at ea
          exact (S.objs a y ea).mono (fun o q => hk _ _ q) tk
      new := fun a ha => by
        by_cases h2 : a = s.heap.objs.size
        · subst h2; exact S.baseNone (Nat.le_refl _)
        · rw [upd_ne _ _ h2] at ha; exact S.new a ha }
    keep := fun b o eb _ _ => hk b o eb
    alive := fun b o eb _ => ⟨o, hk b o eb⟩
    dom := fun b hb => by
      by_cases h2 : b = s.heap.objs.size
      · subst h2; exact .inr (get_none (Nat.le_refl _))
      · rw [upd_ne _ _ h2] at hb; exact .inl hb }
end
end Mine

open PySem PySem.W PySem.Calls PyProof.Rows
set_option Elab.async false
set_option linter.unusedVariables false
set_option maxRecDepth 100000
namespace Mine
section
variable {c : Cx} {n : Nat} {sc : Scope} {m : Lm} {mu : Mu}
/-! # subscripts -/
theorem OpSub.tupN {slice : PySem.Expr} {ds : List PV} {i : Int} {d : PV} {P : PV → Mu → Prop} (h0 : 0 ≤ i) (h1 : i < 2 ^ 62) (hx : ds[i.toNat]? = some d) (h : P d mu)
    (hs : ∀ o i, ∃ ops, subscripted slice false o i = operate ops (getItem o i) := by intro _ _; exact ⟨_, rfl⟩) : OpSub c n mu slice (.tuple ds) (.int i) P :=
  OpSub.of Ty.tuple F.slot_tuple_getitem.lookup (fun A s va vi hA ht S ra ri => by
    cases ri
    cases ra with
    | tuple e rs =>
      obtain ⟨v, hv, rv⟩ := rs.get hx
      have hlt := (List.getElem?_eq_some_iff.mp hv).1
      refine PyProof.Rows.getItem_tuple (j := i.toNat) (x := v) ⟨_, e, rfl, _, rfl⟩ ?_ ?_ ?_ ?_ ?_
      all_goals first | omega | (simpa using hv) | (rw [List.size_toArray, seqIndex_nat h0 hlt]) | exact Post.pure0 S h rv | decide) hs
theorem Ty.listAt {l : Addr} {xs : List PV} (hl : ListAt c mu l xs) : Ty c mu (.ref l) "list" := by
  rcases hl with h | h
  · exact Ty.list h
  · exact Ty.baseList h
theorem OpSub.listN {slice : PySem.Expr} {l : Addr} {xs : List PV} {i : Int} {d : PV} {P : PV → Mu → Prop} (hl : ListAt c mu l xs) (h0 : 0 ≤ i) (h1 : i < 2 ^ 62) (hx : xs[i.toNat]? = some d) (h : P d mu)
    (hs : ∀ o i, ∃ ops, subscripted slice false o i = operate ops (getItem o i) := by intro _ _; exact ⟨_, rfl⟩) : OpSub c n mu slice (.ref l) (.int i) P :=
  OpSub.of (Ty.listAt hl) F.slot_list_getitem.lookup (by
    rcases hl with q | q
    · exact OpG.list q h0 (by omega) hx h
    · exact OpG.base q h0 (by omega) hx h) hs
/-! # loops with a told invariant -/
theorem LoopE.invFrom {src : Mu → Prop} {target : PySem.Expr} {body orelse : List Stmt} {P : FV → Lm → Mu → Prop} (I : Nat → Lm → Mu → Prop) (hs : ∀ i m mu, I i m mu → src mu) (xs : List PV) (k : Nat) (m : Lm) (mu : Mu) (h0 : I k m mu)
    (hstep : ∀ i x m mu, xs[i]? = some x → I (k + i) m mu → AsgT true c n sc m mu target x fun m1 mu1 => ExS c n sc m1 mu1 body fun fl m2 mu2 => match fl with
      | .next | .cont => I (k + i + 1) m2 mu2
      | .brk => P .next m2 mu2
      | .ret r => P (.ret r) m2 mu2)
    (hP : ∀ m mu, I (k + xs.length) m mu → ExS c n sc m mu orelse P) : LoopE c n sc src target body orelse P xs m mu := by
  induction xs generalizing k m mu with
  | nil => exact ⟨hs _ _ _ h0, hP m mu h0⟩
  | cons x xs ih0 =>
    refine ⟨hs _ _ _ h0, fun env A s v he hA ht S F r => wpAny_mono (hstep 0 x m mu rfl h0 env A s v he hA ht S F r) (fun _ _ ⟨m1, mu1, q, b⟩ => ⟨m1, mu1, ?_, b⟩) fun _ _ x => x⟩
    refine ExS.imp q fun fl m2 mu2 q => ?_
    have nx : I (k + 1) m2 mu2 → LoopE c n sc src target body orelse P xs m2 mu2 := fun hI => ih0 (k + 1) m2 mu2 hI (fun i x m mu hx hi => by
      have := hstep (i + 1) x m mu (by simpa using hx) (by rwa [show k + (i + 1) = k + 1 + i from by omega])
      rwa [show k + (i + 1) = k + 1 + i from by omega] at this) (fun m mu hi => hP m mu (by rwa [show k + (x :: xs).length = k + 1 + xs.length from by simp; omega]))
    cases fl with
    | next => exact nx q
    | cont => exact nx q
    | brk => exact q
    | ret r => exact q
theorem LoopE.inv {src : Mu → Prop} {target : PySem.Expr} {body orelse : List Stmt} {P : FV → Lm → Mu → Prop} {xs : List PV} (I : Nat → Lm → Mu → Prop) (hs : ∀ i m mu, I i m mu → src mu) (h0 : I 0 m mu)
    (hstep : ∀ i x m mu, xs[i]? = some x → I i m mu → AsgT true c n sc m mu target x fun m1 mu1 => ExS c n sc m1 mu1 body fun fl m2 mu2 => match fl with
      | .next | .cont => I (i + 1) m2 mu2
      | .brk => P .next m2 mu2
      | .ret r => P (.ret r) m2 mu2)
    (hP : ∀ m mu, I xs.length m mu → ExS c n sc m mu orelse P) : LoopE c n sc src target body orelse P xs m mu :=
  LoopE.invFrom I hs xs 0 m mu h0 (fun i x m mu hx hi => by rw [Nat.zero_add] at hi ⊢; exact hstep i x m mu hx hi) (fun m mu hi => hP m mu (by rwa [Nat.zero_add] at hi))
/-- what follows a statement, told by an invariant -/
theorem ExS.mid {st : Stmt} {ss : List Stmt} {P : FV → Lm → Mu → Prop} (I : Lm → Mu → Prop) (h : Ex1 c n sc m mu st fun fl m' mu' => fl = .next ∧ I m' mu') (h2 : ∀ m' mu', I m' mu' → ExS c n sc m' mu' ss P) : ExS c n sc m mu (st :: ss) P :=
  ExS.seq fun env A s he hA ht S F => wpAny_mono (h env A s he hA ht S F) (fun _ _ ⟨fl, m', mu', ⟨e1, e2⟩, b⟩ => ⟨fl, m', mu', by subst e1; exact h2 m' mu' e2, b⟩) fun _ _ x => x

/-! # tables -/
def okN (k : List Nat) : Bool := k.all (fun ch => decide (32 ≤ ch) && decide (ch < 127)) && decide (k.length ≤ 100000)
def okV (v : List Nat) : Bool := !v.any isCtlV && v.all (fun ch => decide (ch < 1114112)) && decide (v.length ≤ 100000)
abbrev Row := List Nat × List Nat
def okR (x : Row) : Bool := okN x.1 && okV x.2
theorem okN.asc {k : List Nat} (h : okN k = true) : ∀ ch ∈ k, ch < 128 := fun ch hc => by
  unfold okN at h
  simp only [Bool.and_eq_true, List.all_eq_true, decide_eq_true_eq] at h
  have := (h.1 ch hc).2; omega
theorem okN.len {k : List Nat} (h : okN k = true) : k.length ≤ 100000 := by
  unfold okN at h; simp only [Bool.and_eq_true, decide_eq_true_eq] at h; exact h.2
theorem okN.ctl {k : List Nat} (h : okN k = true) : k.any isCtl = false := by
  unfold okN at h
  simp only [Bool.and_eq_true, List.all_eq_true, decide_eq_true_eq] at h
  rw [List.any_eq_false]
  intro ch hc
  have := h.1 ch hc
  simp only [isCtl, Bool.or_eq_true, decide_eq_true_eq]; omega
theorem lo1_rng {ch : Nat} (h : 32 ≤ ch ∧ ch < 127) : 32 ≤ lo1 ch ∧ lo1 ch < 127 := by unfold lo1; split <;> omega
theorem okN.low {k : List Nat} (h : okN k = true) : okN (lowL k) = true := by
  unfold okN lowL at *
  simp only [Bool.and_eq_true, List.all_eq_true, decide_eq_true_eq, List.length_map, List.mem_map] at *
  refine ⟨?_, h.2⟩
  rintro ch ⟨y, hy, rfl⟩
  exact lo1_rng (h.1 y hy)
theorem okV.ctl {v : List Nat} (h : okV v = true) : v.any isCtlV = false := by
  unfold okV at h; simp only [Bool.and_eq_true, Bool.not_eq_true'] at h; exact h.1.1
theorem okV.uni {v : List Nat} (h : okV v = true) : ∀ ch ∈ v, ch < 1114112 := by
  unfold okV at h; simp only [Bool.and_eq_true, List.all_eq_true, decide_eq_true_eq] at h; exact h.1.2
theorem okV.len {v : List Nat} (h : okV v = true) : v.length ≤ 100000 := by
  unfold okV at h; simp only [Bool.and_eq_true, decide_eq_true_eq] at h; exact h.2
theorem okR.nm {x : Row} (h : okR x = true) : okN x.1 = true := by unfold okR at h; simp only [Bool.and_eq_true] at h; exact h.1
theorem okR.vl {x : Row} (h : okR x = true) : okV x.2 = true := by unfold okR at h; simp only [Bool.and_eq_true] at h; exact h.2
abbrev hdDict (c : Cx) (tok : Tok) (l : Addr) : AO := .obj (dictOf [⟨PyData.keyHash c.w.params (Str.ofString "_headers"), .str (Str.ofString "_headers") tok, .ref l⟩] 1)
def pairPV (x : Row) : PV := .tuple [.str (S x.1), .str (S x.2)]
/-- same name -/
def eqN (a b : List Nat) : Bool := decide (lowL a = lowL b)
def delR (kvs : List Row) (name : List Nat) : List Row := kvs.filter fun x => !eqN x.1 name
def allR (kvs : List Row) (name : List Nat) : List (List Nat) := (kvs.filter fun x => eqN x.1 name).map (·.2)
structure Hd (c : Cx) (C : Addr) (mu : Mu) (x l : Addr) (kvs : List Row) : Prop where
  inst : ∃ dx tok, mu x = some (.inst C dx) ∧ mu dx = some (hdDict c tok l)
  list : mu l = some (.list (kvs.map pairPV))
  ok : kvs.all okR = true
  len : kvs.length ≤ 10000
theorem Hd.row {C x l : Addr} {kvs : List Row} (h : Hd c C mu x l kvs) {r : Row} (hr : r ∈ kvs) : okR r = true := List.all_eq_true.mp h.ok r hr
theorem Hd.fresh {C x l D : Addr} {kvs : List Row} {o : AO} (h : Hd c C mu x l kvs) (hD : mu D = none) : Hd c C (upd mu D o) x l kvs := by
  obtain ⟨dx, tok, h1, h2⟩ := h.inst
  have h3 := h.list
  refine ⟨⟨dx, tok, ?_, ?_⟩, ?_, h.ok, h.len⟩
  · rw [upd_ne _ _ (fun q => by subst q; rw [h1] at hD; cases hD)]; exact h1
  · rw [upd_ne _ _ (fun q => by subst q; rw [h2] at hD; cases hD)]; exact h2
  · rw [upd_ne _ _ (fun q => by subst q; rw [h3] at hD; cases hD)]; exact h3
theorem Hd.set {C x l : Addr} {kvs kvs' : List Row} (h : Hd c C mu x l kvs) (hok : kvs'.all okR = true) (hlen : kvs'.length ≤ 10000) : Hd c C (upd mu l (.list (kvs'.map pairPV))) x l kvs' := by
  obtain ⟨dx, tok, h1, h2⟩ := h.inst
  have h3 := h.list
  refine ⟨⟨dx, tok, ?_, ?_⟩, by simp, hok, hlen⟩
  · rw [upd_ne _ _ (fun q => by subst q; rw [h1] at h3; cases h3)]; exact h1
  · rw [upd_ne _ _ (fun q => by subst q; rw [h2] at h3; cases h3)]; exact h2
theorem Hd.sub {C x l : Addr} {kvs : List Row} {mu' : Mu} (hs : Sub mu mu') (h : Hd c C mu x l kvs) : Hd c C mu' x l kvs := by
  obtain ⟨dx, tok, h1, h2⟩ := h.inst
  exact ⟨⟨dx, tok, hs _ _ h1, hs _ _ h2⟩, hs _ _ h.list, h.ok, h.len⟩
structure HK (K : Frag) (C : Addr) : Prop where
  get : plainGet K C "_headers" = true
  dict : hasDictIn K C = true
  find : findIn K (.ref C) "_headers" = some none
theorem EvE.hdr {K : Frag} {C : Addr} {value : PySem.Expr} {pos : Pos} {P : PV → Mu → Prop} (hK : K.In c.base) (k : HK K C)
    (h : EvE c n sc m mu value fun d mu1 => ∃ x l kvs, d = .ref x ∧ Hd c C mu1 x l kvs ∧ P (.ref l) mu1)
    (hb : ∀ env, attributeBase value "_headers" env (eval value env) = eval value env := by intro _; rfl) (ht : ∀ o r, letTemporaryGo value o r = pure () := by intro _ _; rfl) : EvE c n sc m mu (.Attribute value "_headers" pos) P :=
  EvE.attrOwn hK (h.imp fun d mu1 ⟨x, l, kvs, e, H, hP⟩ => by
    obtain ⟨dx, tok, h1, h2⟩ := H.inst
    exact ⟨x, C, dx, _, _, .ref l, .ref l, none, e, h1, h2, k.get, k.dict, k.find, by rfl, by with_unfolding_all rfl, by rfl, fun _ => .ref l, hP⟩) hb ht
theorem Meth.hd {K : Frag} {C x l f : Addr} {kvs : List Row} {name : Str} (hK : K.In c.base) (H : Hd c C mu x l kvs) (hg : plainGet K C name = true)
    (hf : findIn K (.ref C) name = some (some (.ref f))) (ht : isFn K (.ref f) = true) (hl : ("_headers" : Str) ≠ name) : Meth c mu (.ref x) name (.ref f) := by
  obtain ⟨dx, tok, h1, h2⟩ := H.inst
  refine Meth.inst hK h1 h2 hg hf ht ?_
  have : ((Str.ofString "_headers") == name) = false := beq_eq_false_iff_ne.mpr hl
  simp [getL, Value.isStr, this]
  rfl
theorem InstK.hd {K : Frag} {C x l f : Addr} {kvs : List Row} {name : Str} (hK : K.In c.base) (H : Hd c C mu x l kvs) (hf : findIn K (.ref C) name = some (some (.ref f))) (ht : isFn K (.ref f) = true) : InstK c mu K x C f name := by
  obtain ⟨dx, tok, h1, h2⟩ := H.inst
  exact ⟨hK, ⟨dx, _, _, h1, h2⟩, hf, ht⟩
end
end Mine
namespace Mine
section
variable {c : Cx} {n : Nat} {sc : Scope} {m : Lm} {mu : Mu}
end
end Mine
namespace Mine
section
variable {c : Cx} {n : Nat} {sc : Scope} {m : Lm} {mu : Mu}
theorem Keepr.cls {K : Frag} {C : Addr} {o : Obj} {cd : ClassData} {r : Option Value} (hK : K.In c.base) (ho : c.base.get? C = some o) (hd : o.data = .cls cd) (e : specialIn K (.ref C) "__call__" = some r) : Keepr c mu (.ref C) := fun A s Q E S h => by
  unfold keeperOf
  refine wpAny_bind (wpAny_load (S.base _ _ ho) ?_)
  rw [hd]
  exact wpAny_bind ((looks_specialIn (hK.keeps S.base) e).here (wpAny_pure (h _)))
end
end Mine

open PySem PySem.W PySem.Calls PyProof.Rows
set_option Elab.async false
set_option linter.unusedVariables false
namespace Mine
section
variable {c : Cx} {n : Nat} {sc : Scope} {m : Lm} {mu : Mu}
theorem WhE.inv {test : PySem.Expr} {body orelse : List Stmt} {P : FV → Lm → Mu → Prop} (I : Nat → Lm → Mu → Prop)
    (hstep : ∀ f m mu, I f m mu → Tst c n sc m mu test fun b mu1 => if b = true then ∃ f', f = f' + 1 ∧ ExS c n sc m mu1 body fun fl m2 mu2 => match fl with
      | .next | .cont => I f' m2 mu2
      | .brk => P .next m2 mu2
      | .ret r => P (.ret r) m2 mu2
      else ExS c n sc m mu1 orelse P) (f : Nat) (h0 : I f m mu) : WhE c n sc test body orelse P (f + 1) m mu := by
  induction f generalizing m mu with
  | zero =>
    refine fun env A s he hA ht S F => wpAny_mono (hstep 0 m mu h0 env A s he hA ht S F) (fun b s' ⟨mu1, q, x⟩ => ⟨mu1, ?_, x⟩) fun _ _ x => x
    cases b with
    | true => obtain ⟨f', e, _⟩ := q; cases e
    | false => exact q
  | succ f ih =>
    refine fun env A s he hA ht S F => wpAny_mono (hstep (f + 1) m mu h0 env A s he hA ht S F) (fun b s' ⟨mu1, q, x⟩ => ⟨mu1, ?_, x⟩) fun _ _ x => x
    cases b with
    | true =>
      obtain ⟨f', e, q⟩ := q
      cases e
      simp only [if_true]
      refine q.imp fun fl m2 mu2 q => ?_
      cases fl with
      | next => exact ih q
      | cont => exact ih q
      | brk => exact q
      | ret r => exact q
    | false => exact q
end
def abL : List Nat := [97, 65, 98, 66]
def wordG : Nat → Nat → List Nat
  | 0, _ => []
  | _ + 1, 0 => []
  | f + 1, k + 1 => abL.getD (k % 4) 0 :: wordG f (k / 4)
def word (i : Int) : List Nat := wordG 21 (i.fmod 21).toNat
theorem fmod_nat (i : Int) (b : Nat) (hb : 0 < b) : ∃ k : Nat, i.fmod (b : Int) = (k : Int) ∧ k < b := by
  have e : i.fmod (b : Int) = i % (b : Int) := by rw [Int.fmod_eq_emod_of_nonneg]; omega
  have h1 : 0 ≤ i % (b : Int) := Int.emod_nonneg i (by omega)
  have h2 : i % (b : Int) < b := Int.emod_lt_of_pos i (by omega)
  exact ⟨(i % (b : Int)).toNat, by rw [e]; omega, by omega⟩
theorem word_mod (i : Int) : ∃ k : Nat, i.fmod 21 = (k : Int) ∧ k < 21 := fmod_nat i 21 (by decide)
theorem word_mem (i : Int) : word i ∈ (List.range 21).map (wordG 21) := by
  obtain ⟨k, hk, hk2⟩ := word_mod i
  unfold word
  rw [hk]
  exact List.mem_map_of_mem (List.mem_range.mpr hk2)
theorem word_ok (i : Int) : okN (word i) = true := by
  have := word_mem i
  have h : ∀ w ∈ (List.range 21).map (wordG 21), okN w = true := by decide +kernel
  exact h _ this
theorem ab_get {k : Nat} : (Str.ofString "aAbB").cps[k % 4]? = some (abL.getD (k % 4) 0) := by
  have : ∀ j, j < 4 → (Str.ofString "aAbB").cps[j]? = some (abL.getD j 0) := by decide +kernel
  exact this _ (Nat.mod_lt _ (by decide))
end Mine
namespace Mine
theorem Tst.weak {c : Cx} {n : Nat} {sc : Scope} {m m' : Lm} {mu : Mu} {e : PySem.Expr} {P : Bool → Mu → Prop} (hw : SubL m m') (h : Tst c n sc m mu e P) : Tst c n sc m' mu e P := fun env A s he hA ht S F => h env A s he hA ht S (F.weak hw.look)
end Mine

open PySem PySem.W PySem.Calls PyProof.Rows
set_option Elab.async false
set_option linter.unusedVariables false
namespace Mine
/-! # rows -/
def lows (ps : List Row) : List (List Nat) := ps.map fun x => lowL x.1
end Mine
namespace Mine
theorem ne_sn {mu : Mu} {a b : Addr} {o : AO} (h : mu a = some o) (h' : mu b = none) : a ≠ b := fun q => by rw [q, h'] at h; cases h
end Mine

open PySem PySem.W PySem.Calls PyProof.Rows
set_option Elab.async false
set_option linter.unusedVariables false
namespace Mine
def valM (d : Int) (n : Int) (i : Nat) : List Nat := if n.fmod d = 0 then [] else dig i
def pairsOf (d : Int) (ns : List Int) : List Row := ns.zipIdx.map fun p => (word p.1, valM d p.1 p.2)
theorem dig_ok : ∀ i, i < 64 → okV (dig i) = true := by decide +kernel
theorem valM_ok {d n : Int} {i : Nat} (h : i < 64) : okV (valM d n i) = true := by
  unfold valM; split
  · rfl
  · exact dig_ok i h
theorem pairsOf_length (d : Int) (ns : List Int) : (pairsOf d ns).length = ns.length := by simp [pairsOf]
theorem pairsOf_ok {d : Int} {ns : List Int} (h : ns.length ≤ 64) : (pairsOf d ns).all okR = true := by
  rw [List.all_eq_true]
  intro x hx
  obtain ⟨⟨a, i⟩, hp, rfl⟩ := List.mem_map.mp hx
  obtain ⟨h1, h2⟩ := List.mk_mem_zipIdx_iff_getElem?.mp hp |> fun q => (⟨q, (List.getElem?_eq_some_iff.mp q).1⟩ : ns[i]? = some a ∧ i < ns.length)
  unfold okR
  rw [word_ok, valM_ok (by omega)]; rfl
def pairG (d : Int) : PV → PV
  | .tuple [.int i, .int n] => pairPV (word n, valM d n i.toNat)
  | _ => .none
theorem pairG_all (d : Int) (ns : List Int) : (enumL (ns.map .int)).map (pairG d) = (pairsOf d ns).map pairPV := by
  unfold enumL pairsOf
  rw [List.zipIdx_map, List.map_map, List.map_map, List.map_map]
  refine List.map_congr_left fun p _ => ?_
  obtain ⟨a, i⟩ := p
  simp [pairG]
end Mine
namespace Mine
theorem swap_cell {sc : Scope} {t : Str} {pos : Pos} {value : PySem.Expr} {line : Nat} {k : NameKind} (hk : sc.names.lookup t = some k) (hk2 : (k == .local) = false) : ∀ env : Env, env.scope = sc → swapsWithSole [.Name t pos] value line env = pure false := by
  intro env he
  have h : (env.kindOf t == some .local) = false := by
    unfold Env.kindOf; rw [he, hk]
    cases k <;> first | rfl | cases hk2
  show swapsWith value (some (.Name t pos)) line env = pure false
  unfold swapsWith
  cases value <;> first | rfl | simp only [h, Bool.and_false, Bool.false_and]
end Mine
namespace Mine
end Mine
namespace Mine
def lowG : PV → PV
  | .tuple [.str k, _] => .str (Txt.lower k)
  | _ => .none
theorem lowG_pair {r : Row} (h : okR r = true) : lowG (pairPV r) = .str (S (lowL r.1)) := by
  show PV.str (Txt.lower (S r.1)) = _
  rw [S_lower (okN.asc (okR.nm h))]
theorem lowG_all {ps : List Row} (h : ps.all okR = true) : [] ++ ((ps.map pairPV).filter fun _ => true).map lowG = ((lows ps).map S).map .str := by
  rw [List.filter_eq_self.mpr (fun _ _ => rfl), List.nil_append]
  unfold lows
  rw [List.map_map, List.map_map, List.map_map]
  exact List.map_congr_left fun r hr => lowG_pair (List.all_eq_true.mp h r hr)
end Mine
namespace Mine
/-! # rows as data -/
def rowD (r : Row) : PyData := .tuple [.str (S r.1), .str (S r.2)]
def rowsD (ps : List Row) : PyData := .list (ps.map rowD)
theorem strOk_S {v : List Nat} (h : ∀ ch ∈ v, ch < 1114112) : PyData.strOk (S v) = true := by
  unfold PyData.strOk
  rw [List.all_toArray, List.all_eq_true]
  intro ch hc; simpa using h ch hc
theorem rowD_lay {r : Row} (h : okR r = true) : (rowD r).canLay0 = true := by
  have h1 : PyData.strOk (S r.1) = true := strOk_S fun ch hc => by have := okN.asc (okR.nm h) ch hc; omega
  have h2 : PyData.strOk (S r.2) = true := strOk_S (okV.uni (okR.vl h))
  simp [rowD, PyData.canLay0, PyData.canLayAll0, h1, h2]
theorem rowsD_lay {ps : List Row} (h : ps.all okR = true) : (rowsD ps).canLay0 = true := by
  rw [rowsD, PyData.canLay0]
  exact canLayAll0_map ps fun r hr => rowD_lay (List.all_eq_true.mp h r hr)
theorem rowsD_depth (ps : List Row) : (rowsD ps).depth ≤ 2 := by
  rw [rowsD, PyData.depth]
  have := depthAll_map (f := rowD) (k := 1) ps fun r _ => by simp [rowD, PyData.depth, PyData.depthAll]
  omega
theorem rowD_is {c : Cx} {mu : Mu} (r : Row) : IsD c mu (rowD r) (pairPV r) := by
  rw [rowD, IsD]
  refine ⟨_, rfl, ?_⟩
  rw [IsDs]; refine ⟨_, _, rfl, by rw [IsD], ?_⟩
  rw [IsDs]; refine ⟨_, _, rfl, by rw [IsD], ?_⟩
  rw [IsDs]
theorem rowsD_is {c : Cx} {mu : Mu} {l : Addr} {ps : List Row} (h : ListAt c mu l (ps.map pairPV)) : IsD c mu (rowsD ps) (.ref l) := by
  rw [rowsD, IsD]
  exact ⟨l, _, rfl, h, IsDs.map ps fun r _ => rowD_is r⟩
def natG (q : Nat → Bool) : PV → Bool
  | .int i => q i.toNat
  | _ => false
theorem range_filter (k : Nat) (q : Nat → Bool) : ((List.range k).map fun (i : Nat) => PV.int (i : Int)).filter (natG q) = ((List.range k).filter q).map fun (i : Nat) => PV.int (i : Int) := by
  rw [List.filter_map]; rfl
/-! # the turned list -/
section
variable {c : Cx} {n : Nat} {sc : Scope} {m : Lm} {mu : Mu}
end
end Mine

open PySem PySem.W PySem.Calls PyProof.Rows
set_option Elab.async false
set_option linter.unusedVariables false
namespace Mine
section
variable {prog : Program} {w : World} {A : Around} {E : Value → Shared → Prop}
end
section
variable {c : Cx} {n : Nat} {sc : Scope} {m : Lm} {mu : Mu}
end
end Mine

open PySem PySem.W PySem.Calls PyProof.Rows
set_option Elab.async false
set_option linter.unusedVariables false
namespace Mine
/-! # tables laid under one another -/
end Mine

open PySem PySem.W PySem.Calls PyProof.Rows
set_option Elab.async false
set_option linter.unusedVariables false
set_option maxRecDepth 100000
namespace Mine
def tspL : List Nat := [32, 40, 41, 60, 62, 64, 44, 59, 58, 92, 34, 47, 91, 93, 63, 61]
def isTsp (ch : Nat) : Bool := tspL.contains ch
def fp (p v : List Nat) (q : Bool) : List Nat := if v = [] then p else if q || v.any isTsp then p ++ [61, 34] ++ escL v ++ [34] else p ++ [61] ++ v

theorem replL_length (ch : Nat) (z : List Nat) (k : Nat) (hk : 1 ≤ k) (hz : z.length ≤ k) (l : List Nat) : (replL ch z l).length ≤ k * l.length := by
  unfold replL
  induction l with
  | nil => simp
  | cons a r ih =>
    rw [List.flatMap_cons, List.length_append, List.length_cons, Nat.mul_succ]
    split
    · omega
    · rw [List.length_singleton]; omega
end Mine

open PySem PySem.W PySem.Calls PyProof.Rows
set_option Elab.async false
set_option linter.unusedVariables false
namespace Mine
section
variable {c : Cx} {n : Nat} {sc : Scope} {m : Lm} {mu : Mu}

/-! # dicts of texts -/
theorem St.big {h : Heap} (S : St c mu h) : sysModules < h.objs.size := by
  obtain ⟨mc, hn, _⟩ := c.nolim
  obtain ⟨o, es, ep, e, _⟩ := hn
  exact Nat.lt_trans (by decide) (Heap.lt_size (S.base _ _ e))
/-- a key that is new, laid into a dict -/
theorem ns_new {A : Around} {s : Shared} {d : Addr} {es : List DictEntry} {k : Nat} {x : Str} {v : Value} {E : Value → Shared → Prop} {Q : Unit → Shared → Prop} (hd : s.heap.get? d = some (dictOf es k)) (hs : ∀ e ∈ es, e.key.isStr x = false) (hr : ∀ e ∈ es, e.refKey = false)
    (h : ∀ h', h'.get? d = some (dictOf (es ++ [⟨PyData.keyHash c.w.params x, .str x s.toks, v⟩]) (k + 1)) → Heap.SameBut d s.heap h' → Q () { s with heap := h', toks := s.toks + 1 }) : wpAny c.M A (nsSet d x v) Q E s := by
  have e1 : es.any (·.key.isStr x) = false := List.any_eq_false.mpr fun e he => by rw [hs e he]; exact Bool.false_ne_true
  have e2 : es.any (·.refKey) = false := List.any_eq_false.mpr fun e he => by rw [hr e he]; exact Bool.false_ne_true
  have e : Obj.putName x (PyData.keyHash c.w.params x) (.str x s.toks) v (dictOf es k) = dictOf (es ++ [⟨PyData.keyHash c.w.params x, .str x s.toks, v⟩]) (k + 1) := by
    rw [putName_dict, putL_new hs]
    show dictOf _ (if es.any (·.key.isStr x) then k else k + 1) = _
    rw [e1, if_neg Bool.false_ne_true]
  have q : aRefKeyMayBeTheName x es.toArray = false := by
    rw [aRefKeyMayBeTheName_at, ← Array.any_toList, ← Array.any_toList]
    show (!es.any (·.key.isStr x) && es.any (·.refKey)) = false
    rw [e2, Bool.and_false]
  unfold nsSet
  refine wpAny_bind (wpAny_bind (wpAny_askSetting (wpAny_pure (wpAny_bind (wpAny_mkText (wpAny_bind (wpAny_loadPart hd ?_)))))))
  dsimp only
  rw [q]
  refine wpAny_updatePart hd (h _ ?_ (Heap.SameBut.update ..))
  have z := Heap.get?_update_self (Obj.putName x (PyData.keyHash c.w.params x) (.str x s.toks) v) hd (by rw [e]; rfl)
  rw [e] at z
  exact z
theorem ns_fill {A : Around} {d : Addr} {E : Value → Shared → Prop} {Q : PUnit → Shared → Prop} : ∀ (ex : List (Str × Value)) (s : Shared) (es : List DictEntry) (k : Nat), s.heap.get? d = some (dictOf es k) →
    (∀ e ∈ es, ∀ x ∈ ex, e.key.isStr x.1 = false) → (∀ e ∈ es, e.refKey = false) → (ex.map (·.1)).Nodup →
    (∀ h' tk, h'.get? d = some (dictOf (es ++ kwEs c.w.params s.toks ex) (k + ex.length)) → Heap.SameBut d s.heap h' → Q ⟨⟩ { s with heap := h', toks := tk }) →
    wpAny c.M A (forIn ex PUnit.unit fun x _ => (nsSet d x.1 x.2 >>= fun _ => pure (ForInStep.yield PUnit.unit))) Q E s := by
  intro ex
  induction ex with
  | nil =>
    intro s es k hd _ _ _ h
    rw [List.forIn_nil]
    refine wpAny_pure (h s.heap s.toks ?_ (Heap.SameBut.refl ..))
    rw [show kwEs c.w.params s.toks [] = [] from rfl, List.append_nil]; exact hd
  | cons x r ih =>
    intro s es k hd hs hr hn h
    obtain ⟨hn1, hn2⟩ := List.nodup_cons.mp (show (x.1 :: r.map (·.1)).Nodup from hn)
    rw [List.forIn_cons]
    refine wpAny_bind (wpAny_bind (ns_new hd (fun e he => hs e he x (.head _)) hr fun h' hd' hb' => wpAny_pure ?_))
    refine ih { s with heap := h', toks := s.toks + 1 } _ _ hd' (fun e he y hy => ?_) (fun e he => ?_) hn2 fun h'' tk hd'' hb'' => ?_
    · rcases List.mem_append.mp he with he | he
      · exact hs e he y (.tail _ hy)
      · obtain rfl := List.mem_singleton.mp he
        exact beq_eq_false_iff_ne.mpr fun q => hn1 (by rw [q]; exact List.mem_map_of_mem hy)
    · rcases List.mem_append.mp he with he | he
      · exact hr e he
      · obtain rfl := List.mem_singleton.mp he; rfl
    · refine h h'' tk ?_ (hb'.trans hb'')
      rw [List.append_assoc, show k + 1 + r.length = k + (r.length + 1) by omega] at hd''
      exact hd''
theorem dict_new {ex : List (Str × Value)} {h : Heap} {d : Addr} {t k : Nat} (hd : h.get? d = some (dictOf (kwEs c.w.params t ex) k)) (hn : (ex.map (·.1)).Nodup) : h.DictOf (PySem.strKind c.prog c.w) d ex := by
  obtain ⟨es, ep, h1, h2, h3, h4, h5⟩ := kp_isDict (prog := c.prog) (w := c.w) t k hn
  exact ⟨_, es, ep, hd, h1, h2, h3, h4, h5⟩
/-- three arguments by place, the keywords in a dict -/
theorem Binds.more {fd : FuncData} {x y z nm : Str} {d e f : PV} {kw : List (Str × PV)} {K : List (Str × PV) → Mu → Prop}
    (hb : ∀ v w u (kvs : List (Str × Value)), kvs.map (·.1) = kw.map (·.1) → bindArgs fd ⟨[v, w, u], kvs⟩ = (alloc (dictOf [] 0) >>= fun D => (forIn kvs PUnit.unit fun x _ => (nsSet D x.1 x.2 >>= fun _ => pure (ForInStep.yield PUnit.unit))) >>= fun _ => pure [(x, v), (y, w), (z, u), (nm, .ref D)]))
    (hnd : (kw.map (·.1)).Nodup) (h : ∀ D, mu D = none → D ≠ sysModules → K [(x, d), (y, e), (z, f), (nm, .ref D)] (upd mu D (.dict kw))) : Binds c mu fd [d, e, f] kw K := fun A s vs kvs hA S r rk => by
  cases r with | cons r0 r =>
  cases r with | cons r1 r =>
  cases r with | cons r2 r =>
  cases r
  have hnm := rk.names
  rw [hb _ _ _ kvs hnm]
  refine wpAny_bind (wpAny_alloc (wpAny_bind (ns_fill kvs { s with heap := s.heap.push (dictOf [] 0) } [] 0 (Heap.get?_push_size _ rfl) (fun _ he => nomatch he) (fun _ he => nomatch he) (by rw [hnm]; exact hnd) fun h' tk hd' hb' => wpAny_pure ?_)))
  have hoff : mu s.heap.objs.size = none := S.off (Nat.le_refl _)
  have x1 : Step c noT mu s mu { s with heap := s.heap.push (dictOf [] 0) } := Step.pushOff S
  have hk : ∀ b o, s.heap.get? b = some o → h'.get? b = some o := fun b o eb => hb'.extBut b o (Nat.ne_of_lt (Heap.lt_size eb)) (Heap.get?_push_of_some _ eb)
  have tk0 : TK s.heap h' := fun b o eb _ => hk b o eb
  have x2 : Step c noT mu s (upd mu s.heap.objs.size (.dict kw)) { s with heap := h', toks := tk } := {
    shape := ⟨_, _, rfl⟩
    st := {
      base := fun b o eb => hk b o (S.base b o eb)
      objs := fun a y ea => by
        by_cases h1 : a = s.heap.objs.size
        · subst h1; simp at ea; subst ea
          exact ⟨kvs, _, _, hd', dict_new hd' (by rw [hnm]; exact hnd), rk.mono tk0⟩
        · rw [upd_ne _ _ h1] at ea
          exact (S.objs a y ea).mono (fun o q => hk _ _ q) tk0
      new := fun a ha => by
        by_cases h1 : a = s.heap.objs.size
        · subst h1; exact S.baseNone (Nat.le_refl _)
        · rw [upd_ne _ _ h1] at ha; exact S.new a ha }
    keep := fun b o eb _ _ => hk b o eb
    alive := fun b o eb _ => ⟨o, hk b o eb⟩
    dom := fun b hb => by
      by_cases h1 : b = s.heap.objs.size
      · subst h1; exact .inr (get_none (Nat.le_refl _))
      · rw [upd_ne _ _ h1] at hb; exact .inl hb }
  exact ⟨_, _, h s.heap.objs.size hoff (Nat.ne_of_gt S.big), x2, .cons (r0.mono tk0) (.cons (r1.mono tk0) (.cons (r2.mono tk0) (.cons (.ref _) .nil)))⟩
/-! # the items of a dict -/
theorem Meth.dict {d : Addr} {kw : List (Str × PV)} {name : Str} {id : String} (hd : mu d = some (.dict kw)) (slot : Slot "dict" name id) (hty : typeOf (.builtin id) = pure (.type "method_descriptor")) : Meth c mu (.ref d) name (.builtin id) := fun A s v pl Q E S r h => by
  cases r
  obtain ⟨vs, es, k, e, _, _⟩ := S.objs d _ hd
  exact getMethod_builtin ⟨_, e, rfl⟩ F.plainAttrs_dict slot hty (fun a q => by cases q; exact ⟨_, e, rfl⟩) h
abbrev viewO (d : Addr) : Obj := { cls := .type "dict_items", data := .fields #[.ref d] }
theorem CallV.items {d : Addr} {kw : List (Str × PV)} {P : PV → Mu → Prop} (hd : mu d = some (.dict kw)) (hdS : d ≠ sysModules) (h : ∀ v, mu v = none → P (.ref v) (upd mu v (.obj (viewO d)))) : CallV c n mu (.builtin "dict.items") [.ref d] [] P := fun A s vs kvs hA ht S r rk => by
  cases r with | cons r0 r =>
  cases r; cases rk; cases r0
  obtain ⟨vs, es, k, e, D, rs⟩ := S.objs d _ hd
  refine call_meetsIn F.slot_dict_items D.typeIs F.entry_dict_items (F.args_dict_items_1 _) (meets_dict_items (PySem.strKind c.prog c.w) d (beq_eq_false_iff_ne.mpr hdS)) ⟨⟨vs, D⟩, ?_⟩
  exact ⟨_, _, h _ (S.off (Nat.le_refl _)), Step.push S ⟨Heap.get?_push_size _ rfl, fun q => by have := q.1; simp at this⟩, .ref _⟩
def itemsL (kw : List (Str × PV)) : List PV := kw.map fun p => .tuple [.str p.1, p.2]
theorem RepD.get {h : Heap} {ds : List (Str × PV)} {vs : List (Str × Value)} (r : RepD h ds vs) {i : Nat} {p : Str × PV} (hp : ds[i]? = some p) : ∃ v, vs[i]? = some (p.1, v) ∧ Rep h p.2 v := by
  induction r generalizing i with
  | nil => simp at hp
  | @cons k d v ds vs r0 r ih =>
    cases i with
    | zero => simp at hp; subst hp; exact ⟨v, rfl, r0⟩
    | succ i => simp at hp ⊢; exact ih hp
theorem RepD.length {h : Heap} {ds : List (Str × PV)} {vs : List (Str × Value)} (r : RepD h ds vs) : vs.length = ds.length := by
  have := congrArg List.length r.names; simpa using this
/-- for k, v in d.items(), d a dict that nothing else holds -/
theorem IterOf.items {mu0 : Mu} {d v : Addr} {kw : List (Str × PV)} (h0 : mu0 d = none) (hv : upd mu0 d (.dict kw) v = none) :
    IterOf c n tupT (upd (upd mu0 d (.dict kw)) v (.obj (viewO d))) (.ref v) (itemsL kw) (fun _ => True) mu0 := by
  have hvd : v ≠ d := fun q => by rw [q] at hv; simp at hv
  rw [upd_ne _ _ hvd] at hv
  refine ⟨fun a o ea => ?_, fun A s va hA ht S r => ?_⟩
  · have h1 : a ≠ v := fun q => by rw [q, hv] at ea; cases ea
    have h2 : a ≠ d := fun q => by rw [q, h0] at ea; cases ea
    rw [upd_ne _ _ h1, upd_ne _ _ h2]; exact ea
  cases r
  have gv := (S.objs v (.obj (viewO d)) (by simp)).1
  obtain ⟨vs, es, k, gd, D, rs⟩ := S.objs d (.dict kw) (by rw [upd_ne _ _ (Ne.symm hvd)]; simp)
  obtain ⟨ep, hDA⟩ := D.dictAt
  let I := s.heap.objs.size
  have hdI : d ≠ I := Nat.ne_of_lt (Heap.lt_size gd)
  refine wpAny_pyIter_items (d := d) (kvs := vs) (ep := ep) ⟨_, gv, rfl, rfl⟩ hDA ⟨I, [I, d], fun i h => (∃ ok ov, IsItemIter h I d i vs.length ep ok ov) ∧ h.DictAt (PySem.strKind c.prog c.w) d vs ep ∧ RepD h kw vs, _, s.toks, rfl, rfl, fun b o _ eb => Heap.get?_push_of_some _ eb, fun b hb => ?_, ?_, ⟨_, _, Heap.get?_push_size _ rfl⟩, hDA.push _, rs.mono fun b o eb _ => Heap.get?_push_of_some _ eb⟩
  · rcases List.mem_cons.mp hb with q | q
    · have hI0 : mu0 I = none := by
        cases hq : mu0 I with
        | none => rfl
        | some o =>
          have z := S.off (Nat.le_refl I)
          rw [upd_ne _ _ (fun e => by rw [e, hv] at hq; cases hq), upd_ne _ _ (fun e => by rw [e, h0] at hq; cases hq), hq] at z
          cases z
      rw [q]; exact ⟨S.baseNone (Nat.le_refl _), hI0, .inl (get_none (Nat.le_refl _))⟩
    · rw [List.mem_singleton.mp q]
      have hin : upd (upd mu0 d (.dict kw)) v (.obj (viewO d)) d ≠ none := by rw [upd_ne _ _ (Ne.symm hvd)]; simp
      exact ⟨S.new d hin, h0, .inr hin⟩
  exact {
    frame := fun i h h' hj hk tk => by
      obtain ⟨⟨ok, ov, h1⟩, h2, h3⟩ := hj
      exact ⟨⟨ok, ov, hk I (by simp) _ h1⟩, h2.at fun o x => hk d (by simp) o x, h3.mono tk⟩
    notT := fun i h hj b hb => by
      obtain ⟨⟨ok, ov, h1⟩, ⟨o, es, ho, ⟨hc, _⟩, _⟩, h3⟩ := hj
      rcases List.mem_cons.mp hb with q | q
      · rw [q]; exact ⟨_, h1, fun q => by have := q.1; simp at this⟩
      · rw [List.mem_singleton.mp q]; exact ⟨o, ho, fun q => by have := q.1; rw [hc] at this; simp at this⟩
    next := fun i dd A s mu target hT hx hA ht S hs hm hj => by
      obtain ⟨⟨ok, ov, h1⟩, h2, h3⟩ := hj
      unfold itemsL at hx
      rw [List.getElem?_map] at hx
      obtain ⟨p, hp, rfl⟩ := Option.map_eq_some_iff.mp hx
      obtain ⟨vv, hvv, rv⟩ := h3.get hp
      obtain ⟨elts, kk, pos, rfl⟩ := hT
      refine wpAny_pyNext_items_item h1 h2 hvv fun key h' hkey g1 g2 g3 g4 => ⟨_, rfl, ?_⟩
      obtain ⟨t, rfl⟩ := Value.isStrOf_shape hkey
      refine wpAny_letOwnedTupleGo_items (s := { s with heap := h', toks := s.toks }) g1 fun h'' q1 q2 => ?_
      have hsI : s.heap.objs.size ≠ I := Nat.ne_of_gt (Heap.lt_size h1)
      have kp : ∀ b o, b ≠ I → s.heap.get? b = some o → h''.get? b = some o := fun b o hb eb => (q2.2 b hb).trans (g4 b o hb eb)
      have tk : TK s.heap h'' := fun b o eb hto => kp b o (fun q => by rw [q, h1] at eb; cases eb; have := hto.1; simp at this) eb
      have g2' : h''.get? s.heap.objs.size = some { cls := .type "tuple", data := .seq #[.str p.1 t, vv] } := (q2.2 _ hsI).trans g2
      exact ⟨h'', s.toks, rfl, fun b o hb eb => kp b o (fun q => hb (by simp [q])) eb, .tuple (vs := [.str p.1 t, vv]) g2' (.cons (.str _ _) (.cons (rv.mono tk) .nil)), ⟨_, _, q1⟩, h2.at fun o x => kp d o hdI x, h3.mono tk⟩
    self := fun i A s Q E hA hj hq => by
      obtain ⟨⟨ok, ov, h1⟩, _⟩ := hj
      exact kcp_self h1 hq
    done := fun i A s mu hx hA ht S hs hm hj => by
      obtain ⟨⟨ok, ov, h1⟩, h2, h3⟩ := hj
      refine wpAny_pyNext_items_end hA.hd h1 h2 ?_ fun h' hx' => ⟨rfl, h', s.toks, rfl, fun b o hb eb => hx' b o (fun q => hb (by simp [q])) eb⟩
      rw [List.getElem?_eq_none_iff, h3.length, hx]; simp [itemsL] }
end
end Mine

open PySem PySem.W PySem.Calls PyProof.Rows
set_option Elab.async false
set_option linter.unusedVariables false
namespace Mine
/-! # the text of a header -/
def joinL (sep : List Nat) : List (List Nat) → List Nat
  | [] => []
  | x :: r => x ++ r.flatMap fun y => sep ++ y
theorem join_S (sep : List Nat) (xs : List (List Nat)) : Txt.join (S sep) (xs.map S) = S (joinL sep xs) := by
  unfold Txt.join Builtin.Str.glued
  cases xs with
  | nil => rfl
  | cons x r =>
    simp only [List.map_cons, List.drop_succ_cons, List.drop_zero, List.headD_cons]
    have h : ∀ (r : List (List Nat)) (acc : Array Nat), (r.map S).foldl (fun acc p => acc ++ (S sep).cps ++ p.cps) acc = acc ++ (r.flatMap fun y => sep ++ y).toArray := fun r => by
      induction r with
      | nil => intro acc; simp
      | cons y r ih => intro acc; rw [List.map_cons, List.foldl_cons, ih]; simp
    rw [h]
    simp [joinL]
theorem joinOk_row {sep : List Nat} {xs : List (List Nat)} (h : (joinL sep xs).length + sep.length ≤ 1000000) : JoinOk (S sep) (xs.map S) = true := by
  unfold JoinOk Builtin.Str.tooLong sizeLine
  have : ∀ (xs : List (List Nat)) (a : Nat), (xs.map S).foldl (· + ·.length + (S sep).length) a = a + (xs.flatMap fun y => sep ++ y).length := fun xs => by
    induction xs with
    | nil => intro a; simp
    | cons x r ih => intro a; rw [List.map_cons, List.foldl_cons, ih]; simp [S_length]; omega
  have h1 := this xs 0
  have h2 : (xs.flatMap fun y => sep ++ y).length ≤ (joinL sep xs).length + sep.length := by
    cases xs with
    | nil => simp
    | cons x r => simp [joinL]; omega
  rw [List.foldl_toArray', h1]
  · simp only [Bool.not_eq_true', decide_eq_false_iff_not]
    omega
  · simp
/-- a parameter: its name, and None or a text -/
abbrev Kw := List Nat × Option (List Nat)
def optPV : Option (List Nat) → PV
  | none => .none
  | some v => .str (S v)
def kwPV (ks : List Kw) : List (Str × PV) := ks.map fun p => (S p.1, optPV p.2)
def dashL (k : List Nat) : List Nat := replL 95 [45] k
def partL : Kw → List Nat
  | (k, none) => dashL k
  | (k, some v) => fp (dashL k) v true
def rowL (own : Option (List Nat)) (ks : List Kw) : List Nat := joinL [59, 32] (own.toList ++ ks.map partL)
def okK (p : Kw) : Bool := okN p.1 && (match p.2 with | none => true | some v => okV v)
def okO (o : Option (List Nat)) : Bool := match o with | none => true | some v => okV v
theorem dashL_length (k : List Nat) : (dashL k).length = k.length := by
  unfold dashL replL
  induction k with
  | nil => rfl
  | cons a r ih => rw [List.flatMap_cons, List.length_append, ih]; split <;> simp <;> omega
theorem len_mem_joinL {sep : List Nat} {xs : List (List Nat)} {x : List Nat} (h : x ∈ xs) : x.length ≤ (joinL sep xs).length := by
  cases xs with
  | nil => cases h
  | cons y r =>
    rcases List.mem_cons.mp h with q | q
    · subst q; simp [joinL]
    · have : x.length ≤ (r.flatMap fun y => sep ++ y).length := by
        clear h
        induction r with
        | nil => cases q
        | cons z r ih =>
          rcases List.mem_cons.mp q with q | q
          · subst q; simp; omega
          · have := ih q; simp at this ⊢; omega
      simp [joinL] at this ⊢; omega
theorem okK.nm {p : Kw} (h : okK p = true) : okN p.1 = true := by unfold okK at h; rw [Bool.and_eq_true] at h; exact h.1
theorem okK.vl {p : Kw} (h : okK p = true) {v : List Nat} (hv : p.2 = some v) : okV v = true := by
  unfold okK at h; rw [Bool.and_eq_true, hv] at h; exact h.2
theorem part_len {own : Option (List Nat)} {ks : List Kw} {p : Kw} (hp : p ∈ ks) : (partL p).length ≤ (rowL own ks).length := len_mem_joinL (by simp; exact .inr ⟨_, _, hp, rfl⟩)
theorem partL_key (p : Kw) : p.1.length ≤ (partL p).length := by
  obtain ⟨k, o⟩ := p
  cases o with
  | none => simp [partL, dashL_length]
  | some v =>
    show k.length ≤ (fp (dashL k) v true).length
    unfold fp
    split
    · rw [dashL_length]; exact Nat.le_refl _
    · simp [dashL_length]
theorem forIn_yield {α β : Type} (f : α → β → Sem (ForInStep β)) (g : β → α → β) : ∀ (l : List α) (b : β), (∀ x ∈ l, ∀ b, f x b = pure (.yield (g b x))) → forIn l b f = pure (l.foldl g b) := by
  intro l
  induction l with
  | nil => intro b _; rfl
  | cons x r ih =>
    intro b h
    rw [List.forIn_cons, h x (by simp)]
    show (forIn r (g b x) f) = _
    rw [ih _ fun y hy => h y (by simp [hy])]
    rfl
theorem bind_more0 {fd : FuncData} {a1 a2 a3 ka : Arg} (hp : fd.params = { posonlyargs := [], args := [a1, a2, a3], vararg := none, kwonlyargs := [], kw_defaults := [], kwarg := some ka, defaults := [] }) (hd : fd.defaults = .none) (kvs : List (Str × Value)) (hkw : ∀ p ∈ kvs, p.1 ≠ a1.arg ∧ p.1 ≠ a2.arg ∧ p.1 ≠ a3.arg) (hlen : kvs.length ≤ sizeLine) (h12 : (a2.arg == a1.arg) = false) (h13 : (a3.arg == a1.arg) = false) (h23 : (a3.arg == a2.arg) = false) (v w u : Value) :
    bindArgs fd ⟨[v, w, u], kvs⟩ = (alloc (dictOf [] 0) >>= fun D => (forIn kvs PUnit.unit fun x _ => (nsSet D x.1 x.2 >>= fun _ => pure (ForInStep.yield PUnit.unit))) >>= fun _ => pure [(a1.arg, v), (a2.arg, w), (a3.arg, u), (ka.arg, .ref D)]) := by
  unfold bindArgs
  rw [hp, hd]
  dsimp only [List.map, List.append, List.nil_append, List.zip]
  rw [forIn_yield _ (fun b x => (b.1, b.2 ++ [x])) kvs _ (fun x hx b => ?_)]
  · have e : kvs.foldl (fun (b : List (Str × Value) × List (Str × Value)) x => (b.1, b.2 ++ [x])) (List.zipWith Prod.mk [a1.arg, a2.arg, a3.arg] [v, w, u], []) = ([(a1.arg, v), (a2.arg, w), (a3.arg, u)], kvs) := by
      have : ∀ (l : List (Str × Value)) (a b : List (Str × Value)), l.foldl (fun (b : List (Str × Value) × List (Str × Value)) x => (b.1, b.2 ++ [x])) (a, b) = (a, b ++ l) := fun l => by
        induction l with
        | nil => intro a b; simp
        | cons x r ih => intro a b; rw [List.foldl_cons, ih]; simp
      rw [this]; rfl
    rw [e]
    have hl : ¬ kvs.length > sizeLine + 1 := by omega
    have l1 : List.lookup a1.arg [(a1.arg, v), (a2.arg, w), (a3.arg, u)] = some v := by simp [List.lookup]
    have l2 : List.lookup a2.arg [(a1.arg, v), (a2.arg, w), (a3.arg, u)] = some w := by simp [List.lookup, h12]
    have l3 : List.lookup a3.arg [(a1.arg, v), (a2.arg, w), (a3.arg, u)] = some u := by simp [List.lookup, h13, h23]
    rw [show seqItems? Value.none = pure none from rfl]
    simp [l1, l2, l3, hl, pure_bind]
  · have q := hkw x hx
    have e : ([a1.arg, a2.arg, a3.arg].contains x.fst || ([] : List Str).contains x.fst) = false := by
      simp [q.1, q.2.1, q.2.2]
    rw [if_neg (by rw [e]; exact Bool.false_ne_true)]
    rfl
theorem bind_more {fd : FuncData} {x y z nm : Str} (hp : ∃ a1 a2 a3 ka, fd.params = { posonlyargs := [], args := [a1, a2, a3], vararg := none, kwonlyargs := [], kw_defaults := [], kwarg := some ka, defaults := [] } ∧ a1.arg = x ∧ a2.arg = y ∧ a3.arg = z ∧ ka.arg = nm) (hd : fd.defaults = .none) (kvs : List (Str × Value)) (hkw : ∀ p ∈ kvs, p.1 ≠ x ∧ p.1 ≠ y ∧ p.1 ≠ z) (hlen : kvs.length ≤ sizeLine) (h12 : (y == x) = false) (h13 : (z == x) = false) (h23 : (z == y) = false) (v w u : Value) :
    bindArgs fd ⟨[v, w, u], kvs⟩ = (alloc (dictOf [] 0) >>= fun D => (forIn kvs PUnit.unit fun x _ => (nsSet D x.1 x.2 >>= fun _ => pure (ForInStep.yield PUnit.unit))) >>= fun _ => pure [(x, v), (y, w), (z, u), (nm, .ref D)]) := by
  obtain ⟨a1, a2, a3, ka, e, rfl, rfl, rfl, rfl⟩ := hp
  exact bind_more0 e hd kvs hkw hlen h12 h13 h23 v w u
end Mine

open PySem PySem.W PySem.Calls PyProof.Rows
set_option Elab.async false
set_option linter.unusedVariables false
namespace Mine
section
variable {c : Cx} {n : Nat} {sc : Scope} {m : Lm} {mu : Mu}
end
theorem allR_ok {kvs : List Row} (h : kvs.all okR = true) {n v : List Nat} (hv : v ∈ allR kvs n) : okV v = true := by
  unfold allR at hv
  obtain ⟨r, hr, rfl⟩ := List.mem_map.mp hv
  exact okR.vl (List.all_eq_true.mp h r (List.mem_filter.mp hr).1)
theorem delR_ok {kvs : List Row} {name : List Nat} (h : kvs.all okR = true) : (delR kvs name).all okR = true := by
  rw [List.all_eq_true] at h ⊢
  exact fun x hx => h x (List.mem_filter.mp hx).1
theorem delR_len (kvs : List Row) (name : List Nat) : (delR kvs name).length ≤ kvs.length := List.length_filter_le _ _
end Mine

open PySem PySem.W PySem.Calls PyProof.Rows
set_option Elab.async false
set_option linter.unusedVariables false
namespace Mine
/-! # dict comprehensions, keys all new -/
structure MidD (c : Cx) (cenv : Env) (D : Addr) (mu0 : Mu) (s0 : Shared) (priv : List Addr) (J : Nat → Heap → Prop) (i : Nat) (acc : List (Str × PV)) (m : Lm) (mu : Mu) (s : Shared) : Prop where
  step : Step c noT mu0 s0 mu s
  fm : Fm c mu s.heap cenv m
  pv : ∀ b ∈ priv, mu b = none ∧ c.base.get? b = none
  j : J i s.heap
  toks : 0 < s.toks
  accL : ∃ vs, s.heap.DictOf (PySem.strKind c.prog c.w) D vs ∧ RepD s.heap acc vs
  muD : mu D = none
section
variable {c : Cx} {n : Nat} {sc : Scope} {m : Lm} {mu : Mu}
end
end Mine

open PySem PySem.W PySem.Calls PyProof.Rows
set_option Elab.async false
set_option linter.unusedVariables false
namespace Mine
section
variable {c : Cx} {n : Nat} {sc : Scope} {m : Lm} {mu : Mu}
end
end Mine

open PySem PySem.W PySem.Calls PyProof.Rows
set_option Elab.async false
set_option linter.unusedVariables false
namespace Mine
section
variable {c : Cx} {n : Nat} {sc : Scope} {m : Lm} {mu : Mu}
end
/-! # texts by numbers -/
/-! # names -/
/-! # rows -/
theorem rowL_nil (own : Option (List Nat)) : rowL own [] = own.getD [] := by
  cases own <;> simp [rowL, joinL]
end Mine

open PySem PySem.W PySem.Calls PyProof.Rows
set_option Elab.async false
set_option linter.unusedVariables false
namespace Mine
section
variable {c : Cx} {n : Nat} {sc : Scope} {m : Lm} {mu : Mu}
/-- the state of a zip of two lists -/
structure ZipS (h : Heap) (N l1 l2 : Nat) (xs ys : List Value) (i : Nat) : Prop where
  z : IsZip h (N + 4) (N + 2) (N + 3) .none
  ti : IsPair h (N + 2) (.ref N) (.ref (N + 1))
  to : ∃ a b, IsPair h (N + 3) a b
  i1 : h.IsListIter N l1 i
  i2 : h.IsListIter (N + 1) l2 i
  l1 : h.IsList l1 xs.toArray
  l2 : h.IsList l2 ys.toArray
structure MidZ (c : Cx) (env : Env) (mu1 : Mu) (s1 : Shared) (N l1 l2 : Nat) (xs ys : List Value) (m0 : Lm) (I : Nat → Mu → Prop) (i : Nat) (mu : Mu) (s : Shared) : Prop where
  step : Step c (Tch env) mu1 s1 mu s
  fm : Fm c mu s.heap env m0
  inv : I i mu
  toks : 0 < s.toks
  z : ZipS s.heap N l1 l2 xs ys i
  off : ∀ b : Nat, b = N + 4 ∨ b = N + 2 ∨ b = N + 3 ∨ b = N ∨ b = N + 1 ∨ b = l1 ∨ b = l2 → mu b = none ∧ c.base.get? b = none
  tup : TK s1.heap s.heap
end
end Mine

open PySem PySem.W PySem.Calls PyProof.Rows
set_option Elab.async false
set_option linter.unusedVariables false
set_option maxRecDepth 100000
namespace Mine
section
variable {c : Cx} {n : Nat} {sc : Scope} {m : Lm} {mu : Mu}
end
end Mine

open PySem PySem.W PySem.Calls PyProof.Rows
set_option Elab.async false
set_option linter.unusedVariables false
namespace Mine
section
variable {c : Cx} {n : Nat} {sc : Scope} {m : Lm} {mu : Mu}
end
/-! # the written form of parameters -/
end Mine

open PySem PySem.W PySem.Calls PyProof.Rows
set_option Elab.async false
set_option linter.unusedVariables false
namespace Mine
/-! # lists as functions -/
def fl {α : Type} (k : Nat) (f : Nat → α) : List α := (List.range k).map f
theorem fl_len {α : Type} (k : Nat) (f : Nat → α) : (fl k f).length = k := by simp [fl]
theorem fl_get {α : Type} {k i : Nat} (f : Nat → α) (h : i < k) : (fl k f)[i]? = some (f i) := by simp [fl, h]
/-! # what was read -/
end Mine

open PySem PySem.W PySem.Calls PyProof.Rows
set_option Elab.async false
set_option linter.unusedVariables false
namespace Mine
/-! # comprehensions whose own variable is a cell -/
def CompC (c : Cx) (n : Nat) (sc : Scope) (src : Mu → Prop) (x : Str) (ifs : List PySem.Expr) (elt : PySem.Expr) (P : List PV → Mu → Prop) : List PV → List PV → Lm → Mu → Prop
  | [], acc, _, mu => src mu ∧ P acc mu
  | y :: xs, acc, m, mu => src mu ∧ acc.length ≤ sizeLine ∧ IfsE c n sc (setL m x y) mu ifs fun ok mu2 =>
      if ok = true then EvE c n sc (setL m x y) mu2 elt fun d mu3 => CompC c n sc src x ifs elt P xs (acc ++ [d]) (setL m x y) mu3 else CompC c n sc src x ifs elt P xs acc (setL m x y) mu2
def compOkC (x : Str) (scope sc : Scope) : Bool :=
  scope.kind == .function && (scope.names.filter (fun p => p.2 == .cell)) == [(x, .cell)] && scope.names.all (fun x => scope.names.lookup x.1 == some x.2) && scope.names.all (fun x => x.2 != .free || sc.names.lookup x.1 == some .cell)
theorem lookup_hd {x : Str} {a : Addr} {cl : List (Str × Addr)} : List.lookup x ((x, a) :: cl) = some a := by rw [List.lookup_cons, beq_self_eq_true]
theorem lookup_tl {x y : Str} {a b : Addr} {cl : List (Str × Addr)} (h : List.lookup y ((x, a) :: cl) = some b) : (y = x ∧ a = b) ∨ cl.lookup y = some b := by
  rw [List.lookup_cons] at h
  cases q : y == x with
  | true => rw [q] at h; cases h; exact .inl ⟨beq_iff_eq.mp q, rfl⟩
  | false => rw [q] at h; exact .inr h
theorem cells_none : ∀ (names : List (Str × NameKind)) (a : Nat) (acc : List (Str × Addr)) (h : Heap), names.filter (fun p => p.2 == .cell) = [] → cellsFrom a names acc = acc ∧ pushCells h names = h
  | [], _, _, _, _ => ⟨rfl, rfl⟩
  | (y, k) :: r, a, acc, h, q => by
    unfold cellsFrom pushCells
    cases hk : k == NameKind.cell with
    | true => rw [List.filter_cons_of_pos (by exact hk)] at q; cases q
    | false =>
      rw [List.filter_cons_of_neg (by simp only; rw [hk]; exact Bool.false_ne_true)] at q
      simp only [Bool.false_eq_true, if_false]
      exact cells_none r a acc h q
theorem cells_one {x : Str} : ∀ (names : List (Str × NameKind)) (a : Nat) (acc : List (Str × Addr)) (h : Heap), names.filter (fun p => p.2 == .cell) = [(x, .cell)] → cellsFrom a names acc = (x, a) :: acc ∧ pushCells h names = h.push { cls := .type "cell", data := .cell none }
  | [], _, _, _, q => by cases q
  | (y, k) :: r, a, acc, h, q => by
    unfold cellsFrom pushCells
    cases hk : k == NameKind.cell with
    | true =>
      rw [List.filter_cons_of_pos (by exact hk)] at q
      obtain ⟨q1, q2⟩ := List.cons.inj q
      cases q1
      simp only [if_true]
      exact cells_none r _ _ _ q2
    | false =>
      rw [List.filter_cons_of_neg (by simp only; rw [hk]; exact Bool.false_ne_true)] at q
      simp only [Bool.false_eq_true, if_false]
      exact cells_one r a acc h q
theorem relab_cell {scope sc : Scope} {x : Str} (h : scope.names.lookup x = some .cell) : (relab scope sc).names.lookup x = some .cell := by
  unfold relab
  rw [lookup_relab h]
  rfl
section
variable {c : Cx} {n : Nat} {sc : Scope} {m : Lm} {mu : Mu}
theorem compOkC_of {x : Str} {scope : Scope} (h : compOkC x scope sc = true) : scope.kind = .function ∧ (scope.names.filter (fun p => p.2 == .cell)) = [(x, .cell)] ∧ (∀ x ∈ scope.names, scope.names.lookup x.1 = some x.2) ∧ (∀ x ∈ scope.names, x.2 = .free → sc.names.lookup x.1 = some .cell) ∧ scope.names.lookup x = some .cell := by
  unfold compOkC at h
  simp only [Bool.and_eq_true, List.all_eq_true, beq_iff_eq, bne_iff_ne, Bool.or_eq_true, ne_eq] at h
  obtain ⟨⟨⟨h1, h2⟩, h3⟩, h4⟩ := h
  have h2' : scope.names.filter (fun p => p.2 == .cell) = [(x, .cell)] := h2
  have hm : (x, NameKind.cell) ∈ scope.names := (List.mem_filter.mp (h2'.symm ▸ List.mem_singleton.mpr rfl : (x, NameKind.cell) ∈ scope.names.filter (fun p => p.2 == .cell))).1
  exact ⟨h1, h2', h3, fun x hx hf => (h4 x hx).resolve_left (fun q => q hf), h3 _ hm⟩
theorem newEnvC {x : Str} {scope : Scope} {g : Addr} {cl : List (Str × Addr)} {q : Str} {env : Env} {A : Around} {s : Shared} {Q : Env → Shared → Prop} {E : Value → Shared → Prop} (hc : (scope.names.filter (fun p => p.2 == .cell)) = [(x, .cell)]) (hk : scope.kind = .function)
    (hQ : ∀ h4 : Heap, h4.Ns s.heap.objs.size (fun _ => none) → (∀ b o, s.heap.get? b = some o → h4.get? b = some o) → h4.IsCell (s.heap.objs.size + 1) none → Q (newEnv scope s.heap.objs.size g ((x, s.heap.objs.size + 1) :: cl) q none .none (some env) 0) { s with heap := h4 }) :
    wpAny c.M A (newFunctionEnv scope g cl [] q none .none (some env)) Q E s := by
  simp only [newFunctionEnv, Option.isSome_some, if_true]
  refine wpAny_bind (wpAny_alloc ?_)
  refine wpAny_bind (wpAny_layCells _ (fun name kind cells => by cases hkc : kind == NameKind.cell <;> simp [hkc]) _ _ _ _ ?_)
  obtain ⟨e1, e2⟩ := cells_one scope.names ((s.heap.push { cls := .type "dict", data := .dict #[] }).objs.size) cl (s.heap.push { cls := .type "dict", data := .dict #[] }) hc
  rw [e1, e2]
  have hsz : (s.heap.push { cls := .type "dict", data := .dict #[] }).objs.size = s.heap.objs.size + 1 := Heap.size_push ..
  rw [hsz]
  refine wpAny_bind (wpAny_pure (wpAny_pure ?_))
  refine hQ _ ((Heap.Ns.new s.heap (.type "dict")).keeps fun b o e => Heap.get?_push_of_some _ e) (fun b o e => Heap.get?_push_of_some _ (Heap.get?_push_of_some _ e)) ⟨{ cls := .type "cell", data := .cell none }, ?_, rfl⟩
  rw [← hsz]; exact Heap.get?_push_size _ rfl
theorem tkC {cenv : Env} {x : Str} {ca : Addr} {s s1 : Shared} {mu1 : Mu} (S : St c mu s.heap) (F : Fm c mu s.heap cenv m) (hx : cenv.cells.lookup x = some ca) (y : Step c (fun b => b = ca) mu s mu1 s1) : TK s.heap s1.heap :=
  y.tk S fun b o hb e => by
    subst hb
    obtain ⟨v, hv⟩ := F.cells x b hx
    exact cell_notT hv o e
/-- the store into the cell -/
theorem asgC {cenv : Env} {x : Str} {xp : Pos} {ca : Addr} {A : Around} {s : Shared} {d : PV} {v : Value} (hk : cenv.kindOf x = some .cell) (hca : cenv.cells.lookup x = some ca) (S : St c mu s.heap) (F : Fm c mu s.heap cenv m) (r : Rep s.heap d v) :
    wpAny c.M A (assign (.Name x xp) cenv v) (fun _ s' => Step c (fun b => b = ca) mu s mu s' ∧ Fm c mu s'.heap cenv (setL m x d)) NoE s := by
  show wpAny c.M A (do standAt xp; bindName cenv x v) _ _ s
  refine wpAny_bind (wpAny_standAt (wpAny_bindName ?_))
  obtain ⟨mc, hn, hv⟩ := F.loc
  obtain ⟨v0, hv0⟩ := F.cells x ca hca
  refine wpAny_storeName_cell F.fn hk hca hv0 fun h' hc' hs' => ?_
  have hal : ∃ o, h'.get? ca = some o := let ⟨o, e, _⟩ := hc'; ⟨o, e⟩
  have x1 : Step c (fun b => b = ca) mu s mu { s with heap := h', toks := s.toks } := Step.turn S (F.offC x ca hca).1 (F.offC x ca hca).2.2 (cell_notT hv0) hs' rfl hal
  have tk : TK s.heap h' := fun b o e ht => (hs'.2 b (fun q => by subst q; exact cell_notT hv0 o e ht)).trans e
  refine ⟨x1, ?_⟩
  exact { F with
      loc := ⟨mc, hn.sameBut hs' (Ne.symm (F.offC x ca hca).2.1), fun y pv e hky => by
        rw [lookup_setL] at e
        by_cases hy : y = x
        · rw [hy, hk] at hky; cases hky
        · rw [if_neg hy] at e
          obtain ⟨u, h1, h2⟩ := hv y pv e hky
          exact ⟨u, h1, h2.mono tk⟩⟩
      cel := fun y pv e hky => by
        rw [lookup_setL] at e
        by_cases hy : y = x
        · rw [if_pos hy] at e; cases e; rw [hy]; exact ⟨ca, v, hca, hc', r.mono tk⟩
        · rw [if_neg hy] at e
          obtain ⟨cb, u, h1, h2, h3⟩ := F.cel y pv e hky
          exact ⟨cb, u, h1, h2.sameBut hs' (fun q => hy (F.apart y x ca (q ▸ h1) hca)), h3.mono tk⟩
      cells := fun y cb e => by
        by_cases hy : y = x
        · subst hy; rw [hca] at e; cases e; exact ⟨_, hc'⟩
        · obtain ⟨u, h2⟩ := F.cells y cb e
          exact ⟨u, h2.sameBut hs' (fun q => hy (F.apart y x ca (q ▸ e) hca))⟩ }
theorem comp_loopC {x : Str} {xp : Pos} {ca : Addr} {okT : PySem.Expr → Prop} {I : Addr} {priv : List Addr} {src : Mu → Prop} {xs : List PV} {J : Nat → Heap → Prop} {elt iter : PySem.Expr} {ifs : List PySem.Expr} {scope : Scope} {pos : Pos} {P : List PV → Mu → Prop} {cenv : Env} {A : Around} {D : Addr} {mu0 : Mu} {s0 : Shared}
    (W : Iter c n okT I priv src xs J) (hT : okT (.Name x xp)) (hxk : sc.names.lookup x = some .cell) (hxc : cenv.cells.lookup x = some ca) (hca0 : s0.heap.get? ca = none) (hcaP : ca ∉ priv) (he : cenv.scope = sc) (hA : AOk n A) (hL : cenv.locals ∉ priv) (hC : ∀ x ca, cenv.cells.lookup x = some ca → ca ∉ priv)
    (h0 : ∀ b ∈ priv, s0.heap.get? b = none ∨ mu0 b ≠ none) (hL0 : s0.heap.get? cenv.locals = none) (hD0 : s0.heap.get? D = none) (hDb : c.base.get? D = none) (hDL : D ≠ cenv.locals) (hDp : D ∉ priv) (hDC : ∀ x, cenv.cells.lookup x ≠ some D)
    (s : Shared) (hl : CompC c n sc src x ifs elt P xs [] m mu) (hm : MidC c cenv D mu0 s0 priv J 0 [] m mu s) :
    codeAny c.M A (.compLoop (.ListComp elt [⟨.Name x xp, iter, ifs, 0⟩] scope pos) 0 (.ref I) (.ref D) cenv) (fun r s' => r = .ok .next ∧ CDone c mu0 s0 cenv.locals D P s') s := by
  refine compLoop_tests (fun k s' => ∃ i acc m mu, k = xs.length + 1 - i ∧ i ≤ xs.length ∧ CompC c n sc src x ifs elt P (xs.drop i) acc m mu ∧ MidC c cenv D mu0 s0 priv J i acc m mu s') ?_ (xs.length + 1 - 0) ⟨0, [], m, mu, rfl, Nat.zero_le _, by simpa using hl, hm⟩
  clear hl hm
  rintro k s ⟨i, acc, m, mu, rfl, hi, hl, hm⟩
  have hpm : ∀ b ∈ priv, mu b = none := fun b hb => (hm.pv b hb).1
  have privStep : ∀ {h' : Heap} {tk : Nat}, (∀ b o, b ∉ priv → s.heap.get? b = some o → h'.get? b = some o) → St c mu h' → Step c noT mu0 s0 mu { s with heap := h', toks := tk } := fun {h' tk} hk S1 => {
      shape := by obtain ⟨h2, tk2, e⟩ := hm.step.shape; rw [e]; exact ⟨_, _, rfl⟩
      st := S1
      keep := fun b o e hmb hTb => hk b o (fun q => by rcases h0 b q with z | z; rw [e] at z; cases z; exact z hmb) (hm.step.keep b o e hmb hTb)
      alive := fun b o e hmb => ⟨o, hk b o (fun q => by rcases h0 b q with z | z; rw [e] at z; cases z; exact z hmb) (hm.step.keep b o e hmb id)⟩
      dom := hm.step.dom }
  obtain ⟨vs, nn, eD, rD⟩ := hm.accL
  cases hx : xs.drop i with
  | nil =>
    rw [hx] at hl
    have hxi : i = xs.length := by have := congrArg List.length hx; simp at this; omega
    refine wpAny_mono (wpAny_toks (W.done i A s mu hxi hA hm.toks hm.step.st hl.1 hpm hm.j)) (fun r s1 p => ?_) fun _ _ x => x.2.elim
    obtain ⟨hle, rfl, h', tk, rfl, hk⟩ := p
    have tkk := tk_priv (W.notT i _ hm.j) hk
    have S1 : St c mu h' := hm.step.st.priv hm.pv hk tkk
    have F1 : Fm c mu h' cenv m := hm.fm.priv hL hC hk tkk
    have x1 := privStep (tk := tk) hk S1
    have eD1 : h'.get? D = some (listOf vs.toArray nn) := hk D _ hDp eD
    refine ⟨rfl, acc, mu, hl.2, hm.muD, ?_, let ⟨mc, hn, _⟩ := F1.loc; ⟨mc, hn⟩, F1.offL, Nat.lt_of_lt_of_le hm.toks hle⟩
    refine ⟨x1.shape, ⟨S1.base, fun a o e => ?_, fun a ha => ?_⟩, x1.keep, x1.alive, fun b hb => ?_⟩
    · by_cases q : a = D
      · subst q; simp at e; subst e; exact ⟨vs, nn, eD1, rD.mono tkk⟩
      · rw [upd_ne mu _ q] at e; exact S1.objs a o e
    · by_cases q : a = D
      · subst q; exact hDb
      · rw [upd_ne mu _ q] at ha; exact S1.new a ha
    · by_cases q : b = D
      · subst q; exact .inr hD0
      · rw [upd_ne mu _ q] at hb; exact x1.dom b hb
  | cons d rest =>
    rw [hx] at hl
    have hxi : xs[i]? = some d := by
      have := congrArg (fun l => l[0]?) hx
      simpa using this
    have hlt : i < xs.length := (List.getElem?_eq_some_iff.mp hxi).1
    have hrest : xs.drop (i + 1) = rest := by
      have := congrArg List.tail hx
      simpa [List.tail_drop] using this
    refine wpAny_mono (wpAny_toks (W.next i d A s mu (.Name x xp) hT hxi hA hm.toks hm.step.st hl.1 hpm hm.j)) (fun r s1 p => ?_) fun _ _ x => x.2.elim
    obtain ⟨hle, v, rfl, p⟩ := p
    refine wpAny_mono (wpAny_toks p) (fun _ s2 p => ?_) fun _ _ x => x.2.elim
    obtain ⟨hle2, h', tk, rfl, hk, rd, hj⟩ := p
    have tkk := tk_priv (W.notT i _ hm.j) hk
    have S1 : St c mu h' := hm.step.st.priv hm.pv hk tkk
    have F1 : Fm c mu h' cenv m := hm.fm.priv hL hC hk tkk
    have t1 : 0 < tk := Nat.lt_of_lt_of_le (Nat.lt_of_lt_of_le hm.toks hle) hle2
    have x1 := privStep (tk := tk) hk S1
    have eD1 : h'.get? D = some (listOf vs.toArray nn) := hk D _ hDp eD
    have rD1 : Reps h' acc vs := rD.mono tkk
    have offT : ∀ b ∈ priv, ¬ (b = ca) := fun b hb q => by
      exact hcaP (q ▸ hb)
    have dT : ¬ (D = ca) := fun q => by
      exact hDC x (q ▸ hxc)
    -- what a step of the frame's leaves
    have next : ∀ {mu2 : Mu} {sa sb : Shared}, Step c (fun b => b = ca) mu sa mu2 sb → J (i + 1) sa.heap → TK sa.heap sb.heap → sa.heap.get? D = some (listOf vs.toArray nn) → J (i + 1) sb.heap ∧ (∀ b ∈ priv, mu2 b = none ∧ c.base.get? b = none) ∧ sb.heap.get? D = some (listOf vs.toArray nn) ∧ mu2 D = none := fun {mu2 sa sb} x hja tka ea => by
      refine ⟨W.frame _ _ _ hja (fun b hb o e => x.keep b o e (hpm b hb) (offT b hb)) tka, fun b hb => ⟨?_, (hm.pv b hb).2⟩, x.keep D _ ea hm.muD dT, keepNone x ea hm.muD⟩
      obtain ⟨o, e, _⟩ := W.notT _ _ hja b hb
      exact keepNone x e (hpm b hb)
    have hTL : ∀ b, (b = ca) → s0.heap.get? b = none := fun b q => by
      rw [q]; exact hca0
    refine wpAny_mono (wpAny_toks (asgC (xp := xp) (A := A) (by unfold Env.kindOf; rw [he]; exact hxk) hxc S1 F1 rd)) (fun _ s3 p => ?_) fun _ _ x => x.2.elim
    obtain ⟨hle3, x3, F3⟩ := p
    have h3 := hl.2.2
    generalize setL m x d = m3 at h3 F3
    have t3 : 0 < s3.toks := Nat.lt_of_lt_of_le t1 hle3
    refine wpAny_mono (wpAny_toks (h3 cenv A s3 he hA t3 x3.st F3)) (fun ok s4 p => ?_) fun _ _ x => x.2.elim
    obtain ⟨hle4, mu4, h4, x4⟩ := p
    have t4 : 0 < s4.toks := Nat.lt_of_lt_of_le t3 hle4
    have F4 : Fm c mu4 s4.heap cenv m3 := F3.step x3.st x4
    have x34 : Step c (fun b => b = ca) mu { s with heap := h', toks := tk } mu4 s4 := x3.trans x4.toT
    cases ok with
    | false =>
      have h4' : CompC c n sc src x ifs elt P rest acc m3 mu4 := h4
      obtain ⟨hj4, hp4, eD4, mD4⟩ := next x34 hj (tkC S1 F1 hxc x34) eD1
      exact ⟨xs.length + 1 - (i + 1), by omega, i + 1, acc, m3, mu4, rfl, hlt, hrest ▸ h4', x1.outer x34 hTL, F4, hp4, hj4, t4, ⟨vs, nn, eD4, rD1.mono (tkC S1 F1 hxc x34)⟩, mD4⟩
    | true =>
      have h4' : EvE c n sc m3 mu4 elt fun d mu3 => CompC c n sc src x ifs elt P rest (acc ++ [d]) m3 mu3 := h4
      refine EvE.bind h4' he hA t4 x4.st F4 fun w s5 d5 mu5 h5 x5 t5 S5 F5 r5 k5 => ?_
      have x35 : Step c (fun b => b = ca) mu { s with heap := h', toks := tk } mu5 s5 := x34.trans x5.toT
      obtain ⟨hj5, hp5, eD5, mD5⟩ := next x35 hj (tkC S1 F1 hxc x35) eD1
      have rD5 : Reps s5.heap acc vs := rD1.mono (tkC S1 F1 hxc x35)
      refine wpAny_list_append_plain (items := vs.toArray) ⟨nn, eD5⟩ (fun h6 hl6 hs6 => ?_) (by rw [List.size_toArray, rD.length]; exact hl.2.1)
      obtain ⟨n6, e6⟩ := hl6
      have notD : ∀ o, s5.heap.get? D = some o → ¬ IsT o := fun o e => by rw [eD5] at e; cases e; exact list_notT
      have tk6 : TK s5.heap h6 := fun b o e ht => (hs6.2 b (fun q => by subst q; exact notD o e ht)).trans e
      have x6 : Step c (fun b => b = D) mu5 s5 mu5 { s5 with heap := h6, toks := s5.toks } := Step.turn S5 mD5 hDb notD hs6 rfl ⟨_, e6⟩
      have hj6 : J (i + 1) h6 := W.frame _ _ _ hj5 (fun b hb o e => (hs6.2 b (fun q => hDp (q ▸ hb))).trans e) tk6
      have F6 : Fm c mu5 h6 cenv m3 := F5.priv (priv := [D]) (by simpa using Ne.symm hDL) (fun x ca hx q => hDC x (by simp at q; rw [← q]; exact hx)) (fun b o hb e => (hs6.2 b (by simpa using hb)).trans e) tk6
      refine ⟨xs.length + 1 - (i + 1), by omega, i + 1, acc ++ [d5], m3, mu5, rfl, hlt, hrest ▸ h5, ((x1.outer x35 hTL).outer x6 (fun b q => by rw [q]; exact hD0)), F6, hp5, hj6, t5, ⟨vs ++ [w], n6, ?_, (rD5.mono tk6).append (.cons (r5.mono tk6) .nil)⟩, mD5⟩
      rw [e6]; simp

/-- the frame of a comprehension -/
theorem Fm.compC {x : Str} {scope : Scope} {env : Env} {s s3 : Shared} {mu1 : Mu} {cl : List (Str × Addr)} {C : Addr} (hco : compOkC x scope sc = true) (he : env.scope = sc) (F : Fm c mu1 s.heap env m) (hcl : ∀ x ca, cl.lookup x = some ca → env.cells.lookup x = some ca)
    (hcl2 : ∀ x ∈ scope.names, x.2 = .free → (cl.lookup x.1).isSome = true) {cenv : Env} (h1 : cenv.scope = relab scope sc) (h2 : cenv.locals = C) {ca : Addr} (h3 : cenv.cells = (x, ca) :: cl) (h4 : cenv.globals = env.globals) (h5 : cenv.builtins = env.builtins)
    (hk : ∀ b o, mu1 b = none → s.heap.get? b = some o → s3.heap.get? b = some o) (hns : ∃ mc, s3.heap.Ns C mc) (hC : s.heap.get? C = none) (hCm : mu1 C = none) (hCb : c.base.get? C = none) (hcell : s3.heap.IsCell ca none) (hcC : ca ≠ C) (hc0 : s.heap.get? ca = none) (hcm : mu1 ca = none) (hcb : c.base.get? ca = none) (tk : TK s.heap s3.heap) {mu2 : Mu} (hsub : ∀ b, mu1 b = none → mu2 b = none) : Fm c mu2 s3.heap cenv (capt scope m) := by
  obtain ⟨ck, cn, cu, cf, cx⟩ := compOkC_of hco
  have tl : ∀ y, scope.names.lookup y = some .free → (y == x) = false := fun y hy => by
    cases q : y == x with
    | false => rfl
    | true => rw [beq_iff_eq.mp q, cx] at hy; cases hy
  have onlyX : ∀ y, scope.names.lookup y = some .cell → y = x := fun y hy => by
    have h1 := mem_of_lookup hy
    have h2 : (y, NameKind.cell) ∈ scope.names.filter (fun p => p.2 == .cell) := List.mem_filter.mpr ⟨h1, rfl⟩
    rw [cn] at h2
    have := List.mem_singleton.mp h2
    cases this; rfl
  have kindIs : ∀ x k, scope.names.lookup x = some k → cenv.kindOf x = some (if (k == NameKind.free && sc.kind == .function && sc.names.lookup x == some .cell) = true then .cell else k) := fun x k hx => by
    unfold Env.kindOf; rw [h1]; exact lookup_relab hx
  obtain ⟨mc, hmc⟩ := hns
  exact {
    fn := by rw [h1]; exact ck
    gl := h4.trans F.gl
    bu := h5.trans F.bu
    loc := ⟨mc, h2 ▸ hmc, fun x pv e hk' => by
      obtain ⟨hf, _⟩ := lookup_capt e
      rw [kindIs x _ hf] at hk'
      split at hk' <;> cases hk'⟩
    cel := fun y pv e _ => by
      obtain ⟨hf, hm⟩ := lookup_capt e
      have hkx : env.kindOf y = some .cell := by unfold Env.kindOf; rw [he]; exact cf (y, .free) (mem_of_lookup hf) rfl
      obtain ⟨cb, v, q1, ⟨o, q2, q3⟩, q4⟩ := F.cel y pv hm (.inl hkx)
      obtain ⟨ca', q5⟩ := Option.isSome_iff_exists.mp (hcl2 (y, .free) (mem_of_lookup hf) rfl)
      have := hcl y ca' q5
      rw [q1] at this; cases this
      exact ⟨cb, v, by rw [h3, List.lookup_cons, tl y hf]; exact q5, ⟨o, hk cb o (F.offC y cb q1).1 q2, q3⟩, q4.mono tk⟩
    has := fun y hk' => by
      have hsome : ∃ k, scope.names.lookup y = some k := by
        cases q : scope.names.lookup y with
        | some k => exact ⟨k, rfl⟩
        | none =>
          have : cenv.kindOf y = none := by unfold Env.kindOf; rw [h1]; exact lookup_relab_none q
          rw [this] at hk'; cases hk'
      obtain ⟨k, hkk⟩ := hsome
      by_cases hyx : y = x
      · subst hyx; exact ⟨ca, by rw [h3]; exact lookup_hd⟩
      have hfree : k = .free := by
        rw [kindIs y k hkk] at hk'
        split at hk'
        · rename_i hc; simp at hc; exact hc.1.1
        · cases hk'; exact absurd (onlyX y hkk) hyx
      subst hfree
      obtain ⟨cb, q⟩ := Option.isSome_iff_exists.mp (hcl2 (y, .free) (mem_of_lookup hkk) rfl)
      exact ⟨cb, by rw [h3, List.lookup_cons, tl y hkk]; exact q⟩
    cells := fun y cb e => by
      rw [h3] at e
      rcases lookup_tl e with ⟨_, q⟩ | q
      · subst q; exact ⟨none, hcell⟩
      obtain ⟨v, o, q2, q3⟩ := F.cells y cb (hcl y cb q)
      exact ⟨v, o, hk cb o (F.offC y cb (hcl y cb q)).1 q2, q3⟩
    offL := by rw [h2]; exact hsub _ hCm
    offC := fun y cb e => by
      rw [h3] at e
      rcases lookup_tl e with ⟨_, q⟩ | q
      · subst q; exact ⟨hsub _ hcm, by rw [h2]; exact hcC, hcb⟩
      have hc := hcl y cb q
      obtain ⟨a1, a2, a3⟩ := F.offC y cb hc
      refine ⟨hsub _ a1, fun q => ?_, a3⟩
      obtain ⟨v, o, q2, q3⟩ := F.cells y cb hc
      rw [q, h2, hC] at q2; cases q2
    apart := fun y z cb e1 e2 => by
      rw [h3] at e1 e2
      have old : ∀ w, cl.lookup w = some ca → False := fun w hw => by
        obtain ⟨v, o, q2, q3⟩ := F.cells w ca (hcl w ca hw)
        rw [hc0] at q2; cases q2
      rcases lookup_tl e1 with ⟨r1, q1⟩ | q1
      · rcases lookup_tl e2 with ⟨r2, q2⟩ | q2
        · rw [r1, r2]
        · subst q1; exact (old z q2).elim
      · rcases lookup_tl e2 with ⟨r2, q2⟩ | q2
        · subst q2; exact (old y q1).elim
        · exact F.apart y z cb (hcl y cb q1) (hcl z cb q2)
    notB := by rw [h2]; exact hCb }

/-- the comprehension up to what its list is used for -/
theorem comp_runC {x : Str} {xp : Pos} {okT : PySem.Expr → Prop} {iter elt : PySem.Expr} {ifs : List PySem.Expr} {scope : Scope} {pos pos' : Pos} {P : List PV → Mu → Prop} (hT : okT (.Name x xp)) (hco : compOkC x scope sc = true)
    (h : EvE c n sc m mu iter fun d mu1 => ∃ xs src mu2, IterOf c n okT mu1 d xs src mu2 ∧ CompC c n (relab scope sc) src x ifs elt P xs [] (capt scope m) mu2)
    (hs : ∀ env x, foldedSetIterable iter env x = pure x) {env : Env} {A : Around} {s : Shared} (he : env.scope = sc) (hA : AOk n A) (ht : 0 < s.toks) (S : St c mu s.heap) (F : Fm c mu s.heap env m)
    {use : Option (Value → Sem Unit)} {Q : Value → Shared → Prop}
    (k : ∀ C D s', (mu C = none → s.heap.get? C = none) → C ≠ D → c.base.get? C = none → CDone c mu s C D P s' → compPost c.M A NoE use Q (.ref D) C (.ok .next) s') :
    wpAny c.M A (comprehension (.ListComp elt [⟨.Name x xp, iter, ifs, 0⟩] scope pos) scope env pos' (newList []) false (eval iter env) use) Q NoE s := by
  obtain ⟨ck, cn, cu, cf, cx⟩ := compOkC_of hco
  obtain ⟨cl, hcl0, hcl, hcl2⟩ := closure_is (env := env) (scope := scope) fun x hx hf => by
    have hkx : env.kindOf x.1 = some .cell := by unfold Env.kindOf; rw [he]; exact cf x hx hf
    exact F.has _ hkx
  refine wpAny_comprehension_free (g := ⟨.Name x xp, iter, ifs, 0⟩) (gs := []) rfl (hs env) hcl0 ck (fun x hx hl => by rw [cu x hx, hl]) ?_
  refine EvE.bind h he hA ht S F fun v s1 d mu1 hp x1 t1 S1 F1 r1 _ => ?_
  obtain ⟨xs, src, mu2, ⟨hsub, hit⟩, hlo⟩ := hp
  refine wpAny_mono (wpAny_toks (hit A s1 v hA t1 S1 r1)) (fun it s2 p => ?_) fun _ _ x => x.2.elim
  obtain ⟨hle, I, priv, J, h2, tk2, rfl, rfl, hk2, hpv, W, hj⟩ := p
  refine wpAny_newList ?_
  refine wpAny_with_toks (n := 1) (Nat.lt_of_lt_of_le t1 hle) (newEnvC cn ck (fun h4 hns hsb hcell ht4 => ?_))
  have hn1 : ∀ b ∈ priv, ∀ o, s1.heap.get? b = some o → mu1 b ≠ none := fun b hb o e => by
    rcases (hpv b hb).2.2 with z | z
    · rw [e] at z; cases z
    · exact z
  dsimp only at hns hsb hcell ht4 ⊢
  -- the new addresses
  have hDC : h2.objs.size ≠ (h2.push { cls := .type "list", data := .seq ([] : List Value).toArray }).objs.size := by rw [Heap.size_push]; exact Nat.ne_of_lt (Nat.lt_succ_self _)
  have below : ∀ b, b < h2.objs.size → b ≠ (h2.push { cls := .type "list", data := .seq ([] : List Value).toArray }).objs.size := fun b hb => by rw [Heap.size_push]; exact Nat.ne_of_lt (Nat.lt_succ_of_lt hb)
  generalize hCe : (h2.push { cls := .type "list", data := .seq ([] : List Value).toArray }).objs.size = C at *
  generalize hDe : h2.objs.size = D at *
  have keep4 : ∀ b o, h2.get? b = some o → h4.get? b = some o := fun b o e => hsb b o (Heap.get?_push_of_some _ e)
  have D2 : h2.get? D = none := get_none (Nat.le_of_eq hDe)
  have C2 : h2.get? C = none := get_none (by rw [← hCe, Heap.size_push]; exact Nat.le_succ _)
  have old : ∀ b o, mu1 b = none → s1.heap.get? b = some o → h4.get? b = some o := fun b o hm e => keep4 b o (hk2 b o (fun q => hn1 b q o e hm) e)
  have jalive : ∀ b ∈ priv, ∃ o, h2.get? b = some o ∧ ¬ IsT o := W.notT 0 _ hj
  have fresh : ∀ b, h2.get? b = none → b ∉ priv := fun b hb q => by obtain ⟨o, e, _⟩ := jalive b q; rw [hb] at e; cases e
  have freshM : ∀ b, h2.get? b = none → s1.heap.get? b = none := fun b hb => by
    cases e : s1.heap.get? b with
    | none => rfl
    | some o => have := hk2 b o (fresh b hb) e; rw [hb] at this; cases this
  have nomu1 : ∀ b, h2.get? b = none → mu1 b = none := fun b hb => by
    cases e : mu1 b with
    | none => rfl
    | some o =>
      obtain ⟨o', e', _⟩ := (S1.objs b o e).noTup
      rw [freshM b hb] at e'; cases e'
  have nobase : ∀ b, h2.get? b = none → c.base.get? b = none := fun b hb => by
    cases e : c.base.get? b with
    | none => rfl
    | some o => have := S1.base b o e; rw [freshM b hb] at this; cases this
  have sub0 : ∀ b, mu2 b ≠ none → mu1 b ≠ none := fun b hb => by
    obtain ⟨o, e⟩ := Option.ne_none_iff_exists'.mp hb
    rw [hsub b o e]; simp
  have off2 : ∀ b, mu1 b = none → mu2 b = none := fun b hb => by
    cases q : mu2 b with
    | none => rfl
    | some z => exact absurd hb (sub0 b (by rw [q]; simp))
  have tk14 : TK s1.heap h4 := fun a o e hto => old a o (S1.tupOff e hto) e
  have S1' : St c mu2 s1.heap := ⟨S1.base, fun a o e => S1.objs a o (hsub a o e), fun a ha => S1.new a (sub0 a ha)⟩
  have S2 : St c mu2 h2 := S1'.priv (fun b hb => ⟨(hpv b hb).2.1, (hpv b hb).1⟩) hk2 (fun a o e hto => hk2 a o (fun q => hn1 a q o e (S1.tupOff e hto)) e)
  have S4 : St c mu2 h4 := ⟨fun b o e => keep4 b o (S2.base b o e), fun a o e => (S2.objs a o e).mono (fun o' q => keep4 a o' q) (fun b o' q _ => keep4 b o' q), S2.new⟩
  -- the steps seen from s
  have x14 : Step c noT mu1 s1 mu2 { s1 with heap := h4, toks := tk2 } := {
    shape := ⟨_, _, rfl⟩
    st := S4
    keep := fun b o e hm _ => old b o hm e
    alive := fun b o e hm => ⟨o, old b o hm e⟩
    dom := fun b hb => .inl (sub0 b hb) }
  have hCs : mu C = none → s.heap.get? C = none := fun hm => by
    cases q : s.heap.get? C with
    | none => rfl
    | some o => have := x1.keep C o q hm id; rw [freshM C C2] at this; cases this
  have hL : ∀ x ca, env.cells.lookup x = some ca → ca ∉ priv := fun x ca hx q => by
    obtain ⟨_, o, e, _⟩ := F1.cells x ca hx
    exact hn1 _ q o e (F1.offC x ca hx).1
  have D4 : h4.get? D = some (listOf ([] : List Value).toArray 0) := hsb D _ (hDe ▸ Heap.get?_push_size _ rfl)
  have K2 : h2.get? (C + 1) = none := get_none (by rw [← hCe, Heap.size_push]; exact Nat.le_succ_of_le (Nat.le_succ _))
  have hCK : C + 1 ≠ C := Nat.succ_ne_self C
  have hDK : D ≠ C + 1 := by rw [← hCe, Heap.size_push, hDe]; exact Nat.ne_of_lt (Nat.lt_succ_of_lt (Nat.lt_succ_self _))
  have hj4 : J 0 h4 := W.frame _ _ _ hj (fun b hb o e => keep4 b o e) fun b o e _ => keep4 b o e
  have loop : ∀ cenv : Env, cenv.scope = relab scope sc → cenv.locals = C → cenv.cells = (x, C + 1) :: cl → cenv.globals = env.globals → cenv.builtins = env.builtins →
      codeAny c.M A (.compLoop (.ListComp elt [⟨.Name x xp, iter, ifs, 0⟩] scope pos) 0 (.ref I) (.ref D) cenv) (compPost c.M A NoE use Q (.ref D) C) { s1 with heap := h4, toks := tk2 } := fun cenv e1 e2 e3 e4 e5 => by
    have F4 : Fm c mu2 h4 cenv (capt scope m) := Fm.compC (s3 := { s1 with heap := h4, toks := tk2 }) hco he F1 hcl hcl2 e1 e2 e3 e4 e5 old ⟨_, hns⟩ (freshM C C2) (nomu1 C C2) (nobase C C2) hcell hCK (freshM _ K2) (nomu1 _ K2) (nobase _ K2) tk14 off2
    refine codeAny_mono (comp_loopC (ca := C + 1) (sc := relab scope sc) (mu0 := mu1) (s0 := s1) (P := P) W hT (relab_cell cx) (by rw [e3]; exact lookup_hd) (freshM _ K2) (fresh _ K2) e1 hA (by rw [e2]; exact fresh C C2) (fun y cb hy => ?_) (fun b hb => (hpv b hb).2.2) (by rw [e2]; exact freshM C C2) (freshM D D2) (nobase D D2)
      (by rw [e2]; exact hDC) (fresh D D2) (fun x hx => ?_) _ hlo ⟨x14, F4, fun b hb => ⟨(hpv b hb).2.1, (hpv b hb).1⟩, hj4, ht4, ⟨[], 0, D4, .nil⟩, off2 _ (nomu1 D D2)⟩) fun r s' q => ?_
    · rw [e3] at hy
      rcases lookup_tl hy with ⟨_, q⟩ | q
      · rw [← q]; exact fresh _ K2
      · exact hL y cb (hcl y cb q)
    · rw [e3] at hx
      rcases lookup_tl hx with ⟨_, q⟩ | q
      · exact hDK q.symm
      · obtain ⟨_, o, e, _⟩ := F1.cells _ D (hcl _ D q)
        rw [freshM D D2] at e; cases e
    · obtain ⟨rfl, ys, mu3, p1, p2, p3, p4, p5, p6⟩ := q
      rw [e2] at p4 p5
      exact k C D s' hCs (Ne.symm hDC) (nobase C C2) ⟨ys, mu3, p1, p2, x1.trans p3, p4, p5, p6⟩
  have l0 := loop { newEnv scope C env.globals ((x, C + 1) :: cl) env.qual none .none (some env) 0 with scope := relabel scope env } (by rw [← he]; rfl) rfl rfl rfl rfl
  exact codeAny_compStart_list l0 (W.self 0 _ _ _ _ hA hj4 l0)


theorem EvE.listcompC {x : Str} {xp : Pos} {okT : PySem.Expr → Prop} {iter elt : PySem.Expr} {ifs : List PySem.Expr} {scope : Scope} {pos : Pos} {P : PV → Mu → Prop} (hT : okT (.Name x xp)) (hco : compOkC x scope sc = true)
    (h : EvE c n sc m mu iter fun d mu1 => ∃ xs src mu2, IterOf c n okT mu1 d xs src mu2 ∧ CompC c n (relab scope sc) src x ifs elt (fun ys mu3 => ∀ D, mu3 D = none → P (.ref D) (upd mu3 D (.list ys))) xs [] (capt scope m) mu2)
    (hs : ∀ env x, foldedSetIterable iter env x = pure x := by intro _ _; rfl) : EvE c n sc m mu (.ListComp elt [⟨.Name x xp, iter, ifs, 0⟩] scope pos) P := by
  intro env A s he hA ht S F
  rw [eval_ListComp]
  refine comp_runC hT hco h hs he hA ht S F fun C D s' hC hCD hCb q => ?_
  obtain ⟨ys, mu3, p1, p2, p3, p4, p5, p6⟩ := q
  obtain ⟨mc, hmc⟩ := p4
  exact ⟨mc, hmc, fun h' hs' => ⟨.ref D, _, p1 D p2, CDone.step (P := fun _ _ => True) hC hCD hCb p3 ⟨mc, hmc⟩ p5 hs', .ref D⟩⟩
end
end Mine

open PySem PySem.W PySem.Calls PyProof.Rows
set_option Elab.async false
set_option linter.unusedVariables false
set_option maxRecDepth 100000
namespace Mine
def ExSX (H : Env → Prop) (c : Cx) (n : Nat) (sc : Scope) (m : Lm) (mu : Mu) (ss : List Stmt) (P : FV → Lm → Mu → Prop) : Prop :=
  ∀ env A s, H env → env.scope = sc → AOk n A → 0 < s.toks → St c mu s.heap → Fm c mu s.heap env m → wpAny c.M A (execs ss env) (PostS c env mu s P) NoE s
def Ex1X (H : Env → Prop) (c : Cx) (n : Nat) (sc : Scope) (m : Lm) (mu : Mu) (st : Stmt) (P : FV → Lm → Mu → Prop) : Prop :=
  ∀ env A s, H env → env.scope = sc → AOk n A → 0 < s.toks → St c mu s.heap → Fm c mu s.heap env m → wpAny c.M A (exec st env) (PostS c env mu s P) NoE s
section
variable {c : Cx} {n : Nat} {sc : Scope} {m : Lm} {mu : Mu} {H : Env → Prop}
theorem ExSX.of {ss : List Stmt} {P : FV → Lm → Mu → Prop} (h : ExS c n sc m mu ss P) : ExSX H c n sc m mu ss P := fun env A s _ he hA ht S F => h env A s he hA ht S F
theorem Ex1X.of {st : Stmt} {P : FV → Lm → Mu → Prop} (h : Ex1 c n sc m mu st P) : Ex1X H c n sc m mu st P := fun env A s _ he hA ht S F => h env A s he hA ht S F
theorem ExSX.weakL {m' : Lm} {ss : List Stmt} {P : FV → Lm → Mu → Prop} (hw : SubL m m') (h : ExSX H c n sc m mu ss P) : ExSX H c n sc m' mu ss P := fun env A s hH he hA ht S F => h env A s hH he hA ht S (F.weak hw.look)
theorem ExSX.mid {st : Stmt} {ss : List Stmt} {P : FV → Lm → Mu → Prop} (I : Lm → Mu → Prop) (h : Ex1X H c n sc m mu st fun fl m' mu' => fl = .next ∧ I m' mu') (h2 : ∀ m' mu', I m' mu' → ExSX H c n sc m' mu' ss P) : ExSX H c n sc m mu (st :: ss) P := by
  intro env A s hH he hA ht S F
  refine wpAny_execs_cons (wpAny_mono (wpAny_toks (h env A s hH he hA ht S F)) (fun f s1 p => ?_) fun _ _ x => x.2)
  obtain ⟨hle, fl, m1, mu1, ⟨rfl, hp⟩, x1, F1, rf⟩ := p
  cases rf with
  | next => exact wpAny_mono (h2 m1 mu1 hp env A s1 hH he hA (Nat.lt_of_lt_of_le ht hle) x1.st F1) (fun _ _ q => q.after x1) fun _ _ x => x
end
theorem fn_bodyX {H : Env → Prop} {c : Cx} {n : Nat} {mu mu1 : Mu} {a : Addr} {fd : FuncData} {body : List Stmt} {binds : List (Str × PV)} {P : PV → Mu → Prop} (hf : FnOk c a fd body) {A : Around} {s s1 s2 : Shared} {bv : List (Str × Value)} (hA : AOk (n + 1) A)
    (x1 : Step c noT mu s mu1 s1) (rb : RepD s1.heap binds bv) (hnd : (binds.map (·.1)).Nodup) (hko : kindsOk fd.scope.names (binds.map (·.1)) = true) (hx : ExSX H c n fd.scope binds mu1 body fun fl _ mu2 => P (retOf fl) mu2)
    {env : Env} (hH : H env) (he : env = newEnv fd.scope s1.heap.objs.size fd.globals (cellsFrom (s1.heap.objs.size + 1) fd.scope.names []) (fd.qualname ++ ".<locals>.") (some a) fd.code none fd.builtins)
    (I : InCallC s1 env.locals (bindL env.kindOf bv fun _ => none) env.cells (bindC env.kindOf bv fun _ => none) s2) (ht2 : 0 < s2.toks) :
    s2.heap.NoLimit ∧ codeAny c.M A (.func body env) (fun r s' => match r with | .ok (.ret v) => Post c mu s P v s' | .ok _ => False | .error e => NoE e s') s2 := by
  have S1 := x1.st
  have hnames := rb.names
  have hkb : ∀ y ∈ bv, fd.scope.names.lookup y.1 = some .local ∨ fd.scope.names.lookup y.1 = some .cell := fun y hy => by
    have := List.all_eq_true.mp hko y.1 (hnames ▸ List.mem_map_of_mem hy)
    simpa using this
  have hsc : env.scope = fd.scope := by rw [he]; rfl
  have hL : env.locals = s1.heap.objs.size := by rw [he]; rfl
  have hcl : env.cells = cellsFrom (s1.heap.objs.size + 1) fd.scope.names [] := by rw [he]; rfl
  obtain ⟨h2, tk2, rfl⟩ := I.toInCall.same
  have keep := I.toInCall.keep
  have hsz : s1.heap.objs.size < h2.objs.size := Nat.lt_of_le_of_lt I.toInCall.fresh I.toInCall.ns.lt
  have tkp : TK s1.heap h2 := fun b o e _ => keep b o e
  have S2 : St c mu1 h2 := ⟨fun b o e => keep b o (S1.base b o e), fun b o e => (S1.objs b o e).mono (fun o' q => keep _ _ q) tkp, S1.new⟩
  have F2 : Fm c mu1 h2 env binds := {
    fn := by rw [hsc]; exact hf.kind
    gl := by rw [he]; exact hf.gl
    bu := by rw [he]; exact hf.bu
    loc := ⟨_, I.toInCall.ns, fun y pv e hk => by
      obtain ⟨v, hv, rv⟩ := rb.mem e
      exact ⟨v, bindL_at bv _ y v (hnames ▸ hnd) hv hk, rv.mono tkp⟩⟩
    cel := fun y pv e hk => by
      obtain ⟨v, hv, rv⟩ := rb.mem e
      have hne : env.kindOf y ≠ some .local := by rcases hk with q | q <;> rw [q] <;> decide
      have hcell : fd.scope.names.lookup y = some .cell := by
        have := hkb (y, v) (mem_of_lookup hv)
        rcases this with q | q
        · exact absurd (by unfold Env.kindOf; rw [hsc]; exact q) hne
        · exact q
      obtain ⟨ca, hca⟩ := Option.isSome_iff_exists.mp (cellsFrom_has (x := y) fd.scope.names (s1.heap.objs.size + 1) [] (.inl hcell))
      have hca' : env.cells.lookup y = some ca := by rw [hcl]; exact hca
      have hi := I.cell y ca hca'
      rw [bindC_at bv _ y v (hnames ▸ hnd) hv hne] at hi
      exact ⟨ca, v, hca', hi, rv.mono tkp⟩
    has := fun y hk => by
      have hcell : fd.scope.names.lookup y = some .cell := by unfold Env.kindOf at hk; rw [hsc] at hk; exact hk
      obtain ⟨ca, hca⟩ := Option.isSome_iff_exists.mp (cellsFrom_has (x := y) fd.scope.names (s1.heap.objs.size + 1) [] (.inl hcell))
      exact ⟨ca, by rw [hcl]; exact hca⟩
    cells := fun y ca e => ⟨_, I.cell y ca e⟩
    offL := S1.off (by rw [hL]; exact Nat.le_refl _)
    offC := fun y ca e => by
      have := I.above y ca (mem_of_lookup e)
      rw [hL] at this
      exact ⟨S1.off (Nat.le_of_lt this), by rw [hL]; exact Nat.ne_of_gt this, S1.baseNone (Nat.le_of_lt this)⟩
    apart := fun y z ca h1 h2 => name_of_addr I.apart (mem_of_lookup h1) (mem_of_lookup h2)
    notB := by rw [hL]; exact S1.baseNone (Nat.le_refl _) }
  have above : ∀ b, Tch env b → s1.heap.objs.size ≤ b := fun b hb => by
    rcases hb with q | ⟨_, y, q⟩
    · rw [q, hL]; exact Nat.le_refl _
    · have := I.above y b (mem_of_lookup q); rw [hL] at this; exact Nat.le_of_lt this
  refine ⟨c.nolim.keeps S2.base, codeAny_func ?_⟩
  refine wpAny_mono (hx env _ _ hH hsc (hA.deeper env) ht2 S2 F2) (fun f s3 p => ?_) fun _ _ e => e.elim
  · obtain ⟨fl, m3, mu3, hp, x3, F3, rf⟩ := p
    have x13 : Step c noT mu1 s1 mu3 s3 := {
      shape := by obtain ⟨h, tk, e⟩ := x3.shape; exact ⟨h, tk, e⟩
      st := x3.st
      keep := fun b o e hm _ => x3.keep b o (keep b o e) hm fun q => absurd (Heap.lt_size e) (Nat.not_lt.mpr (above b q))
      alive := fun b o e hm => x3.alive b o (keep b o e) hm
      dom := fun b hb => by
        rcases x3.dom b hb with q | q
        · exact .inl q
        · cases e : s1.heap.get? b with
          | none => exact .inr rfl
          | some o => have := keep b o e; rw [q] at this; cases this }
    have fin : ∀ v, Rep s3.heap (retOf fl) v → Post c mu s P v s3 := fun v rv => ⟨retOf fl, mu3, hp, x1.trans x13, rv⟩
    cases rf with
    | next => exact fin _ .none
    | brk => exact fin _ .none
    | cont => exact fin _ .none
    | ret r => exact fin _ r


/-- the call of the law, something known of its frame -/
theorem law_fnX {c : Cx} {n : Nat} {a l : Addr} {fd : FuncData} {body : List Stmt} {x : Str} {mu : Mu} {P : PV → Mu → Prop} (hf : FnOk c a fd body) (hb : ∀ v, bindArgs fd ⟨[v], []⟩ = pure [(x, v)]) (hx : fd.scope.names.lookup x = some .local)
    (h : ExSX (fun env => env.code = fd.code) c n fd.scope [(x, .ref l)] mu body fun fl _ mu2 => P (retOf fl) mu2) {A : Around} {s : Shared} (hA : AOk (n + 1) A) (S : St c mu s.heap) :
    wpAny c.M A (call (.ref a) [.ref l]) (Post c mu s P) NoE s := by
  refine wpAny_call ?_
  obtain ⟨o, ho, hd⟩ := hf.obj
  refine codeAny_call_function hA.room (S.base _ _ ho) hd hf.co hf.gen hf.body (hf.code.keeps S.base) ?_
  rw [hf.clos, hb]
  refine wpAny_pure (newEnv_pos hf.kind hx (fun y hy => by cases hy) fun env he s2 I ht2 => ?_)
  exact fn_bodyX hf hA (Step.refl S) (.cons (.ref l) .nil) (by simp) (by simp [kindsOk, hx]) h (by rw [he]; rfl) he I ht2
/-- the heap without one object -/
def hideA (h : Heap) (P : Addr) : Heap := { h with objs := h.objs.modify P fun o => { o with data := .freed } }
theorem hideA_ne {h : Heap} {P b : Addr} (hb : b ≠ P) : (hideA h P).get? b = h.get? b := by
  unfold hideA Heap.get?
  simp only [Array.getElem?_modify]
  rw [if_neg (Ne.symm hb)]
theorem hideA_self {h : Heap} {P : Addr} : (hideA h P).get? P = none := by
  unfold hideA Heap.get?
  simp only [Array.getElem?_modify, if_true]
  cases h.objs[P]? <;> rfl
theorem hideA_some {h : Heap} {P b : Addr} {o : Obj} (e : (hideA h P).get? b = some o) : b ≠ P ∧ h.get? b = some o := by
  by_cases hb : b = P
  · subst hb; rw [hideA_self] at e; cases e
  · rw [hideA_ne hb] at e; exact ⟨hb, e⟩
/-- a law whose code table grew -/
theorem law_closeX {c : Cx} {claim : ClaimW} {cl : Str → Option Addr} {mean : ExcName → Option Value} {args : List WData} {s : Shared} {fv : Value} {l : Addr} {A : Around} {P cd : Addr} (hg : s.gens = #[]) (hn : ∀ cls, claim.raises args cls = false) (hp : claim.post args (.bool true) args = true)
    (hT : s.heap.TableAt cd P #[]) (hPs : P ≠ cStatics)
    (h : wpAny c.M A (call fv [.ref l]) (Post c (upd (fun _ => none) P (.obj (tabObj #[]))) s fun d mu' => d = .bool true ∧ ∃ more, mu' P = some (.obj (tabObj more))) NoE s) :
    wpAny c.M A ((fun f vs => call f vs) fv [.ref l]) (fun v s' => GoodWG claim cl mean args s (.ok (.ret v)) s') (fun e s' => GoodWG claim cl mean args s (.error e) s') s :=
  wpAny_mono h (fun v s' p => by
    obtain ⟨d, mu', ⟨rfl, more, hm⟩, x, r⟩ := p
    cases r
    obtain ⟨h, tk, rfl⟩ := x.shape
    have hP := (x.st.objs P _ hm).1
    have keep : ∀ b o, b ≠ P → s.heap.get? b = some o → h.get? b = some o := fun b o hb e => x.keep b o e (by rw [upd_ne _ _ hb]) id
    refine ⟨.inl ⟨_, _, [], rfl, hn, .bool true, hp, fun _ => ⟨List.nodup_nil, fun a ha => (nomatch ha)⟩⟩, ⟨fun b o e => ?_, fun b o e => ?_⟩, rfl, .of_eq hg⟩
    · by_cases hb : b = P
      · subst hb
        have : o = { cls := .none, data := .fields #[] } := Option.some.inj (e.symm.trans hT.2)
        subst this
        refine .inr (.inl ⟨hT.isCodeTable, rfl, #[], more, rfl, ?_⟩)
        rw [hP]; simp [tabObj]
      · exact .inl (keep b o hb e)
    · by_cases hb : b = P
      · subst hb; exact ⟨_, hP⟩
      · exact ⟨o, keep b o hb e⟩) fun _ _ x => x.elim
end Mine

open PySem PySem.W PySem.Calls PyProof.Rows
set_option Elab.async false
set_option linter.unusedVariables false
namespace Mine
/-! # the sort, with pure answers -/
def GoodK {α : Type} (n : Nat) (k : Nat → Int) : KasT α → (α → Prop) → Prop
  | .ret a, Q => Q a
  | .ask i j t, Q => i < n ∧ j < n ∧ GoodK n k (t (decide (k i < k j))) Q
theorem GoodK.bind {α β : Type} {n : Nat} {k : Nat → Int} {f : α → KasT β} {Q : β → Prop} : ∀ (t : KasT α), GoodK n k t (fun a => GoodK n k (f a) Q) → GoodK n k (t.bind f) Q
  | .ret _, h => h
  | .ask i j t, h => ⟨h.1, h.2.1, GoodK.bind _ h.2.2⟩
theorem GoodK.mono {α : Type} {n : Nat} {k : Nat → Int} {Q R : α → Prop} (hq : ∀ a, Q a → R a) : ∀ (t : KasT α), GoodK n k t Q → GoodK n k t R
  | .ret _, h => hq _ h
  | .ask i j t, h => ⟨h.1, h.2.1, GoodK.mono hq _ h.2.2⟩
theorem GoodK.wp {α : Type} {n : Nat} {k : Nat → Int} {s : Shared} {cmp : Nat → Nat → (Bool → Shared → Prop) → Shared → Prop} (hc : ∀ i j (C : Bool → Shared → Prop), i < n → j < n → C (decide (k i < k j)) s → cmp i j C s) {Q : α → Prop} {R : α → Shared → Prop} (hq : ∀ a, Q a → R a s) : ∀ (t : KasT α), GoodK n k t Q → t.kasWp cmp R s
  | .ret a, h => hq a h
  | .ask i j t, h => hc i j _ h.1 h.2.1 (GoodK.wp hc hq _ h.2.2)
section
variable {n : Nat} {k : Nat → Int}
def Vv (k : Nat → Int) (p : Array Nat) (i : Nat) : Int := k (p.getD i 0)
def Pm (n : Nat) (p : Array Nat) : Prop := p.toList.Perm (List.range n)
theorem Pm.size {p : Array Nat} (h : Pm n p) : p.size = n := by have := h.length_eq; simpa using this
theorem Pm.get {p : Array Nat} (h : Pm n p) {i : Nat} (hi : i < n) : p[i]? = some (p.getD i 0) := by
  have := h.size
  rw [Array.getD_eq_getD_getElem?, Array.getElem?_eq_getElem (by omega)]; rfl
theorem Pm.lt {p : Array Nat} (h : Pm n p) {i : Nat} (hi : i < n) : p.getD i 0 < n := by
  have h1 := h.get hi
  have h2 : p.getD i 0 ∈ p.toList := by rw [Array.mem_toList_iff]; exact Array.mem_of_getElem? h1
  exact List.mem_range.mp (h.mem_iff.mp h2)
theorem Pm.inj {p : Array Nat} (h : Pm n p) {i j : Nat} (hi : i < n) (hj : j < n) (e : p.getD i 0 = p.getD j 0) : i = j := by
  have hn : p.toList.Nodup := h.nodup_iff.mpr List.nodup_range
  have h1 := h.get hi
  have h2 := h.get hj
  rw [e, ← h2] at h1
  rw [← Array.getElem?_toList, ← Array.getElem?_toList] at h1
  have hl : i < p.toList.length := by have := h.size; simp; omega
  exact (List.getElem?_inj hl hn).mp h1
theorem Pm.ne {p : Array Nat} (h : Pm n p) (hk : ∀ i j, i < n → j < n → k i = k j → i = j) {i j : Nat} (hi : i < n) (hj : j < n) (hij : i ≠ j) : Vv k p i ≠ Vv k p j := fun e => hij (h.inj hi hj (hk _ _ (h.lt hi) (h.lt hj) e))
def Srd (k : Nat → Int) (p : Array Nat) (m : Nat) : Prop := ∀ i j, i < j → j < m → Vv k p i < Vv k p j
def Dsd (k : Nat → Int) (p : Array Nat) (m : Nat) : Prop := ∀ i j, i < j → j < m → Vv k p j < Vv k p i
theorem Srd.succ {p : Array Nat} {m : Nat} (h : Srd k p m) (hm : 1 ≤ m) (e : Vv k p (m - 1) < Vv k p m) : Srd k p (m + 1) := fun i j hij hj => by
  by_cases q : j = m
  · subst q
    by_cases q2 : i = j - 1
    · subst q2; exact e
    · have := h i (j - 1) (by omega) (by omega); omega
  · exact h i j hij (by omega)
theorem Dsd.succ {p : Array Nat} {m : Nat} (h : Dsd k p m) (hm : 1 ≤ m) (e : Vv k p m < Vv k p (m - 1)) : Dsd k p (m + 1) := fun i j hij hj => by
  by_cases q : j = m
  · subst q
    by_cases q2 : i = j - 1
    · subst q2; exact e
    · have := h i (j - 1) (by omega) (by omega); omega
  · exact h i j hij (by omega)
variable (hk : ∀ i j, i < n → j < n → k i = k j → i = j)
include hk
theorem asc_ok {p : Array Nat} (hp : Pm n p) : ∀ (f a : Nat), 1 ≤ a → a + f ≤ n → Srd k p a → GoodK n k (kas_asc p f a) (fun m => a ≤ m ∧ m ≤ a + f ∧ Srd k p m ∧ (m < a + f → Vv k p m < Vv k p (m - 1)))
  | 0, a, h1, h2, hs => ⟨Nat.le_refl _, Nat.le_refl _, hs, fun q => absurd q (Nat.lt_irrefl _)⟩
  | f + 1, a, h1, h2, hs => by
    refine ⟨hp.lt (by omega), hp.lt (by omega), ?_⟩
    by_cases c : k (p.getD a 0) < k (p.getD (a - 1) 0)
    · simp only [c, decide_true, if_true]
      exact ⟨Nat.le_refl _, by omega, hs, fun _ => c⟩
    · simp only [c, decide_false, Bool.false_eq_true, if_false]
      have hne := hp.ne hk (i := a) (j := a - 1) (by omega) (by omega) (by omega)
      have hlt : Vv k p (a - 1) < Vv k p a := by unfold Vv at hne ⊢; omega
      refine GoodK.mono (fun m q => ?_) _ (asc_ok hp f (a + 1) (by omega) (by omega) (hs.succ h1 hlt))
      exact ⟨by omega, by omega, q.2.2.1, fun z => q.2.2.2 (by omega)⟩
theorem desc_ok {p : Array Nat} (hp : Pm n p) : ∀ (f a : Nat), 1 ≤ a → a + f ≤ n → Dsd k p a → GoodK n k (kas_desc f p a 0) (fun r => r.1 = p ∧ r.2.2 = 0 ∧ a ≤ r.2.1 ∧ r.2.1 ≤ a + f ∧ Dsd k p r.2.1)
  | 0, a, h1, h2, hs => ⟨rfl, rfl, Nat.le_refl _, Nat.le_refl _, hs⟩
  | f + 1, a, h1, h2, hs => by
    refine ⟨hp.lt (by omega), hp.lt (by omega), ?_⟩
    by_cases c : k (p.getD a 0) < k (p.getD (a - 1) 0)
    · simp only [c, decide_true, if_true, Nat.lt_irrefl, gt_iff_lt, if_false]
      refine GoodK.mono (fun r q => ?_) _ (desc_ok hp f (a + 1) (by omega) (by omega) (hs.succ h1 c))
      exact ⟨q.1, q.2.1, by omega, by omega, q.2.2.2.2⟩
    · simp only [c, decide_false, Bool.false_eq_true, if_false]
      have hne := hp.ne hk (i := a) (j := a - 1) (by omega) (by omega) (by omega)
      have hlt : k (p.getD (a - 1) 0) < k (p.getD a 0) := by unfold Vv at hne; omega
      refine ⟨hp.lt (by omega), hp.lt (by omega), ?_⟩
      simp only [hlt, decide_true, if_true]
      exact ⟨rfl, rfl, Nat.le_refl _, by show a ≤ a + (f + 1); omega, hs⟩
omit hk in
theorem rev_ok {p : Array Nat} (hp : Pm n p) {m : Nat} (hm : m ≤ n) (h : Dsd k p m) : Pm n (kas_rev p 0 m) ∧ Srd k (kas_rev p 0 m) m := by
  have hsz := hp.size
  have hv : ∀ i, i < m → Vv k (kas_rev p 0 m) i = Vv k p (m - 1 - i) := fun i hi => by
    unfold Vv kas_rev
    rw [Array.getD_eq_getD_getElem?, Array.getD_eq_getD_getElem?, getElem?_mirror_all (by omega), if_pos (by omega), Nat.zero_add]
  refine ⟨(Array.perm_iff_toList_perm.mp (mirror_perm _ _ _ _)).trans hp, fun i j hij hj => ?_⟩
  rw [hv i (by omega), hv j hj]
  exact h _ _ (by omega) (by omega)
theorem count_ok {p : Array Nat} (hn : 2 ≤ n) (hp : Pm n p) : GoodK n k (kas_count n p) (fun r => Pm n r.2 ∧ 1 ≤ r.1 ∧ r.1 ≤ n ∧ Srd k r.2 r.1) := by
  unfold kas_count
  refine GoodK.bind _ (GoodK.mono (fun m q => ?_) _ (asc_ok hk hp (n - 1) 1 (Nat.le_refl _) (by omega) (fun i j a b => by omega)))
  obtain ⟨h1, h2, h3, h4⟩ := q
  by_cases e : (m == n) = true
  · rw [if_pos e]; exact ⟨hp, h1, by omega, h3⟩
  rw [if_neg e]
  have hmn : m < n := by simp at e; omega
  by_cases e2 : m > 1
  · rw [if_pos e2]
    have hc : k (p.getD 0 0) < k (p.getD (m - 1) 0) := h3 0 (m - 1) (by omega) (by omega)
    refine ⟨hp.lt (by omega), hp.lt (by omega), ?_⟩
    simp only [hc, decide_true, if_true]
    exact ⟨hp, h1, by omega, h3⟩
  rw [if_neg e2]
  have hm1 : m = 1 := by omega
  subst hm1
  have hd : Dsd k p 2 := fun i j hij hj => by
    have hi0 : i = 0 := by omega
    have hj1 : j = 1 := by omega
    subst hi0; subst hj1; exact h4 (by omega)
  unfold kas_descPart
  refine GoodK.bind _ (GoodK.mono (fun r q => ?_) _ (desc_ok hk hp (n - (1 + 1)) (1 + 1) (by omega) (by omega) hd))
  obtain ⟨e1, e2, h5, h6, h7⟩ := q
  rw [e2, if_neg (by omega), e1]
  unfold kas_tail3
  obtain ⟨hp2, hs2⟩ := rev_ok (k := k) hp (m := r.2.1) (by omega) h7
  refine GoodK.bind _ (GoodK.mono (fun m q => ?_) _ (asc_ok hk hp2 (n - r.2.1) r.2.1 (by omega) (by omega) hs2))
  exact ⟨hp2, by omega, by omega, q.2.2.1⟩
theorem place_ok {p : Array Nat} (hp : Pm n p) {kk : Nat} (hkk : kk < n) (hs : Srd k p kk) : ∀ (f l r : Nat), l ≤ r → r ≤ kk → r - l ≤ f → (∀ i, i < l → Vv k p i < Vv k p kk) → (∀ i, r ≤ i → i < kk → Vv k p kk < Vv k p i) →
    GoodK n k (kas_place p kk f l r) (fun l' => l' ≤ kk ∧ (∀ i, i < l' → Vv k p i < Vv k p kk) ∧ (∀ i, l' ≤ i → i < kk → Vv k p kk < Vv k p i))
  | 0, l, r, h1, h2, h3, h4, h5 => ⟨by omega, h4, fun i a b => h5 i (by omega) b⟩
  | f + 1, l, r, h1, h2, h3, h4, h5 => by
    unfold kas_place
    by_cases e : l ≥ r
    · rw [if_pos e]; exact ⟨by omega, h4, fun i a b => h5 i (by omega) b⟩
    rw [if_neg e]
    refine ⟨hp.lt (by omega), hp.lt (by omega), ?_⟩
    by_cases c : k (p.getD kk 0) < k (p.getD ((l + r) / 2) 0)
    · simp only [c, decide_true, if_true]
      refine place_ok hp hkk hs f l ((l + r) / 2) (by omega) (by omega) (by omega) h4 (fun i a b => ?_)
      by_cases q : i = (l + r) / 2
      · rw [q]; exact c
      · have := hs ((l + r) / 2) i (by omega) b
        have c2 : Vv k p kk < Vv k p ((l + r) / 2) := c
        omega
    · simp only [c, decide_false, Bool.false_eq_true, if_false]
      have hne := hp.ne hk (i := kk) (j := (l + r) / 2) (by omega) (by omega) (by omega)
      have c2 : Vv k p ((l + r) / 2) < Vv k p kk := by unfold Vv at hne ⊢; omega
      refine place_ok hp hkk hs f ((l + r) / 2 + 1) r (by omega) h2 (by omega) (fun i a => ?_) h5
      by_cases q : i = (l + r) / 2
      · rw [q]; exact c2
      · have := hs i ((l + r) / 2) (by omega) (by omega)
        omega
theorem bin_ok : ∀ (f : Nat) (p : Array Nat) (kk : Nat), Pm n p → Srd k p kk → kk + f = n → GoodK n k (kas_bin f p kk) (fun q => Pm n q ∧ Srd k q n)
  | 0, p, kk, hp, hs, e => ⟨hp, by rw [← e]; exact hs⟩
  | f + 1, p, kk, hp, hs, e => by
    unfold kas_bin
    refine GoodK.bind _ (GoodK.mono (fun l q => ?_) _ (place_ok hk hp (kk := kk) (by omega) hs kk 0 kk (by omega) (by omega) (by omega) (fun i a => by omega) (fun i a b => by omega)))
    obtain ⟨h1, h2, h3⟩ := q
    have hsz := hp.size
    have hv : ∀ i, Vv k (bubble p kk (kk - l)) i = if i = l then Vv k p kk else if l < i ∧ i ≤ kk then Vv k p (i - 1) else Vv k p i := fun i => by
      unfold Vv
      rw [Array.getD_eq_getD_getElem?, getElem?_bubble (by omega) _ (by omega), show kk - (kk - l) = l from by omega]
      repeat' split
      all_goals rw [Array.getD_eq_getD_getElem?]
    refine bin_ok f _ (kk + 1) ((Array.perm_iff_toList_perm.mp (bubble_perm _ _ _)).trans hp) (fun i j hij hj => ?_) (by omega)
    rw [hv i, hv j]
    by_cases a1 : i = l
    · rw [if_pos a1, if_neg (by omega), if_pos (by omega)]
      exact h3 (j - 1) (by omega) (by omega)
    · rw [if_neg a1]
      by_cases a2 : l < i
      · rw [if_pos (by omega), if_neg (by omega), if_pos (by omega)]
        exact hs _ _ (by omega) (by omega)
      · rw [if_neg (by omega)]
        by_cases b1 : j = l
        · rw [if_pos b1]; exact h2 i (by omega)
        · rw [if_neg b1]
          by_cases b2 : l < j
          · rw [if_pos (by omega)]
            by_cases b3 : j - 1 = i
            · exfalso; omega
            · exact hs _ _ (by omega) (by omega)
          · rw [if_neg (by omega)]
            exact hs _ _ hij (by omega)
theorem sort_ok (hn : 2 ≤ n) : GoodK n k (kas_sort n) (fun q => Pm n q ∧ Srd k q n) := by
  unfold kas_sort
  refine GoodK.bind _ (GoodK.mono (fun r q => ?_) _ (count_ok hk hn (p := List.toArray (List.range n)) (List.Perm.refl _)))
  obtain ⟨h1, h2, h3, h4⟩ := q
  by_cases e : r.1 < n
  · rw [if_pos e, show max r.1 1 = r.1 from by omega]
    exact bin_ok hk _ _ _ h1 h4 (by omega)
  · rw [if_neg e]
    exact ⟨h1, by rw [show n = r.1 from by omega]; exact h4⟩
end
end Mine

open PySem PySem.W PySem.Calls PyProof.Rows
set_option Elab.async false
set_option linter.unusedVariables false
namespace Mine
/-! # regrouping -/
section
variable (n : Nat) (nm vl : Nat → List Nat)
def idx7 (a : List Nat) : List Nat := (List.range n).filter fun i => decide (lowL (nm i) = a)
def live7 (t i : Nat) : Bool := !(List.range t).any fun j => decide (lowL (nm j) = lowL (nm i))
def isL7 (t l : Nat) : Bool := !(List.range t).any fun j => decide (l < j ∧ lowL (nm j) = lowL (nm l))
def grp7 (l : Nat) : List Row := (idx7 n nm (lowL (nm l))).map fun i => (nm l, vl i)
def R7 (t : Nat) : List Row := ((List.range n).filter (live7 nm t)).map (fun i => (nm i, vl i)) ++ ((List.range t).filter (isL7 nm t)).flatMap (grp7 n nm vl)
variable {n nm vl}
theorem live_succ (t i : Nat) : live7 nm (t + 1) i = (live7 nm t i && !decide (lowL (nm i) = lowL (nm t))) := by
  unfold live7
  rw [List.range_succ, List.any_append]
  simp only [List.any_cons, List.any_nil, Bool.or_false, Bool.not_or]
  congr 2
  simp only [eq_comm]
theorem isL_succ {t l : Nat} (h : l < t) : isL7 nm (t + 1) l = (isL7 nm t l && !decide (lowL (nm l) = lowL (nm t))) := by
  unfold isL7
  rw [List.range_succ, List.any_append]
  simp only [List.any_cons, List.any_nil, Bool.or_false, Bool.not_or]
  congr 2
  rw [decide_eq_decide]
  constructor
  · intro q; exact q.2.symm
  · intro q; exact ⟨h, q.symm⟩
theorem isL_self (t : Nat) : isL7 nm (t + 1) t = true := by
  unfold isL7
  rw [Bool.not_eq_true', List.any_eq_false]
  intro j hj
  have := List.mem_range.mp hj
  simp only [decide_eq_true_eq]
  omega
theorem lasts_succ (t : Nat) : (List.range (t + 1)).filter (isL7 nm (t + 1)) = ((List.range t).filter (isL7 nm t)).filter (fun l => !decide (lowL (nm l) = lowL (nm t))) ++ [t] := by
  rw [List.range_succ, List.filter_append, List.filter_filter]
  congr 1
  · refine List.filter_congr fun l hl => ?_
    rw [isL_succ (List.mem_range.mp hl), Bool.and_comm]
  · rw [List.filter_cons_of_pos (isL_self t)]; rfl
theorem one_last (a : List Nat) : ∀ t : Nat, (∃ l, l < t ∧ lowL (nm l) = a ∧ ((List.range t).filter (isL7 nm t)).filter (fun l => decide (lowL (nm l) = a)) = [l]) ∨ ((∀ l, l < t → lowL (nm l) ≠ a) ∧ ((List.range t).filter (isL7 nm t)).filter (fun l => decide (lowL (nm l) = a)) = [])
  | 0 => .inr ⟨fun l h => by omega, rfl⟩
  | t + 1 => by
    rw [lasts_succ, List.filter_append]
    by_cases h : lowL (nm t) = a
    · refine .inl ⟨t, by omega, h, ?_⟩
      rw [List.filter_filter, List.filter_eq_nil_iff.mpr (fun l _ => by simp [h]), List.nil_append, List.filter_cons_of_pos (by simpa using h)]
      rfl
    · have e1 : [t].filter (fun l => decide (lowL (nm l) = a)) = [] := by rw [List.filter_cons_of_neg (by simpa using h)]; rfl
      have e2 : (((List.range t).filter (isL7 nm t)).filter (fun l => !decide (lowL (nm l) = lowL (nm t)))).filter (fun l => decide (lowL (nm l) = a)) = ((List.range t).filter (isL7 nm t)).filter (fun l => decide (lowL (nm l) = a)) := by
        rw [List.filter_filter]
        refine List.filter_congr fun l _ => ?_
        by_cases q : lowL (nm l) = a
        · simp [q]; exact fun z => h z.symm
        · simp [q]
      rw [e1, e2, List.append_nil]
      rcases one_last a t with ⟨l, h1, h2, h3⟩ | ⟨h1, h2⟩
      · exact .inl ⟨l, by omega, h2, h3⟩
      · refine .inr ⟨fun l hl => ?_, h2⟩
        by_cases q : l = t
        · rw [q]; exact h
        · exact h1 l (by omega)
theorem filter_flatMap7 {α β : Type} (p : β → Bool) (f : α → List β) (l : List α) : (l.flatMap f).filter p = l.flatMap fun a => (f a).filter p := by
  induction l with
  | nil => rfl
  | cons a r ih => rw [List.flatMap_cons, List.filter_append, ih, List.flatMap_cons]
theorem flatMap_if7 {α β : Type} (q : α → Bool) (f : α → List β) (l : List α) : (l.flatMap fun a => if q a = true then f a else []) = (l.filter q).flatMap f := by
  induction l with
  | nil => rfl
  | cons a r ih =>
    rw [List.flatMap_cons, ih]
    cases h : q a with
    | true => rw [List.filter_cons_of_pos h, List.flatMap_cons, if_pos rfl]
    | false => rw [List.filter_cons_of_neg (by rw [h]; exact Bool.false_ne_true), if_neg Bool.false_ne_true, List.nil_append]
theorem grp_filter (q : List Nat → Bool) (l : Nat) : (grp7 n nm vl l).filter (fun x => q x.1) = if q (nm l) = true then grp7 n nm vl l else [] := by
  unfold grp7
  rw [List.filter_map]
  by_cases h : q (nm l) = true
  · rw [if_pos h]
    congr 1
    exact List.filter_eq_self.mpr (fun i _ => h)
  · rw [if_neg h, List.map_eq_nil_iff]
    exact List.filter_eq_nil_iff.mpr (fun i _ => h)
theorem step7 {t : Nat} : delR (R7 n nm vl t) (nm t) ++ (allR (R7 n nm vl t) (nm t)).map (fun v => (nm t, v)) = R7 n nm vl (t + 1) := by
  have hdel : delR (R7 n nm vl t) (nm t) = ((List.range n).filter (live7 nm (t + 1))).map (fun i => (nm i, vl i)) ++ (((List.range t).filter (isL7 nm t)).filter (fun l => !decide (lowL (nm l) = lowL (nm t)))).flatMap (grp7 n nm vl) := by
    unfold delR R7
    rw [List.filter_append, List.filter_map, List.filter_filter, filter_flatMap7]
    congr 1
    · congr 1
      refine List.filter_congr fun i _ => ?_
      rw [live_succ, Bool.and_comm]; rfl
    · rw [← flatMap_if7 (fun l => !decide (lowL (nm l) = lowL (nm t)))]
      congr 1
      funext l
      rw [grp_filter (fun x => !eqN x (nm t))]
      rfl
  have hall : allR (R7 n nm vl t) (nm t) = (idx7 n nm (lowL (nm t))).map vl := by
    unfold allR R7
    rw [List.filter_append, List.filter_map, List.filter_filter, filter_flatMap7]
    have e2 : (((List.range t).filter (isL7 nm t)).flatMap fun a => (grp7 n nm vl a).filter fun x => eqN x.1 (nm t)) = (((List.range t).filter (isL7 nm t)).filter fun l => decide (lowL (nm l) = lowL (nm t))).flatMap (grp7 n nm vl) := by
      rw [← flatMap_if7 (fun l => decide (lowL (nm l) = lowL (nm t)))]
      congr 1
      funext l
      rw [grp_filter (fun x => eqN x (nm t))]
      rfl
    rw [e2]
    rcases one_last (nm := nm) (lowL (nm t)) t with ⟨l, h1, h2, h3⟩ | ⟨h1, h2⟩
    · rw [h3]
      have e3 : (List.range n).filter (fun a => ((fun x : Row => eqN x.1 (nm t)) ∘ fun i => (nm i, vl i)) a && live7 nm t a) = [] := by
        refine List.filter_eq_nil_iff.mpr fun i _ => ?_
        simp only [Function.comp, eqN, live7, Bool.and_eq_true, decide_eq_true_eq, Bool.not_eq_true', List.any_eq_false, List.mem_range, not_and]
        intro q z
        exact z l h1 (h2.trans q.symm)
      rw [e3]
      simp only [List.map_nil, List.nil_append, List.flatMap_cons, List.flatMap_nil, List.append_nil]
      unfold grp7
      rw [h2, List.map_map]
      rfl
    · rw [h2]
      have e3 : (List.range n).filter (fun a => ((fun x : Row => eqN x.1 (nm t)) ∘ fun i => (nm i, vl i)) a && live7 nm t a) = idx7 n nm (lowL (nm t)) := by
        refine List.filter_congr fun i _ => ?_
        simp only [Function.comp, eqN, live7]
        by_cases q : lowL (nm i) = lowL (nm t)
        · have : ((List.range t).any fun j => decide (lowL (nm j) = lowL (nm i))) = false := by
            rw [List.any_eq_false]
            intro j hj
            have := h1 j (List.mem_range.mp hj)
            simp only [decide_eq_true_eq]
            rw [q]; exact this
          rw [this]; simp [q]
        · simp [q]
      rw [e3]
      simp only [List.flatMap_nil, List.append_nil]
      rw [List.map_map]
      rfl
  rw [hdel, hall]
  unfold R7
  rw [lasts_succ, List.flatMap_append, List.append_assoc]
  congr 2
  simp only [List.flatMap_cons, List.flatMap_nil, List.append_nil]
  unfold grp7
  rw [List.map_map]
  rfl
theorem R7_zero : R7 n nm vl 0 = fl n fun i => (nm i, vl i) := by
  unfold R7 fl
  have e : (List.range n).filter (live7 nm 0) = List.range n := List.filter_eq_self.mpr (fun i _ => rfl)
  rw [e]
  simp
theorem R7_end : R7 n nm vl n = ((List.range n).filter (isL7 nm n)).flatMap (grp7 n nm vl) := by
  unfold R7
  rw [List.filter_eq_nil_iff.mpr (fun i hi => ?_)]
  · rfl
  · unfold live7
    simp only [Bool.not_eq_true', Bool.not_eq_false]
    rw [List.any_eq_true]
    exact ⟨i, hi, by simp⟩
theorem flatMap_congr7 {α β : Type} {l : List α} {f g : α → List β} (h : ∀ a ∈ l, f a = g a) : l.flatMap f = l.flatMap g := by
  induction l with
  | nil => rfl
  | cons a r ih => rw [List.flatMap_cons, List.flatMap_cons, h a (by simp), ih fun b hb => h b (by simp [hb])]
/-- the last place of a name -/
def LastOf (n : Nat) (nm : Nat → List Nat) (la : Nat → Nat) : Prop := ∀ i, i < n → la i < n ∧ lowL (nm (la i)) = lowL (nm i) ∧ ∀ j, j < n → lowL (nm j) = lowL (nm i) → j ≤ la i
theorem LastOf.isL {la : Nat → Nat} (h : LastOf n nm la) {i : Nat} (hi : i < n) : isL7 nm n (la i) = true := by
  unfold isL7
  rw [Bool.not_eq_true', List.any_eq_false]
  intro j hj
  simp only [decide_eq_true_eq]
  rintro ⟨h1, h2⟩
  have := (h i hi).2.2 j (List.mem_range.mp hj) (h2.trans (h i hi).2.1)
  omega
theorem LastOf.eq {la : Nat → Nat} (h : LastOf n nm la) {i l : Nat} (hi : i < n) (hl : l < n) (e : lowL (nm i) = lowL (nm l)) (hL : isL7 nm n l = true) : la i = l := by
  obtain ⟨h1, h2, h3⟩ := h i hi
  have h4 := h3 l hl e.symm
  unfold isL7 at hL
  rw [Bool.not_eq_true', List.any_eq_false] at hL
  have := hL (la i) (List.mem_range.mpr h1)
  simp only [decide_eq_true_eq, not_and] at this
  have h5 : ¬ l < la i := fun q => this q (h2.trans e)
  omega
theorem sorted_uniq {k : Nat → Int} : ∀ {a b : List Nat}, a.Pairwise (fun x y => k x < k y) → b.Pairwise (fun x y => k x < k y) → (∀ x, x ∈ a ↔ x ∈ b) → a = b
  | [], [], _, _, _ => rfl
  | [], y :: b, _, _, h => absurd ((h y).mpr (by simp)) (by simp)
  | x :: a, [], _, _, h => absurd ((h x).mp (by simp)) (by simp)
  | x :: a, y :: b, h1, h2, h => by
    obtain ⟨p1, p2⟩ := List.pairwise_cons.mp h1
    obtain ⟨q1, q2⟩ := List.pairwise_cons.mp h2
    have e : x = y := by
      rcases List.mem_cons.mp ((h x).mp (by simp)) with e | e
      · exact e
      rcases List.mem_cons.mp ((h y).mpr (by simp)) with e2 | e2
      · exact e2.symm
      have := q1 x e
      have := p1 y e2
      omega
    subst e
    congr 1
    refine sorted_uniq p2 q2 fun z => ?_
    have := h z
    constructor
    · intro hz
      rcases List.mem_cons.mp (this.mp (List.mem_cons_of_mem _ hz)) with e | e
      · subst e; have := p1 z hz; omega
      · exact e
    · intro hz
      rcases List.mem_cons.mp (this.mpr (List.mem_cons_of_mem _ hz)) with e | e
      · subst e; have := q1 z hz; omega
      · exact e
theorem end7 {la : Nat → Nat} (h : LastOf n nm la) (hn : n ≤ 64) {p : Array Nat} (hp : Pm n p) (hs : Srd (fun i => 64 * (la i : Int) + i) p n) : p.toList.map (fun i => (nm (la i), vl i)) = R7 n nm vl n := by
  have e : p.toList = ((List.range n).filter (isL7 nm n)).flatMap (fun l => idx7 n nm (lowL (nm l))) := by
    refine sorted_uniq (k := fun i => 64 * (la i : Int) + i) ?_ ?_ ?_
    · rw [List.pairwise_iff_getElem]
      intro i j hi hj hij
      have hsz := hp.size
      have h1 := hs i j hij (by simpa [hsz] using hj)
      unfold Vv at h1
      have g : ∀ i (hi : i < p.toList.length), p.getD i 0 = p.toList[i] := fun i hi => by
        rw [Array.getD_eq_getD_getElem?, Array.getElem?_eq_getElem (by simpa using hi)]; simp
      rw [g i hi, g j hj] at h1
      exact h1
    · rw [List.pairwise_flatMap]
      refine ⟨fun l hl => ?_, ?_⟩
      · obtain ⟨hl1, hl2⟩ := List.mem_filter.mp hl
        unfold idx7
        refine (List.Pairwise.filter (R := fun x y => x < y) _ List.pairwise_lt_range).imp_of_mem ?_
        · intro x y hx hy hxy
          obtain ⟨hx1, hx2⟩ := List.mem_filter.mp hx
          obtain ⟨hy1, hy2⟩ := List.mem_filter.mp hy
          rw [h.eq (List.mem_range.mp hx1) (List.mem_range.mp hl1) (by simpa using hx2) hl2, h.eq (List.mem_range.mp hy1) (List.mem_range.mp hl1) (by simpa using hy2) hl2]
          omega
      · refine (List.Pairwise.filter (R := fun x y => x < y) _ List.pairwise_lt_range).imp_of_mem ?_
        · intro l1 l2 hl1 hl2 hlt x hx y hy
          obtain ⟨hl11, hl12⟩ := List.mem_filter.mp hl1
          obtain ⟨hl21, hl22⟩ := List.mem_filter.mp hl2
          obtain ⟨hx1, hx2⟩ := List.mem_filter.mp hx
          obtain ⟨hy1, hy2⟩ := List.mem_filter.mp hy
          rw [h.eq (List.mem_range.mp hx1) (List.mem_range.mp hl11) (by simpa using hx2) hl12, h.eq (List.mem_range.mp hy1) (List.mem_range.mp hl21) (by simpa using hy2) hl22]
          have := List.mem_range.mp hx1
          omega
    · intro x
      rw [hp.mem_iff, List.mem_range, List.mem_flatMap]
      constructor
      · intro hx
        obtain ⟨h1, h2, _⟩ := h x hx
        exact ⟨la x, List.mem_filter.mpr ⟨List.mem_range.mpr h1, h.isL hx⟩, List.mem_filter.mpr ⟨List.mem_range.mpr hx, by simpa using h2.symm⟩⟩
      · rintro ⟨l, _, hx⟩
        exact List.mem_range.mp (List.mem_filter.mp hx).1
  rw [e, R7_end, List.map_flatMap]
  refine flatMap_congr7 fun l hl => ?_
  obtain ⟨hl1, hl2⟩ := List.mem_filter.mp hl
  unfold grp7
  refine List.map_congr_left fun i hi => ?_
  obtain ⟨hi1, hi2⟩ := List.mem_filter.mp hi
  rw [h.eq (List.mem_range.mp hi1) (List.mem_range.mp hl1) (by simpa using hi2) hl2]
end
end Mine

open PySem PySem.W PySem.Calls PyProof.Rows
set_option Elab.async false
set_option linter.unusedVariables false
set_option maxRecDepth 100000
namespace Mine
section
variable {c : Cx} {n : Nat} {sc : Scope} {m : Lm} {mu : Mu}
theorem EvE.free {x : Str} {pos : Pos} {d : PV} {P : PV → Mu → Prop} (hl : m.lookup x = some d) (hk : sc.names.lookup x = some .free) (h : P d mu) (hd : (x == ("__debug__" : Str)) = false := by decide) (hn : (x == ("__classdict__" : Str)) = false := by decide) :
    EvE c n sc m mu (.Name x pos) P := by
  intro env A s he hA ht S F
  have hk' : env.kindOf x = some .free := by unfold Env.kindOf; rw [he]; exact hk
  obtain ⟨ca, v, hc, hi, hv⟩ := F.cel x d hl (.inr hk')
  exact wpAny_Name (wpAny_loadName_free F.fn hk' hc hi (Post.pure0 S h hv) hn) hd
/-- a lambda is made: the table of the code grows -/
theorem lam_eval {cd P : Addr} {params : Arguments} {body : PySem.Expr} {lsc : Scope} {pos : Pos} {env : Env} {A : Around} {s : Shared} {cl : List (Str × Addr)} {Q : Value → Shared → Prop}
    (hcl : closureFor lsc env = pure cl) (hdef : defaultsOf params env = ([], [])) (hcode : env.code = .ref cd) (C : CodeHd c.base cd P) (hB : c.base.BuiltinsAt c.mg P) (hgP : mainGlobals ≠ P)
    (ht : 0 < s.toks) (S : St c mu s.heap) (F : Fm c mu s.heap env m) (hP : mu P = some (.obj (tabObj #[])))
    (h : ∀ fa c' ctv more s', mu fa = none → Step c noT mu s (upd (upd mu P (.obj (tabObj more))) fa (.obj (kla_obj "<lambda>" (env.qual ++ "<lambda>") params body lsc cl ((c.mg "__name__").getD .none) c' ctv))) s' → s'.heap.CodeRec (.ref c') (env.qual ++ "<lambda>") → c' ≠ fa → c' ≠ P → s.heap.get? c' = none → fa ≠ P → s.toks ≤ s'.toks → Q (.ref fa) s') :
    wpAny c.M A (eval (.Lambda params body lsc pos) env) Q NoE s := by
  refine wpAny_mono (wpAny_toks (kla_eval hdef (kla_makeFunction (Q := fun v s' => s.toks ≤ s'.toks → Q v s') hcl F.gl (c.g.keeps S.base) hcode (C.keeps S.base) (S.objs P _ hP).1 trivial rfl hgP (hB.keeps S.base) fun c' ctv h' tk hx hge hlt hrec hP' htk => ?_))) (fun v s' p => p.2 p.1) fun _ _ x => x.2
  have hPn : c.base.get? P = none := S.new P (by rw [hP]; simp)
  have hPlt : P < s.heap.objs.size := Heap.lt_size (S.objs P _ hP).1
  have hsz : s.heap.objs.size ≤ h'.objs.size := Nat.le_of_lt (Nat.lt_of_le_of_lt hge hlt)
  have hfaP : h'.objs.size ≠ P := fun q => by rw [q] at hsz; exact absurd hPlt (Nat.not_lt.mpr hsz)
  have hfm : mu h'.objs.size = none := S.off hsz
  obtain ⟨fo, hfo⟩ : ∃ fo, kla_obj "<lambda>" (env.qual ++ "<lambda>") params body lsc cl ((c.mg "__name__").getD .none) c' ctv = fo := ⟨_, rfl⟩
  have hfoT : ¬ IsT fo := by rw [← hfo]; simp [IsT]
  have hfl : (h'.push fo).get? h'.objs.size = some fo := Heap.get?_push_size _ (by rw [← hfo]; rfl)
  have hk : ∀ b o, b ≠ P → s.heap.get? b = some o → (h'.push fo).get? b = some o := fun b o hb e => Heap.get?_push_of_some _ (hx b o hb e)
  have tkk : TK s.heap (h'.push fo) := fun b o e hT => hk b o (fun q => by subst q; rw [(S.objs b _ hP).1] at e; cases e; simp [IsT, tabObj] at hT) e
  refine h h'.objs.size c' ctv (#[] ++ #[rawInt pos.line, rawInt pos.col, .ref c']) _ hfm ?_ (hrec.keeps fun b o e => Heap.get?_push_of_some _ e) (Nat.ne_of_lt hlt) (fun q => by rw [q] at hge; exact absurd hPlt (Nat.not_lt.mpr hge)) (get_none hge) hfaP htk
  rw [hfo]
  exact {
    shape := ⟨_, _, rfl⟩
    st := ⟨fun b o e => hk b o (fun q => by rw [q, hPn] at e; cases e) (S.base b o e), fun a o e => by
        by_cases q : a = h'.objs.size
        · subst q; rw [upd_same] at e; cases e; exact ⟨hfl, hfoT⟩
        · rw [upd_ne _ _ q] at e
          by_cases q2 : a = P
          · subst q2; rw [upd_same] at e; cases e; exact ⟨Heap.get?_push_of_some _ hP', by simp [IsT, tabObj]⟩
          · rw [upd_ne _ _ q2] at e; exact (S.objs a o e).mono (fun o' z => hk a o' q2 z) tkk,
      fun a ha => by
        by_cases q : a = h'.objs.size
        · subst q; exact S.baseNone hsz
        · rw [upd_ne _ _ q] at ha
          by_cases q2 : a = P
          · subst q2; exact hPn
          · rw [upd_ne _ _ q2] at ha; exact S.new a ha⟩
    keep := fun b o e hm _ => hk b o (fun q => by rw [q, hP] at hm; cases hm) e
    alive := fun b o e hm => ⟨o, hk b o (fun q => by rw [q, hP] at hm; cases hm) e⟩
    dom := fun b hb => by
      by_cases q : b = h'.objs.size
      · subst q; exact .inr (get_none hsz)
      · rw [upd_ne _ _ q] at hb
        by_cases q2 : b = P
        · subst q2; exact .inl (by rw [hP]; simp)
        · rw [upd_ne _ _ q2] at hb; exact .inl hb }
/-- a lambda is called -/
theorem lam_call {fa c' : Addr} {name qual : Str} {params : Arguments} {body : PySem.Expr} {lsc : Scope} {cl : List (Str × Addr)} {pm ctv : Value} {x : Str} {d : PV} {v : Value} {env : Env} {A : Around} {s : Shared} {P : PV → Mu → Prop}
    (he : env.scope = sc) (hcl : ∀ x ca, cl.lookup x = some ca → env.cells.lookup x = some ca) (hcl2 : ∀ x ∈ lsc.names, x.2 = .free → (cl.lookup x.1).isSome = true)
    (hfk : ∀ p ∈ lsc.names, p.2 = .free → sc.names.lookup p.1 = some .cell) (hkf : lsc.kind = .function) (hco : lsc.isCoroutine = false) (hgen : lsc.isGenerator = false) (hnc : ∀ p ∈ lsc.names, p.2 ≠ .cell) (hx : lsc.names.lookup x = some .local)
    (hbind : bindArgs (kla_fn name qual params body lsc cl pm (.ref c') ctv) ⟨[v], []⟩ = pure [(x, v)])
    (hobj : s.heap.get? fa = some (kla_obj name qual params body lsc cl pm c' ctv)) (hrec : s.heap.CodeRec (.ref c') qual)
    (hA : AOk (n + 1) A) (ht : 0 < s.toks) (S : St c mu s.heap) (F : Fm c mu s.heap env m) (r : Rep s.heap d v)
    (hb : EvE c n lsc ((x, d) :: capt lsc m) mu body P) :
    wpAny c.M A (call (.ref fa) [v]) (Post c mu s P) NoE s := by
  refine wpAny_call (kla_callFunE hA.room hobj rfl hco hgen rfl hrec ?_)
  rw [hbind]
  refine wpAny_pure (wpAny_newFunctionEnv hnc (fun y hy => by rw [List.mem_singleton.mp hy]; exact hx) (fun h1 hns hsb => ⟨?_, ?_⟩) hkf)
  · exact c.nolim.keeps fun b o e => hsb.extBut b o (Nat.ne_of_lt (Heap.lt_size (S.base b o e))) (Heap.get?_push_of_some _ (S.base b o e))
  have keep : ∀ b o, s.heap.get? b = some o → h1.get? b = some o := fun b o e => hsb.extBut b o (Nat.ne_of_lt (Heap.lt_size e)) (Heap.get?_push_of_some _ e)
  have tkk : TK s.heap h1 := fun b o e _ => keep b o e
  have S1 : St c mu h1 := ⟨fun b o e => keep b o (S.base b o e), fun a o e => (S.objs a o e).mono (fun o' q => keep a o' q) tkk, S.new⟩
  have x0 : Step c noT mu s mu { s with heap := h1, toks := s.toks + 1 } := ⟨⟨_, _, rfl⟩, S1, fun b o e _ _ => keep b o e, fun b o e _ => ⟨o, keep b o e⟩, fun b hb => .inl hb⟩
  have hLm : mu s.heap.objs.size = none := S.off (Nat.le_refl _)
  refine kla_codeExpr ?_
  generalize hle : newEnv lsc s.heap.objs.size mainGlobals cl (qual ++ ".<locals>.") (some fa) (.ref c') none builtinsNs = lenv
  have e1 : lenv.scope = lsc := by rw [← hle]; rfl
  have e2 : lenv.locals = s.heap.objs.size := by rw [← hle]; rfl
  have e3 : lenv.cells = cl := by rw [← hle]; rfl
  have kind : ∀ y, lenv.kindOf y = lsc.names.lookup y := fun y => by unfold Env.kindOf; rw [e1]
  have F1 : Fm c mu h1 lenv ((x, d) :: capt lsc m) := {
    fn := by rw [e1]; exact hkf
    gl := by rw [← hle]; rfl
    bu := by rw [← hle]; rfl
    loc := ⟨_, e2 ▸ hns, fun y pv e hk => by
      rw [List.lookup_cons] at e
      cases q : y == x with
      | true =>
        rw [q] at e; cases e
        refine ⟨v, ?_, r.mono tkk⟩
        simp [beq_iff_eq.mp q]
      | false =>
        rw [q] at e
        obtain ⟨hf, _⟩ := lookup_capt e
        rw [kind, hf] at hk; cases hk⟩
    cel := fun y pv e hk => by
      rw [List.lookup_cons] at e
      cases q : y == x with
      | true => rw [kind, beq_iff_eq.mp q, hx] at hk; rcases hk with z | z <;> cases z
      | false =>
        rw [q] at e
        obtain ⟨hf, hm⟩ := lookup_capt e
        have hkx : env.kindOf y = some .cell := by unfold Env.kindOf; rw [he]; exact hfk (y, .free) (mem_of_lookup hf) rfl
        obtain ⟨ca, w, q1, ⟨o, q2, q3⟩, q4⟩ := F.cel y pv hm (.inl hkx)
        obtain ⟨ca', q5⟩ := Option.isSome_iff_exists.mp (hcl2 (y, .free) (mem_of_lookup hf) rfl)
        have := hcl y ca' q5
        rw [q1] at this; cases this
        exact ⟨ca, w, by rw [e3]; exact q5, ⟨o, keep ca o q2, q3⟩, q4.mono tkk⟩
    has := fun y hk => by rw [kind] at hk; exact absurd rfl (hnc (y, .cell) (mem_of_lookup hk))
    cells := fun y ca e => by
      rw [e3] at e
      obtain ⟨w, o, q2, q3⟩ := F.cells y ca (hcl y ca e)
      exact ⟨w, o, keep ca o q2, q3⟩
    offL := by rw [e2]; exact hLm
    offC := fun y ca e => by
      rw [e3] at e
      obtain ⟨a1, a2, a3⟩ := F.offC y ca (hcl y ca e)
      refine ⟨a1, fun q => ?_, a3⟩
      obtain ⟨w, o, q2, q3⟩ := F.cells y ca (hcl y ca e)
      rw [q, e2] at q2
      exact absurd (Heap.lt_size q2) (Nat.lt_irrefl _)
    apart := fun y z ca h1 h2 => by rw [e3] at h1 h2; exact F.apart y z ca (hcl y ca h1) (hcl z ca h2)
    notB := by rw [e2]; exact S.baseNone (Nat.le_refl _) }
  refine wpAny_mono (hb lenv (A.deeper lenv) _ e1 (hA.deeper lenv) (Nat.succ_pos _) S1 F1) (fun w s' p => ?_) fun _ _ x => x.elim
  exact p.after x0
end
end Mine

open PySem PySem.W PySem.Calls PyProof.Rows
set_option Elab.async false
set_option linter.unusedVariables false
set_option maxRecDepth 100000
namespace Mine
section
variable {c : Cx} {n : Nat} {sc : Scope} {m : Lm} {mu : Mu}
/-- two keys are compared -/
theorem key_lt {A : Around} {s : Shared} {a b a' b' : Int} {x y : Value} {C : Bool → Shared → Prop} {E : Value → Shared → Prop} (hx : Rep s.heap (.tuple [.int a, .int b]) x) (hy : Rep s.heap (.tuple [.int a', .int b']) y)
    (h : C (decide (a < a' ∨ (a = a' ∧ b < b'))) s) : wpAny c.M A (keyLt' (tuples' true) x y) C E s := by
  cases hx with | tuple ex rx =>
  cases hy with | tuple ey ry =>
  cases rx with | cons r0 rx =>
  cases rx with | cons r1 rx =>
  cases rx; cases r0; cases r1
  cases ry with | cons r0 ry =>
  cases ry with | cons r1 ry =>
  cases ry; cases r0; cases r1
  refine kat_lt ex rfl ey rfl ?_
  refine kat_cons (wpAny_eqBool_int (kat_go (fun e => kat_yes (kat_cons (wpAny_eqBool_int (kat_go (fun e2 => kat_yes (kat_nil ?_)) (fun e2 => kat_no ?_))))) (fun e => kat_no ?_)))
  · have h1 : a = a' := by simpa using e
    have h2 : b = b' := by simpa using e2
    rw [show decide (a < a' ∨ (a = a' ∧ b < b')) = false from by simp; omega] at h
    exact h
  · have h1 : a = a' := by simpa using e
    show wpAny _ _ (oneLt' false _ _) _ _ _
    refine kat_one _ _ (PySem.P.lt_int ?_)
    rw [show decide (a < a' ∨ (a = a' ∧ b < b')) = decide (b < b') from by simp [h1]] at h
    exact h
  · have h1 : a ≠ a' := by simpa using e
    show wpAny _ _ (oneLt' true _ _) _ _ _
    refine oneLt_int ?_
    rw [show decide (a < a' ∨ (a = a' ∧ b < b')) = decide (a < a') from by simp [h1]] at h
    exact h
theorem collect_range {A : Around} {E : Value → Shared → Prop} {s : Shared} {Q : List Value → Shared → Prop} {r : Addr} {a b st : Int} {t u v : Tok} {k : Nat} (hh : A.handled = none) (hr : IsRange s.heap r a b st t u v) (hsmall : Builtin.Range.small a b st = true)
    (hn : Builtin.Range.rangeSize a b st = k) (hlen : k ≤ 2 ^ 24)
    (hQ : ∀ h' tk acc, (∀ b o, s.heap.get? b = some o → h'.get? b = some o) → ItemsOf (fun i v => ∃ t, v = .int (a + i * st) t) acc k → Q acc.toList { s with heap := h', toks := tk }) :
    wpAny c.M A (collect (.ref r)) Q E s := by
  have key : ∀ R : Result → Shared → Prop, (∀ h' tk acc c', (∀ b o, s.heap.get? b = some o → h'.get? b = some o) → h'.get? s.heap.objs.size = some { cls := .type "list", dict := none, data := .seq acc c', slots := #[] } →
      ItemsOf (fun i v => ∃ t, v = .int (a + i * st) t) acc k → R (.ok (.ret (.ref s.heap.objs.size))) { s with heap := h', toks := tk }) → codeAny c.M A (.builtin "proto.collect" ⟨[.ref r], []⟩) R s := fun R hR => by
    refine codeAny_builtin PySem.F.entry_proto_collect ?_
    rw [Around.under_plainId PySem.F.plain_proto_collect _]
    show wpAny _ A.in1 (newList [] >>= fun l => again (.builtin "list.__iadd__" ⟨[l, .ref r], []⟩)) _ _ s
    refine wpAny_bind (wpAny_newObj_type ?_)
    refine wpAny_pure ⟨plainId_quiet PySem.F.plain_list_iadd _, codeAny_builtin PySem.F.entry_list_iadd ?_⟩
    rw [Around.under_plainId PySem.F.plain_list_iadd _]
    show wpAny _ A.in1 (Builtin.List.listExtendWith (.ref s.heap.objs.size) (.ref r) (.ref s.heap.objs.size)) _ _ _
    exact wpAny_extend_range (R := R) (s := { s with heap := s.heap.push { cls := .type "list", data := .seq #[] } }) hh (Heap.get?_push_of_some _ hr) hsmall hn hlen s.heap.objs.size _ 0 (Heap.get?_push_size _ rfl) fun h' tk acc' c' hk hS' hacc =>
      hR h' tk acc' c' (fun b o e => hk b o (Nat.ne_of_lt (Heap.lt_size e)) (Heap.get?_push_of_some _ e)) hS' hacc
  unfold collect
  refine wpAny_bind (wpAny_runValue (key _ fun h' tk acc c' hk hS' hacc => ?_))
  show wpAny _ A (load s.heap.objs.size >>= _) _ _ _
  refine wpAny_bind (wpAny_load hS' ?_)
  exact wpAny_pure (hQ h' tk acc hk hacc)
/-! # snapshots -/
def snapB (h : Heap) (L k : Addr) : List (Addr × Obj) := (List.range h.objs.size).filterMap fun a => if a = L ∨ a = k then none else (h.get? a).map fun o => (a, o)
theorem mem_snapB {h : Heap} {L k : Addr} {p : Addr × Obj} : p ∈ snapB h L k ↔ p.1 ≠ L ∧ p.1 ≠ k ∧ h.get? p.1 = some p.2 := by
  unfold snapB
  rw [List.mem_filterMap]
  constructor
  · rintro ⟨a, _, q⟩
    split at q
    · cases q
    · rename_i hn
      obtain ⟨o, e, rfl⟩ := Option.map_eq_some_iff.mp q
      exact ⟨fun z => hn (.inl z), fun z => hn (.inr z), e⟩
  · rintro ⟨h1, h2, h3⟩
    refine ⟨p.1, List.mem_range.mpr (Heap.lt_size h3), ?_⟩
    rw [if_neg (by simp [h1, h2]), h3]; rfl
def emptyH : Heap := { objs := #[] }
theorem emptyH_get (a : Addr) : emptyH.get? a = none := get_none (Nat.zero_le _)
theorem Fr.top {h : Heap} {L : Addr} {mc : Str → Option Value} (hn : h.Ns L mc) : Fr emptyH L h mc := ⟨hn, fun b o e => by (rw [emptyH_get] at e; cases e), Nat.zero_le _⟩
theorem News.top {h : Heap} {L k : Addr} {o : Obj} (hk : h.get? k = some o) (hkL : k ≠ L) : News emptyH L h ((k, o) :: snapB h L k) := fun p hp => by
  rcases List.mem_cons.mp hp with rfl | hp
  · exact ⟨hk, hkL, emptyH_get _⟩
  · have := mem_snapB.mp hp; exact ⟨this.2.2, this.1, emptyH_get _⟩
theorem UpdF.top {h : Heap} {L k : Addr} {o : Obj} : UpdF k o ((k, o) :: snapB h L k) (fun o' => (k, o') :: snapB h L k) := .head fun p hp => (mem_snapB.mp hp).2.1
theorem News.keep {h h' : Heap} {L k : Addr} {o' : Obj} (N : News emptyH L h' ((k, o') :: snapB h L k)) : h'.get? k = some o' ∧ ∀ b o, b ≠ L → b ≠ k → h.get? b = some o → h'.get? b = some o :=
  ⟨(N _ (List.mem_cons_self ..)).1, fun b o h1 h2 e => (N (b, o) (List.mem_cons_of_mem _ (mem_snapB.mpr ⟨h1, h2, e⟩))).1⟩
/-! # the sort -/
structure Kin (c : Cx) (mu : Mu) (m : Lm) (env : Env) (mc : Str → Option Value) (kS D : Addr) (e1 : Nat) (la : Nat → Nat) (s0 : Shared) (ks : List Value) (e : Nat) (s1 : Shared) : Prop where
  step : Step c (Tch env) mu s0 mu s1
  fm : Fm c mu s1.heap env m
  ns : s1.heap.Ns env.locals mc
  oS : s1.heap.get? kS = some (seqObj "list" ks.toArray e)
  oD : s1.heap.get? D = some (seqObj "list" #[] e1)
  keys : ∀ j k, ks[j]? = some k → Rep s1.heap (.tuple [.int (la j : Nat), .int (j : Nat)]) k
  toks : 0 < s1.toks
/-- private lists of the sort: off everything -/
structure Priv (c : Cx) (mu : Mu) (env : Env) (s0 : Shared) (k : Addr) : Prop where
  new : s0.heap.get? k = none
  mu : mu k = none
  base : c.base.get? k = none
  loc : k ≠ env.locals
  cel : ∀ x, env.cells.lookup x ≠ some k
/-- the heap changed at a private place (and, as a namespace, at the names) -/
theorem Kin.turn {env : Env} {mc : Str → Option Value} {s0 s1 : Shared} {h' : Heap} {k : Addr} {o0 : Obj} (hmc : ∀ x pv, m.lookup x = some pv → env.kindOf x = some .local → ∃ v, mc x = some v ∧ Rep s1.heap pv v) (p : Priv c mu env s0 k) (x : Step c (Tch env) mu s0 mu s1) (F : Fm c mu s1.heap env m)
    (ho : s1.heap.get? k = some o0) (hoT : ¬ IsT o0) (hn : h'.Ns env.locals mc) (hk : ∀ b o, b ≠ env.locals → b ≠ k → s1.heap.get? b = some o → h'.get? b = some o) :
    Step c (Tch env) mu s0 mu { s1 with heap := h' } ∧ Fm c mu h' env m ∧ TK s1.heap h' := by
  obtain ⟨mc0, hn0, _⟩ := F.loc
  have tk : TK s1.heap h' := fun b o e hT => hk b o (fun q => by subst q; exact ns_notT hn0 o e hT) (fun q => by subst q; rw [ho] at e; cases e; exact hoT hT) e
  have alL : ∃ o, h'.get? env.locals = some o := let ⟨o, _, _, e, _⟩ := hn; ⟨o, e⟩
  refine ⟨{
    shape := by obtain ⟨h, tk, rfl⟩ := x.shape; exact ⟨_, _, rfl⟩
    st := ⟨fun b o e => hk b o (fun q => by rw [q, F.notB] at e; cases e) (fun q => by rw [q, p.base] at e; cases e) (x.st.base b o e),
      fun a o e => (x.st.objs a o e).mono (fun o' q => hk a o' (fun z => by rw [z, F.offL] at e; cases e) (fun z => by rw [z, p.mu] at e; cases e) q) tk, x.st.new⟩
    keep := fun b o e hm hT => hk b o (fun q => hT (.inl q)) (fun q => by rw [q, p.new] at e; cases e) (x.keep b o e hm hT)
    alive := fun b o e hm => by
      obtain ⟨o', e'⟩ := x.alive b o e hm
      by_cases q : b = env.locals
      · rw [q]; exact alL
      · exact ⟨o', hk b o' q (fun z => by rw [z, p.new] at e; cases e) e'⟩
    dom := x.dom }, ?_, tk⟩
  have hC : ∀ y ca, env.cells.lookup y = some ca → ∀ o, s1.heap.get? ca = some o → h'.get? ca = some o := fun y ca hy o e => hk ca o (F.offC y ca hy).2.1 (fun q => p.cel y (q ▸ hy)) e
  exact { F with
    loc := ⟨mc, hn, fun y pv e hky => let ⟨v, a, b⟩ := hmc y pv e hky; ⟨v, a, b.mono tk⟩⟩
    cel := fun y pv e hky => let ⟨ca, v, a, ⟨o, b, d⟩, r⟩ := F.cel y pv e hky; ⟨ca, v, a, ⟨o, hC y ca a o b, d⟩, r.mono tk⟩
    cells := fun y ca e => let ⟨v, ⟨o, b, d⟩⟩ := F.cells y ca e; ⟨v, ⟨o, hC y ca e o b, d⟩⟩ }
end
end Mine

open PySem PySem.W PySem.Calls PyProof.Rows
set_option Elab.async false
set_option linter.unusedVariables false
set_option maxRecDepth 100000
namespace Mine
section
variable {c : Cx} {n : Nat} {sc : Scope} {m : Lm} {mu : Mu} {env : Env} {mc : Str → Option Value} {kS D : Addr} {e1 : Nat} {la : Nat → Nat} {s0 : Shared}
def McOk (m : Lm) (env : Env) (mc : Str → Option Value) (h : Heap) : Prop := ∀ x pv, m.lookup x = some pv → env.kindOf x = some .local → ∃ v, mc x = some v ∧ Rep h pv v
theorem McOk.mono {h h' : Heap} (q : McOk m env mc h) (tk : TK h h') : McOk m env mc h' := fun x pv e hk => let ⟨v, a, b⟩ := q x pv e hk; ⟨v, a, b.mono tk⟩
/-- all keys -/
theorem keys_go {A : Around} {f : Value} {vs : List Value} {k : Nat} {Fin : List Value → Nat → Shared → Prop} (pS : Priv c mu env s0 kS) (pD : Priv c mu env s0 D) (hSD : kS ≠ D) (hlen : vs.length = k) (hvs : ∀ (j : Nat) (v : Value), vs[j]? = some v → ∃ t, v = Value.int (j : Nat) t)
    (hkey : ∀ j s1 v, j < k → Step c (Tch env) mu s0 mu s1 → Fm c mu s1.heap env m → 0 < s1.toks → (∃ t, v = Value.int (j : Nat) t) → wpAny c.M A (call f [v]) (Post c mu s1 fun d mu2 => Sub mu mu2 ∧ d = .tuple [.int (la j : Nat), .int (j : Nat)]) NoE s1)
    (hfin : ∀ ks e s1, ks.length = k → Kin c mu m env mc kS D e1 la s0 ks e s1 → McOk m env mc s1.heap → Fin ks e s1) :
    ∀ (r ks : List Value) (e : Nat) (s1 : Shared), ks.length + r.length = k → r = vs.drop ks.length → Kin c mu m env mc kS D e1 la s0 ks e s1 → McOk m env mc s1.heap → KatKeys c.prog c.w A emptyH env.locals mc kS f Fin r ks e s1
  | [], ks, e, s1, h1, h2, K, hm => KatKeys.nil (hfin ks e s1 (by simpa using h1) K hm)
  | v :: r, ks, e, s1, h1, h2, K, hm => by
    have hj : ks.length < k := by simp at h1; omega
    have hv : vs[ks.length]? = some v := by
      have := congrArg (fun l => l[0]?) h2
      simpa using this.symm
    have hr : r = vs.drop (ks.length + 1) := by
      have := congrArg List.tail h2
      simpa [List.tail_drop] using this
    refine KatKeys.cons (wpAny_mono (wpAny_toks (hkey ks.length s1 v hj K.step K.fm K.toks (hvs _ _ hv))) (fun kv s2 p => ?_) fun _ _ x => x.2.elim)
    obtain ⟨hle, d, mu2, ⟨hs, rfl⟩, x, rr⟩ := p
    have x' : Step c noT mu s1 mu s2 := x.forget hs
    have S1 := K.step.st
    have tk2 := x'.tk0 S1
    have F2 : Fm c mu s2.heap env m := K.fm.step S1 x'
    have ns2 : s2.heap.Ns env.locals mc := K.ns.at' fun o e => x'.keep _ _ e K.fm.offL id
    have oS2 := x'.keep _ _ K.oS pS.mu id
    have oD2 := x'.keep _ _ K.oD pD.mu id
    have st2 : Step c (Tch env) mu s0 mu s2 := K.step.trans x'.toT
    have t2 : 0 < s2.toks := Nat.lt_of_lt_of_le K.toks hle
    have m2 := hm.mono tk2
    refine KatBack.intro (Fr.top ns2) (News.top oS2 pS.loc) UpdF.top fun h' cc F' N' => ?_
    obtain ⟨oS3, keep3⟩ := News.keep N'
    obtain ⟨st3, F3, tk3⟩ := Kin.turn m2 pS st2 F2 oS2 (by simp [IsT]) F'.ns keep3
    refine keys_go pS pD hSD hlen hvs hkey hfin r (ks ++ [kv]) cc { s2 with heap := h' } (by simp at h1 ⊢; omega) (by rw [hr]; simp) ⟨st3, F3, F'.ns, oS3, keep3 D _ pD.loc (Ne.symm hSD) oD2, fun j q hq => ?_, t2⟩ (m2.mono tk3)
    by_cases hjj : j < ks.length
    · rw [List.getElem?_append_left hjj] at hq
      exact ((K.keys j q hq).mono tk2).mono tk3
    · rw [List.getElem?_append_right (by omega)] at hq
      have hj0 : j - ks.length = 0 := by
        cases hz : j - ks.length with
        | zero => rfl
        | succ z => rw [hz] at hq; simp at hq
      rw [hj0] at hq
      have : j = ks.length := by omega
      subst this
      simp at hq; subst hq
      exact rr.mono tk3
theorem tups_of {h : Heap} {ks : List Value} (hk : ∀ k ∈ ks, ∃ a b, Rep h (.tuple [.int a, .int b]) k) : ∃ fs, KatTups h ks fs ∧ fs.length = ks.length ∧ ∀ f ∈ fs, ∃ i t, f = Value.int i t := by
  induction ks with
  | nil => exact ⟨[], trivial, rfl, by simp⟩
  | cons k ks ih =>
    obtain ⟨fs, h1, h2, h3⟩ := ih fun q hq => hk q (List.mem_cons_of_mem _ hq)
    obtain ⟨a, b, r⟩ := hk k (List.mem_cons_self ..)
    cases r with | tuple ex rx =>
    cases rx with | cons r0 rx =>
    cases r0 with | int _ t =>
    refine ⟨.int a t :: fs, KatTups.cons ex rfl rfl rfl h1, by simp [h2], fun f hf => ?_⟩
    rcases List.mem_cons.mp hf with e | e
    · exact ⟨a, t, e⟩
    · exact h3 f e
theorem Step.addNew {T : Addr → Prop} {s s1 : Shared} {D : Addr} {o : AO} (x : Step c T mu s mu s1) (hn : s.heap.get? D = none) (hb : c.base.get? D = none) (r : RepO c s1.heap D o) : Step c T mu s (upd mu D o) s1 where
  shape := x.shape
  st := ⟨x.st.base, fun a z e => by
      by_cases q : a = D
      · subst q; rw [upd_same] at e; cases e; exact r
      · rw [upd_ne _ _ q] at e; exact x.st.objs a z e,
    fun a ha => by
      by_cases q : a = D
      · subst q; exact hb
      · rw [upd_ne _ _ q] at ha; exact x.st.new a ha⟩
  keep := x.keep
  alive := x.alive
  dom := fun b hb' => by
    by_cases q : b = D
    · subst q; exact .inr hn
    · rw [upd_ne _ _ q] at hb'; exact x.dom b hb'
theorem Fm.addNew {h : Heap} {D : Addr} {o : AO} (F : Fm c mu h env m) (p : Priv c mu env s0 D) : Fm c (upd mu D o) h env m :=
  { F with
    offL := by rw [upd_ne _ _ (Ne.symm p.loc)]; exact F.offL
    offC := fun x ca e => ⟨by
      have hne : ca ≠ D := fun q => p.cel x (by rw [← q]; exact e)
      rw [upd_ne _ _ hne]; exact (F.offC x ca e).1, (F.offC x ca e).2⟩ }
theorem reps_ints {h : Heap} {vs : List Value} (hvs : ∀ (j : Nat) (v : Value), vs[j]? = some v → ∃ t, v = Value.int (j : Nat) t) : ∀ l : List Nat, (∀ i ∈ l, i < vs.length) → Reps h (l.map fun (i : Nat) => .int (i : Int)) (l.map fun i => vs.getD i Value.none)
  | [], _ => .nil
  | i :: l, hl => by
    have hi := hl i (List.mem_cons_self ..)
    obtain ⟨t, e⟩ := hvs i _ (List.getElem?_eq_getElem hi)
    refine .cons ?_ (reps_ints hvs l fun j hj => hl j (List.mem_cons_of_mem _ hj))
    dsimp only
    rw [List.getD_eq_getElem?_getD, List.getElem?_eq_getElem hi, e]
    exact .int _ _
/-- the sort itself -/
theorem fin_go {A : Around} {vs ks : List Value} {k e : Nat} {s1 : Shared} {Q : Shared → Prop} (pS : Priv c mu env s0 kS) (pD : Priv c mu env s0 D) (hSD : kS ≠ D) (hlen : vs.length = k) (h2 : 2 ≤ k) (h64 : k ≤ 64) (hvs : ∀ (j : Nat) (v : Value), vs[j]? = some v → ∃ t, v = Value.int (j : Nat) t)
    (hks : ks.length = k) (K : Kin c mu m env mc kS D e1 la s0 ks e s1) (hm : McOk m env mc s1.heap)
    (hQ : ∀ p s4, Pm k p → Srd (fun i => 64 * (la i : Int) + i) p k → Step c (Tch env) mu s0 (upd mu D (.list (p.toList.map fun (i : Nat) => .int (i : Int)))) s4 → Fm c (upd mu D (.list (p.toList.map fun (i : Nat) => .int (i : Int)))) s4.heap env m → Q s4) :
    wpAny c.M A (keyKind' (List.toArray ks)) (fun κ s'' => (kas_sort vs.length).kasWp (kas_ask c.prog c.w A κ ks) (fun p s3 => KatFin emptyH env.locals mc kS D ks e e1 (p.toList.map fun i => vs.getD i Value.none) Q s3) s'') (fun _ _ => False) s1 := by
  have hget : ∀ j, j < k → ∃ q, ks[j]? = some q ∧ ks.getD j Value.none = q := fun j hj => ⟨ks[j]'(by omega), List.getElem?_eq_getElem (by omega), by rw [List.getD_eq_getElem?_getD, List.getElem?_eq_getElem (by omega)]; rfl⟩
  obtain ⟨fs, t1, t2, t3⟩ := tups_of (h := s1.heap) (ks := ks) fun q hq => by
    obtain ⟨j, hj, e⟩ := List.mem_iff_getElem.mp hq
    exact ⟨_, _, K.keys j q (by rw [List.getElem?_eq_getElem hj, e])⟩
  refine kat_kind (T := .type "int") t1 (by omega) (fun f hf => by obtain ⟨i, t, rfl⟩ := t3 f hf; exact Looks.of_pure rfl) (by decide) ?_
  show (kas_sort vs.length).kasWp (kas_ask c.prog c.w A (tuples' true) ks) _ _
  rw [hlen]
  refine GoodK.wp (n := k) (k := fun i => 64 * (la i : Int) + i) (fun i j C hi hj hC => ?_) (fun p hp => ?_) _ (sort_ok (fun i j hi hj e => by have e : 64 * (la i : Int) + i = 64 * (la j : Int) + j := e; omega) h2)
  · obtain ⟨a, ha1, ha2⟩ := hget i hi
    obtain ⟨b, hb1, hb2⟩ := hget j hj
    unfold kas_ask
    rw [ha2, hb2]
    refine key_lt (c := c) (K.keys i a ha1) (K.keys j b hb1) ?_
    have : decide ((64 * (la i : Int) + i) < 64 * (la j : Int) + j) = decide (((la i : Nat) : Int) < (la j : Nat) ∨ (((la i : Nat) : Int) = (la j : Nat) ∧ ((i : Nat) : Int) < (j : Nat))) := by
      rw [decide_eq_decide]; omega
    rw [← this]; exact hC
  · refine KatFin.intro (Fr.top K.ns) (News.top K.oS pS.loc) UpdF.top fun h' cc F' N' => ?_
    obtain ⟨oS3, keep3⟩ := News.keep N'
    obtain ⟨st3, F3, tk3⟩ := Kin.turn hm pS K.step K.fm K.oS (by simp [IsT]) F'.ns keep3
    have oD3 := keep3 D _ pD.loc (Ne.symm hSD) K.oD
    refine KasFin.intro (Fr.top F'.ns) (News.top oD3 pD.loc) UpdF.top fun h4 c4 F4' N4 => ?_
    obtain ⟨oD4, keep4⟩ := News.keep N4
    obtain ⟨st4, F4, tk4⟩ := Kin.turn (hm.mono tk3) pD st3 F3 oD3 (by simp [IsT]) F4'.ns keep4
    refine hQ p _ hp.1 hp.2 (Step.addNew st4 pD.new pD.base ⟨_, c4, oD4, ?_⟩) (Fm.addNew F4 pD)
    exact reps_ints hvs _ fun i hi => by
      have := List.mem_range.mp (hp.1.mem_iff.mp hi)
      omega
theorem Priv.new' {s0 : Shared} {k : Addr} (S : St c mu s0.heap) (F : Fm c mu s0.heap env m) (h : s0.heap.get? k = none) : Priv c mu env s0 k := by
  refine ⟨h, ?_, ?_, fun q => ?_, fun x q => ?_⟩
  · cases q : mu k with
    | none => rfl
    | some o => obtain ⟨o', e, _⟩ := (S.objs k o q).noTup; rw [h] at e; cases e
  · cases q : c.base.get? k with
    | none => rfl
    | some o => have := S.base k o q; rw [h] at this; cases this
  · obtain ⟨mc, hn, _⟩ := F.loc
    obtain ⟨o, _, _, e, _⟩ := hn
    rw [← q, h] at e; cases e
  · obtain ⟨v, o, e, _⟩ := F.cells x k q
    rw [h] at e; cases e
/-- what the sort of fewer than two items leaves -/
theorem short_fin {vs ks : List Value} {k e : Nat} {s1 : Shared} {Q : Shared → Prop} (pS : Priv c mu env s0 kS) (pD : Priv c mu env s0 D) (hSD : kS ≠ D) (hlen : vs.length = k) (h2 : k < 2) (hvs : ∀ (j : Nat) (v : Value), vs[j]? = some v → ∃ t, v = Value.int (j : Nat) t)
    (K : Kin c mu m env mc kS D e1 la s0 ks e s1) (hm : McOk m env mc s1.heap)
    (hQ : ∀ p s4, Pm k p → Srd (fun i => 64 * (la i : Int) + i) p k → Step c (Tch env) mu s0 (upd mu D (.list (p.toList.map fun (i : Nat) => .int (i : Int)))) s4 → Fm c (upd mu D (.list (p.toList.map fun (i : Nat) => .int (i : Int)))) s4.heap env m → Q s4) :
    KatFin emptyH env.locals mc kS D ks e e1 vs Q s1 := by
  refine KatFin.intro (Fr.top K.ns) (News.top K.oS pS.loc) UpdF.top fun h' cc F' N' => ?_
  obtain ⟨oS3, keep3⟩ := News.keep N'
  obtain ⟨st3, F3, tk3⟩ := Kin.turn hm pS K.step K.fm K.oS (by simp [IsT]) F'.ns keep3
  have oD3 := keep3 D _ pD.loc (Ne.symm hSD) K.oD
  refine KasFin.intro (Fr.top F'.ns) (News.top oD3 pD.loc) UpdF.top fun h4 c4 F4' N4 => ?_
  obtain ⟨oD4, keep4⟩ := News.keep N4
  obtain ⟨st4, F4, tk4⟩ := Kin.turn (hm.mono tk3) pD st3 F3 oD3 (by simp [IsT]) F4'.ns keep4
  refine hQ (List.range k).toArray _ (List.Perm.refl _) (fun i j hij hj => by omega) (Step.addNew st4 pD.new pD.base ⟨_, c4, oD4, ?_⟩) (Fm.addNew F4 pD)
  have e : (List.range k).map (fun i => vs.getD i Value.none) = vs := by
    apply List.ext_getElem?
    intro i
    by_cases hi : i < k
    · rw [List.getElem?_map, List.getElem?_range hi, Option.map_some, List.getD_eq_getElem?_getD, List.getElem?_eq_getElem (by omega)]; rfl
    · rw [List.getElem?_eq_none (by simp; omega), List.getElem?_eq_none (by omega)]
  have r := reps_ints (h := h4) hvs (List.range k) fun i hi => by have := List.mem_range.mp hi; omega
  rw [e] at r
  exact r
theorem short_end {A : Around} {h₀ : Heap} {L a kS : Addr} {mc : Str → Option Value} {vs ks : List Value} {e e1 : Nat} {s : Shared} {P : PySem.Fin → Shared → Prop} {E : Value → Shared → Prop} (hl : ks.length = vs.length) (hs : vs.length < 2)
    (h : KatFin h₀ L mc kS a ks e e1 vs (fun s3 => P (.done (.ret .none)) s3) s) : wpAny c.M A (ksk_end a false vs.toArray e1 (.ref kS) (List.toArray ks)) P E s := by
  have hn2 : vs.toArray.size < 2 := by rw [List.size_toArray]; exact hs
  unfold ksk_end
  dsimp only
  simp only [Bool.false_eq_true, if_false]
  rw [if_pos hn2, if_pos hn2]
  refine wpAny_bind (wpAny_pure (wpAny_bind ?_))
  rw [StateT.run_pure]
  refine wpAny_pure ?_
  refine kat_tail (h₀ := h₀) (L := L) (m := mc) (b := false) (out := vs) (ks := ks) (e := e) ?_ (by omega) (by omega) rfl ?_
  · show ((List.toArray ks).zip vs.toArray).map (·.2) = vs.toArray
    match ks, vs, hl with
    | [], [], _ => simp
    | [k], [v], _ => simp
    | _ :: _ :: _, _ :: _ :: _, _ => simp at hs; omega
  · simpa [katRev] using h
/-- list.sort with a key, fewer than two items -/
theorem short_keyed {A : Around} {h₀ : Heap} {L a : Addr} {mc : Str → Option Value} {news : List (Addr × Obj)} {vs : List Value} {q : Nat} {f : Value} {s : Shared} {P : PySem.Fin → Shared → Prop} {E : Value → Shared → Prop} (F : Fr h₀ L s.heap mc) (N : News h₀ L s.heap news) (ho : s.heap.get? a = some (seqObj "list" vs.toArray q)) (haL : a ≠ L) (ha0 : h₀.get? a = none) (hna : ∀ p ∈ news, p.1 ≠ a)
    (hs : vs.length < 2)
    (h : ∀ kS e1 h', Fr h₀ L h' mc → News h₀ L h' ((kS, seqObj "list" #[] 0) :: (a, seqObj "list" #[] e1) :: news) → a < kS → (∀ q ∈ news, q.1 < kS) →
      KatKeys c.prog c.w A h₀ L mc kS f (fun ks e s' => KatFin h₀ L mc kS a ks e e1 vs (fun s4 => P (.done (.ret .none)) s4) s') vs [] 0 { s with heap := h' }) :
    wpAny c.M A (ksk_tree a f false) P E s := by
  have ha : a < s.heap.objs.size := Heap.lt_size ho
  have s1 := Heap.SameBut.update s.heap a (Obj.mapSeq fun _ => (#[] : Array Value))
  obtain ⟨e1, ho1⟩ : ∃ e1, (s.heap.update a (Obj.mapSeq fun _ => (#[] : Array Value))).get? a = some (seqObj "list" #[] e1) := ⟨_, get?_update_seq ho fun _ => #[]⟩
  have F1 := kas_fr F s1 haL ha0
  have N1 := kas_news N s1 hna
  unfold ksk_tree
  refine wpAny_bind (listItems_at ho rfl ?_)
  refine wpAny_bind (listUpdate_at ho rfl ?_ (by rw [List.size_toArray, sizeLine_eq]; omega) (Nat.zero_le _))
  refine wpAny_bind (seqEpoch_at ho1 rfl ?_)
  refine wpAny_bind (wpAny_newTuple ?_ (by show vs.length ≤ _; rw [sizeLine_eq]; omega))
  refine wpAny_bind (wpAny_newList ?_ (Nat.zero_le _))
  refine wpAny_holding ?_
  generalize hH : (s.heap.update a (Obj.mapSeq fun _ => (#[] : Array Value))).push (seqObj "tuple" vs.toArray 0) = H
  have hHs : H.objs.size = s.heap.objs.size + 1 := by rw [← hH, size_push', Heap.size_update]
  have kH : ∀ b o, (s.heap.update a (Obj.mapSeq fun _ => (#[] : Array Value))).get? b = some o → (H.push (seqObj "list" #[] 0)).get? b = some o := fun b o e => Heap.get?_push_of_some _ (by rw [← hH]; exact Heap.get?_push_of_some _ e)
  have hkS : (H.push (seqObj "list" #[] 0)).get? H.objs.size = some (seqObj "list" #[] 0) := Heap.get?_push_size _ rfl
  have hL : L < s.heap.objs.size := by have := F1.ns.lt; rw [Heap.size_update] at this; exact this
  have key := h H.objs.size e1 (H.push (seqObj "list" #[] 0)) (F1.kept kH) (fun p hp => by
    rcases List.mem_cons.mp hp with rfl | hp
    · exact ⟨hkS, (fun (q : H.objs.size = L) => by rw [← q, hHs] at hL; exact absurd hL (Nat.not_lt.mpr (Nat.le_succ _))), Heap.get?_none_of_le (Nat.le_trans F.above (by show L ≤ H.objs.size; rw [hHs]; exact Nat.le_succ_of_le (Nat.le_of_lt hL)))⟩
    · rcases List.mem_cons.mp hp with rfl | hp
      · exact ⟨kH _ _ ho1, haL, ha0⟩
      · exact ⟨kH _ _ (N1 p hp).1, (N1 p hp).2⟩) (by rw [hHs]; exact Nat.lt_succ_of_lt ha) (fun q hq => by rw [hHs]; exact Nat.lt_succ_of_lt (Heap.lt_size (N q hq).1))
  unfold ksk_rest
  refine wpAny_bind (wpAny_rule ?_)
  rw [← Array.forIn_toList]
  simp only [List.toList_toArray]
  refine wpAny_bind (wpAny_mono (kat_fold (n := vs.length) (by omega) (fun x ks e s' C hz hx => ?_) vs [] 0 { s with heap := H.push (seqObj "list" #[] 0) } (by simp) hkS key) (fun _ s' hd => ?_) fun _ _ x => x)
  · refine wpAny_bind (wpAny_attempt (wpAny_mono hx (fun k s'' hk => ?_) fun _ _ hF => hF.elim))
    obtain ⟨news', g, F', N', U, cc⟩ := hk
    obtain ⟨pre, post, e0, hg, x1, x2⟩ := U.split
    rw [e0] at N'
    have nk := N' (H.objs.size, seqObj "list" (List.toArray ks) e) (List.mem_append_right _ (.head _))
    have s2 := Heap.SameBut.update s''.heap H.objs.size (Obj.mapSeq (·.push k))
    have ea : (List.toArray ks).push k = List.toArray (ks ++ [k]) := by simp
    obtain ⟨c2, hc2⟩ : ∃ c2, (s''.heap.update H.objs.size (Obj.mapSeq (·.push k))).get? H.objs.size = some (seqObj "list" (List.toArray (ks ++ [k])) c2) := ⟨_, by rw [← ea]; exact get?_update_seq nk.1 (·.push k)⟩
    dsimp only
    refine wpAny_bind (listUpdate_at nk.1 rfl ?_ (by rw [List.size_toArray, sizeLine_eq]; omega) (Nat.le_trans (Nat.le_of_eq (Array.size_push ..)) (by rw [List.size_toArray, sizeLine_eq]; omega)))
    exact wpAny_pure ⟨rfl, k, c2, hc2, cc _ c2 (kas_fr F' s2 nk.2.1 nk.2.2) (by rw [hg]; exact news_set N' x1 x2 s2 hc2)⟩
  · obtain ⟨ks, e, hk', hl, fin⟩ := hd
    refine wpAny_bind (listItems_at hk' rfl ?_)
    exact short_end hl hs fin
/-- sorted(range(k), key=f) -/
theorem sorted_call {A : Around} {f r : Addr} {k : Nat} {s : Shared} {Q : Value → Shared → Prop} (hA : AOk n A) (ht : 0 < s.toks) (S : St c mu s.heap) (F : Fm c mu s.heap env m) (hr : ∃ t u v, IsRange s.heap r 0 k 1 t u v) (h64 : k < 64)
    (hkey : ∀ (j : Nat) s1 v, j < k → Step c (Tch env) mu s mu s1 → Fm c mu s1.heap env m → 0 < s1.toks → (∃ t, v = Value.int (j : Nat) t) → wpAny c.M A.in1.in1 (call (.ref f) [v]) (Post c mu s1 fun d mu2 => Sub mu mu2 ∧ d = .tuple [.int (la j : Nat), .int (j : Nat)]) NoE s1)
    (hQ : ∀ D p s4, mu D = none → Pm k p → Srd (fun i => 64 * (la i : Int) + i) p k → Step c (Tch env) mu s (upd mu D (.list (p.toList.map fun (i : Nat) => .int (i : Int)))) s4 → Fm c (upd mu D (.list (p.toList.map fun (i : Nat) => .int (i : Int)))) s4.heap env m → Q (.ref D) s4) :
    wpAny c.M A (call (.builtin "sorted") [.ref r] [(Str.ofString "key", .ref f)]) Q NoE s := by
  obtain ⟨t, u, v, hr⟩ := hr
  refine call_function_entry_kw kind_sorted plain_sorted entry_sorted (ksk_s1 _ _) ?_
  unfold Builtin.«sorted»
  refine wpAny_bind (m := checkCount "sorted" 1 1 _) (wpAny_pure ?_)
  have hsz : Builtin.Range.rangeSize 0 k 1 = k := by
    unfold Builtin.Range.rangeSize; simp only [show (1 : Int) > 0 from by decide, if_true, Int.ediv_one]; split <;> omega
  refine wpAny_bind (wpAny_mono (wpAny_toks (collect_range (c := c) (Q := fun vs s' => s.toks ≤ s'.toks → _) (k := k) hA.hd hr (small_up (by omega) (by omega)) hsz (by omega) fun h1 tk acc hk1 hacc htk => ?_)) (fun a s' p => p.2 p.1) fun _ _ x => x.2)
  obtain ⟨vs, rfl⟩ : ∃ vs : List Value, acc = vs.toArray := ⟨acc.toList, by simp⟩
  obtain ⟨hlen, hit⟩ := hacc
  have hlen : vs.length = k := by simpa using hlen
  have hvs : ∀ (j : Nat) (v : Value), vs[j]? = some v → ∃ t, v = Value.int (j : Nat) t := fun j v e => by
    obtain ⟨t, q⟩ := hit j v (by simpa using e)
    exact ⟨t, by rw [q]; congr 1; omega⟩
  refine wpAny_bind (wpAny_newList ?_ (by simp [sizeLine]; omega))
  have ho : (h1.push (seqObj "list" vs.toArray 0)).get? h1.objs.size = some (seqObj "list" vs.toArray 0) := Heap.get?_push_size _ rfl
  show wpAny _ _ _ _ _ { s with heap := h1.push (seqObj "list" vs.toArray 0), toks := tk }
  have keep1 : ∀ b o, s.heap.get? b = some o → (h1.push (seqObj "list" vs.toArray 0)).get? b = some o := fun b o e => Heap.get?_push_of_some _ (hk1 b o e)
  obtain ⟨mc, hns, hmc⟩ := F.loc
  have hD0 : s.heap.get? h1.objs.size = none := by
    cases q : s.heap.get? h1.objs.size with
    | none => rfl
    | some o => exact absurd (Heap.lt_size (hk1 _ o q)) (Nat.lt_irrefl _)
  have pD : Priv c mu env s h1.objs.size := Priv.new' S F hD0
  generalize hDe : h1.objs.size = D at *
  refine wpAny_bind (wpAny_holding (wpAny_call_entry_kw slot_list_sort ⟨_, ho, rfl⟩ entry_list_sort ?body (ksk_l1 _ _)))
  case body =>
    show wpAny c.M A.in1.in1 (Builtin.«list.sort» ⟨[.ref D], [(Str.ofString "key", .ref f)]⟩) _ _ _
    rw [ksk_t1]
    have inner : ∀ (Fin : List Value → Nat → Shared → Prop) kS e1 h', Fr emptyH env.locals h' mc → News emptyH env.locals h' ((kS, seqObj "list" #[] 0) :: (D, seqObj "list" #[] e1) :: snapB (h1.push (seqObj "list" vs.toArray 0)) env.locals D) → D < kS → (∀ q ∈ snapB (h1.push (seqObj "list" vs.toArray 0)) env.locals D, q.1 < kS) →
        (∀ ks e s1, Priv c mu env s kS → kS ≠ D → ks.length = k → Kin c mu m env mc kS D e1 la s ks e s1 → McOk m env mc s1.heap → Fin ks e s1) → KatKeys c.prog c.w A.in1.in1 emptyH env.locals mc kS (.ref f) Fin vs [] 0 { s with heap := h', toks := tk } := fun Fin kS e1 h' F' N' hlt hall hfin => by
      have oS := (N' _ (List.mem_cons_self ..)).1
      have oD := (N' _ (List.mem_cons_of_mem _ (List.mem_cons_self ..))).1
      have hSL : kS ≠ env.locals := (N' _ (List.mem_cons_self ..)).2.1
      have hkeep : ∀ b o, b ≠ env.locals → s.heap.get? b = some o → h'.get? b = some o := fun b o hb e =>
        (N' (b, o) (List.mem_cons_of_mem _ (List.mem_cons_of_mem _ (mem_snapB.mpr ⟨hb, (fun (q : b = D) => by rw [q, hD0] at e; cases e), keep1 b o e⟩)))).1
      have hS0 : s.heap.get? kS = none := by
        cases q : s.heap.get? kS with
        | none => rfl
        | some o => exact absurd (hall (kS, o) (mem_snapB.mpr ⟨hSL, (fun (z : kS = D) => by rw [z] at hlt; exact absurd hlt (Nat.lt_irrefl _)), keep1 _ o q⟩)) (Nat.lt_irrefl _)
      have pS : Priv c mu env s kS := Priv.new' S F hS0
      have hSD : kS ≠ D := fun q => by rw [q] at hlt; exact absurd hlt (Nat.lt_irrefl _)
      have tk0 : TK s.heap h' := fun b o e hT => hkeep b o (fun q => by subst q; exact ns_notT hns o e hT) e
      have st0 : Step c (Tch env) mu s mu { s with heap := h', toks := tk } := {
        shape := ⟨_, _, rfl⟩
        st := ⟨fun b o e => hkeep b o (fun q => by rw [q, F.notB] at e; cases e) (S.base b o e), fun a o e => (S.objs a o e).mono (fun o' q => hkeep a o' (fun z => by rw [z, F.offL] at e; cases e) q) tk0, S.new⟩
        keep := fun b o e hm hT => hkeep b o (fun q => hT (.inl q)) e
        alive := fun b o e hm => by
          by_cases q : b = env.locals
          · rw [q]; obtain ⟨o', _, _, e', _⟩ := F'.ns; exact ⟨o', e'⟩
          · exact ⟨o, hkeep b o q e⟩
        dom := fun b hb => .inl hb }
      have hC : ∀ y ca, env.cells.lookup y = some ca → ∀ o, s.heap.get? ca = some o → h'.get? ca = some o := fun y ca hy o e => hkeep ca o (F.offC y ca hy).2.1 e
      have hm0 : McOk m env mc h' := fun x pv e hk => let ⟨w, a, b⟩ := hmc x pv e hk; ⟨w, a, b.mono tk0⟩
      have F0 : Fm c mu h' env m := { F with
        loc := ⟨mc, F'.ns, hm0⟩
        cel := fun y pv e hky => let ⟨ca, w, a, ⟨o, b, d⟩, r⟩ := F.cel y pv e hky; ⟨ca, w, a, ⟨o, hC y ca a o b, d⟩, r.mono tk0⟩
        cells := fun y ca e => let ⟨w, ⟨o, b, d⟩⟩ := F.cells y ca e; ⟨w, ⟨o, hC y ca e o b, d⟩⟩ }
      exact keys_go (la := la) (D := D) (e1 := e1) pS pD hSD hlen hvs hkey (fun ks e s1 hks K hm => hfin ks e s1 pS hSD hks K hm) vs [] 0 _ (by simp [hlen]) (by simp) ⟨st0, F0, F'.ns, oS, oD, (fun j q hq => by simp at hq), Nat.lt_of_lt_of_le ht htk⟩ hm0
    by_cases h2 : 2 ≤ k
    · refine kat_keyed (s := { s with heap := h1.push (seqObj "list" vs.toArray 0), toks := tk }) (Fr.top (hns.keeps keep1)) (news := snapB (h1.push (seqObj "list" vs.toArray 0)) env.locals D)
        (fun p hp => ⟨(mem_snapB.mp hp).2.2, (mem_snapB.mp hp).1, emptyH_get _⟩) ho pD.loc (emptyH_get _) (fun p hp => (mem_snapB.mp hp).2.1) (by omega) (by omega) fun kS e1 h' F' N' hlt hall => ?_
      have er : ∀ {α : Type} (l : List α), katRev false l = l := fun l => by simp [katRev]
      simp only [er]
      refine inner _ kS e1 h' F' N' hlt hall fun ks e s1 pS hSD hks K hm => ?_
      refine fin_go (la := la) pS pD hSD hlen h2 (by omega) hvs hks K hm fun p s4 h4 h5 h6 h7 => ?_
      exact ⟨_, rfl, wpAny_pure ⟨_, rfl, hQ D p s4 pD.mu h4 h5 h6 h7⟩⟩
    · refine short_keyed (c := c) (s := { s with heap := h1.push (seqObj "list" vs.toArray 0), toks := tk }) (Fr.top (hns.keeps keep1)) (news := snapB (h1.push (seqObj "list" vs.toArray 0)) env.locals D)
        (fun p hp => ⟨(mem_snapB.mp hp).2.2, (mem_snapB.mp hp).1, emptyH_get _⟩) ho pD.loc (emptyH_get _) (fun p hp => (mem_snapB.mp hp).2.1) (by omega) fun kS e1 h' F' N' hlt hall => ?_
      refine inner _ kS e1 h' F' N' hlt hall fun ks e s1 pS hSD hks K hm => ?_
      refine short_fin (la := la) pS pD hSD hlen (by omega) hvs K hm fun p s4 h4 h5 h6 h7 => ?_
      exact ⟨_, rfl, wpAny_pure ⟨_, rfl, hQ D p s4 pD.mu h4 h5 h6 h7⟩⟩
end
end Mine

open PySem PySem.W PySem.Calls PyProof.Rows
set_option Elab.async false
set_option linter.unusedVariables false
set_option maxRecDepth 100000
namespace Mine
section
variable {c : Cx} {n : Nat} {sc : Scope} {m : Lm} {mu : Mu}
/-- the call of a builtin, as it goes -/
theorem callBi_raw {id : String} {es : List PySem.Expr} {ks : List Keyword} {env : Env} {A : Around} {s : Shared} {pos : Pos} {Q : Value → Shared → Prop} (hst : noStar es = true) (hks : allNamed ks = true)
    (h : wpAny c.M A (spliced (backTo pos (starEach es env))) (fun vs s1 => wpAny c.M A (evalAll ((backToKw pos (keywordEach ks env)).map (·.2))) (fun kvs s2 => wpAny c.M A (call (.builtin id) vs (((backToKw pos (keywordEach ks env)).filterMap (·.1)).zip kvs)) Q NoE s2) NoE s1) NoE s) :
    wpAny c.M A (callWith pos (.builtin id) [] (backTo pos (starEach es env)) (backToKw pos (keywordEach ks env))) Q NoE s := by
  unfold callWith
  refine wpAny_bind (wpAny_holding (evalArgs_go (noStar_any env pos hst) (allNamed_all env pos hks) ?_))
  refine wpAny_mono h (fun vs s1 h1 => wpAny_mono h1 (fun kvs s2 hc => ?_) fun _ _ x => x) fun _ _ x => x
  have kp : ∀ (Q' : Keeper → Shared → Prop), (∀ k, Q' k s2) → wpAny c.M A (keeperOf (.builtin id)) Q' NoE s2 := fun Q' h => wpAny_pure (h _)
  refine wpAny_bind (wpAny_standAt (wpAny_bind (kp _ fun k => ?_)))
  have tail : ∀ {t : Sem Value}, wpAny c.M A t Q NoE s2 → wpAny c.M A (t >>= fun r => holding [r] point >>= fun _ => pure r) Q NoE s2 :=
    fun ht => wpAny_bind (wpAny_mono ht (fun r s3 p => wpAny_bind (wpAny_holding (wpAny_point (wpAny_pure p)))) fun _ _ x => x)
  have hm : ∀ mark, wpAny c.M A (callMarked mark (.builtin id) ([] ++ vs) (((backToKw pos (keywordEach ks env)).filterMap (·.1)).zip kvs)) Q NoE s2 := fun mark => by unfold callMarked; exact wpAny_keep hc
  have ho : ∀ l, wpAny c.M A (operate l (call (.builtin id) ([] ++ vs) (((backToKw pos (keywordEach ks env)).filterMap (·.1)).zip kvs))) Q NoE s2 := fun l => wpAny_operating hc
  dsimp only
  generalize ((backTo pos (starEach es env)).any (fun x => x.1) || (backToKw pos (keywordEach ks env)).any fun x => x.1.isNone) = st
  cases k <;> cases st <;> dsimp only <;> first | exact tail hc | exact tail (hm _) | exact tail (ho _) | (split <;> first | exact tail hc | exact tail (hm _))
theorem Fm.forget {mu1 : Mu} {h : Heap} {env : Env} (F : Fm c mu1 h env m) (hs : Sub mu mu1) : Fm c mu h env m :=
  have off : ∀ b, mu1 b = none → mu b = none := fun b hb => by
    cases q : mu b with
    | none => rfl
    | some o => rw [hs b o q] at hb; cases hb
  { F with
    offL := off _ F.offL
    offC := fun x ca e => ⟨off _ (F.offC x ca e).1, (F.offC x ca e).2⟩ }
/-- x = sorted(range(k), key=lambda ..) -/
theorem Ex1X.sortedLam {x i : Str} {px p1 pos pos' kp lpos : Pos} {argE body : PySem.Expr} {params : Arguments} {lsc : Scope} {cd Pt : Addr} {la : Nat → Nat} {k : Nat} {P : FV → Lm → Mu → Prop}
    (hkx : kindB true sc x = true) (hks : sc.names.lookup (Str.ofString "sorted") = some .globalImplicit) (hg : c.mg (Str.ofString "sorted") = none) (h64 : k < 64)
    (harg : EvE c (n + 3) sc m mu argE fun d mu1 => ∃ r, d = .ref r ∧ mu r = none ∧ mu1 = upd mu r (.rng 0 k 1)) (hst : noStar [argE] = true) (hse : ∀ env, starEach [argE] env = (false, eval argE env) :: starEach [] env)
    (C : CodeHd c.base cd Pt) (hB : c.base.BuiltinsAt c.mg Pt) (hgP : mainGlobals ≠ Pt) (hP : mu Pt = some (.obj (tabObj #[])))
    (hdef : ∀ env, defaultsOf params env = ([], [])) (hfk : ∀ p ∈ lsc.names, p.2 = .free → sc.names.lookup p.1 = some .cell) (hkf : lsc.kind = .function) (hco : lsc.isCoroutine = false) (hgen : lsc.isGenerator = false) (hnc : ∀ p ∈ lsc.names, p.2 ≠ .cell) (hi : lsc.names.lookup i = some .local)
    (hbind : ∀ qual cl pm c' ctv v, bindArgs (kla_fn (Str.ofString "<lambda>") qual params body lsc cl pm (.ref c') ctv) ⟨[v], []⟩ = pure [(i, v)])
    (hbody : ∀ (j : Nat) mu', j < k → (∀ a o, mu a = some o → a ≠ Pt → mu' a = some o) → EvE c n lsc ((i, .int (j : Nat)) :: capt lsc m) mu' body fun d mu2 => Sub mu' mu2 ∧ d = .tuple [.int (la j : Nat), .int (j : Nat)])
    (h1 : ∀ env, env.scope = sc → swapsWithSole [.Name x px] (.Call (.Name (Str.ofString "sorted") p1) [argE] [⟨some (Str.ofString "key"), .Lambda params body lsc lpos, kp⟩] pos) pos'.line env = pure false) (h2 : ∀ env, swappedStores [.Name x px] (.Call (.Name (Str.ofString "sorted") p1) [argE] [⟨some (Str.ofString "key"), .Lambda params body lsc lpos, kp⟩] pos) env = pure none)
    (h : ∀ D p more, Pm k p → Srd (fun i => 64 * (la i : Int) + i) p k → mu D = none → D ≠ Pt → P .next (setL m x (.ref D)) (upd (upd mu Pt (.obj (tabObj more))) D (.list (p.toList.map fun (i : Nat) => .int (i : Int))))) :
    Ex1X (fun env => env.code = .ref cd) c (n + 3) sc m mu (.Assign [.Name x px] (.Call (.Name (Str.ofString "sorted") p1) [argE] [⟨some (Str.ofString "key"), .Lambda params body lsc lpos, kp⟩] pos) pos') P := by
  intro env A s hH he hA ht S F
  show wpAny c.M A (do
    standAt pos'
    if ← swapsWithSole [.Name x px] (.Call (.Name (Str.ofString "sorted") p1) [argE] [⟨some (Str.ofString "key"), .Lambda params body lsc lpos, kp⟩] pos) pos'.line env then do
      evalThenUse (.Call (.Name (Str.ofString "sorted") p1) [argE] [⟨some (Str.ofString "key"), .Lambda params body lsc lpos, kp⟩] pos) env fun v => assignAll v ((assignEach [.Name x px] env).map (·.2))
      pure .next
    else do
      let v ← eval (.Call (.Name (Str.ofString "sorted") p1) [argE] [⟨some (Str.ofString "key"), .Lambda params body lsc lpos, kp⟩] pos) env
      assignStores env v (← swappedStores [.Name x px] (.Call (.Name (Str.ofString "sorted") p1) [argE] [⟨some (Str.ofString "key"), .Lambda params body lsc lpos, kp⟩] pos) env) ((assignEach [.Name x px] env).map (·.2))) _ _ s
  rw [h1 env he, h2]
  refine wpAny_bind (wpAny_standAt (wpAny_bind (wpAny_pure ?_)))
  simp only [Bool.false_eq_true, if_false]
  refine wpAny_bind ?_
  show wpAny c.M A (do callWith pos (← eval (.Name (Str.ofString "sorted") p1) env) [] (backTo pos (starEach [argE] env)) (backToKw pos (keywordEach [⟨some (Str.ofString "key"), .Lambda params body lsc lpos, kp⟩] env))) _ _ s
  have hsd : EvE c (n + 3) sc m mu (.Name (Str.ofString "sorted") p1) fun d mu1 => d = .bi "sorted" ∧ mu1 = mu := EvE.builtin hks hg (by decide) PyProof.Rows.boot_sorted (fun _ => .bi "sorted") ⟨rfl, rfl⟩ (by decide)
  refine wpAny_bind (EvE.bind hsd he hA ht S F fun vf s1 d mu1 q x1 t1 S1 F1 r1 k1 => ?_)
  obtain ⟨rfl, rfl⟩ := q
  cases r1
  refine callBi_raw hst rfl ?_
  refine EvA.bind (EvA.cons (P := fun ds mu2 => ∃ r, ds = [.ref r] ∧ mu1 r = none ∧ mu2 = upd mu1 r (.rng 0 k 1)) (harg.imp fun d mu2 ⟨r, e1, e2, e3⟩ => EvA.nil ⟨r, by rw [e1], e2, e3⟩) hse) he hA t1 S1 F1 fun vs s2 ds mu2 q x2 t2 S2 F2 r2 k2 => ?_
  obtain ⟨r, rfl, hrn, rfl⟩ := q
  cases r2 with | cons r20 r21 =>
  cases r21; cases r20
  obtain ⟨cl, hcl0, hcl, hcl2⟩ := closure_is (env := env) (scope := lsc) fun y hy hf => by
    have hkx : env.kindOf y.1 = some .cell := by unfold Env.kindOf; rw [he]; exact hfk y hy hf
    exact F2.has _ hkx
  have hrP : Pt ≠ r := fun q => by rw [q, hrn] at hP; cases hP
  show wpAny c.M A (evalAll [do let v ← eval (.Lambda params body lsc lpos) env; standAt pos; pure v]) _ _ s2
  refine wpAny_evalAll_cons (wpAny_bind (lam_eval hcl0 (hdef env) hH C hB hgP t2 S2 F2 (by rw [upd_ne _ _ hrP]; exact hP) fun fa c' ctv more s3 hfm x3 hrec hcf hcP hc0 hfP htk => ?_))
  refine wpAny_bind (wpAny_standAt (wpAny_pure (wpAny_evalAll_nil ?_)))
  have S3 := x3.st
  have F3 : Fm c _ s3.heap env m := F2.step S2 x3
  generalize hfo : kla_obj (Str.ofString "<lambda>") (env.qual ++ Str.ofString "<lambda>") params body lsc cl ((c.mg (Str.ofString "__name__")).getD .none) c' ctv = fo at x3 S3 F3
  have hfr : fa ≠ r := fun q => by rw [q, upd_same] at hfm; cases hfm
  have hmf : mu1 fa = none := by rw [upd_ne _ _ hfr] at hfm; exact hfm
  obtain ⟨mu3, hmu3⟩ : ∃ mu3, upd (upd (upd mu1 r (.rng 0 k 1)) Pt (.obj (tabObj more))) fa (.obj fo) = mu3 := ⟨_, rfl⟩
  rw [hmu3] at x3 S3 F3
  have g1 : mu3 fa = some (.obj fo) := by rw [← hmu3, upd_same]
  have g2 : mu3 r = some (.rng 0 k 1) := by rw [← hmu3, upd_ne _ _ (Ne.symm hfr), upd_ne _ _ (Ne.symm hrP), upd_same]
  have g3 : mu3 Pt = some (.obj (tabObj more)) := by rw [← hmu3, upd_ne _ _ (Ne.symm hfP), upd_same]
  have g4 : ∀ a o, mu1 a = some o → a ≠ Pt → mu3 a = some o := fun a o e ha => by
    have h5 : a ≠ r := fun q => by rw [q, hrn] at e; cases e
    have h6 : a ≠ fa := fun q => by rw [q, hmf] at e; cases e
    rw [← hmu3, upd_ne _ _ h6, upd_ne _ _ ha, upd_ne _ _ h5]; exact e
  have pc := Priv.new' (k := c') S2 F2 hc0
  have hcr : c' ≠ r := fun q => by have := pc.mu; rw [q, upd_same] at this; cases this
  have hc3 : mu3 c' = none := by rw [← hmu3, upd_ne _ _ hcf, upd_ne _ _ hcP]; exact pc.mu
  show wpAny c.M A (call (.builtin "sorted") [.ref r] [(Str.ofString "key", .ref fa)]) _ _ s3
  refine wpAny_mono (wpAny_toks (sorted_call (la := la) (Q := fun v s4 => s3.toks ≤ s4.toks → _) hA (Nat.lt_of_lt_of_le t2 htk) S3 F3 (S3.objs r _ g2) h64 (fun j s4 v hj x4 F4 t4 hv => ?_) fun D p s4 hDn hp1 hp2 x4 F4 hle4 => ?_)) (fun v s' p => p.2 p.1) fun _ _ x => x.2
  · obtain ⟨t, rfl⟩ := hv
    have hrec4 : s4.heap.CodeRec (.ref c') (env.qual ++ Str.ofString "<lambda>") := by
      obtain ⟨cc, oc, ws, tq, e1, e2, e3, e4⟩ := hrec
      cases e1
      refine ⟨_, oc, ws, tq, rfl, x4.keep _ _ e2 hc3 (fun q => ?_), e3, e4⟩
      rcases q with q | ⟨_, y, q⟩
      · exact pc.loc q
      · exact pc.cel y q
    refine lam_call (n := n) (d := .int (j : Nat)) (x := i) he hcl hcl2 hfk hkf hco hgen hnc hi (hbind _ _ _ _ _ _) ((x4.st.objs fa _ g1).1.trans (by rw [← hfo])) hrec4 hA.in1.in1 t4 x4.st F4 (.int _ _) ?_
    exact hbody j mu3 hj g4
  · have hs : Sub (upd (upd mu1 Pt (.obj (tabObj more))) D (.list (p.toList.map fun (i : Nat) => .int (i : Int)))) (upd mu3 D (.list (p.toList.map fun (i : Nat) => .int (i : Int)))) := fun a o e => by
      by_cases q : a = D
      · subst q; rw [upd_same] at e ⊢; exact e
      · rw [upd_ne _ _ q] at e ⊢
        by_cases q2 : a = Pt
        · subst q2; rw [upd_same] at e; rw [g3]; exact e
        · rw [upd_ne _ _ q2] at e; exact g4 a o e q2
    have hDP : D ≠ Pt := fun q => by rw [q, g3] at hDn; cases hDn
    have hD1 : mu1 D = none := by
      cases q : mu1 D with
      | none => rfl
      | some o => have := g4 D o q hDP; rw [hDn] at this; cases this
    have x5 := x4.forget hs
    have F5 := F4.forget hs
    refine wpAny_bind (wpAny_pure ?_)
    unfold assignStores assignAll
    have ha : AsgT true c (n + 3) sc m _ (.Name x px) (.ref D) _ := (AsgT.name (K := true) (n := n + 3) (sc := sc) (m := m) (mu := upd (upd mu1 Pt (.obj (tabObj more))) D (.list (p.toList.map fun (i : Nat) => .int (i : Int)))) (pos := px) (d := .ref D) (P := fun m' mu' => m' = setL m x (.ref D) ∧ mu' = upd (upd mu1 Pt (.obj (tabObj more))) D (.list (p.toList.map fun (i : Nat) => .int (i : Int)))) hkx ⟨rfl, rfl⟩)
    have t4 : 0 < s4.toks := Nat.lt_of_lt_of_le (Nat.lt_of_lt_of_le t2 htk) hle4
    refine wpAny_bind (wpAny_mono (ha env A s4 (.ref D) he hA t4 x5.st F5 (.ref D)) (fun _ s5 p5 => ?_) fun _ _ x => x)
    obtain ⟨m6, mu6, ⟨rfl, rfl⟩, x6, F6⟩ := p5
    exact wpAny_pure ⟨.next, _, _, h D p more hp1 hp2 hD1 hDP, ((((x1.trans x2).toT).trans x3.toT).trans x5).trans x6, F6, .next⟩
end
end Mine

open PySem PySem.W PyProof.Rows
set_option Elab.async false
set_option maxRecDepth 100000
set_option maxHeartbeats 8000000
namespace Mine
open_top hd07 for PySem.Challenge.rw_dn0262_07
end Mine

open PySem PySem.W PySem.Calls PyProof.Rows
set_option maxRecDepth 100000
set_option maxHeartbeats 4000000
namespace Mine
local macro_rules | `(tactic| walk_at "e") => `(tactic| with_reducible first
  | refine EvE.int ?_
  | refine EvE.str ?_
  | refine EvE.nil ?_
  | refine EvE.boolc ?_
  | refine EvE.loc (by with_unfolding_all rfl) (by with_unfolding_all rfl) ?_ (by with_unfolding_all decide)
  | refine EvE.cell (by with_unfolding_all rfl) (by with_unfolding_all rfl) ?_ (by with_unfolding_all decide)
  | refine EvE.binop ?_
  | refine EvE.unop ?_
  | refine EvE.sliceL2 ?_
  | refine EvE.sub ?_
  | refine EvP.none ?_
  | refine EvP.some ?_
  | refine EvE.cmp ?_ (by with_unfolding_all rfl)
  | refine EvE.ifexp ?_
  | refine EvE.joined ?_
  | refine EvE.callBi (by with_unfolding_all rfl) (mg_none_of (by assumption) (Cx.g _) (by with_unfolding_all rfl)) (by with_unfolding_all decide) boot_len ?_ (by with_unfolding_all decide) (by with_unfolding_all rfl)
  | refine EvE.callBi (by with_unfolding_all rfl) (mg_none_of (by assumption) (Cx.g _) (by with_unfolding_all rfl)) (by with_unfolding_all decide) boot_chr ?_ (by with_unfolding_all decide) (by with_unfolding_all rfl)
  | refine EvE.callTy (by with_unfolding_all rfl) (mg_none_of (by assumption) (Cx.g _) (by with_unfolding_all rfl)) (by with_unfolding_all decide) boot_range ?_ (by with_unfolding_all decide) (by with_unfolding_all rfl)
  | refine EvE.callTy (by with_unfolding_all rfl) (mg_none_of (by assumption) (Cx.g _) (by with_unfolding_all rfl)) (by with_unfolding_all decide) PyProof.Rows.boot_type ?_ (by with_unfolding_all decide) (by with_unfolding_all rfl)
  | refine EvE.debug ?_
  | refine EvE.callTy (by with_unfolding_all rfl) (mg_none_of (by assumption) (Cx.g _) (by with_unfolding_all rfl)) (by with_unfolding_all decide) PyProof.Rows.boot_str ?_ (by with_unfolding_all decide) (by with_unfolding_all rfl)
  | refine EvE.callTy (by with_unfolding_all rfl) (mg_none_of (by assumption) (Cx.g _) (by with_unfolding_all rfl)) (by with_unfolding_all decide) PyProof.Rows.boot_list ?_ (by with_unfolding_all decide) (by with_unfolding_all rfl)
  | refine EvE.callTy (by with_unfolding_all rfl) (mg_none_of (by assumption) (Cx.g _) (by with_unfolding_all rfl)) (by with_unfolding_all decide) PyProof.Rows.boot_enumerate ?_ (by with_unfolding_all decide) (by with_unfolding_all rfl)
  | refine EvE.callBi (by with_unfolding_all rfl) (mg_none_of (by assumption) (Cx.g _) (by with_unfolding_all rfl)) (by with_unfolding_all decide) PyProof.Rows.boot_max ?_ (by with_unfolding_all decide) (by with_unfolding_all rfl)
  | refine OpC.isTy ?_
  | refine OpC.isNotTy ?_
  | refine EvE.callFn (by with_unfolding_all rfl) (mg_of (by assumption) (Cx.g _) (by with_unfolding_all rfl)) ?_ (by with_unfolding_all decide) (by with_unfolding_all rfl) (by with_unfolding_all rfl)
  | refine EvE.tuple ?_
  | refine EvE.list ?_
  | refine OpB.addI ?_
  | refine OpB.subI ?_
  | refine OpB.modI (by with_unfolding_all decide) ?_
  | refine OpB.divI (by with_unfolding_all decide) (by with_unfolding_all decide) ?_
  | refine OpI.addI ?_
  | refine OpI.subI ?_
  | refine OpI.divI (by with_unfolding_all decide) (by with_unfolding_all decide) ?_
  | refine OpC.eqI ?_
  | refine OpC.neI ?_
  | refine OpC.ltI ?_
  | refine OpC.leI ?_
  | refine OpC.gtI ?_
  | refine OpC.geI ?_
  | refine OpC.eqS ?_
  | refine OpC.neS ?_
  | refine OpC.inS ?_
  | refine OpC.isNone (by with_unfolding_all (intro _ hq; cases hq)) ?_
  | refine OpC.isNotNone (by with_unfolding_all (intro _ hq; cases hq)) ?_
  | refine OpU.negI ?_
  | refine OpT.bool ?_
  | refine OpT.int ?_
  | refine Tst.cmp ?_ (by with_unfolding_all rfl)
  | refine Tst.cmp2 ?_ (by with_unfolding_all rfl)
  | refine Tst.not ?_
  | refine Tst.boolop ?_
  | refine TstL.and_nil ?_
  | refine TstL.or_nil ?_
  | refine TstL.and_cons ?_
  | refine TstL.or_cons ?_
  | refine Tst.of ?_ (by with_unfolding_all (intro _ _; rfl))
  | refine EvA.nil ?_
  | refine EvA.cons ?_ (by with_unfolding_all (intro _; rfl))
  | refine EvK.nil ?_
  | refine EvK.cons ?_
  | refine AsgT.name (by with_unfolding_all rfl) ?_
  | refine AsgT.tuple ?_ (by with_unfolding_all rfl) (by with_unfolding_all (intro _; exact ⟨rfl, rfl⟩))
  | refine AsgL.nil ?_
  | refine AsgL.cons ?_ (by with_unfolding_all (intro _; rfl))
  | refine ExS.nil ?_
  | refine SeqP.next ?_
  | refine SeqP.ret ?_
  | refine ExS.asg ?_ (by with_unfolding_all (intro _ _; rfl)) (by with_unfolding_all (intro _; rfl)) (by with_unfolding_all (intro _; rfl))
  | refine ExS.if ?_
  | refine ExS.ret ?_
  | refine ExS.expr ?_ (by with_unfolding_all (intro _; rfl))
  | refine ExS.aug (by with_unfolding_all rfl) (by with_unfolding_all rfl) ?_)
local macro_rules | `(tactic| walk_at "s") => `(tactic| with_reducible first
  | refine EvE.int ?_
  | refine EvE.str ?_
  | refine EvE.nil ?_
  | refine EvE.boolc ?_
  | refine EvE.loc (by with_unfolding_all rfl) (by with_unfolding_all rfl) ?_ (by with_unfolding_all decide)
  | refine EvE.cell (by with_unfolding_all rfl) (by with_unfolding_all rfl) ?_ (by with_unfolding_all decide)
  | refine EvE.binop ?_
  | refine EvE.unop ?_
  | refine EvE.sliceL2 ?_
  | refine EvE.sub ?_
  | refine EvP.none ?_
  | refine EvP.some ?_
  | refine EvE.cmp ?_ (by with_unfolding_all rfl)
  | refine EvE.joined ?_
  | refine EvE.callBi (by with_unfolding_all rfl) (mg_none_of (by assumption) (Cx.g _) (by with_unfolding_all rfl)) (by with_unfolding_all decide) boot_len ?_ (by with_unfolding_all decide) (by with_unfolding_all rfl)
  | refine EvE.callBi (by with_unfolding_all rfl) (mg_none_of (by assumption) (Cx.g _) (by with_unfolding_all rfl)) (by with_unfolding_all decide) boot_chr ?_ (by with_unfolding_all decide) (by with_unfolding_all rfl)
  | refine EvE.callTy (by with_unfolding_all rfl) (mg_none_of (by assumption) (Cx.g _) (by with_unfolding_all rfl)) (by with_unfolding_all decide) boot_range ?_ (by with_unfolding_all decide) (by with_unfolding_all rfl)
  | refine EvE.callTy (by with_unfolding_all rfl) (mg_none_of (by assumption) (Cx.g _) (by with_unfolding_all rfl)) (by with_unfolding_all decide) PyProof.Rows.boot_type ?_ (by with_unfolding_all decide) (by with_unfolding_all rfl)
  | refine EvE.debug ?_
  | refine EvE.callTy (by with_unfolding_all rfl) (mg_none_of (by assumption) (Cx.g _) (by with_unfolding_all rfl)) (by with_unfolding_all decide) PyProof.Rows.boot_str ?_ (by with_unfolding_all decide) (by with_unfolding_all rfl)
  | refine EvE.callTy (by with_unfolding_all rfl) (mg_none_of (by assumption) (Cx.g _) (by with_unfolding_all rfl)) (by with_unfolding_all decide) PyProof.Rows.boot_list ?_ (by with_unfolding_all decide) (by with_unfolding_all rfl)
  | refine EvE.callTy (by with_unfolding_all rfl) (mg_none_of (by assumption) (Cx.g _) (by with_unfolding_all rfl)) (by with_unfolding_all decide) PyProof.Rows.boot_enumerate ?_ (by with_unfolding_all decide) (by with_unfolding_all rfl)
  | refine EvE.callBi (by with_unfolding_all rfl) (mg_none_of (by assumption) (Cx.g _) (by with_unfolding_all rfl)) (by with_unfolding_all decide) PyProof.Rows.boot_max ?_ (by with_unfolding_all decide) (by with_unfolding_all rfl)
  | refine OpC.isTy ?_
  | refine OpC.isNotTy ?_
  | refine EvE.callFn (by with_unfolding_all rfl) (mg_of (by assumption) (Cx.g _) (by with_unfolding_all rfl)) ?_ (by with_unfolding_all decide) (by with_unfolding_all rfl) (by with_unfolding_all rfl)
  | refine EvE.tuple ?_
  | refine EvE.list ?_
  | refine OpB.addI ?_
  | refine OpB.subI ?_
  | refine OpB.modI (by with_unfolding_all decide) ?_
  | refine OpB.divI (by with_unfolding_all decide) (by with_unfolding_all decide) ?_
  | refine OpI.addI ?_
  | refine OpI.subI ?_
  | refine OpI.divI (by with_unfolding_all decide) (by with_unfolding_all decide) ?_
  | refine OpC.eqI ?_
  | refine OpC.neI ?_
  | refine OpC.ltI ?_
  | refine OpC.leI ?_
  | refine OpC.gtI ?_
  | refine OpC.geI ?_
  | refine OpC.eqS ?_
  | refine OpC.neS ?_
  | refine OpC.inS ?_
  | refine OpC.isNone (by with_unfolding_all (intro _ hq; cases hq)) ?_
  | refine OpC.isNotNone (by with_unfolding_all (intro _ hq; cases hq)) ?_
  | refine OpU.negI ?_
  | refine OpT.bool ?_
  | refine OpT.int ?_
  | refine Tst.cmp ?_ (by with_unfolding_all rfl)
  | refine Tst.cmp2 ?_ (by with_unfolding_all rfl)
  | refine Tst.not ?_
  | refine Tst.boolop ?_
  | refine TstL.and_nil ?_
  | refine TstL.or_nil ?_
  | refine TstL.and_cons ?_
  | refine TstL.or_cons ?_
  | refine Tst.of ?_ (by with_unfolding_all (intro _ _; rfl))
  | refine EvA.nil ?_
  | refine EvA.cons ?_ (by with_unfolding_all (intro _; rfl))
  | refine EvK.nil ?_
  | refine EvK.cons ?_
  | refine AsgT.name (by with_unfolding_all rfl) ?_
  | refine AsgT.tuple ?_ (by with_unfolding_all rfl) (by with_unfolding_all (intro _; exact ⟨rfl, rfl⟩))
  | refine AsgL.nil ?_
  | refine AsgL.cons ?_ (by with_unfolding_all (intro _; rfl))
  | refine ExS.nil ?_
  | refine SeqP.next ?_
  | refine SeqP.ret ?_
  | refine ExS.asg ?_ (by with_unfolding_all (intro _ _; rfl)) (by with_unfolding_all (intro _; rfl)) (by with_unfolding_all (intro _; rfl))
  | refine ExS.ret ?_
  | refine ExS.expr ?_ (by with_unfolding_all (intro _; rfl))
  | refine ExS.aug (by with_unfolding_all rfl) (by with_unfolding_all rfl) ?_)
open PySem PySem.W PySem.Calls PyProof.Rows
set_option Elab.async false
set_option linter.unusedVariables false
set_option maxRecDepth 100000
set_option maxHeartbeats 4000000

abbrev K07 (c : Cx) : Prop := (hd07.heap_39 c.w.params).In c.base
abbrev T07 (c : Cx) (mu : Mu) (x l : Addr) (kvs : List Row) : Prop := Hd c 182 mu x l kvs
theorem hk07 (P : Params) : HK (hd07.heap_39 P) 182 := ⟨by with_unfolding_all rfl, by with_unfolding_all rfl, by with_unfolding_all rfl⟩

theorem conv07_ct {c : Cx} {n : Nat} {mu : Mu} (hK : K07 c) {self : PV} {v : List Nat} {b : Bool} {P : PV → Mu → Prop} (hv : v.length ≤ 1000000) (hok : v.any (if b then isCtl else isCtlV) = false) (h : P (.str (S v)) mu) : Keepr c mu (.ref 83) ∧ CallV c (n + 1) mu (.ref 83) [self, .str (S v)] [("name", .bool b)] P := by
  have hf : FnOk c 83 _ _ := ⟨⟨_, hK 83 _ rfl, rfl⟩, rfl, rfl, rfl, rfl, ⟨_, _, _, _, rfl, hK 82 _ rfl, rfl, rfl⟩, rfl, rfl, rfl⟩
  refine ⟨Keepr.fn hf, CallV.fn hf (Binds.k21 (fun v w u => rfl) ⟨by simp only [List.map_cons, List.map_nil]; decide, by rfl, ?_⟩)⟩; clear hf
  dsimp only
  repeat' walk_at "e"
  refine CallV.typeStr ?_
  refine EvE.builtin (by with_unfolding_all rfl) (mg_none_of hK (Cx.g _) (by with_unfolding_all rfl)) (by with_unfolding_all decide) PyProof.Rows.boot_str (fun _ => .ty _) ?_ (by with_unfolding_all decide)
  repeat' walk_at "e"
  refine ifd (fun _ => ?_) (fun q => absurd rfl q)
  repeat' walk_at "e"
  cases b with
  | true =>
    refine ifT ?_
    refine EvE.glob (by with_unfolding_all rfl) (mg_of hK (Cx.g _) (by with_unfolding_all rfl)) (fun _ => .ref 48) ?_ (by with_unfolding_all decide)
    repeat' walk_at "e"
    refine EvE.methB (EvE.loc (by with_unfolding_all rfl) (by with_unfolding_all rfl) ⟨_, Meth.pattern (hK 48 _ rfl), ?_⟩ (by with_unfolding_all decide))
    repeat' walk_at "e"
    refine CallV.search (code := ctlCode) (f := isCtl) (hK 48 _ rfl) rfl rfl rfl (hK 47 _ rfl) (by decide +kernel) ctl_set (by rw [S_length]; omega) (fun h3 => OpT.none ?_) (fun h3 a o h0 hc hd => ?_)
    · refine ifF ?_
      repeat' walk_at "e"
      exact h
    · rw [List.any_toArray] at h3
      simp only [if_true] at hok
      rw [hok] at h3; cases h3
  | false =>
    refine ifF ?_
    refine EvE.glob (by with_unfolding_all rfl) (mg_of hK (Cx.g _) (by with_unfolding_all rfl)) (fun _ => .ref 53) ?_ (by with_unfolding_all decide)
    repeat' walk_at "e"
    refine EvE.methB (EvE.loc (by with_unfolding_all rfl) (by with_unfolding_all rfl) ⟨_, Meth.pattern (hK 53 _ rfl), ?_⟩ (by with_unfolding_all decide))
    repeat' walk_at "e"
    refine CallV.search (code := ctlVCode) (f := isCtlV) (hK 53 _ rfl) rfl rfl rfl (hK 52 _ rfl) (by decide +kernel) ctlV_set (by rw [S_length]; omega) (fun h3 => OpT.none ?_) (fun h3 a o h0 hc hd => ?_)
    · refine ifF ?_
      repeat' walk_at "e"
      exact h
    · rw [List.any_toArray] at h3
      simp only [Bool.false_eq_true, if_false] at hok
      rw [hok] at h3; cases h3
/-- self._convert_string_type(e, name=b) -/
theorem conv07_ev {c : Cx} {n : Nat} {sc : Scope} {m : Lm} {mu : Mu} (hK : K07 c) {x l : Addr} {kvs : List Row} (H : T07 c mu x l kvs) {e : PySem.Expr} {p1 p2 p3 p4 pos : Pos} {k : Nat} {b : Bool} {P : PV → Mu → Prop} (hl : m.lookup (Str.ofString "self") = some (.ref x)) (hk : sc.names.lookup (Str.ofString "self") = some .local)
    (h : EvE c (n + 1) sc m mu e fun d mu1 => mu1 = mu ∧ ∃ v, d = .str (S v) ∧ v.length ≤ 1000000 ∧ v.any (if b then isCtl else isCtlV) = false ∧ P (.str (S v)) mu) (hse : ∀ env, starEach [e] env = (false, eval e env) :: starEach [] env := by intro _; rfl) (hst : noStar [e] = true := by rfl) (hline : (p2.endLine == pos.line) = true := by rfl) :
    EvE c (n + 1) sc m mu (.Call (.Attribute (.Name (Str.ofString "self") p1) (Str.ofString "_convert_string_type") p2) [e] [⟨some (Str.ofString "name"), .Constant (.bool b) k p3, p4⟩] pos) P := by
  refine EvE.method (EvE.loc hl hk ⟨_, Meth.hd hK H (by with_unfolding_all rfl) (f := 83) (by with_unfolding_all rfl) (by with_unfolding_all rfl) (by decide), ?_⟩ (by decide)) (by intro _; rfl) hst (by rfl) (by simp) hline
  refine EvA.cons (h.imp fun d mu1 ⟨e1, v, e2, h1, h2, h3⟩ => EvA.nil (EvK.cons (EvE.boolc (EvK.nil ?_)))) hse
  subst e1; subst e2
  exact conv07_ct hK h1 h2 h3

open PySem PySem.W PySem.Calls PyProof.Rows
set_option Elab.async false
set_option linter.unusedVariables false
set_option maxRecDepth 100000
set_option maxHeartbeats 4000000

theorem items07_ct {c : Cx} {n : Nat} {mu : Mu} (hK : K07 c) {x l : Addr} {kvs : List Row} (H : T07 c mu x l kvs) {P : PV → Mu → Prop}
    (h : ∀ D, mu D = none → P (.ref D) (upd mu D (.list (kvs.map pairPV)))) : Keepr c mu (.ref 146) ∧ CallV c (n + 1) mu (.ref 146) [.ref x] [] P := by
  have hf : FnOk c 146 _ _ := ⟨⟨_, hK 146 _ rfl, rfl⟩, rfl, rfl, rfl, rfl, ⟨_, _, _, _, rfl, hK 145 _ rfl, rfl, rfl⟩, rfl, rfl, rfl⟩
  refine ⟨Keepr.fn hf, CallV.fn hf (Binds.p1 (fun v => rfl) ⟨by simp only [List.map_cons, List.map_nil]; decide, by rfl, ?_⟩)⟩; clear hf
  dsimp only
  have hlen := H.len
  refine ExS.ret ?_
  refine EvE.sliceL2 (EvE.hdr hK (hk07 _) (EvE.loc (by with_unfolding_all rfl) (by with_unfolding_all rfl) ⟨x, l, kvs, rfl, H, ?_⟩ (by with_unfolding_all decide)) (by with_unfolding_all (intro _; rfl)) (by with_unfolding_all (intro _ _; rfl)))
  refine EvP.none (EvP.none ⟨l, _, rfl, .inl H.list, .inl rfl, by rw [List.length_map]; show _ ≤ 2 ^ 24; omega, fun D hD => ?_⟩)
  rw [pk_all]
  exact h D hD
theorem keys07_ct {c : Cx} {n : Nat} {mu : Mu} (hK : K07 c) {x l : Addr} {kvs : List Row} (H : T07 c mu x l kvs) {P : PV → Mu → Prop}
    (h : ∀ D, mu D = none → P (.ref D) (upd mu D (.list (kvs.map fun r => .str (S r.1))))) : Keepr c mu (.ref 134) ∧ CallV c (n + 1) mu (.ref 134) [.ref x] [] P := by
  have hf : FnOk c 134 _ _ := ⟨⟨_, hK 134 _ rfl, rfl⟩, rfl, rfl, rfl, rfl, ⟨_, _, _, _, rfl, hK 133 _ rfl, rfl, rfl⟩, rfl, rfl, rfl⟩
  refine ⟨Keepr.fn hf, CallV.fn hf (Binds.p1 (fun v => rfl) ⟨by simp only [List.map_cons, List.map_nil]; decide, by rfl, ?_⟩)⟩; clear hf
  dsimp only
  have hlen := H.len
  refine ExS.ret ?_
  refine EvE.listcomp (okT := anyT) trivial (by with_unfolding_all rfl) ?_
  refine EvE.hdr hK (hk07 _) (EvE.loc (by with_unfolding_all rfl) (by with_unfolding_all rfl) ⟨x, l, kvs, rfl, H, ?_⟩ (by with_unfolding_all decide)) (by with_unfolding_all (intro _; rfl)) (by with_unfolding_all (intro _ _; rfl))
  refine ⟨_, _, _, IterOf.list H.list, ?_⟩
  refine CompE.all (m0 := []) (fun _ => true) (fun d => match d with | .tuple [k, _] => k | _ => .none) H.list _ _ _ (by simp; show _ ≤ 2 ^ 24; omega) trivial (fun y hy => ?_) ?_
  · obtain ⟨r, hr, rfl⟩ := List.mem_map.mp hy
    unfold pairPV
    repeat' walk_at "e"
    refine ⟨rfl, trivial, IfsE.nil ⟨rfl, rfl, fun _ => ?_⟩⟩
    repeat' walk_at "e"
    exact ⟨rfl, rfl⟩
  · intro D hD
    rw [List.filter_eq_self.mpr (fun _ _ => rfl), List.nil_append, List.map_map]
    exact h D hD
open PySem PySem.W PySem.Calls PyProof.Rows
set_option Elab.async false
set_option linter.unusedVariables false
set_option maxRecDepth 100000
set_option maxHeartbeats 4000000

theorem del07_ct {c : Cx} {n : Nat} {mu : Mu} (hK : K07 c) {x l : Addr} {kvs : List Row} (H : T07 c mu x l kvs) {name : List Nat} {P : PV → Mu → Prop} (hn : okN name = true)
    (h : P .none (upd mu l (.list ((delR kvs name).map pairPV)))) : CallV c (n + 2) mu (.ref 102) [.ref x, .str (S name)] [] P := by
  have hf : FnOk c 102 _ _ := ⟨⟨_, hK 102 _ rfl, rfl⟩, rfl, rfl, rfl, rfl, ⟨_, _, _, _, rfl, hK 101 _ rfl, rfl, rfl⟩, rfl, rfl, rfl⟩
  refine CallV.fn hf (Binds.p2 (fun v w => rfl) ⟨by simp only [List.map_cons, List.map_nil]; decide, by rfl, ?_⟩); clear hf
  dsimp only
  have hlen := H.len
  refine ExS.asg ?_ (by with_unfolding_all (intro _ _; rfl)) (by with_unfolding_all (intro _; rfl)) (by with_unfolding_all (intro _; rfl))
  refine conv07_ev hK H (by with_unfolding_all rfl) (by with_unfolding_all rfl) ?_ (by with_unfolding_all (intro _; rfl)) (by with_unfolding_all rfl) (by with_unfolding_all rfl)
  refine EvE.methB (EvE.cell (by with_unfolding_all rfl) (by with_unfolding_all rfl) ⟨_, Meth.str F.slot_str_lower (by kernel_rfl), EvA.nil ?_⟩ (by with_unfolding_all decide)) (by with_unfolding_all (intro _; rfl)) (by with_unfolding_all rfl)
  refine CallV.lower (okN.asc hn) (by have := okN.len hn; omega) ?_
  refine ⟨rfl, _, rfl, by have := okN.len (okN.low hn); omega, okN.ctl (okN.low hn), ?_⟩
  repeat' walk_at "e"
  refine EvE.listcomp (okT := anyT) trivial (by with_unfolding_all rfl) ?_
  refine EvE.hdr hK (hk07 _) (EvE.loc (by with_unfolding_all rfl) (by with_unfolding_all rfl) ⟨x, l, kvs, rfl, H, ?_⟩ (by with_unfolding_all decide)) (by with_unfolding_all (intro _; rfl)) (by with_unfolding_all (intro _ _; rfl))
  refine ⟨_, _, _, IterOf.list H.list, ?_⟩
  refine CompE.all (m0 := [("name", .str (S (lowL name)))]) (fun d => match d with | .tuple [.str k, _] => decide (Txt.lower k ≠ S (lowL name)) | _ => false) (fun d => d) H.list _ _ _ (by simp; show _ ≤ 2 ^ 24; omega) ⟨rfl, trivial⟩ (fun y hy => ?_) ?_
  · obtain ⟨r, hr, rfl⟩ := List.mem_map.mp hy
    have hro := H.row hr
    unfold pairPV
    repeat' walk_at "e"
    refine ⟨rfl, ⟨rfl, trivial⟩, IfsE.one ?_⟩
    refine Tst.cmp (EvE.methB (EvE.sub (EvE.loc (by with_unfolding_all rfl) (by with_unfolding_all rfl) (EvE.int (OpSub.tupN (by decide) (by decide) rfl ⟨_, Meth.str F.slot_str_lower (by kernel_rfl), EvA.nil ?_⟩)) (by with_unfolding_all decide))) (by with_unfolding_all (intro _; rfl)) (by with_unfolding_all rfl)) (by with_unfolding_all rfl)
    refine CallV.lower (okN.asc (okR.nm hro)) (by have := okN.len (okR.nm hro); omega) ?_
    repeat' walk_at "e"
    refine ⟨?_, rfl, fun _ => ?_⟩
    · show _ = decide (Txt.lower (S r.1) ≠ S (lowL name))
      rw [S_lower (okN.asc (okR.nm hro))]
    · repeat' walk_at "e"
      exact ⟨rfl, rfl⟩
  · intro D hD
    have e : [] ++ (((kvs.map pairPV).filter fun d => match d with | .tuple [.str k, _] => decide (Txt.lower k ≠ S (lowL name)) | _ => false).map fun d => d) = (delR kvs name).map pairPV := by
      rw [List.nil_append, List.map_id', List.filter_map]
      unfold delR
      congr 1
      refine List.filter_congr fun r hr => ?_
      show decide (Txt.lower (S r.1) ≠ S (lowL name)) = _
      rw [S_lower (okN.asc (okR.nm (H.row hr)))]
      simp [eqN]
    rw [e]
    have hle : (delR kvs name).length ≤ kvs.length := List.length_filter_le _ _
    refine AsgT.sliceAll hD ?_
    refine EvE.hdr hK (hk07 _) (EvE.loc (by with_unfolding_all rfl) (by with_unfolding_all rfl) ⟨x, l, kvs, rfl, H.fresh hD, ?_⟩ (by with_unfolding_all decide)) (by with_unfolding_all (intro _; rfl)) (by with_unfolding_all (intro _ _; rfl))
    refine ⟨rfl, l, _, rfl, H.list, by rw [List.length_map]; omega, by rw [List.length_map]; omega, ?_⟩
    repeat' walk_at "e"
    exact h
open PySem PySem.W PySem.Calls PyProof.Rows
set_option Elab.async false
set_option linter.unusedVariables false
set_option maxRecDepth 100000
set_option maxHeartbeats 4000000

theorem initTail07 {c : Cx} {n : Nat} {mu : Mu} (hK : K07 c) {x dx l : Addr} {kvs : List Row} {P : PV → Mu → Prop} (hx : mu x = some (.inst 182 dx)) (hd : mu dx = some (.obj (dictOf [] 0))) (hl : mu l = some (.list (kvs.map pairPV))) (hok : kvs.all okR = true) (hlen : kvs.length ≤ 10000)
    (h : ∀ tok, P .none (upd mu dx (hdDict c tok l))) {fd : FuncData} {body : List Stmt} (hf : FnOk c 76 fd body) : ExS c (n + 1) fd.scope ([(("self" : Str), PV.ref x), (("headers" : Str), .ref l)] : List (Str × PV)) mu (body.drop 1) fun fl _ mu2 => P (retOf fl) mu2 := by
  obtain ⟨⟨o, ho, hdd⟩, h2, h3, h4, h5, h6, h7, h8, h9⟩ := hf
  rw [hK 76 _ rfl] at ho
  cases ho
  cases hdd
  cases h5
  clear h2 h3 h4 h6 h7 h8 h9
  dsimp only [List.drop]
  repeat' walk_at "e"
  refine CallV.typeList hl ?_
  refine EvE.builtin (by with_unfolding_all rfl) (mg_none_of hK (Cx.g _) (by with_unfolding_all rfl)) (by with_unfolding_all decide) PyProof.Rows.boot_list (fun _ => .ty _) ?_ (by with_unfolding_all decide)
  repeat' walk_at "e"
  refine ifd (fun q => absurd rfl q) (fun _ => ?_)
  repeat' walk_at "e"
  refine AsgT.attrRef hK ?_
  repeat' walk_at "e"
  refine ⟨x, 182, dx, [], 0, rfl, hx, hd, by with_unfolding_all rfl, by with_unfolding_all rfl, by with_unfolding_all rfl, by with_unfolding_all rfl, by rfl, fun tok => ⟨by simp [putL], ?_⟩⟩
  obtain ⟨mi, hmi⟩ : ∃ mi, upd mu dx (hdDict c tok l) = mi := ⟨_, rfl⟩
  change ExS c (n + 1) _ _ (upd mu dx (hdDict c tok l)) _ _
  have hxd : x ≠ dx := fun q => by rw [q, hd] at hx; cases hx
  have hld : l ≠ dx := fun q => by rw [q, hd] at hl; cases hl
  have H : T07 c mi x l kvs := ⟨⟨dx, tok, by rw [← hmi, upd_ne _ _ hxd]; exact hx, by rw [← hmi]; simp⟩, by rw [← hmi, upd_ne _ _ hld]; exact hl, hok, hlen⟩
  have hfin := h tok
  rw [hmi] at hfin ⊢
  repeat' walk_at "e"
  refine ifT ?_
  refine ExS.join (m1 := []) (mu1 := mi) (Ex1.for (okT := anyT) trivial ?_) ?_
  · refine EvE.loc (by with_unfolding_all rfl) (by with_unfolding_all rfl) ⟨_, _, _, IterOf.list H.list, ?_⟩ (by with_unfolding_all decide)
    refine LoopE.ind (fun _ => [("self", .ref x)]) H.list ⟨rfl, trivial⟩ (fun i y hy => ?_) ?_
    · rw [List.getElem?_map] at hy
      obtain ⟨z, hz, rfl⟩ := Option.map_eq_some_iff.mp hy
      have hzo := H.row (List.mem_of_getElem? hz)
      unfold pairPV
      repeat' walk_at "e"
      refine conv07_ev hK H (by with_unfolding_all rfl) (by with_unfolding_all rfl) ?_ (by with_unfolding_all (intro _; rfl)) (by with_unfolding_all rfl) (by with_unfolding_all rfl)
      repeat' walk_at "e"
      refine ⟨rfl, z.1, rfl, by have := okN.len (okR.nm hzo); omega, okN.ctl (okR.nm hzo), rfl, ?_⟩
      repeat' walk_at "e"
      refine conv07_ev hK H (by with_unfolding_all rfl) (by with_unfolding_all rfl) ?_ (by with_unfolding_all (intro _; rfl)) (by with_unfolding_all rfl) (by with_unfolding_all rfl)
      repeat' walk_at "e"
      refine ⟨rfl, z.2, rfl, by have := okV.len (okR.vl hzo); omega, okV.ctl (okR.vl hzo), rfl, ?_⟩
      repeat' walk_at "e"
      exact ⟨.inl rfl, rfl, rfl, trivial⟩
    · repeat' walk_at "e"
      exact ⟨rfl, rfl, trivial⟩
  repeat' walk_at "e"
  exact hfin
theorem init07_ct {c : Cx} {n : Nat} {mu : Mu} (hK : K07 c) {x dx l : Addr} {kvs : List Row} {P : PV → Mu → Prop} (hx : mu x = some (.inst 182 dx)) (hd : mu dx = some (.obj (dictOf [] 0))) (hl : mu l = some (.list (kvs.map pairPV))) (hok : kvs.all okR = true) (hlen : kvs.length ≤ 10000)
    (h : ∀ tok, P .none (upd mu dx (hdDict c tok l))) : CallK c (n + 2) mu (.ref 76) [.ref x, .ref l] [] P := by
  have hf : FnOk c 76 _ _ := ⟨⟨_, hK 76 _ rfl, rfl⟩, rfl, rfl, rfl, rfl, ⟨_, _, _, _, rfl, hK 75 _ rfl, rfl, rfl⟩, rfl, rfl, rfl⟩
  refine CallK.fn hf (Binds.dflt (xs := [("self", .ref x), ("headers", .ref l)]) (hK 69 _ rfl) rfl (fun hp vs r => ?_) ⟨by simp only [List.map_cons, List.map_nil]; decide, by rfl, ?_⟩)
  · cases r with | cons r0 r =>
    cases r with | cons r1 r =>
    cases r
    exact ⟨_, _, rfl, rfl, .cons r0 (.cons r1 .nil)⟩
  have ht := initTail07 (n := n) hK hx hd hl hok hlen h hf
  clear hf
  dsimp only
  repeat' walk_at "e"
  refine ifT ?_
  refine EvE.loc (by with_unfolding_all rfl) (by with_unfolding_all rfl) (AsgT.name (by with_unfolding_all rfl) ?_) (by with_unfolding_all decide)
  exact ht
theorem keep07 {c : Cx} {mu : Mu} (hK : K07 c) : Keepr c mu (.ref 182) := Keepr.cls hK (hK 182 _ rfl) rfl (by with_unfolding_all rfl)
theorem make07_ct {c : Cx} {n : Nat} {mu : Mu} (hK : K07 c) {l : Addr} {kvs : List Row} {P : PV → Mu → Prop} (hl : mu l = some (.list (kvs.map pairPV))) (hok : kvs.all okR = true) (hlen : kvs.length ≤ 10000)
    (h : ∀ x mu', mu x = none → Sub mu mu' → T07 c mu' x l kvs → P (.ref x) mu') : Keepr c mu (.ref 182) ∧ CallV c (n + 3) mu (.ref 182) [.ref l] [] P := by
  refine ⟨keep07 hK, CallV.make hK (by with_unfolding_all rfl) (by with_unfolding_all rfl) (by with_unfolding_all rfl) fun x dx hx hdx hne => ?_⟩
  have hlx : l ≠ x := fun q => by rw [q, hx] at hl; cases hl
  have hld : l ≠ dx := fun q => by rw [q, hdx] at hl; cases hl
  refine init07_ct hK (dx := dx) (l := l) (kvs := kvs) (by simp) (by rw [upd_ne _ _ (Ne.symm hne)]; simp) (by rw [upd_ne _ _ hlx, upd_ne _ _ hld]; exact hl) hok hlen fun tok => ⟨rfl, h x _ hx (fun a o ea => ?_) ?_⟩
  · have h1 : a ≠ dx := fun q => by rw [q, hdx] at ea; cases ea
    have h2 : a ≠ x := fun q => by rw [q, hx] at ea; cases ea
    rw [upd_ne _ _ h1, upd_ne _ _ h2, upd_ne _ _ h1]; exact ea
  · refine ⟨⟨dx, tok, ?_, by simp⟩, ?_, hok, hlen⟩
    · rw [upd_ne _ _ hne]; simp
    · rw [upd_ne _ _ hld, upd_ne _ _ hlx, upd_ne _ _ hld]; exact hl
open PySem PySem.W PySem.Calls PyProof.Rows
set_option Elab.async false
set_option linter.unusedVariables false
set_option maxRecDepth 100000
set_option maxHeartbeats 4000000

/-- _formatparam(p, v) -/
theorem fpq07_ct {c : Cx} {n : Nat} {mu : Mu} (hK : K07 c) {p v : List Nat} {P : PV → Mu → Prop} (hp : p.length ≤ 100000) (hv : v.length ≤ 1000000) (h : P (.str (S (fp p v true))) mu) : Keepr c mu (.ref 61) ∧ CallV c (n + 1) mu (.ref 61) [.str (S p), .str (S v)] [] P := by
  have hf : FnOk c 61 _ _ := ⟨⟨_, hK 61 _ rfl, rfl⟩, rfl, rfl, rfl, rfl, ⟨_, _, _, _, rfl, hK 60 _ rfl, rfl, rfl⟩, rfl, rfl, rfl⟩
  refine ⟨Keepr.fn hf, CallV.fn hf (Binds.dflt (xs := [("param", .str (S p)), ("value", .str (S v)), ("quote", .int 1)]) (hK 54 _ rfl) rfl (fun hp vs r => ?_) ⟨by simp only [List.map_cons, List.map_nil]; decide, by rfl, ?_⟩)⟩
  · cases r with | cons r0 r =>
    cases r with | cons r1 r =>
    cases r
    exact ⟨_, _, rfl, rfl, .cons r0 (.cons r1 (.cons (.int _ _) .nil))⟩
  clear hf
  dsimp only
  repeat' walk_at "e"
  refine ifT ?_
  repeat' walk_at "e"
  refine CallV.lenS (by rw [S_length]; omega) ?_
  repeat' walk_at "e"
  rw [S_length]
  refine ifd (fun h1 => ?_) (fun h1 => ?_)
  · have hne : v ≠ [] := fun e => by rw [e] at h1; simp at h1
    repeat' walk_at "e"
    refine ifT ?_
    repeat' walk_at "e"
    refine ifT ?_
    repeat' walk_at "e"
    refine ifT ?_
    refine ExS.asg (EvE.replaceC (by decide +kernel) (EvE.replaceC (by decide +kernel) ?_))
    have b1 : (Str.ofString "\\") = ⟨#[92]⟩ := by decide +kernel
    have b2 : (Str.ofString "\\\\") = S [92, 92] := by decide +kernel
    have b3 : (Str.ofString "\"") = ⟨#[34]⟩ := by decide +kernel
    have b4 : (Str.ofString "\\\"") = S [92, 34] := by decide +kernel
    have b5 : (Str.ofString "=\"") = S [61, 34] := by decide +kernel
    have b6 : Str.empty = S [] := rfl
    have l1 := replL_length 92 [92, 92] 2 (by decide) (by decide) v
    have l2 := escL_length v
    repeat' walk_at "e"
    refine ⟨_, rfl, ?_, ?_⟩
    · rw [b2, S_length, S_length]; show _ + _ * 2 ≤ _; omega
    rw [b1, b2, replace_list, S_cps]
    refine ⟨_, rfl, ?_, ?_⟩
    · rw [b4, S_length, S_length]; show _ + _ * 2 ≤ _; omega
    rw [b3, b4, replace_list, S_cps, esc_two]
    repeat' walk_at "e"
    refine EvJ.fmt ?_
    repeat' walk_at "e"
    refine ⟨_, rfl, ?_, EvJ.lit ?_ (EvJ.fmt ?_)⟩
    · rw [b6, S_length, S_length]; show _ ≤ 2 ^ 24; simp; omega
    · rw [b6, b5, S_append, S_length, S_length]; show _ ≤ 2 ^ 24; simp; omega
    repeat' walk_at "e"
    refine ⟨_, rfl, ?_, EvJ.lit ?_ (EvJ.nil ?_ ?_)⟩
    · rw [b6, b5, S_append, S_append, S_length, S_length]; show _ ≤ 2 ^ 24; simp; omega
    · rw [b6, b5, S_append, S_append, S_append, S_length]; show _ ≤ 2 ^ 24; simp [Str.length]; omega
    · rw [b6, b5, S_append, S_append, S_append, S_append, S_length]; show _ ≤ 2 ^ 24; simp; omega
    repeat' walk_at "e"
    rw [b6, b5, S_append, S_append, S_append, S_append]
    have e : fp p v true = [] ++ p ++ [61, 34] ++ escL v ++ [34] := by
      unfold fp; rw [if_neg hne]; simp
    rw [← e]; exact h
  · have hne : v = [] := by
      cases v with
      | nil => rfl
      | cons a r => simp at h1
    subst hne
    repeat' walk_at "e"
    refine ifF ?_
    repeat' walk_at "e"
    exact h
theorem kw_names {kvs : List (Str × Value)} {ks : List Kw} (h : kvs.map (·.1) = (kwPV ks).map (·.1)) {p : Str × Value} (hp : p ∈ kvs) : ∃ q ∈ ks, p.1 = S q.1 := by
  have h1 : p.1 ∈ kvs.map (·.1) := List.mem_map_of_mem hp
  rw [h] at h1
  unfold kwPV at h1
  rw [List.map_map] at h1
  obtain ⟨q, hq, e⟩ := List.mem_map.mp h1
  exact ⟨q, hq, e.symm⟩
/-- names that add_header's own parameters have -/
def ownK (k : List Nat) : Bool := decide (S k = ("self" : Str)) || decide (S k = ("_name" : Str)) || decide (S k = ("_value" : Str))
theorem kw_nodup {ks : List Kw} (h : (ks.map (·.1)).Nodup) : ((kwPV ks).map (·.1)).Nodup := by
  unfold kwPV
  rw [List.map_map]
  have e : ks.map ((fun x => x.1) ∘ fun (p : Kw) => (S p.1, optPV p.2)) = (ks.map (·.1)).map S := by rw [List.map_map]; rfl
  rw [e]
  exact List.Pairwise.map S (fun a b hab q => hab (S_inj.mp q)) h
theorem kwPV_get {ks : List Kw} {i : Nat} {y : PV} (h : (itemsL (kwPV ks))[i]? = some y) : ∃ p, ks[i]? = some p ∧ y = .tuple [.str (S p.1), optPV p.2] := by
  unfold itemsL kwPV at h
  rw [List.map_map, List.getElem?_map] at h
  obtain ⟨p, hp, rfl⟩ := Option.map_eq_some_iff.mp h
  exact ⟨p, hp, rfl⟩
theorem addK07_ct {c : Cx} {n : Nat} {mu : Mu} (hK : K07 c) {x l : Addr} {kvs : List Row} (H : T07 c mu x l kvs) {name : List Nat} {own : Option (List Nat)} {ks : List Kw} {P : PV → Mu → Prop} (hn : okN name = true) (ho : okO own = true) (hks : ∀ p ∈ ks, okK p = true)
    (hnd : (ks.map (·.1)).Nodup) (hown : ∀ p ∈ ks, ownK p.1 = false) (hlen : (rowL own ks).length ≤ 100000) (hkl : ks.length ≤ 1000) (hk : kvs.length < 10000)
    (h : P .none (upd mu l (.list ((kvs ++ [(name, rowL own ks)]).map pairPV)))) : CallK c (n + 2) mu (.ref 179) [.ref x, .str (S name), optPV own] (kwPV ks) P := by
  have hf : FnOk c 179 _ _ := ⟨⟨_, hK 179 _ rfl, rfl⟩, rfl, rfl, rfl, rfl, ⟨_, _, _, _, rfl, hK 178 _ rfl, rfl, rfl⟩, rfl, rfl, rfl⟩
  have sl : sizeLine = 16777216 := rfl
  refine CallK.fn hf (Binds.more (x := "self") (y := "_name") (z := "_value") (nm := "_params") (fun v w u kv hkv => ?_) (kw_nodup hnd) fun D hD hDS => ⟨by simp only [List.map_cons, List.map_nil]; decide, by rfl, ?_⟩)
  · refine bind_more ?_ ?_ kv (fun p hp => ?_) ?_ ?_ ?_ ?_ v w u
    · exact ⟨_, _, _, _, rfl, rfl, rfl, rfl, rfl⟩
    · rfl
    · obtain ⟨q, hq, e⟩ := kw_names hkv hp
      have := hown q hq
      unfold ownK at this
      simp only [Bool.or_eq_false_iff, decide_eq_false_iff_not] at this
      rw [e]; exact ⟨this.1.1, this.1.2, this.2⟩
    · have := congrArg List.length hkv
      simp [kwPV] at this
      omega
    · decide
    · decide
    · decide
  clear hf
  dsimp only
  have H1 : T07 c (upd mu D (.dict (kwPV ks))) x l kvs := H.fresh hD
  refine ExS.asg (EvE.list (EvA.nil ⟨by simp, fun PA hPA => AsgT.name (by with_unfolding_all rfl) ?_⟩)) (by with_unfolding_all (intro _ _; rfl)) (by with_unfolding_all (intro _; rfl)) (by with_unfolding_all (intro _; rfl))
  have hPD : PA ≠ D := fun q => by rw [q] at hPA; simp at hPA
  have hP0 : mu PA = none := by rw [upd_ne _ _ hPD] at hPA; exact hPA
  have HP : ∀ ys : List PV, T07 c (upd (upd mu D (.dict (kwPV ks))) PA (.list ys)) x l kvs := fun ys => H1.fresh hPA
  have HQ : ∀ ys : List PV, T07 c (upd mu PA (.list ys)) x l kvs := fun ys => H.fresh hP0
  refine ExS.mid (fun m' mu' => SubL [("self", .ref x), ("_name", .str (S name)), ("_params", .ref D), ("parts", .ref PA)] m' ∧ mu' = upd (upd mu D (.dict (kwPV ks))) PA (.list (own.toList.map fun v => .str (S v)))) (Ex1.if ?_) ?_
  · cases own with
    | none =>
      repeat' walk_at "e"
      refine ifF ?_
      repeat' walk_at "e"
      exact ⟨rfl, ⟨rfl, rfl, rfl, rfl, trivial⟩, rfl⟩
    | some v =>
      have hv : okV v = true := ho
      repeat' walk_at "e"
      refine ifT ?_
      refine ExS.asg ?_ (by with_unfolding_all (intro _ _; rfl)) (by with_unfolding_all (intro _; rfl)) (by with_unfolding_all (intro _; rfl))
      refine conv07_ev hK (HP _) (by with_unfolding_all rfl) (by with_unfolding_all rfl) ?_ (by with_unfolding_all (intro _; rfl)) (by with_unfolding_all rfl) (by with_unfolding_all rfl)
      repeat' walk_at "e"
      refine ⟨rfl, v, rfl, by have := okV.len hv; omega, okV.ctl hv, ?_⟩
      repeat' walk_at "e"
      refine EvE.appendC (EvE.loc (by with_unfolding_all rfl) (by with_unfolding_all rfl) ⟨PA, _, rfl, upd_same .., ?_⟩ (by with_unfolding_all decide)) (by with_unfolding_all (intro _; rfl)) (by with_unfolding_all (intro _; rfl)) (by with_unfolding_all rfl) (by with_unfolding_all rfl)
      repeat' walk_at "e"
      refine ⟨[], by simp, by simp, rfl, ?_⟩
      repeat' walk_at "e"
      rw [upd_upd]
      exact ⟨rfl, ⟨rfl, rfl, rfl, rfl, trivial⟩, rfl⟩
  rintro m' mu' ⟨hs, rfl⟩
  refine ExS.weakL hs ?_
  clear hs
  refine ExS.for (okT := tupT) tupT.mk ?_
  refine EvE.methB (EvE.loc (by with_unfolding_all rfl) (by with_unfolding_all rfl) ⟨_, Meth.dict (kw := kwPV ks) (by rw [upd_ne _ _ (Ne.symm hPD)]; simp) PySem.F.slot_dict_items PySem.F.type_dict_items, EvA.nil ?_⟩ (by with_unfolding_all decide)) (by with_unfolding_all (intro _; rfl)) (by with_unfolding_all rfl)
  refine CallV.items (kw := kwPV ks) (by rw [upd_ne _ _ (Ne.symm hPD)]; simp) hDS fun V hV => ?_
  rw [upd_comm _ _ _ (Ne.symm hPD)] at hV ⊢
  refine ⟨_, _, _, IterOf.items (by rw [upd_ne _ _ (Ne.symm hPD)]; exact hD) hV, ?_⟩
  refine LoopE.inv (fun i m' mu' => SubL [("self", .ref x), ("_name", .str (S name)), ("parts", .ref PA)] m' ∧ mu' = upd mu PA (.list ((own.toList ++ (ks.take i).map partL).map fun v => .str (S v)))) (fun _ _ _ _ => trivial) ⟨⟨rfl, rfl, rfl, trivial⟩, by simp⟩ ?_ ?_
  · rintro i y m' mu' hy ⟨hs, rfl⟩
    obtain ⟨p, hp, rfl⟩ := kwPV_get hy
    have hpo := hks p (List.mem_of_getElem? hp)
    have hpl := part_len (own := own) (List.mem_of_getElem? hp)
    have hkl2 := partL_key p
    have hstep : (own.toList ++ (ks.take i).map partL).map (fun v => PV.str (S v)) ++ [.str (S (partL p))] = (own.toList ++ (ks.take (i + 1)).map partL).map fun v => .str (S v) := by
      rw [List.take_add_one, hp]; simp
    have hil : i < ks.length := (List.getElem?_eq_some_iff.mp hp).1
    have hll : ((own.toList ++ (ks.take i).map partL).map fun v => PV.str (S v)).length ≤ 2000 := by
      have : own.toList.length ≤ 1 := by cases own <;> simp
      simp; omega
    have c1 : (Str.ofString "_") = ⟨#[95]⟩ := by decide +kernel
    have c2 : (Str.ofString "-") = S [45] := by decide +kernel
    refine AsgT.weak hs ?_
    refine AsgT.tuple ?_ (by with_unfolding_all rfl) (by with_unfolding_all (intro _; exact ⟨rfl, rfl⟩))
    repeat' walk_at "e"
    refine conv07_ev hK (HQ _) (by with_unfolding_all rfl) (by with_unfolding_all rfl) ?_ (by with_unfolding_all (intro _; rfl)) (by with_unfolding_all rfl) (by with_unfolding_all rfl)
    repeat' walk_at "e"
    refine ⟨rfl, p.1, rfl, by have := okN.len (okK.nm hpo); omega, okN.ctl (okK.nm hpo), ?_⟩
    repeat' walk_at "e"
    obtain ⟨k, o⟩ := p
    have hkl3 : k.length ≤ 100000 := by have : k.length ≤ (partL (k, o)).length := hkl2; omega
    cases o with
    | none =>
      repeat' walk_at "e"
      refine ifT ?_
      refine ExS.expr ?_ (by with_unfolding_all (intro _; rfl))
      refine EvE.appendC (EvE.loc (by with_unfolding_all rfl) (by with_unfolding_all rfl) ⟨PA, _, rfl, upd_same .., ?_⟩ (by with_unfolding_all decide)) (by with_unfolding_all (intro _; rfl)) (by with_unfolding_all (intro _; rfl)) (by with_unfolding_all rfl) (by with_unfolding_all rfl)
      refine EvE.replaceC (by decide +kernel) ?_
      repeat' walk_at "e"
      refine ⟨_, rfl, ?_, ?_⟩
      · rw [c2, S_length, S_length]; show k.length + (k.length + 1) * 1 ≤ _; omega
      rw [c1, c2, replace_list, S_cps]
      refine ⟨_, upd_same .., by omega, rfl, ?_⟩
      repeat' walk_at "e"
      rw [upd_upd]
      exact ⟨⟨rfl, rfl, rfl, trivial⟩, by rw [← hstep]; rfl⟩
    | some v =>
      have hv := okK.vl hpo rfl
      have hvl : v.length ≤ 100000 := okV.len hv
      repeat' walk_at "e"
      refine ifF ?_
      refine ExS.asg ?_ (by with_unfolding_all (intro _ _; rfl)) (by with_unfolding_all (intro _; rfl)) (by with_unfolding_all (intro _; rfl))
      refine conv07_ev hK (HQ _) (by with_unfolding_all rfl) (by with_unfolding_all rfl) ?_ (by with_unfolding_all (intro _; rfl)) (by with_unfolding_all rfl) (by with_unfolding_all rfl)
      repeat' walk_at "e"
      refine ⟨rfl, v, rfl, by omega, okV.ctl hv, ?_⟩
      refine AsgT.name (by with_unfolding_all rfl) ?_
      refine ExS.expr ?_ (by with_unfolding_all (intro _; rfl))
      refine EvE.appendC (EvE.loc (by with_unfolding_all rfl) (by with_unfolding_all rfl) ⟨PA, _, rfl, upd_same .., ?_⟩ (by with_unfolding_all decide)) (by with_unfolding_all (intro _; rfl)) (by with_unfolding_all (intro _; rfl)) (by with_unfolding_all rfl) (by with_unfolding_all rfl)
      refine EvE.callFn (by with_unfolding_all rfl) (mg_of hK (Cx.g _) (by with_unfolding_all rfl)) ?_ (by with_unfolding_all decide) (by with_unfolding_all rfl) (by with_unfolding_all rfl)
      refine EvA.cons (EvE.replaceC (by decide +kernel) ?_) (by with_unfolding_all (intro _; rfl))
      repeat' walk_at "e"
      refine ⟨_, rfl, ?_, ?_⟩
      · rw [c2, S_length, S_length]; show k.length + (k.length + 1) * 1 ≤ _; omega
      rw [c1, c2, replace_list, S_cps]
      repeat' walk_at "e"
      refine fpq07_ct hK (by rw [show replL 95 [45] k = dashL k from rfl, dashL_length]; omega) (by omega) ?_
      refine ⟨_, upd_same .., by omega, rfl, ?_⟩
      repeat' walk_at "e"
      rw [upd_upd]
      exact ⟨⟨rfl, rfl, rfl, trivial⟩, by rw [← hstep]; rfl⟩
  rintro m' mu' ⟨hs, rfl⟩
  rw [show (itemsL (kwPV ks)).length = ks.length from by simp [itemsL, kwPV], List.take_length]
  refine ExS.nil (SeqP.next (ExS.weakL hs ?_))
  have hHl : upd mu PA (.list ((own.toList ++ ks.map partL).map fun v => .str (S v))) l = some (.list (kvs.map pairPV)) := (HQ _).list
  have hHlen := H.len
  refine ExS.expr ?_ (by with_unfolding_all (intro _; rfl))
  refine EvE.appendC (EvE.hdr hK (hk07 _) (EvE.loc (by with_unfolding_all rfl) (by with_unfolding_all rfl) ⟨x, l, _, rfl, HQ _, ?_⟩ (by with_unfolding_all decide)) (by with_unfolding_all (intro _; rfl)) (by with_unfolding_all (intro _ _; rfl))) (by with_unfolding_all (intro _; rfl)) (by with_unfolding_all (intro _; rfl)) (by with_unfolding_all rfl) (by with_unfolding_all rfl)
  refine ⟨l, _, rfl, hHl, ?_⟩
  refine EvE.tuple (EvA.cons ?_ (by with_unfolding_all (intro _; rfl)))
  refine conv07_ev hK (HQ _) (by with_unfolding_all rfl) (by with_unfolding_all rfl) ?_ (by with_unfolding_all (intro _; rfl)) (by with_unfolding_all rfl) (by with_unfolding_all rfl)
  repeat' walk_at "e"
  refine ⟨rfl, name, rfl, by have := okN.len hn; omega, okN.ctl hn, ?_⟩
  refine EvA.cons ?_ (by with_unfolding_all (intro _; rfl))
  refine EvE.methB (EvE.str ⟨_, Meth.str PySem.F.slot_str_join (by kernel_rfl), ?_⟩) (by with_unfolding_all (intro _; rfl)) (by with_unfolding_all rfl)
  repeat' walk_at "e"
  have c3 : (Str.ofString "; ") = S [59, 32] := by decide +kernel
  rw [c3]
  refine CallV.joinL (xs := (own.toList ++ ks.map partL).map S) (by rw [List.map_map]; exact upd_same ..) (joinOk_row (by show (rowL own ks).length + 2 ≤ _; omega)) ?_
  rw [join_S]
  repeat' walk_at "e"
  refine ⟨by show 2 ≤ 2 ^ 24; decide, _, hHl, by rw [List.length_map]; omega, rfl, ?_⟩
  refine ExS.forget (mu := upd mu l (.list ((kvs ++ [(name, rowL own ks)]).map pairPV))) ?_ (ExS.nil h)
  have hPl : l ≠ PA := fun q => by rw [← q, H.list] at hP0; cases hP0
  rw [List.map_append, upd_comm _ _ _ (Ne.symm hPl)]
  exact sub_upd (by rw [upd_ne _ _ (Ne.symm hPl)]; exact hP0)
theorem fn07_add {c : Cx} (hK : K07 c) : ∃ fd body, FnOk c 179 fd body := ⟨_, _, ⟨⟨_, hK 179 _ rfl, rfl⟩, rfl, rfl, rfl, rfl, ⟨_, _, _, _, rfl, hK 178 _ rfl, rfl, rfl⟩, rfl, rfl, rfl⟩⟩
theorem add07_ct {c : Cx} {n : Nat} {mu : Mu} (hK : K07 c) {x l : Addr} {kvs : List Row} (H : T07 c mu x l kvs) {name : List Nat} {own : Option (List Nat)} {ks : List Kw} {P : PV → Mu → Prop} (hn : okN name = true) (ho : okO own = true) (hks : ∀ p ∈ ks, okK p = true)
    (hnd : (ks.map (·.1)).Nodup) (hown : ∀ p ∈ ks, ownK p.1 = false) (hlen : (rowL own ks).length ≤ 100000) (hkl : ks.length ≤ 1000) (hk : kvs.length < 10000)
    (h : P .none (upd mu l (.list ((kvs ++ [(name, rowL own ks)]).map pairPV)))) : Keepr c mu (.ref 179) ∧ CallV c (n + 2) mu (.ref 179) [.ref x, .str (S name), optPV own] (kwPV ks) P := by
  obtain ⟨fd, body, hf⟩ := fn07_add hK
  exact ⟨Keepr.fn hf, (addK07_ct hK H hn ho hks hnd hown hlen hkl hk h).toV⟩

open PySem PySem.W PySem.Calls PyProof.Rows
set_option Elab.async false
set_option linter.unusedVariables false
set_option maxRecDepth 100000
set_option maxHeartbeats 4000000

def sndG : PV → PV
  | .tuple [_, v] => v
  | _ => .none
theorem getall07_ct {c : Cx} {n : Nat} {mu : Mu} (hK : K07 c) {x l : Addr} {kvs : List Row} (H : T07 c mu x l kvs) {name : List Nat} {P : PV → Mu → Prop} (hn : okN name = true)
    (h : ∀ D, mu D = none → P (.ref D) (upd mu D (.list ((allR kvs name).map fun v => .str (S v))))) : Keepr c mu (.ref 121) ∧ CallV c (n + 2) mu (.ref 121) [.ref x, .str (S name)] [] P := by
  have hf : FnOk c 121 _ _ := ⟨⟨_, hK 121 _ rfl, rfl⟩, rfl, rfl, rfl, rfl, ⟨_, _, _, _, rfl, hK 120 _ rfl, rfl, rfl⟩, rfl, rfl, rfl⟩
  refine ⟨Keepr.fn hf, CallV.fn hf (Binds.p2 (fun v w => rfl) ⟨by simp only [List.map_cons, List.map_nil]; decide, by rfl, ?_⟩)⟩; clear hf
  dsimp only
  have hlen := H.len
  refine ExS.asg ?_ (by with_unfolding_all (intro _ _; rfl)) (by with_unfolding_all (intro _; rfl)) (by with_unfolding_all (intro _; rfl))
  refine conv07_ev hK H (by with_unfolding_all rfl) (by with_unfolding_all rfl) ?_ (by with_unfolding_all (intro _; rfl)) (by with_unfolding_all rfl) (by with_unfolding_all rfl)
  refine EvE.methB (EvE.cell (by with_unfolding_all rfl) (by with_unfolding_all rfl) ⟨_, Meth.str F.slot_str_lower (by kernel_rfl), EvA.nil ?_⟩ (by with_unfolding_all decide)) (by with_unfolding_all (intro _; rfl)) (by with_unfolding_all rfl)
  refine CallV.lower (okN.asc hn) (by have := okN.len hn; omega) ?_
  refine ⟨rfl, _, rfl, by have := okN.len (okN.low hn); omega, okN.ctl (okN.low hn), ?_⟩
  repeat' walk_at "e"
  refine EvE.listcomp (okT := anyT) trivial (by with_unfolding_all rfl) ?_
  refine EvE.hdr hK (hk07 _) (EvE.loc (by with_unfolding_all rfl) (by with_unfolding_all rfl) ⟨x, l, kvs, rfl, H, ?_⟩ (by with_unfolding_all decide)) (by with_unfolding_all (intro _; rfl)) (by with_unfolding_all (intro _ _; rfl))
  refine ⟨_, _, _, IterOf.list H.list, ?_⟩
  refine CompE.all (m0 := [("name", .str (S (lowL name)))]) (fun d => match d with | .tuple [.str k, _] => decide (Txt.lower k = S (lowL name)) | _ => false) sndG H.list _ _ _ (by simp; show _ ≤ 2 ^ 24; omega) ⟨rfl, trivial⟩ (fun y hy => ?_) ?_
  · obtain ⟨r, hr, rfl⟩ := List.mem_map.mp hy
    have hro := H.row hr
    unfold pairPV
    repeat' walk_at "e"
    refine ⟨rfl, ⟨rfl, trivial⟩, IfsE.one ?_⟩
    refine Tst.cmp (EvE.methB (EvE.sub (EvE.loc (by with_unfolding_all rfl) (by with_unfolding_all rfl) (EvE.int (OpSub.tupN (by decide) (by decide) rfl ⟨_, Meth.str F.slot_str_lower (by kernel_rfl), EvA.nil ?_⟩)) (by with_unfolding_all decide))) (by with_unfolding_all (intro _; rfl)) (by with_unfolding_all rfl)) (by with_unfolding_all rfl)
    refine CallV.lower (okN.asc (okR.nm hro)) (by have := okN.len (okR.nm hro); omega) ?_
    repeat' walk_at "e"
    refine ⟨?_, rfl, fun _ => ?_⟩
    · show _ = decide (Txt.lower (S r.1) = S (lowL name))
      rw [S_lower (okN.asc (okR.nm hro))]
    · repeat' walk_at "e"
      refine OpSub.tupN (d := .str (S r.2)) (by decide) (by decide) rfl ⟨rfl, rfl⟩ (by with_unfolding_all (intro _ _; exact ⟨_, rfl⟩))
  · intro D hD
    have e : [] ++ (((kvs.map pairPV).filter fun d => match d with | .tuple [.str k, _] => decide (Txt.lower k = S (lowL name)) | _ => false).map sndG) = (allR kvs name).map fun v => .str (S v) := by
      rw [List.nil_append, List.filter_map]
      unfold allR
      rw [List.map_map, List.map_map]
      have : (kvs.filter ((fun d => match d with | PV.tuple [.str k, _] => decide (Txt.lower k = S (lowL name)) | _ => false) ∘ pairPV)) = kvs.filter fun x => eqN x.1 name := by
        refine List.filter_congr fun r hr => ?_
        show decide (Txt.lower (S r.1) = S (lowL name)) = _
        rw [S_lower (okN.asc (okR.nm (H.row hr)))]
        simp [eqN]
      rw [this]
      rfl
    rw [e]
    exact h D hD
open PySem PySem.W PySem.Calls PyProof.Rows
set_option Elab.async false
set_option linter.unusedVariables false
set_option maxRecDepth 100000
set_option maxHeartbeats 4000000

theorem word07_ct {c : Cx} {n : Nat} {mu : Mu} (hK : K07 c) {i : Int} {P : PV → Mu → Prop} (h : P (.str (S (word i))) mu) : Keepr c mu (.ref 193) ∧ CallV c (n + 1) mu (.ref 193) [.int i] [] P := by
  have hf : FnOk c 193 _ _ := ⟨⟨_, hK 193 _ rfl, rfl⟩, rfl, rfl, rfl, rfl, ⟨_, _, _, _, rfl, hK 192 _ rfl, rfl, rfl⟩, rfl, rfl, rfl⟩
  refine ⟨Keepr.fn hf, CallV.fn hf (Binds.p1 (fun v => rfl) ⟨by simp only [List.map_cons, List.map_nil]; decide, by rfl, ?_⟩)⟩; clear hf
  dsimp only
  repeat' walk_at "e"
  obtain ⟨k, hk, hk2⟩ := word_mod i
  have hw : word i = wordG 21 k := by unfold word; rw [hk]; rfl
  rw [hw] at h
  rw [hk]
  refine ExS.while 22 (WhE.inv (fun f m' mu' => mu' = mu ∧ ∃ (k : Nat) (out : List Nat), k ≤ f ∧ out.length + f ≤ 100 ∧ SubL [("n", .int (k : Int)), ("out", .str (S out))] m' ∧ P (.str (S (out ++ wordG f k))) mu) ?_ 21 ⟨rfl, k, [], by omega, by simp, ⟨rfl, rfl, trivial⟩, h⟩)
  rintro f m' mu' ⟨rfl, k, out, h1, h2, hs, hP⟩
  refine Tst.weak hs ?_
  repeat' walk_at "e"
  refine ifd (fun q => ?_) (fun q => ?_)
  · obtain ⟨k, rfl⟩ : ∃ j, k = j + 1 := ⟨k - 1, by omega⟩
    obtain ⟨f, rfl⟩ : ∃ j, f = j + 1 := ⟨f - 1, by omega⟩
    refine ⟨f, rfl, ExS.weakL hs ?_⟩
    repeat' walk_at "e"
    have e1 : ((k + 1 : Nat) : Int) - 1 = (k : Int) := by omega
    rw [e1]
    have e2 : (k : Int).fmod 4 = ((k % 4 : Nat) : Int) := by rw [Int.fmod_eq_emod_of_nonneg]; omega; omega
    have e3 : (k : Int).fdiv 4 = ((k / 4 : Nat) : Int) := by rw [Int.fdiv_eq_ediv_of_nonneg]; omega; omega
    rw [e2]
    refine OpSub.strN (by omega) (by omega) ab_get ?_ (by with_unfolding_all (intro _ _; exact ⟨_, rfl⟩))
    refine OpI.addS (by rw [S_length]; show _ + 1 ≤ 2 ^ 24; omega) ?_
    rw [show (Str.mk #[abL.getD (k % 4) 0]) = S [abL.getD (k % 4) 0] from rfl, S_append]
    repeat' walk_at "e"
    refine ⟨rfl, k / 4, out ++ [abL.getD (k % 4) 0], by omega, by simp; omega, ⟨?_, rfl, trivial⟩, ?_⟩
    · rw [e3]; rfl
    · simpa [wordG] using hP
  · have hk0 : k = 0 := by omega
    subst hk0
    refine ExS.weakL hs ?_
    repeat' walk_at "e"
    have : wordG f 0 = [] := by cases f <;> rfl
    rw [this, List.append_nil] at hP
    exact hP

open PySem PySem.W PySem.Calls PyProof.Rows
set_option Elab.async false
set_option linter.unusedVariables false
set_option maxRecDepth 100000
set_option maxHeartbeats 4000000

/-! ## small things -/
theorem CompC.all {c : Cx} {n : Nat} {sc : Scope} {mu : Mu} {src : Mu → Prop} {x : Str} {elt : PySem.Expr} {P : List PV → Mu → Prop} {m0 : Lm} (g : PV → PV) (hs : src mu) (hx : ∀ p ∈ m0, p.1 ≠ x) : ∀ (xs acc : List PV) (m : Lm), acc.length + xs.length ≤ sizeLine → SubL m0 m →
    (∀ y ∈ xs, EvE c n sc ((x, y) :: m0) mu elt fun d mu3 => d = g y ∧ mu3 = mu) → P (acc ++ xs.map g) mu → CompC c n sc src x [] elt P xs acc m mu
  | [], acc, m, _, _, _, hP => ⟨hs, by simpa using hP⟩
  | y :: xs, acc, m, hl, hm, hst, hP => by
    have hsub : ∀ (q : Lm), (∀ p ∈ q, p.1 ≠ x) → SubL q m → SubL q (setL m x y) := fun q => by
      induction q with
      | nil => intro _ _; trivial
      | cons p r ih =>
        intro h1 h2
        refine ⟨?_, ih (fun z hz => h1 z (List.mem_cons_of_mem _ hz)) h2.2⟩
        rw [lookup_setL, if_neg (h1 p (List.mem_cons_self ..))]; exact h2.1
    have hm1 : SubL m0 (setL m x y) := hsub m0 hx hm
    have hm2 : SubL ((x, y) :: m0) (setL m x y) := ⟨by rw [lookup_setL, if_pos rfl], hm1⟩
    refine ⟨hs, by simp at hl; omega, IfsE.nil ?_⟩
    rw [if_pos rfl]
    have he := hst y (List.mem_cons_self ..)
    have he2 : EvE c n sc (setL m x y) mu elt fun d mu3 => d = g y ∧ mu3 = mu := fun env A s h1 h2 h3 h4 F => he env A s h1 h2 h3 h4 (F.weak hm2.look)
    refine he2.imp fun d mu3 ⟨e1, e2⟩ => ?_
    subst e2; subst e1
    exact CompC.all g hs hx xs (acc ++ [g y]) _ (by simp at hl ⊢; omega) hm1 (fun z hz => hst z (List.mem_cons_of_mem _ hz)) (by simpa using hP)
def nm7 (ps : List Row) (i : Nat) : List Nat := (ps.getD i ([], [])).1
def vl7 (ps : List Row) (i : Nat) : List Nat := (ps.getD i ([], [])).2
theorem fl_ps (ps : List Row) : fl ps.length (fun i => (nm7 ps i, vl7 ps i)) = ps := by
  apply List.ext_getElem?
  intro i
  by_cases hi : i < ps.length
  · rw [fl_get _ hi, List.getElem?_eq_getElem hi]
    unfold nm7 vl7
    rw [List.getD_eq_getElem?_getD, List.getElem?_eq_getElem hi]; rfl
  · rw [List.getElem?_eq_none (by rw [fl_len]; omega), List.getElem?_eq_none (by omega)]
/-- where a small name comes last -/
def lastS (ps : List Row) (w : Str) : Nat := ((List.range ps.length).filter fun j => decide (S (lowL (nm7 ps j)) = w)).getLastD 0
def la7 (ps : List Row) (i : Nat) : Nat := lastS ps (S (lowL (nm7 ps i)))
theorem last_of {l : List Nat} (hl : l.Pairwise (· < ·)) {i : Nat} (hi : i ∈ l) : l.getLastD 0 ∈ l ∧ ∀ j ∈ l, j ≤ l.getLastD 0 := by
  have hne : l ≠ [] := List.ne_nil_of_mem hi
  have e : l.getLastD 0 = l.getLast hne := by
    cases l with
    | nil => exact absurd rfl hne
    | cons a r => rw [List.getLastD_cons, List.getLast_eq_getLastD]
  rw [e]
  refine ⟨List.getLast_mem hne, fun j hj => ?_⟩
  have hs := List.dropLast_concat_getLast hne
  have hj' : j ∈ l.dropLast ++ [l.getLast hne] := by rw [hs]; exact hj
  have hl' : (l.dropLast ++ [l.getLast hne]).Pairwise (· < ·) := by rw [hs]; exact hl
  rcases List.mem_append.mp hj' with q | q
  · have := (List.pairwise_append.mp hl').2.2 j q (l.getLast hne) (by simp)
    omega
  · have := List.mem_singleton.mp q; omega
theorem lastS_ok {ps : List Row} {w : Str} {i : Nat} (hi : i < ps.length) (hw : S (lowL (nm7 ps i)) = w) : lastS ps w ∈ (List.range ps.length).filter (fun j => decide (S (lowL (nm7 ps j)) = w)) ∧ ∀ j ∈ (List.range ps.length).filter (fun j => decide (S (lowL (nm7 ps j)) = w)), j ≤ lastS ps w :=
  last_of (List.Pairwise.filter _ List.pairwise_lt_range) (List.mem_filter.mpr ⟨List.mem_range.mpr hi, by simpa using hw⟩)
theorem la7_last (ps : List Row) : LastOf ps.length (nm7 ps) (la7 ps) := fun i hi => by
  obtain ⟨h1, h2⟩ := lastS_ok (w := S (lowL (nm7 ps i))) hi rfl
  obtain ⟨h3, h4⟩ := List.mem_filter.mp h1
  refine ⟨List.mem_range.mp h3, S_inj.mp (of_decide_eq_true h4), fun j hj e => h2 j (List.mem_filter.mpr ⟨List.mem_range.mpr hj, by simp [e]⟩)⟩
def gL7 (ps : List Row) : PV → PV
  | .str w => .int (lastS ps w : Nat)
  | d => d
theorem gL7_all (ps : List Row) : [] ++ (((lows ps).map S).map PV.str).map (gL7 ps) = fl ps.length fun i => PV.int (la7 ps i : Nat) := by
  apply List.ext_getElem?
  intro i
  by_cases hi : i < ps.length
  · rw [fl_get _ hi]
    simp [lows, List.getElem?_map, List.getElem?_eq_getElem hi, gL7, la7, nm7, List.getD_eq_getElem?_getD]
  · rw [List.getElem?_eq_none (by simp [lows]; omega), List.getElem?_eq_none (by rw [fl_len]; omega)]
theorem ps_ok {ps : List Row} (h : ps.all okR = true) {i : Nat} (hi : i < ps.length) : okN (nm7 ps i) = true ∧ okV (vl7 ps i) = true := by
  have := List.all_eq_true.mp h (ps[i]) (List.getElem_mem hi)
  unfold nm7 vl7
  rw [List.getD_eq_getElem?_getD, List.getElem?_eq_getElem hi]
  unfold okR at this
  rw [Bool.and_eq_true] at this
  exact this
theorem ne_sym7 {a b : Addr} (h : a ≠ b) : b ≠ a := fun q => h q.symm
def endG (ps : List Row) : PV → PV
  | .int i => pairPV (nm7 ps (la7 ps i.toNat), vl7 ps i.toNat)
  | d => d
theorem da_len (R : List Row) (w : List Nat) : (delR R w).length + (allR R w).length = R.length := by
  induction R with
  | nil => rfl
  | cons r R ih =>
    unfold delR allR at ih ⊢
    rw [List.length_map] at ih ⊢
    cases h : eqN r.1 w with
    | true => simp [List.filter_cons, h]; omega
    | false => simp [List.filter_cons, h]; omega
theorem R7_len (k : Nat) (nm vl : Nat → List Nat) : ∀ t, (R7 k nm vl t).length = k
  | 0 => by rw [R7_zero, fl_len]
  | t + 1 => by
    rw [← step7, List.length_append, List.length_map, da_len]; exact R7_len k nm vl t
structure F07 (c : Cx) (mu : Mu) (PL x l : Addr) (ps R : List Row) : Prop where
  p : mu PL = some (.list (ps.map pairPV))
  t : Hd c 182 mu x l R
  ne : l ≠ PL
  tab : mu 195 = some (.obj (tabObj #[]))
theorem F07.sub {c : Cx} {mu mu' : Mu} {PL x l : Addr} {ps R : List Row} (h : F07 c mu PL x l ps R) (s : Sub mu mu') : F07 c mu' PL x l ps R := ⟨s _ _ h.p, h.t.sub s, h.ne, s _ _ h.tab⟩
theorem F07.set {c : Cx} {mu : Mu} {PL x l : Addr} {ps R Q : List Row} (h : F07 c mu PL x l ps R) (hq : Q.all okR = true) (hl : Q.length ≤ 10000) : F07 c (upd mu l (.list (Q.map pairPV))) PL x l ps Q :=
  ⟨(upd_ne _ _ h.ne.symm).trans h.p, h.t.set hq hl, h.ne, (upd_ne _ _ (fun q => by have := h.t.list; rw [← q, h.tab] at this; cases this)).trans h.tab⟩
theorem R7_ok {ps : List Row} (h : ps.all okR = true) (t : Nat) (ht : t ≤ ps.length) : (R7 ps.length (nm7 ps) (vl7 ps) t).all okR = true := by
  rw [List.all_eq_true]
  intro r hr
  unfold R7 at hr
  rcases List.mem_append.mp hr with q | q
  · obtain ⟨i, hi, rfl⟩ := List.mem_map.mp q
    have := ps_ok h (List.mem_range.mp (List.mem_filter.mp hi).1)
    unfold okR; rw [this.1, this.2]; rfl
  · obtain ⟨l, hl, q⟩ := List.mem_flatMap.mp q
    obtain ⟨i, hi, rfl⟩ := List.mem_map.mp q
    have h1 := ps_ok h (i := l) (by have := List.mem_range.mp (List.mem_filter.mp hl).1; omega)
    have h2 := ps_ok h (List.mem_range.mp (List.mem_filter.mp hi).1)
    unfold okR; rw [h1.1, h2.2]; rfl
theorem law07_fn {c : Cx} {n : Nat} (hK : K07 c) {l : Addr} {ns : List Int} (hl : BaseList c l (ns.map .int)) (hn : ns.length ≤ 100000) (C : CodeHd c.base 197 195) (hB : c.base.BuiltinsAt c.mg 195) {A : Around} {s : Shared} (hA : AOk (n + 8) A) (S0 : St c (upd (fun _ => none) 195 (.obj (tabObj #[]))) s.heap) :
    wpAny c.M A (call (.ref 198) [.ref l]) (Post c (upd (fun _ => none) 195 (.obj (tabObj #[]))) s fun d mu' => d = .bool true ∧ ∃ more, mu' 195 = some (.obj (tabObj more))) NoE s := by
  have hf : FnOk c 198 _ _ := ⟨⟨_, hK 198 _ rfl, rfl⟩, rfl, rfl, rfl, rfl, ⟨_, _, _, _, rfl, hK 197 _ rfl, rfl, rfl⟩, rfl, rfl, rfl⟩
  refine law_fnX hf (fun v => rfl) (by rfl) ?_ hA S0; clear hf S0
  dsimp only
  have h195 : upd (fun _ => none : Mu) 195 (.obj (tabObj #[])) 195 = some (.obj (tabObj #[])) := upd_same ..
  generalize upd (fun _ => none : Mu) 195 (.obj (tabObj #[])) = mu at h195
  have sl : sizeLine = 16777216 := rfl
  -- pairs
  refine ExSX.mid (fun m' mu' => ∃ (PL : Addr) (ps : List Row), SubL [("pairs", .ref PL)] m' ∧ mu' PL = some (.list (ps.map pairPV)) ∧ mu' 195 = some (.obj (tabObj #[])) ∧ ps.all okR = true ∧ ps.length ≤ 24) (Ex1X.of (Ex1.assign (EvE.listcomp (okT := tupT) tupT.mk (by with_unfolding_all rfl) ?_ (by with_unfolding_all (intro _ _; rfl))) (swap_cell (by with_unfolding_all rfl) (by with_unfolding_all rfl)) (by with_unfolding_all (intro _; rfl)) (by with_unfolding_all (intro _; rfl)))) ?_
  · repeat' walk_at "e"
    refine ⟨24, rfl, l, _, rfl, .inr hl, .inl rfl, by simp; omega, fun D0 hD0 => ?_⟩
    rw [pk_to, ← List.map_take]
    have hn8 : (ns.take 24).length ≤ 24 := by simp; omega
    generalize ns.take 24 = ns at hn8
    repeat' walk_at "e"
    refine CallV.enum (xs := ns.map .int) (by simp) fun e it oi he hi hei hoi => ⟨_, _, _, IterOf.enum hD0 hi he hei hoi, ?_⟩
    refine CompE.all (m0 := []) (fun _ => true) (pairG 7) trivial _ _ _ (by simp [enumL_length]; omega) trivial (fun x hx => ?_) ?_
    · obtain ⟨i, hi, hx⟩ := List.mem_iff_getElem.mp hx
      obtain ⟨d, hd, rfl⟩ := enumL_get (by rw [List.getElem?_eq_some_iff]; exact ⟨hi, hx⟩)
      rw [List.getElem?_map] at hd
      obtain ⟨a, ha, rfl⟩ := Option.map_eq_some_iff.mp hd
      have hil : i < 24 := by have := (List.getElem?_eq_some_iff.mp ha).1; omega
      repeat' walk_at "e"
      refine ⟨rfl, trivial, IfsE.nil ⟨rfl, rfl, fun _ => ?_⟩⟩
      repeat' walk_at "e"
      refine word07_ct hK ?_
      repeat' walk_at "e"
      refine ifd (fun q => ?_) (fun q => ?_)
      · repeat' walk_at "e"
        refine ⟨by show 2 ≤ 2 ^ 24; decide, ?_, rfl⟩
        simp [pairG, pairPV, valM, q]
        rfl
      · repeat' walk_at "e"
        refine CallV.strInt (by omega) ?_
        repeat' walk_at "e"
        refine ⟨by show 2 ≤ 2 ^ 24; decide, ?_, rfl⟩
        simp [pairG, pairPV, valM, q]
    intro PL hPL
    rw [List.filter_eq_self.mpr (fun _ _ => rfl), List.nil_append, pairG_all]
    have hlenP := pairsOf_length 7 ns
    refine AsgT.name (by with_unfolding_all rfl) ⟨rfl, PL, pairsOf 7 ns, ⟨rfl, trivial⟩, upd_same .., sub_upd hPL _ _ h195, pairsOf_ok (d := 7) (ns := ns) (by omega), by omega⟩
  clear h195 mu hl
  rintro m1 mu ⟨PL, ps, hs, hPL, h195, hok, hps⟩
  refine ExSX.weakL hs ?_
  clear hs m1
  -- table
  refine ExSX.mid (fun m' mu' => ∃ (x l : Addr), SubL [("pairs", .ref PL), ("table", .ref x)] m' ∧ F07 c mu' PL x l ps ps) (Ex1X.of (Ex1.assign ?_ (by with_unfolding_all (intro _ _; rfl)) (by with_unfolding_all (intro _; rfl)) (by with_unfolding_all (intro _; rfl)))) ?_
  · repeat' walk_at "e"
    refine CallV.listL (.inl hPL) (by simp [sl]; omega) fun D hD => ?_
    repeat' walk_at "e"
    refine make07_ct hK (l := D) (kvs := ps) (upd_same ..) hok (by omega) fun x mu1 hx s1 H => ?_
    have s01 := (sub_upd hD).trans s1
    exact AsgT.name (by with_unfolding_all rfl) ⟨rfl, x, D, ⟨rfl, rfl, trivial⟩, s01 _ _ hPL, H, ne_sym7 (ne_sn hPL hD), s01 _ _ h195⟩
  clear hPL h195 mu
  rintro m1 mu ⟨x, l, hs, G⟩
  refine ExSX.weakL hs ?_
  clear hs m1
  -- the walk over the names
  refine ExSX.mid (fun m' mu' => SubL [("pairs", .ref PL), ("table", .ref x)] m' ∧ F07 c mu' PL x l ps (R7 ps.length (nm7 ps) (vl7 ps) ps.length)) (Ex1X.of (Ex1.for (okT := anyT) trivial ?_)) ?_
  · refine EvE.method (EvE.loc (by with_unfolding_all rfl) (by with_unfolding_all rfl) ⟨_, Meth.hd hK G.t (by with_unfolding_all rfl) (f := 134) (by with_unfolding_all rfl) (by with_unfolding_all rfl) (by decide), ?_⟩ (by with_unfolding_all decide))
    refine EvA.nil (EvK.nil (keys07_ct hK G.t fun D hD => ⟨_, _, _, IterOf.listTmp hD, ?_⟩))
    have G0 : F07 c mu PL x l ps (R7 ps.length (nm7 ps) (vl7 ps) 0) := by rw [R7_zero, fl_ps]; exact G
    refine LoopE.inv (fun t m' mu' => SubL [("pairs", .ref PL), ("table", .ref x)] m' ∧ F07 c mu' PL x l ps (R7 ps.length (nm7 ps) (vl7 ps) t)) (fun _ _ _ _ => trivial) ⟨⟨rfl, rfl, trivial⟩, G0⟩ ?_ ?_
    · clear G G0 hD
      rintro t y m' mu' hy ⟨hs, G⟩
      rw [List.getElem?_map] at hy
      obtain ⟨r, hr, rfl⟩ := Option.map_eq_some_iff.mp hy
      have htl : t < ps.length := (List.getElem?_eq_some_iff.mp hr).1
      have hrn : r.1 = nm7 ps t := by unfold nm7; rw [List.getD_eq_getElem?_getD, hr]; rfl
      have hnt := (ps_ok hok htl).1
      rw [hrn]
      clear hy hr hrn
      have hst := step7 (n := ps.length) (nm := nm7 ps) (vl := vl7 ps) (t := t)
      have hRok := R7_ok hok t (by omega)
      have hRok1 := R7_ok hok (t + 1) (by omega)
      have hRl := G.t.len
      generalize hR : R7 ps.length (nm7 ps) (vl7 ps) t = R at *
      generalize hR1 : R7 ps.length (nm7 ps) (vl7 ps) (t + 1) = R1 at *
      refine AsgT.weak hs ?_
      clear hs
      refine AsgT.name (by with_unfolding_all rfl) ?_
      refine ExS.asg ?_ (by with_unfolding_all (intro _ _; rfl)) (by with_unfolding_all (intro _; rfl)) (by with_unfolding_all (intro _; rfl))
      refine EvE.method (EvE.loc (by with_unfolding_all rfl) (by with_unfolding_all rfl) ⟨_, Meth.hd hK G.t (by with_unfolding_all rfl) (f := 121) (by with_unfolding_all rfl) (by with_unfolding_all rfl) (by decide), ?_⟩ (by with_unfolding_all decide))
      repeat' walk_at "e"
      refine getall07_ct hK G.t hnt fun VL hVL => ?_
      refine AsgT.name (by with_unfolding_all rfl) ?_
      have nV : l ≠ VL := ne_sn G.t.list hVL
      have hv : upd mu' VL (.list ((allR R (nm7 ps t)).map fun v => .str (S v))) VL = _ := upd_same ..
      replace G := G.sub (sub_upd (o := .list ((allR R (nm7 ps t)).map fun v => .str (S v))) hVL)
      generalize upd mu' VL (.list ((allR R (nm7 ps t)).map fun v => .str (S v))) = mu1 at G hv
      clear hVL
      refine ExS.delInst (K := hd07.heap_39 c.w.params) ?_
      repeat' walk_at "e"
      refine ⟨x, 182, 102, rfl, InstK.hd hK G.t (by with_unfolding_all rfl) (by with_unfolding_all rfl), by with_unfolding_all rfl, ?_⟩
      refine del07_ct hK G.t hnt ?_
      have hdo : (delR R (nm7 ps t)).all okR = true := delR_ok hRok
      have hdl := delR_len R (nm7 ps t)
      replace hv := (upd_ne mu1 (.list ((delR R (nm7 ps t)).map pairPV)) (ne_sym7 nV)).trans hv
      replace G := G.set hdo (by omega)
      generalize upd mu1 l (.list ((delR R (nm7 ps t)).map pairPV)) = mu2 at G hv
      have hda := da_len R (nm7 ps t)
      have hR24 : R.length = ps.length := by rw [← hR]; exact R7_len _ _ _ _
      have hvs : ∀ v ∈ allR R (nm7 ps t), okV v = true := fun v hv => allR_ok hRok hv
      refine ExS.for (okT := anyT) trivial ?_
      refine EvE.loc (by with_unfolding_all rfl) (by with_unfolding_all rfl) ⟨_, _, _, IterOf.list hv, ?_⟩ (by with_unfolding_all decide)
      refine LoopE.inv (fun j m' mu' => SubL [("pairs", .ref PL), ("table", .ref x), ("name", .str (S (nm7 ps t)))] m' ∧ mu' VL = some (.list ((allR R (nm7 ps t)).map fun v => .str (S v))) ∧ F07 c mu' PL x l ps (delR R (nm7 ps t) ++ ((allR R (nm7 ps t)).take j).map fun v => (nm7 ps t, v))) (fun _ _ _ h => h.2.1) ⟨⟨rfl, rfl, rfl, trivial⟩, hv, by simpa using G⟩ ?_ ?_
      · clear hv G
        rintro j y m3 mu3 hy ⟨hs, hv, G⟩
        rw [List.getElem?_map] at hy
        obtain ⟨v, hvj, rfl⟩ := Option.map_eq_some_iff.mp hy
        have hvo := hvs v (List.mem_of_getElem? hvj)
        refine AsgT.weak hs ?_
        clear hs hy
        refine AsgT.name (by with_unfolding_all rfl) ?_
        refine ExS.expr ?_ (by with_unfolding_all (intro _; rfl))
        refine EvE.method (EvE.loc (by with_unfolding_all rfl) (by with_unfolding_all rfl) ⟨_, Meth.hd hK G.t (by with_unfolding_all rfl) (f := 179) (by with_unfolding_all rfl) (by with_unfolding_all rfl) (by decide), ?_⟩ (by with_unfolding_all decide))
        repeat' walk_at "e"
        have hlt : (delR R (nm7 ps t) ++ ((allR R (nm7 ps t)).take j).map fun v => (nm7 ps t, v)).length < 10000 := by
          simp only [List.length_append, List.length_map, List.length_take]; omega
        refine add07_ct (own := some v) (ks := []) hK G.t hnt hvo (by simp) (by simp) (by simp) (by rw [rowL_nil]; exact okV.len hvo) (by simp) hlt ⟨rfl, ?_⟩
        rw [rowL_nil]
        have e : (delR R (nm7 ps t) ++ ((allR R (nm7 ps t)).take j).map fun v => (nm7 ps t, v)) ++ [(nm7 ps t, (some v).getD [])] = delR R (nm7 ps t) ++ ((allR R (nm7 ps t)).take (j + 1)).map fun v => (nm7 ps t, v) := by
          rw [List.take_add_one, hvj]; simp
        rw [e]
        have hok2 : (delR R (nm7 ps t) ++ ((allR R (nm7 ps t)).take (j + 1)).map fun v => (nm7 ps t, v)).all okR = true := by
          rw [List.all_append, hdo, Bool.true_and, List.all_eq_true]
          intro q hq
          obtain ⟨w, hw, rfl⟩ := List.mem_map.mp hq
          unfold okR; rw [hnt, hvs w (List.mem_of_mem_take hw)]; rfl
        refine ExS.nil ⟨⟨rfl, rfl, rfl, trivial⟩, (upd_ne _ _ (ne_sym7 nV)).trans hv, G.set hok2 ?_⟩
        simp only [List.length_append, List.length_map, List.length_take]; omega
      · clear hv G
        rintro m3 mu3 ⟨hs, hv, G⟩
        rw [List.length_map, List.take_length, hst] at G
        exact ExS.nil (SeqP.next (ExS.weakL hs (ExS.nil ⟨⟨rfl, rfl, trivial⟩, G⟩)))
    · clear G G0 hD
      rintro m' mu' ⟨hs, G⟩
      rw [List.length_map] at G
      exact ExS.nil ⟨rfl, hs, G⟩
  clear G mu
  rintro m1 mu ⟨hs, G⟩
  refine ExSX.weakL hs ?_
  clear hs m1
  have hRlen : (R7 ps.length (nm7 ps) (vl7 ps) ps.length).length = ps.length := R7_len _ _ _ _
  have hRok := R7_ok hok ps.length (Nat.le_refl _)
  -- small
  refine ExSX.mid (fun m' mu' => ∃ (SL : Addr), SubL [("pairs", .ref PL), ("table", .ref x), ("small", .ref SL)] m' ∧ F07 c mu' PL x l ps (R7 ps.length (nm7 ps) (vl7 ps) ps.length) ∧ mu' SL = some (.list (((lows ps).map S).map .str))) (Ex1X.of (Ex1.assign (EvE.listcomp (okT := anyT) trivial (by with_unfolding_all rfl) ?_ (by with_unfolding_all (intro _ _; rfl))) (swap_cell (by with_unfolding_all rfl) (by with_unfolding_all rfl)) (by with_unfolding_all (intro _; rfl)) (by with_unfolding_all (intro _; rfl)))) ?_
  · repeat' walk_at "e"
    refine ⟨_, _, _, IterOf.list G.p, ?_⟩
    refine CompE.all (m0 := []) (fun _ => true) lowG G.p _ _ _ (by simp [sl]; omega) trivial (fun y hy => ?_) ?_
    · obtain ⟨r, hr, rfl⟩ := List.mem_map.mp hy
      have hrk := List.all_eq_true.mp hok r hr
      unfold pairPV
      repeat' walk_at "e"
      refine ⟨rfl, trivial, IfsE.nil ⟨rfl, rfl, fun _ => ?_⟩⟩
      refine EvE.methB (EvE.loc (by with_unfolding_all rfl) (by with_unfolding_all rfl) ⟨_, Meth.str PySem.F.slot_str_lower (by kernel_rfl), EvA.nil ?_⟩ (by with_unfolding_all decide)) (by with_unfolding_all (intro _; rfl)) (by with_unfolding_all rfl)
      refine CallV.lower (okN.asc (okR.nm hrk)) (by have := okN.len (okR.nm hrk); omega) ?_
      exact ⟨(lowG_pair hrk).symm, rfl⟩
    intro SL hSL
    rw [lowG_all hok]
    exact AsgT.name (by with_unfolding_all rfl) ⟨rfl, SL, ⟨rfl, rfl, rfl, trivial⟩, G.sub (sub_upd hSL), upd_same ..⟩
  clear G mu
  rintro m1 mu ⟨SL, hs, G, hSL⟩
  refine ExSX.weakL hs ?_
  clear hs m1
  have hlows : (((lows ps).map S).map PV.str).length = ps.length := by simp [lows]
  -- last
  refine ExSX.mid (fun m' mu' => ∃ (LL : Addr), SubL [("pairs", .ref PL), ("table", .ref x), ("last", .ref LL)] m' ∧ F07 c mu' PL x l ps (R7 ps.length (nm7 ps) (vl7 ps) ps.length) ∧ mu' LL = some (.list (fl ps.length fun i => PV.int (la7 ps i : Nat))) ∧ LL ≠ 195) (Ex1X.of (Ex1.assign (EvE.listcompC (okT := anyT) trivial (by with_unfolding_all rfl) ?_ (by with_unfolding_all (intro _ _; rfl))) (swap_cell (by with_unfolding_all rfl) (by with_unfolding_all rfl)) (by with_unfolding_all (intro _; rfl)) (by with_unfolding_all (intro _; rfl)))) ?_
  · repeat' walk_at "e"
    refine ⟨_, _, _, IterOf.list hSL, ?_⟩
    refine CompC.all (m0 := [("small", .ref SL)]) (gL7 ps) hSL (by intro p hp; simp at hp; rw [hp]; show Str.ofString "small" ≠ Str.ofString "word"; decide) _ _ _ (by rw [hlows]; simp [sl]; omega) ⟨rfl, trivial⟩ (fun y hy => ?_) ?_
    · obtain ⟨w0, hw0, rfl⟩ := List.mem_map.mp hy
      obtain ⟨w, hw, rfl⟩ := List.mem_map.mp hw0
      obtain ⟨r, hr, rfl⟩ := List.mem_map.mp hw
      obtain ⟨i, hi, hir⟩ := List.mem_iff_getElem.mp hr
      have hwi : S (lowL (nm7 ps i)) = S (lowL r.1) := by unfold nm7; rw [List.getD_eq_getElem?_getD, List.getElem?_eq_getElem hi, hir]; rfl
      obtain ⟨hm1, hm2⟩ := lastS_ok hi hwi
      repeat' walk_at "e"
      refine EvE.listcomp (okT := anyT) trivial (by with_unfolding_all rfl) ?_ (by with_unfolding_all (intro _ _; rfl))
      repeat' walk_at "e"
      refine CallV.lenL hSL (by rw [hlows]; omega) ?_
      rw [hlows]
      repeat' walk_at "e"
      refine CallV.range1 fun rr hrr => ⟨_, _, _, IterOf.range hrr (small_up (by omega) (by omega)), ?_⟩
      rw [rangeL_up0]
      refine CompE.all (m0 := [("small", .ref SL), ("word", .str (S (lowL r.1)))]) (natG fun j => decide (S (lowL (nm7 ps j)) = S (lowL r.1))) (fun d => d) trivial _ _ _ (by simp [sl]; omega) ⟨rfl, rfl, trivial⟩ (fun z hz => ?_) ?_
      · obtain ⟨j, hj, rfl⟩ := List.mem_map.mp hz
        have hjl := List.mem_range.mp hj
        repeat' walk_at "e"
        refine ⟨rfl, ⟨rfl, rfl, trivial⟩, IfsE.one ?_⟩
        repeat' walk_at "e"
        refine OpSub.listN (d := .str (S (lowL (nm7 ps j)))) (.inl hSL) (by omega) (by omega) (by rw [Int.toNat_natCast]; simp [lows, List.getElem?_map, List.getElem?_eq_getElem hjl, nm7, List.getD_eq_getElem?_getD]) ?_ (by with_unfolding_all (intro _ _; exact ⟨_, rfl⟩))
        repeat' walk_at "e"
        refine ⟨?_, rfl, fun _ => ?_⟩
        · show _ = decide (S (lowL (nm7 ps (j : Int).toNat)) = S (lowL r.1))
          rw [Int.toNat_natCast]
        repeat' walk_at "e"
        exact ⟨rfl, rfl⟩
      intro D hD
      rw [range_filter]
      repeat' walk_at "e"
      have e2 : [] ++ (((List.range ps.length).filter fun j => decide (S (lowL (nm7 ps j)) = S (lowL r.1))).map fun (i : Nat) => PV.int (i : Int)).map (fun d => d) = (((List.range ps.length).filter fun j => decide (S (lowL (nm7 ps j)) = S (lowL r.1))).map fun (i : Nat) => (i : Int)).map PV.int := by simp
      rw [e2]
      refine CallV.maxTmp (M := (lastS ps (S (lowL r.1)) : Nat)) hD (List.mem_map.mpr ⟨_, hm1, rfl⟩) (fun a ha => ?_) ⟨rfl, rfl⟩
      obtain ⟨j, hj, rfl⟩ := List.mem_map.mp ha
      have := hm2 j hj
      omega
    intro LL hLL
    rw [gL7_all]
    refine AsgT.name (by with_unfolding_all rfl) ⟨rfl, LL, ⟨rfl, rfl, rfl, trivial⟩, G.sub (sub_upd hLL), upd_same .., fun q => by rw [q, G.tab] at hLL; cases hLL⟩
  clear G hSL mu
  rintro m1 mu ⟨LL, hs, G, hLL, hL195⟩
  refine ExSX.weakL hs ?_
  clear hs m1
  -- order
  refine ExSX.mid (fun m' mu' => ∃ (OL : Addr) (p : Array Nat) (more : Array Value), SubL [("pairs", .ref PL), ("table", .ref x), ("last", .ref LL), ("order", .ref OL)] m' ∧ Pm ps.length p ∧ Srd (fun i => 64 * (la7 ps i : Int) + i) p ps.length ∧ mu' OL = some (.list (p.toList.map fun (i : Nat) => .int (i : Int))) ∧ mu' PL = some (.list (ps.map pairPV)) ∧ Hd c 182 mu' x l (R7 ps.length (nm7 ps) (vl7 ps) ps.length) ∧ mu' LL = some (.list (fl ps.length fun i => PV.int (la7 ps i : Nat))) ∧ mu' 195 = some (.obj (tabObj more))) (Ex1X.sortedLam (n := n + 4) (i := Str.ofString "i") (la := la7 ps) (k := ps.length) (by with_unfolding_all rfl) (by with_unfolding_all rfl) (mg_none_of (by assumption) (Cx.g _) (by with_unfolding_all rfl)) (by omega) ?_ (by with_unfolding_all rfl) (by with_unfolding_all (intro _; rfl)) C hB (by decide) G.tab (by with_unfolding_all (intro _; rfl)) ?_ (by with_unfolding_all rfl) (by with_unfolding_all rfl) (by with_unfolding_all rfl) ?_ (by with_unfolding_all rfl) (fun _ _ _ _ _ _ => rfl) (fun j mu' hj hk => ?_) (by with_unfolding_all (intro _ _; rfl)) (by with_unfolding_all (intro _; rfl)) (fun D p more hp1 hp2 hD hDP => ?_)) ?_
  · repeat' walk_at "e"
    refine CallV.lenL G.p (by simp; omega) ?_
    rw [List.length_map]
    repeat' walk_at "e"
    exact CallV.range1 fun r hr => ⟨r, rfl, hr, rfl⟩
  · intro p hp hf
    simp at hp
    rcases hp with rfl | rfl
    · cases hf
    · with_unfolding_all rfl
  · intro p hp
    simp at hp
    rcases hp with rfl | rfl <;> simp
  · have hL2 := hk _ _ hLL hL195
    refine EvE.tuple (EvA.cons (EvE.sub (EvE.free (by with_unfolding_all rfl) (by with_unfolding_all rfl) (EvE.loc (by with_unfolding_all rfl) (by with_unfolding_all rfl) (OpSub.listN (d := .int (la7 ps j : Nat)) (.inl hL2) (by omega) (by omega) (by rw [Int.toNat_natCast]; exact fl_get _ hj) ?_ (by with_unfolding_all (intro _ _; exact ⟨_, rfl⟩))) (by with_unfolding_all decide)) (by with_unfolding_all decide) (by with_unfolding_all decide))) (by with_unfolding_all (intro _; rfl)))
    repeat' walk_at "e"
    exact ⟨by show 2 ≤ 2 ^ 24; decide, fun _ _ e => e, rfl⟩
  · have hne : ∀ a o, mu a = some o → a ≠ 195 → upd (upd mu 195 (.obj (tabObj more))) D (.list (p.toList.map fun (i : Nat) => .int (i : Int))) a = some o := fun a o e ha => by
      rw [upd_ne _ _ (fun q => by rw [q, hD] at e; cases e), upd_ne _ _ ha]; exact e
    have n1 : ∀ a xs, mu a = some (.list xs) → a ≠ 195 := fun a xs e q => by rw [q, G.tab] at e; cases e
    obtain ⟨dx, tok, i1, i2⟩ := G.t.inst
    have n2 : x ≠ 195 := fun q => by rw [q, G.tab] at i1; cases i1
    have n3 : dx ≠ 195 := fun q => by rw [q, G.tab] at i2; unfold hdDict at i2; injection i2 with i2; injection i2 with i2; injection i2 with _ _ i2; cases i2
    refine ⟨rfl, D, p, more, ⟨rfl, rfl, rfl, rfl, trivial⟩, hp1, hp2, upd_same .., hne _ _ G.p (n1 _ _ G.p), ⟨⟨dx, tok, hne _ _ i1 n2, hne _ _ i2 n3⟩, hne _ _ G.t.list (n1 _ _ G.t.list), G.t.ok, G.t.len⟩, hne _ _ hLL hL195, ?_⟩
    rw [upd_ne _ _ (ne_sym7 hDP), upd_same]
  clear G hLL mu
  rintro m1 mu ⟨OL, p, more, hs, hp1, hp2, hOL, hPL, H, hLL, h195⟩
  refine ExSX.weakL hs (ExSX.of ?_)
  clear hs m1
  have hend := end7 (vl := vl7 ps) (la7_last ps) (by omega) hp1 hp2
  refine ExS.ret (EvE.cmp ?_ (by with_unfolding_all rfl))
  refine EvE.method (EvE.loc (by with_unfolding_all rfl) (by with_unfolding_all rfl) ⟨_, Meth.hd hK H (by with_unfolding_all rfl) (f := 146) (by with_unfolding_all rfl) (by with_unfolding_all rfl) (by decide), ?_⟩ (by with_unfolding_all decide))
  refine EvA.nil (EvK.nil (items07_ct hK H fun RW hRW => ?_))
  have s1 := sub_upd (o := .list ((R7 ps.length (nm7 ps) (vl7 ps) ps.length).map pairPV)) hRW
  have hRW2 : upd mu RW (.list ((R7 ps.length (nm7 ps) (vl7 ps) ps.length).map pairPV)) RW = _ := upd_same ..
  replace hOL := s1 _ _ hOL
  replace hPL := s1 _ _ hPL
  replace hLL := s1 _ _ hLL
  replace h195 := s1 _ _ h195
  generalize upd mu RW (.list ((R7 ps.length (nm7 ps) (vl7 ps) ps.length).map pairPV)) = mu2 at hOL hPL hLL h195 hRW2
  clear s1 hRW H
  have hpl : p.toList.length = ps.length := by have := hp1.size; simpa using this
  refine EvE.listcomp (okT := anyT) trivial (by with_unfolding_all rfl) ?_ (by with_unfolding_all (intro _ _; rfl))
  repeat' walk_at "e"
  refine ⟨_, _, _, IterOf.list hOL, ?_⟩
  refine CompE.all (m0 := [("pairs", .ref PL), ("last", .ref LL)]) (fun _ => true) (endG ps) hOL _ _ _ (by simp only [List.length_map, List.length_nil, Nat.zero_add, sl]; omega) ⟨rfl, rfl, trivial⟩ (fun y hy => ?_) ?_
  · obtain ⟨i, hi, rfl⟩ := List.mem_map.mp hy
    have hik : i < ps.length := List.mem_range.mp (hp1.mem_iff.mp hi)
    have hla := (la7_last ps i hik).1
    have gp : ∀ j, j < ps.length → (ps.map pairPV)[j]? = some (pairPV (nm7 ps j, vl7 ps j)) := fun j hj => by
      rw [List.getElem?_map, List.getElem?_eq_getElem hj]; unfold nm7 vl7; rw [List.getD_eq_getElem?_getD, List.getElem?_eq_getElem hj]; rfl
    repeat' walk_at "e"
    refine ⟨rfl, ⟨rfl, rfl, trivial⟩, IfsE.nil ⟨rfl, rfl, fun _ => ?_⟩⟩
    repeat' walk_at "e"
    refine OpSub.listN (d := .int (la7 ps i : Nat)) (.inl hLL) (by omega) (by omega) (by rw [Int.toNat_natCast]; exact fl_get _ hik) ?_ (by with_unfolding_all (intro _ _; exact ⟨_, rfl⟩))
    refine OpSub.listN (d := pairPV (nm7 ps (la7 ps i), vl7 ps (la7 ps i))) (.inl hPL) (by omega) (by omega) (by rw [Int.toNat_natCast]; exact gp _ hla) ?_ (by with_unfolding_all (intro _ _; exact ⟨_, rfl⟩))
    repeat' walk_at "e"
    refine OpSub.tupN (d := .str (S (nm7 ps (la7 ps i)))) (by decide) (by decide) rfl ?_ (by with_unfolding_all (intro _ _; exact ⟨_, rfl⟩))
    repeat' walk_at "e"
    refine OpSub.listN (d := pairPV (nm7 ps i, vl7 ps i)) (.inl hPL) (by omega) (by omega) (by rw [Int.toNat_natCast]; exact gp _ hik) ?_ (by with_unfolding_all (intro _ _; exact ⟨_, rfl⟩))
    repeat' walk_at "e"
    refine OpSub.tupN (d := .str (S (vl7 ps i))) (by decide) (by decide) rfl ?_ (by with_unfolding_all (intro _ _; exact ⟨_, rfl⟩))
    repeat' walk_at "e"
    exact ⟨by show 2 ≤ 2 ^ 24; decide, rfl, rfl⟩
  intro D hD
  have e : [] ++ ((p.toList.map fun (i : Nat) => PV.int (i : Int)).filter fun _ => true).map (endG ps) = (R7 ps.length (nm7 ps) (vl7 ps) ps.length).map pairPV := by
    rw [List.filter_eq_self.mpr (fun _ _ => rfl), List.nil_append, ← hend, List.map_map, List.map_map]; rfl
  rw [e]
  refine OpC.eqD (D := rowsD (R7 ps.length (nm7 ps) (vl7 ps) ps.length)) (rowsD_is (.inl (sub_upd hD _ _ hRW2))) (rowsD_is (.inl (upd_same ..))) (rowsD_lay hRok) (by omega) (by have := rowsD_depth (R7 ps.length (nm7 ps) (vl7 ps) ps.length); omega) ?_
  exact ⟨rfl, more, sub_upd hD _ _ h195⟩

end Mine
open PySem PySem.W PySem.Calls PyProof.Rows
set_option Elab.async false
set_option linter.unusedVariables false
set_option maxRecDepth 100000
set_option maxHeartbeats 8000000
open Mine
theorem PySem.Challenge.cw_dn0262_07_holds : PySem.Challenge.rw_dn0262_07.Holds :=
  hd07 (by
  k_fill
  intro w s₀ s₁ mg mb G Y fa o pm cd doc dV kV ho hd hcd hD hmg hg args vals as hpre hlay hrd hwl hlo
  have KX := km_in_of Y
  refine Ground.open G ?_
  intro T B D TE TW
  try (refine guard_noD D (by decide +kernel) ?_; clear D)
  have hlw : mg (Str.ofString "law") = some (.ref fa) := hmg
  clear hd hcd hD ho hmg
  wrow_args hpre hlay hrd hwl hlo
  rename_i ns _ _ _ _ _ _ _ l vs _ hL _ _ _ hI _ hc1 _
  have hfa := mg_of KX T.g (n := Str.ofString "law") (v := .ref 198) (by with_unfolding_all rfl)
  rw [hlw] at hfa
  cases hfa
  have hTab : s₁.heap.get? 195 = some (tabObj #[]) := km_tabs_of Y 195 (by simp)
  have C0 : CodeHd s₁.heap 197 195 := codeHd_of_K KX (by with_unfolding_all rfl)
  have hne : ∀ b o, b ≠ 195 → s₁.heap.get? b = some o → (hideA s₁.heap 195).get? b = some o := fun b o hb e => by rw [hideA_ne hb]; exact e
  have KX' : (hd07.heap_39 w.params).In (hideA s₁.heap 195) := fun a o e => hne a o (fun q => by subst q; have : (hd07.heap_39 w.params).lookup 195 = none := (by with_unfolding_all rfl); rw [this] at e; cases e) (KX a o e)
  have C' : CodeHd (hideA s₁.heap 195) 197 195 := codeHd_of_K KX' (by with_unfolding_all rfl)
  obtain ⟨bm, ob, b1, b2, b3, b4, b5, b6⟩ := T.bmain
  have nG : mainGlobals ≠ 195 := by decide
  have nB : builtinsNs ≠ 195 := by decide
  have nS : cStatics ≠ 195 := by decide
  have bG : bm ≠ mainGlobals := fun q => by
    obtain ⟨o', es, ep, e, hd, _⟩ := T.g
    rw [← q, b3] at e; cases e
    first
      | (rw [b6] at hd; cases hd)
      | (have hd2 := hd.1; rw [b6] at hd2; cases hd2)
      | simp_all
  have bP : bm ≠ 195 := fun q => by rw [q, hTab] at b3; cases b3; cases b6
  have hB : (hideA s₁.heap 195).BuiltinsAt mg 195 := ⟨bm, ob, b1, b2, bG, bP, hne _ _ bP b3, b4, b5, b6⟩
  have hnl : (hideA s₁.heap 195).NoLimit := let ⟨mc, h1, h2⟩ := T.nolimit; ⟨mc, h1.at' fun o e => hne _ o nS e, h2⟩
  let c : Cx := { prog := PySem.Challenge.rw_dn0262_07.row.prog, w := w, base := hideA s₁.heap 195, mg := mg, mb := mb, nolim := hnl, g := T.g.at' fun o e => hne _ o nG e, b := T.b.at' fun o e => hne _ o nB e, bi := T.builtins }
  have hT : s₁.heap.TableAt 197 195 #[] := by
    obtain ⟨o, vs, _, _, _, _, _, _, _, h1, h2, h3, h4, _⟩ := C0
    exact ⟨⟨o, vs, h1, h2, h3, h4⟩, hTab⟩
  refine law_closeX (c := c) (P := 195) (cd := 197) hg (fun _ => rfl) ?_ hT (by decide) ?_
  · first | (with_unfolding_all rfl) | kernel_rfl
  have lne : l ≠ 195 := fun q => by
    obtain ⟨o', e, _, _, hd⟩ := hL
    rw [q, hTab] at e; cases e; cases hd
  have hL' : (hideA s₁.heap 195).IsList l vs.toArray := by
    obtain ⟨o', e, r⟩ := hL
    exact ⟨o', hne _ _ lne e, r⟩
  refine law07_fn (c := c) (n := 20) KX' (l := l) (ns := ns) ⟨vs, hL', ints_rep hI⟩ (by omega) C' hB ⟨rfl, by decide, by decide⟩ ⟨fun b o e => (hideA_some e).2, fun a o e => ?_, fun a ha => ?_⟩
  · by_cases q : a = 195
    · subst q; rw [upd_same] at e; cases e; exact ⟨hTab, fun z => by obtain ⟨z1, _⟩ := z; cases z1⟩
    · rw [upd_ne _ _ q] at e; cases e
  · by_cases q : a = 195
    · subst q; exact hideA_self
    · rw [upd_ne _ _ q] at ha; exact absurd rfl ha)

