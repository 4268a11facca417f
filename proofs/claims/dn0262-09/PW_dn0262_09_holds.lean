import PyProof.Rows.All
import Wide.All
import OpenK.AllK
import Wide.FinOn
import KE.KParD
import KE.KPairComp
import PyProof.DictCompW
import KE.KBoundM
import PyProof.ZipIter
import PyProof.Rows.ListMul
import PyProof.Rows.StrFirst
import KE.KBytesWalk
import KE.KxPercentT
import KE.KCallOwn
import KE.BytesMake
import Lean
import PySem.Challenge.RW_dn0262_09
open PySem PySem.W PySem.Calls PyProof.Rows
set_option Elab.async false
set_option linter.unusedVariables false
namespace Mine

/- # values, objects -/
inductive PV where
  | none
  | bool (b : Bool)
  | int (i : Int)
  | str (x : Str)
  | bytes (b : Array UInt8)
  | tuple (ds : List PV)
  | ref (a : Addr)
  | ty (n : String)
  | bi (id : String)

abbrev tupO (vs : List Value) (n : Nat) : Obj := { cls := .type "tuple", data := .seq vs.toArray n }

mutual
inductive Rep (h : Heap) : PV → Value → Prop
  | none : Rep h .none .none
  | bool (b : Bool) : Rep h (.bool b) (.bool b)
  | int (i : Int) (t : Tok) : Rep h (.int i) (.int i t)
  | str (x : Str) (t : Tok) : Rep h (.str x) (.str x t)
  | bytes (b : Array UInt8) (t : Tok) : Rep h (.bytes b) (.bytes b t)
  | tuple {a : Addr} {vs : List Value} {n : Nat} {ds : List PV} : h.get? a = some (tupO vs n) → Reps h ds vs → Rep h (.tuple ds) (.ref a)
  | ref (a : Addr) : Rep h (.ref a) (.ref a)
  | ty (n : String) : Rep h (.ty n) (.type n)
  | bi (id : String) : Rep h (.bi id) (.builtin id)
inductive Reps (h : Heap) : List PV → List Value → Prop
  | nil : Reps h [] []
  | cons {d : PV} {v : Value} {ds : List PV} {vs : List Value} : Rep h d v → Reps h ds vs → Reps h (d :: ds) (v :: vs)
end

/- what is a tuple stays -/
def IsT (o : Obj) : Prop := o.cls = .type "tuple" ∧ ∃ xs n, o.data = .seq xs n
def TK (h h' : Heap) : Prop := ∀ a o, h.get? a = some o → IsT o → h'.get? a = some o

mutual
theorem Rep.mono {h h' : Heap} (k : TK h h') : ∀ {d : PV} {v : Value}, Rep h d v → Rep h' d v
  | _, _, .none => .none
  | _, _, .bool b => .bool b
  | _, _, .int i t => .int i t
  | _, _, .str x t => .str x t
  | _, _, .bytes b t => .bytes b t
  | _, _, .tuple e r => .tuple (k _ _ e ⟨rfl, _, _, rfl⟩) (Reps.mono k r)
  | _, _, .ref a => .ref a
  | _, _, .ty n => .ty n
  | _, _, .bi n => .bi n
theorem Reps.mono {h h' : Heap} (k : TK h h') : ∀ {ds : List PV} {vs : List Value}, Reps h ds vs → Reps h' ds vs
  | _, _, .nil => .nil
  | _, _, .cons a r => .cons (Rep.mono k a) (Reps.mono k r)
end

theorem Reps.length {h : Heap} {ds : List PV} {vs : List Value} (r : Reps h ds vs) : vs.length = ds.length := by
  induction vs generalizing ds with
  | nil => cases r; rfl
  | cons v vs ih => cases r with | cons _ r => simp [ih r]
theorem Reps.append {h : Heap} {ds es : List PV} {vs ws : List Value} (r : Reps h ds vs) (q : Reps h es ws) : Reps h (ds ++ es) (vs ++ ws) := by
  induction vs generalizing ds with
  | nil => cases r; exact q
  | cons v vs ih => cases r with | cons a r => exact .cons a (ih r)
theorem Reps.get {h : Heap} {ds : List PV} {vs : List Value} (r : Reps h ds vs) {k : Nat} {d : PV} (hk : ds[k]? = some d) : ∃ v, vs[k]? = some v ∧ Rep h d v := by
  induction vs generalizing ds k with
  | nil => cases r; simp at hk
  | cons v vs ih =>
    cases r with
    | cons a r =>
      cases k with
      | zero => simp at hk; subst hk; exact ⟨v, rfl, a⟩
      | succ k => exact ih r (by simpa using hk)
theorem Reps.take {h : Heap} {ds : List PV} {vs : List Value} (r : Reps h ds vs) (k : Nat) : Reps h (ds.take k) (vs.take k) := by
  induction vs generalizing ds k with
  | nil => cases r; simp; exact .nil
  | cons u vs ih =>
    cases r with
    | cons a r =>
      cases k with
      | zero => exact .nil
      | succ k => exact .cons a (ih r k)
theorem Reps.drop {h : Heap} {ds : List PV} {vs : List Value} (r : Reps h ds vs) (k : Nat) : Reps h (ds.drop k) (vs.drop k) := by
  induction vs generalizing ds k with
  | nil => cases r; simp; exact .nil
  | cons u vs ih =>
    cases r with
    | cons a r =>
      cases k with
      | zero => exact .cons a r
      | succ k => exact ih r k
inductive AO where
  | list (xs : List PV)
  | inst (C dx : Addr)
  | dict (kvs : List (Str × PV))
  | obj (o : Obj)
  | rng (a b st : Int)

abbrev Mu := Addr → Option AO
abbrev Lm := List (Str × PV)

structure Cx where
  prog : Program
  w : World
  base : Heap
  mg : Str → Option Value
  mb : Str → Option Value
  nolim : base.NoLimit
  g : base.Ns mainGlobals mg
  b : base.Ns builtinsNs mb
  bi : ∀ x, x ≠ ("__name__" : Str) → mb x = bootBuiltins x

abbrev Cx.M (c : Cx) : Model := model c.prog c.w

inductive RepD (h : Heap) : List (Str × PV) → List (Str × Value) → Prop
  | nil : RepD h [] []
  | cons {k : Str} {d : PV} {v : Value} {ds : List (Str × PV)} {vs : List (Str × Value)} : Rep h d v → RepD h ds vs → RepD h ((k, d) :: ds) ((k, v) :: vs)
theorem RepD.mono {h h' : Heap} (k : TK h h') {ds : List (Str × PV)} {vs : List (Str × Value)} (r : RepD h ds vs) : RepD h' ds vs := by
  induction r with
  | nil => exact .nil
  | cons a _ ih => exact .cons (a.mono k) ih

def RepO (c : Cx) (h : Heap) (a : Addr) : AO → Prop
  | .list xs => ∃ vs n, h.get? a = some (listOf vs.toArray n) ∧ Reps h xs vs
  | .inst C dx => h.get? a = some (instObj C dx)
  | .dict kvs => ∃ vs es n, h.get? a = some (dictOf es n) ∧ h.DictOf (PySem.strKind c.prog c.w) a vs ∧ RepD h kvs vs
  | .obj o => h.get? a = some o ∧ ¬ IsT o
  | .rng a' b' st => ∃ t u v, h.get? a = some { cls := .type "range", data := .fields #[.int a' t, .int b' u, .int st v] }

/- no object of the ledger is a tuple -/
theorem RepO.noTup {c : Cx} {h : Heap} {a : Addr} {x : AO} (r : RepO c h a x) : ∃ o, h.get? a = some o ∧ ¬ IsT o := by
  cases x with
  | list xs => obtain ⟨vs, n, e, _⟩ := r; exact ⟨_, e, by simp [IsT]⟩
  | inst C dx => exact ⟨_, r, by simp [IsT]⟩
  | dict kvs => obtain ⟨vs, es, n, e, _⟩ := r; exact ⟨_, e, by simp [IsT]⟩
  | obj o => exact ⟨o, r.1, r.2⟩
  | rng _ _ _ => obtain ⟨t, u, v, e⟩ := r; exact ⟨_, e, by simp [IsT]⟩

theorem dictOf_at {K : Type} [DecidableEq K] {prog : Program} {w : World} {knd : KeyKind prog w K} {h h' : Heap} {a : Addr} {kvs : List (K × Value)} (x : h.DictOf knd a kvs) (hk : ∀ o, h.get? a = some o → h'.get? a = some o) : h'.DictOf knd a kvs :=
  let ⟨o, es, ep, e, r⟩ := x; ⟨o, es, ep, hk _ e, r⟩

theorem RepO.mono {c : Cx} {h h' : Heap} {a : Addr} {x : AO} (r : RepO c h a x) (ha : ∀ o, h.get? a = some o → h'.get? a = some o) (k : TK h h') : RepO c h' a x := by
  cases x with
  | list xs => obtain ⟨vs, n, e, q⟩ := r; exact ⟨vs, n, ha _ e, q.mono k⟩
  | inst C dx => exact ha _ r
  | dict kvs => obtain ⟨vs, es, n, e, d, q⟩ := r; exact ⟨vs, es, n, ha _ e, dictOf_at d ha, q.mono k⟩
  | obj o => exact ⟨ha _ r.1, r.2⟩
  | rng _ _ _ => obtain ⟨t, u, v, e⟩ := r; exact ⟨t, u, v, ha _ e⟩

structure St (c : Cx) (mu : Mu) (h : Heap) : Prop where
  base : ∀ b o, c.base.get? b = some o → h.get? b = some o
  objs : ∀ a o, mu a = some o → RepO c h a o
  new : ∀ a, mu a ≠ none → c.base.get? a = none

theorem St.lt {c : Cx} {mu : Mu} {h : Heap} (S : St c mu h) {a : Addr} (ha : mu a ≠ none) : a < h.objs.size := by
  obtain ⟨o, e⟩ := Option.ne_none_iff_exists'.mp ha
  obtain ⟨o', e', _⟩ := (S.objs a o e).noTup
  exact Heap.lt_size e'
theorem St.off {c : Cx} {mu : Mu} {h : Heap} (S : St c mu h) {a : Addr} (ha : h.objs.size ≤ a) : mu a = none := by
  cases e : mu a with
  | none => rfl
  | some o => exact absurd (S.lt (by rw [e]; simp)) (Nat.not_lt.mpr ha)
theorem St.baseNone {c : Cx} {mu : Mu} {h : Heap} (S : St c mu h) {a : Addr} (ha : h.objs.size ≤ a) : c.base.get? a = none := by
  cases e : c.base.get? a with
  | none => rfl
  | some o => exact absurd (Heap.lt_size (S.base a o e)) (Nat.not_lt.mpr ha)
/- a tuple's address is not of the ledger -/
theorem St.tupOff {c : Cx} {mu : Mu} {h : Heap} (S : St c mu h) {a : Addr} {o : Obj} (e : h.get? a = some o) (ht : IsT o) : mu a = none := by
  cases q : mu a with
  | none => rfl
  | some x =>
    obtain ⟨o', e', hn⟩ := (S.objs a x q).noTup
    rw [e] at e'; cases e'; exact absurd ht hn

def noT : Addr → Prop := fun _ => False

structure Step (c : Cx) (T : Addr → Prop) (mu : Mu) (s : Shared) (mu' : Mu) (s' : Shared) : Prop where
  shape : ∃ h tk, s' = { s with heap := h, toks := tk }
  st : St c mu' s'.heap
  keep : ∀ b o, s.heap.get? b = some o → mu b = none → ¬ T b → s'.heap.get? b = some o
  alive : ∀ b o, s.heap.get? b = some o → mu b = none → ∃ o', s'.heap.get? b = some o'
  dom : ∀ b, mu' b ≠ none → mu b ≠ none ∨ s.heap.get? b = none

theorem get_none {h : Heap} {a : Addr} (ha : h.objs.size ≤ a) : h.get? a = none := by
  cases e : h.get? a with
  | none => rfl
  | some o => exact absurd (Heap.lt_size e) (Nat.not_lt.mpr ha)

theorem Step.trans {c : Cx} {T : Addr → Prop} {mu mu1 mu2 : Mu} {s s1 s2 : Shared} (x : Step c T mu s mu1 s1) (y : Step c T mu1 s1 mu2 s2) : Step c T mu s mu2 s2 where
  shape := by obtain ⟨h, tk, rfl⟩ := x.shape; obtain ⟨h2, tk2, rfl⟩ := y.shape; exact ⟨h2, tk2, rfl⟩
  st := y.st
  keep := fun b o e hm hT => y.keep b o (x.keep b o e hm hT) (by
    cases q : mu1 b with
    | none => rfl
    | some z =>
      rcases x.dom b (by rw [q]; simp) with h | h
      · exact absurd hm h
      · rw [e] at h; cases h) hT
  alive := fun b o e hm => by
    obtain ⟨o1, e1⟩ := x.alive b o e hm
    refine y.alive b o1 e1 ?_
    cases q : mu1 b with
    | none => rfl
    | some z =>
      rcases x.dom b (by rw [q]; simp) with h | h
      · exact absurd hm h
      · rw [e] at h; cases h
  dom := fun b hb => by
    rcases y.dom b hb with h | h
    · exact x.dom b h
    · cases e : s.heap.get? b with
      | none => exact .inr rfl
      | some o =>
        cases q : mu b with
        | some z => exact .inl (by simp)
        | none => obtain ⟨o1, e1⟩ := x.alive b o e q; rw [h] at e1; cases e1
theorem Step.weaken {c : Cx} {T T' : Addr → Prop} {mu mu1 : Mu} {s s1 : Shared} (x : Step c T mu s mu1 s1) (h : ∀ b, T b → T' b) : Step c T' mu s mu1 s1 :=
  ⟨x.shape, x.st, fun b o e hm hT => x.keep b o e hm (fun q => hT (h b q)), x.alive, x.dom⟩
theorem Step.refl {c : Cx} {T : Addr → Prop} {mu : Mu} {s : Shared} (S : St c mu s.heap) : Step c T mu s mu s :=
  ⟨⟨s.heap, s.toks, rfl⟩, S, fun _ _ e _ _ => e, fun _ o e _ => ⟨o, e⟩, fun _ h => .inl h⟩
theorem Step.tok {c : Cx} {T : Addr → Prop} {mu : Mu} {s : Shared} {k : Nat} (S : St c mu s.heap) : Step c T mu s mu { s with toks := k } :=
  ⟨⟨s.heap, k, rfl⟩, S, fun _ _ e _ _ => e, fun _ o e _ => ⟨o, e⟩, fun _ h => .inl h⟩
/- tuples stay -/
theorem Step.tk {c : Cx} {T : Addr → Prop} {mu mu1 : Mu} {s s1 : Shared} (S : St c mu s.heap) (x : Step c T mu s mu1 s1) (hT : ∀ b o, T b → s.heap.get? b = some o → ¬ IsT o) : TK s.heap s1.heap :=
  fun a o e ht => x.keep a o e (S.tupOff e ht) fun q => hT a o q e ht
theorem Step.tk0 {c : Cx} {mu mu1 : Mu} {s s1 : Shared} (S : St c mu s.heap) (x : Step c noT mu s mu1 s1) : TK s.heap s1.heap :=
  x.tk S fun _ _ h => h.elim
def upd (mu : Mu) (a : Addr) (o : AO) : Mu := fun b => if b = a then some o else mu b
@[simp] theorem upd_same (mu : Mu) (a : Addr) (o : AO) : upd mu a o a = some o := by simp [upd]
theorem upd_ne (mu : Mu) {a b : Addr} (o : AO) (h : b ≠ a) : upd mu a o b = mu b := by simp [upd, h]
@[simp] theorem upd_upd (mu : Mu) (a : Addr) (o o' : AO) : upd (upd mu a o) a o' = upd mu a o' := by
  funext b; unfold upd; split <;> rfl
theorem upd_comm (mu : Mu) {a b : Addr} (o o' : AO) (h : a ≠ b) : upd (upd mu a o) b o' = upd (upd mu b o') a o := by
  funext x; unfold upd
  by_cases h1 : x = b
  · subst h1; simp [Ne.symm h]
  · simp [h1]

/- a new object -/
theorem Step.push {c : Cx} {T : Addr → Prop} {mu : Mu} {s : Shared} {o : Obj} {x : AO} (S : St c mu s.heap) (r : RepO c (s.heap.push o) s.heap.objs.size x) :
    Step c T mu s (upd mu s.heap.objs.size x) { s with heap := s.heap.push o } where
  shape := ⟨_, _, rfl⟩
  st := {
    base := fun b o' e => Heap.get?_push_of_some _ (S.base b o' e)
    objs := fun a y e => by
      by_cases h : a = s.heap.objs.size
      · subst h; simp at e; subst e; exact r
      · rw [upd_ne mu x h] at e
        exact (S.objs a y e).mono (fun o' q => Heap.get?_push_of_some _ q) fun b o' q _ => Heap.get?_push_of_some _ q
    new := fun a ha => by
      by_cases h : a = s.heap.objs.size
      · subst h; exact S.baseNone (Nat.le_refl _)
      · rw [upd_ne mu x h] at ha; exact S.new a ha }
  keep := fun b o' e _ _ => Heap.get?_push_of_some _ e
  alive := fun b o' e _ => ⟨o', Heap.get?_push_of_some _ e⟩
  dom := fun b hb => by
    by_cases h : b = s.heap.objs.size
    · subst h; exact .inr (get_none (Nat.le_refl _))
    · rw [upd_ne mu x h] at hb; exact .inl hb
/- a new object that the ledger does not note (a tuple, an iterator) -/
theorem Step.pushOff {c : Cx} {T : Addr → Prop} {mu : Mu} {s : Shared} {o : Obj} (S : St c mu s.heap) :
    Step c T mu s mu { s with heap := s.heap.push o } where
  shape := ⟨_, _, rfl⟩
  st := ⟨fun b o' e => Heap.get?_push_of_some _ (S.base b o' e), fun a y e => (S.objs a y e).mono (fun o' q => Heap.get?_push_of_some _ q) fun b o' q _ => Heap.get?_push_of_some _ q, S.new⟩
  keep := fun b o' e _ _ => Heap.get?_push_of_some _ e
  alive := fun b o' e _ => ⟨o', Heap.get?_push_of_some _ e⟩
  dom := fun _ h => .inl h
/- an object of the ledger changed -/
theorem Step.set {c : Cx} {T : Addr → Prop} {mu : Mu} {s : Shared} {a : Addr} {x : AO} {h' : Heap} {k : Nat} (S : St c mu s.heap) (ha : mu a ≠ none) (hs : Heap.SameBut a s.heap h') (r : RepO c h' a x) :
    Step c T mu s (upd mu a x) { s with heap := h', toks := k } := by
  have hk : TK s.heap h' := fun b o e ht => (hs.2 b (fun q => ha (q ▸ S.tupOff e ht))).trans e
  exact {
    shape := ⟨_, _, rfl⟩
    st := {
      base := fun b o e => (hs.2 b (fun q => by have := S.new a ha; rw [← q, e] at this; cases this)).trans (S.base b o e)
      objs := fun b y e => by
        by_cases h : b = a
        · subst h; simp at e; subst e; exact r
        · rw [upd_ne mu x h] at e
          exact (S.objs b y e).mono (fun o q => (hs.2 b h).trans q) hk
      new := fun b hb => by
        by_cases h : b = a
        · subst h; exact S.new b ha
        · rw [upd_ne mu x h] at hb; exact S.new b hb }
    keep := fun b o e hm _ => (hs.2 b (fun q => ha (q ▸ hm))).trans e
    alive := fun b o e _ => by
      by_cases h : b = a
      · subst h; obtain ⟨o', e', _⟩ := r.noTup; exact ⟨o', e'⟩
      · exact ⟨o, (hs.2 b h).trans e⟩
    dom := fun b hb => by
      by_cases h : b = a
      · subst h; exact .inl ha
      · rw [upd_ne mu x h] at hb; exact .inl hb }
/- an object that is not of the ledger (an iterator, a frame) changed -/
theorem Step.turn {c : Cx} {T : Addr → Prop} {mu : Mu} {s : Shared} {a : Addr} {h' : Heap} {k : Nat} (S : St c mu s.heap) (ha : mu a = none) (hb : c.base.get? a = none) (ht : ∀ o, s.heap.get? a = some o → ¬ IsT o) (hs : Heap.SameBut a s.heap h') (hT : T a) (hal : ∃ o, h'.get? a = some o) :
    Step c T mu s mu { s with heap := h', toks := k } := by
  have hk : TK s.heap h' := fun b o e hto => (hs.2 b (fun q => by subst q; exact ht o e hto)).trans e
  exact {
    shape := ⟨_, _, rfl⟩
    st := {
      base := fun b o e => (hs.2 b (fun q => by rw [q, hb] at e; cases e)).trans (S.base b o e)
      objs := fun b y e => by
        have h : b ≠ a := fun q => by rw [q, ha] at e; cases e
        exact (S.objs b y e).mono (fun o q => (hs.2 b h).trans q) hk
      new := S.new }
    keep := fun b o e hm hn => (hs.2 b (fun q => hn (q ▸ hT))).trans e
    alive := fun b o e _ => by
      by_cases h : b = a
      · subst h; exact hal
      · exact ⟨o, (hs.2 b h).trans e⟩
    dom := fun _ h => .inl h }
/- new objects that the ledger does not note -/
theorem Step.ext {c : Cx} {T : Addr → Prop} {mu : Mu} {s : Shared} {h' : Heap} {k : Nat} (S : St c mu s.heap) (hk : ∀ b o, s.heap.get? b = some o → h'.get? b = some o) :
    Step c T mu s mu { s with heap := h', toks := k } :=
  ⟨⟨_, _, rfl⟩, ⟨fun b o e => hk b o (S.base b o e), fun a o e => (S.objs a o e).mono (fun o' q => hk _ _ q) fun b o' q _ => hk _ _ q, S.new⟩, fun b o e _ _ => hk b o e, fun b o e _ => ⟨o, hk b o e⟩, fun _ h => .inl h⟩
/- forget objects of the ledger -/
def Sub (mu' mu : Mu) : Prop := ∀ a o, mu' a = some o → mu a = some o
theorem Step.forget {c : Cx} {T : Addr → Prop} {mu mu1 mu2 : Mu} {s s1 : Shared} (x : Step c T mu s mu1 s1) (h : Sub mu2 mu1) : Step c T mu s mu2 s1 :=
  have hn : ∀ b, mu2 b ≠ none → mu1 b ≠ none := fun b hb => by
    obtain ⟨o, e⟩ := Option.ne_none_iff_exists'.mp hb
    rw [h b o e]; simp
  ⟨x.shape, ⟨x.st.base, fun a o e => x.st.objs a o (h a o e), fun a ha => x.st.new a (hn a ha)⟩, x.keep, x.alive, fun b hb => x.dom b (hn b hb)⟩

/- # the frame -/
structure Fm (c : Cx) (mu : Mu) (h : Heap) (env : Env) (m : Lm) : Prop where
  fn : env.scope.kind = .function
  gl : env.globals = mainGlobals
  bu : env.builtins = builtinsNs
  loc : ∃ mc, h.Ns env.locals mc ∧ ∀ x pv, m.lookup x = some pv → env.kindOf x = some .local → ∃ v, mc x = some v ∧ Rep h pv v
  cel : ∀ x pv, m.lookup x = some pv → env.kindOf x = some .cell ∨ env.kindOf x = some .free → ∃ ca v, env.cells.lookup x = some ca ∧ h.IsCell ca (some v) ∧ Rep h pv v
  has : ∀ x, env.kindOf x = some .cell → ∃ ca, env.cells.lookup x = some ca
  cells : ∀ x ca, env.cells.lookup x = some ca → ∃ v, h.IsCell ca v
  offL : mu env.locals = none
  offC : ∀ x ca, env.cells.lookup x = some ca → mu ca = none ∧ ca ≠ env.locals ∧ c.base.get? ca = none
  apart : ∀ x y ca, env.cells.lookup x = some ca → env.cells.lookup y = some ca → x = y
  notB : c.base.get? env.locals = none

theorem keepNone {c : Cx} {T : Addr → Prop} {mu mu1 : Mu} {s s1 : Shared} (x : Step c T mu s mu1 s1) {a : Addr} {o : Obj} (e : s.heap.get? a = some o) (h : mu a = none) : mu1 a = none := by
  cases q : mu1 a with
  | none => rfl
  | some z =>
    rcases x.dom a (by rw [q]; simp) with h' | h'
    · exact absurd h h'
    · rw [e] at h'; cases h'

theorem Fm.step {c : Cx} {mu mu1 : Mu} {s s1 : Shared} {env : Env} {m : Lm} (F : Fm c mu s.heap env m) (S : St c mu s.heap) (x : Step c noT mu s mu1 s1) : Fm c mu1 s1.heap env m := by
  have tk := x.tk0 S
  obtain ⟨mc, hn, hv⟩ := F.loc
  have keepL : ∀ o, s.heap.get? env.locals = some o → s1.heap.get? env.locals = some o := fun o e => x.keep _ _ e F.offL id
  have keepC : ∀ y ca, env.cells.lookup y = some ca → ∀ o, s.heap.get? ca = some o → s1.heap.get? ca = some o := fun y ca hy o e => x.keep _ _ e (F.offC y ca hy).1 id
  exact {
    fn := F.fn
    gl := F.gl
    bu := F.bu
    loc := ⟨mc, hn.at' keepL, fun y pv e hk => let ⟨v, a, b⟩ := hv y pv e hk; ⟨v, a, b.mono tk⟩⟩
    cel := fun y pv e hk => let ⟨ca, v, a, ⟨o, b, d⟩, r⟩ := F.cel y pv e hk; ⟨ca, v, a, ⟨o, keepC y ca a o b, d⟩, r.mono tk⟩
    has := F.has
    cells := fun y ca e => let ⟨v, ⟨o, b, d⟩⟩ := F.cells y ca e; ⟨v, ⟨o, keepC y ca e o b, d⟩⟩
    offL := by obtain ⟨o, _, _, e, _⟩ := hn; exact keepNone x e F.offL
    offC := fun y ca e => ⟨by obtain ⟨v, o, b, _⟩ := F.cells y ca e; exact keepNone x b (F.offC y ca e).1, (F.offC y ca e).2⟩
    apart := F.apart
    notB := F.notB }
end Mine

open PySem PySem.W PySem.Calls PyProof.Rows
set_option Elab.async false
set_option linter.unusedVariables false
namespace Mine

structure AOk (n : Nat) (A : Around) : Prop where
  hd : A.handled = none
  dp : A.depth + n < recursionLimit
  un : A.units + 20 * n < cLine
theorem AOk.room {n : Nat} {A : Around} (h : AOk n A) : A.depth < recursionLimit := by have := h.dp; omega
theorem AOk.units {n : Nat} {A : Around} (h : AOk n A) : A.units < cLine := by have := h.un; omega
theorem AOk.le {n k : Nat} {A : Around} (h : AOk n A) (hk : k ≤ n) : AOk k A := ⟨h.hd, by have := h.dp; omega, by have := h.un; omega⟩
theorem AOk.deeper {n : Nat} {A : Around} (h : AOk (n + 1) A) (env : Env) : AOk n (A.deeper env) :=
  ⟨h.hd, by show A.depth + 1 + n < _; have := h.dp; omega, by show A.units + 3 + 20 * n < _; have := h.un; omega⟩
theorem AOk.in1 {n : Nat} {A : Around} (h : AOk (n + 1) A) : AOk n A.in1 :=
  ⟨h.hd, by show A.depth + n < _; have := h.dp; omega, by show A.units + 1 + 20 * n < _; have := h.un; omega⟩

abbrev NoE : Value → Shared → Prop := fun _ _ => False

def Post (c : Cx) (mu : Mu) (s : Shared) (P : PV → Mu → Prop) (v : Value) (s' : Shared) : Prop :=
  ∃ pv mu', P pv mu' ∧ Step c noT mu s mu' s' ∧ Rep s'.heap pv v
def PostB (c : Cx) (mu : Mu) (s : Shared) (P : Bool → Mu → Prop) (v : Bool) (s' : Shared) : Prop :=
  ∃ mu', P v mu' ∧ Step c noT mu s mu' s'
def PostL (c : Cx) (mu : Mu) (s : Shared) (P : List PV → Mu → Prop) (v : List Value) (s' : Shared) : Prop :=
  ∃ pv mu', P pv mu' ∧ Step c noT mu s mu' s' ∧ Reps s'.heap pv v
def PostD (c : Cx) (mu : Mu) (s : Shared) (P : List (Str × PV) → Mu → Prop) (v : List (Str × Value)) (s' : Shared) : Prop :=
  ∃ pv mu', P pv mu' ∧ Step c noT mu s mu' s' ∧ RepD s'.heap pv v

theorem Post.after {c : Cx} {mu mu1 : Mu} {s s1 s2 : Shared} {P : PV → Mu → Prop} {v : Value} (x : Step c noT mu s mu1 s1) (p : Post c mu1 s1 P v s2) : Post c mu s P v s2 :=
  let ⟨pv, mu2, a, b, d⟩ := p; ⟨pv, mu2, a, x.trans b, d⟩
theorem PostB.after {c : Cx} {mu mu1 : Mu} {s s1 s2 : Shared} {P : Bool → Mu → Prop} {v : Bool} (x : Step c noT mu s mu1 s1) (p : PostB c mu1 s1 P v s2) : PostB c mu s P v s2 :=
  let ⟨mu2, a, b⟩ := p; ⟨mu2, a, x.trans b⟩
theorem Post.pure {c : Cx} {mu : Mu} {s : Shared} {P : PV → Mu → Prop} {v : Value} {pv : PV} {k : Nat} (S : St c mu s.heap) (h : P pv mu) (r : Rep s.heap pv v) : Post c mu s P v { s with toks := k } :=
  ⟨pv, mu, h, Step.tok S, r⟩
theorem Post.pure0 {c : Cx} {mu : Mu} {s : Shared} {P : PV → Mu → Prop} {v : Value} {pv : PV} (S : St c mu s.heap) (h : P pv mu) (r : Rep s.heap pv v) : Post c mu s P v s :=
  ⟨pv, mu, h, Step.refl S, r⟩
theorem PostB.pure0 {c : Cx} {mu : Mu} {s : Shared} {P : Bool → Mu → Prop} {v : Bool} (S : St c mu s.heap) (h : P v mu) : PostB c mu s P v s :=
  ⟨mu, h, Step.refl S⟩
theorem PostB.pure {c : Cx} {mu : Mu} {s : Shared} {P : Bool → Mu → Prop} {v : Bool} {k : Nat} (S : St c mu s.heap) (h : P v mu) : PostB c mu s P v { s with toks := k } :=
  ⟨mu, h, Step.tok S⟩

/- the triples -/
def EvE (c : Cx) (n : Nat) (sc : Scope) (m : Lm) (mu : Mu) (e : PySem.Expr) (P : PV → Mu → Prop) : Prop :=
  ∀ env A s, env.scope = sc → AOk n A → 0 < s.toks → St c mu s.heap → Fm c mu s.heap env m → wpAny c.M A (eval e env) (Post c mu s P) NoE s
def Tst (c : Cx) (n : Nat) (sc : Scope) (m : Lm) (mu : Mu) (e : PySem.Expr) (P : Bool → Mu → Prop) : Prop :=
  ∀ env A s, env.scope = sc → AOk n A → 0 < s.toks → St c mu s.heap → Fm c mu s.heap env m → wpAny c.M A (isTrue e env (eval e env)) (PostB c mu s P) NoE s
def EvA (c : Cx) (n : Nat) (sc : Scope) (m : Lm) (mu : Mu) (es : List PySem.Expr) (P : List PV → Mu → Prop) : Prop :=
  ∀ env A s pos, env.scope = sc → AOk n A → 0 < s.toks → St c mu s.heap → Fm c mu s.heap env m → wpAny c.M A (spliced (backTo pos (starEach es env))) (PostL c mu s P) NoE s
/- keywords, all named -/
def EvK (c : Cx) (n : Nat) (sc : Scope) (m : Lm) (mu : Mu) (ks : List Keyword) (P : List (Str × PV) → Mu → Prop) : Prop :=
  ∀ env A s pos, env.scope = sc → AOk n A → 0 < s.toks → St c mu s.heap → Fm c mu s.heap env m →
    wpAny c.M A (evalAll ((backToKw pos (keywordEach ks env)).map (·.2))) (fun vs s' => PostD c mu s P (((backToKw pos (keywordEach ks env)).filterMap (·.1)).zip vs) s') NoE s
/- operations on values -/
def OpB (c : Cx) (n : Nat) (mu : Mu) (op : Operator) (a b : PV) (P : PV → Mu → Prop) : Prop :=
  ∀ A s va vb, AOk n A → 0 < s.toks → St c mu s.heap → Rep s.heap a va → Rep s.heap b vb → wpAny c.M A (binaryOp op va vb) (Post c mu s P) NoE s
def OpI (c : Cx) (n : Nat) (mu : Mu) (op : Operator) (a b : PV) (P : PV → Mu → Prop) : Prop :=
  ∀ A s va vb, AOk n A → 0 < s.toks → St c mu s.heap → Rep s.heap a va → Rep s.heap b vb → wpAny c.M A (inplaceOp op va vb) (Post c mu s P) NoE s
def OpC (c : Cx) (n : Nat) (mu : Mu) (op : CmpOp) (a b : PV) (P : PV → Mu → Prop) : Prop :=
  ∀ A s va vb, AOk n A → 0 < s.toks → St c mu s.heap → Rep s.heap a va → Rep s.heap b vb → wpAny c.M A (compareOp op va vb) (Post c mu s P) NoE s
def OpU (c : Cx) (n : Nat) (mu : Mu) (op : UnaryOp) (a : PV) (P : PV → Mu → Prop) : Prop :=
  ∀ A s va, AOk n A → 0 < s.toks → St c mu s.heap → Rep s.heap a va → wpAny c.M A (unaryOp op va) (Post c mu s P) NoE s
def OpT (c : Cx) (n : Nat) (mu : Mu) (a : PV) (P : Bool → Mu → Prop) : Prop :=
  ∀ A s va, AOk n A → 0 < s.toks → St c mu s.heap → Rep s.heap a va → wpAny c.M A (truthy va) (PostB c mu s P) NoE s
def OpG (c : Cx) (n : Nat) (mu : Mu) (a i : PV) (P : PV → Mu → Prop) : Prop :=
  ∀ A s va vi, AOk n A → 0 < s.toks → St c mu s.heap → Rep s.heap a va → Rep s.heap i vi → wpAny c.M A (getItem va vi) (Post c mu s P) NoE s
def CallV (c : Cx) (n : Nat) (mu : Mu) (f : Value) (args : List PV) (kw : List (Str × PV)) (P : PV → Mu → Prop) : Prop :=
  ∀ A s vs kvs, AOk n A → 0 < s.toks → St c mu s.heap → Reps s.heap args vs → RepD s.heap kw kvs → wpAny c.M A (call f vs kvs) (Post c mu s P) NoE s
def Keepr (c : Cx) (mu : Mu) (f : Value) : Prop :=
  ∀ A s (Q : Keeper → Shared → Prop) E, St c mu s.heap → (∀ k, Q k s) → wpAny c.M A (keeperOf f) Q E s
def Meth (c : Cx) (mu : Mu) (ov : PV) (name : Str) (f : Value) : Prop :=
  ∀ A s v pl (Q : Value × List Value → Shared → Prop) E, St c mu s.heap → Rep s.heap ov v → Q (f, [v]) s → wpAny c.M A (getMethod v name pl) Q E s

inductive FV where
  | next | brk | cont
  | ret (d : PV)
inductive RepF (h : Heap) : FV → Flow → Prop
  | next : RepF h .next .next
  | brk : RepF h .brk .brk
  | cont : RepF h .cont .cont
  | ret {d : PV} {v : Value} : Rep h d v → RepF h (.ret d) (.ret v)
def TchK (K : Bool) (env : Env) : Addr → Prop := fun b => b = env.locals ∨ (K = true ∧ ∃ x, env.cells.lookup x = some b)
abbrev Tch (env : Env) : Addr → Prop := TchK true env
def PostS (c : Cx) (env : Env) (mu : Mu) (s : Shared) (P : FV → Lm → Mu → Prop) (f : Flow) (s' : Shared) : Prop :=
  ∃ fv m' mu', P fv m' mu' ∧ Step c (Tch env) mu s mu' s' ∧ Fm c mu' s'.heap env m' ∧ RepF s'.heap fv f
def ExS (c : Cx) (n : Nat) (sc : Scope) (m : Lm) (mu : Mu) (ss : List Stmt) (P : FV → Lm → Mu → Prop) : Prop :=
  ∀ env A s, env.scope = sc → AOk n A → 0 < s.toks → St c mu s.heap → Fm c mu s.heap env m → wpAny c.M A (execs ss env) (PostS c env mu s P) NoE s
def Ex1 (c : Cx) (n : Nat) (sc : Scope) (m : Lm) (mu : Mu) (st : Stmt) (P : FV → Lm → Mu → Prop) : Prop :=
  ∀ env A s, env.scope = sc → AOk n A → 0 < s.toks → St c mu s.heap → Fm c mu s.heap env m → wpAny c.M A (exec st env) (PostS c env mu s P) NoE s
def AsgT (K : Bool) (c : Cx) (n : Nat) (sc : Scope) (m : Lm) (mu : Mu) (t : PySem.Expr) (d : PV) (P : Lm → Mu → Prop) : Prop :=
  ∀ env A s v, env.scope = sc → AOk n A → 0 < s.toks → St c mu s.heap → Fm c mu s.heap env m → Rep s.heap d v →
    wpAny c.M A (assign t env v) (fun _ s' => ∃ m' mu', P m' mu' ∧ Step c (TchK K env) mu s mu' s' ∧ Fm c mu' s'.heap env m') NoE s

theorem PostS.after {c : Cx} {env : Env} {mu mu1 : Mu} {s s1 s2 : Shared} {P : FV → Lm → Mu → Prop} {f : Flow} (x : Step c (Tch env) mu s mu1 s1) (p : PostS c env mu1 s1 P f s2) : PostS c env mu s P f s2 :=
  let ⟨fv, m, mu2, a, b, d⟩ := p; ⟨fv, m, mu2, a, x.trans b, d⟩

section
variable {c : Cx} {n : Nat} {sc : Scope} {m : Lm} {mu : Mu}

/- monadic glue: an expression, then what follows on the state behind it -/
theorem EvE.bind {e : PySem.Expr} {P : PV → Mu → Prop} (h : EvE c n sc m mu e P) {env : Env} {A : Around} {s : Shared} (he : env.scope = sc) (hA : AOk n A) (ht : 0 < s.toks) (S : St c mu s.heap) (F : Fm c mu s.heap env m)
    {Q : Value → Shared → Prop} {E : Value → Shared → Prop}
    (k : ∀ v s1 d mu1, P d mu1 → Step c noT mu s mu1 s1 → 0 < s1.toks → St c mu1 s1.heap → Fm c mu1 s1.heap env m → Rep s1.heap d v → TK s.heap s1.heap → Q v s1) : wpAny c.M A (eval e env) Q E s := by
  refine wpAny_mono (wpAny_toks (h env A s he hA ht S F)) (fun v s1 p => ?_) fun _ _ x => x.2.elim
  obtain ⟨hle, d, mu1, hp, x, r⟩ := p
  exact k v s1 d mu1 hp x (Nat.lt_of_lt_of_le ht hle) x.st (F.step S x) r (x.tk0 S)
theorem Tst.bind {e : PySem.Expr} {P : Bool → Mu → Prop} (h : Tst c n sc m mu e P) {env : Env} {A : Around} {s : Shared} (he : env.scope = sc) (hA : AOk n A) (ht : 0 < s.toks) (S : St c mu s.heap) (F : Fm c mu s.heap env m)
    {Q : Bool → Shared → Prop} {E : Value → Shared → Prop}
    (k : ∀ b s1 mu1, P b mu1 → Step c noT mu s mu1 s1 → 0 < s1.toks → St c mu1 s1.heap → Fm c mu1 s1.heap env m → TK s.heap s1.heap → Q b s1) : wpAny c.M A (isTrue e env (eval e env)) Q E s := by
  refine wpAny_mono (wpAny_toks (h env A s he hA ht S F)) (fun v s1 p => ?_) fun _ _ x => x.2.elim
  obtain ⟨hle, mu1, hp, x⟩ := p
  exact k v s1 mu1 hp x (Nat.lt_of_lt_of_le ht hle) x.st (F.step S x) (x.tk0 S)
theorem EvA.bind {es : List PySem.Expr} {P : List PV → Mu → Prop} (h : EvA c n sc m mu es P) {env : Env} {A : Around} {s : Shared} {pos : Pos} (he : env.scope = sc) (hA : AOk n A) (ht : 0 < s.toks) (S : St c mu s.heap) (F : Fm c mu s.heap env m)
    {Q : List Value → Shared → Prop} {E : Value → Shared → Prop}
    (k : ∀ v s1 d mu1, P d mu1 → Step c noT mu s mu1 s1 → 0 < s1.toks → St c mu1 s1.heap → Fm c mu1 s1.heap env m → Reps s1.heap d v → TK s.heap s1.heap → Q v s1) : wpAny c.M A (spliced (backTo pos (starEach es env))) Q E s := by
  refine wpAny_mono (wpAny_toks (h env A s pos he hA ht S F)) (fun v s1 p => ?_) fun _ _ x => x.2.elim
  obtain ⟨hle, d, mu1, hp, x, r⟩ := p
  exact k v s1 d mu1 hp x (Nat.lt_of_lt_of_le ht hle) x.st (F.step S x) r (x.tk0 S)
/- a tree of values whose end is a Post, then what follows -/
theorem post_bind {A : Around} {s : Shared} {t : Sem Value} {P : PV → Mu → Prop} (h : wpAny c.M A t (Post c mu s P) NoE s) (ht : 0 < s.toks) (S : St c mu s.heap)
    {Q : Value → Shared → Prop} {E : Value → Shared → Prop}
    (k : ∀ v s1 d mu1, P d mu1 → Step c noT mu s mu1 s1 → 0 < s1.toks → St c mu1 s1.heap → Rep s1.heap d v → TK s.heap s1.heap → Q v s1) : wpAny c.M A t Q E s := by
  refine wpAny_mono (wpAny_toks h) (fun v s1 p => ?_) fun _ _ x => x.2.elim
  obtain ⟨hle, d, mu1, hp, x, r⟩ := p
  exact k v s1 d mu1 hp x (Nat.lt_of_lt_of_le ht hle) x.st r (x.tk0 S)
theorem postB_bind {A : Around} {s : Shared} {t : Sem Bool} {P : Bool → Mu → Prop} (h : wpAny c.M A t (PostB c mu s P) NoE s) (ht : 0 < s.toks) (S : St c mu s.heap)
    {Q : Bool → Shared → Prop} {E : Value → Shared → Prop}
    (k : ∀ v s1 mu1, P v mu1 → Step c noT mu s mu1 s1 → 0 < s1.toks → St c mu1 s1.heap → TK s.heap s1.heap → Q v s1) : wpAny c.M A t Q E s := by
  refine wpAny_mono (wpAny_toks h) (fun v s1 p => ?_) fun _ _ x => x.2.elim
  obtain ⟨hle, mu1, hp, x⟩ := p
  exact k v s1 mu1 hp x (Nat.lt_of_lt_of_le ht hle) x.st (x.tk0 S)

theorem EvE.imp {e : PySem.Expr} {P Q : PV → Mu → Prop} (h : EvE c n sc m mu e P) (k : ∀ d mu', P d mu' → Q d mu') : EvE c n sc m mu e Q :=
  fun env A s he hA ht S F => wpAny_mono (h env A s he hA ht S F) (fun _ _ ⟨d, mu', a, b⟩ => ⟨d, mu', k _ _ a, b⟩) fun _ _ x => x
theorem ExS.imp {ss : List Stmt} {P Q : FV → Lm → Mu → Prop} (h : ExS c n sc m mu ss P) (k : ∀ f m' mu', P f m' mu' → Q f m' mu') : ExS c n sc m mu ss Q :=
  fun env A s he hA ht S F => wpAny_mono (h env A s he hA ht S F) (fun _ _ ⟨f, m', mu', a, b⟩ => ⟨f, m', mu', k _ _ _ a, b⟩) fun _ _ x => x

/- ## expressions -/
theorem EvE.int {i : Int} {k : Nat} {pos : Pos} {P : PV → Mu → Prop} (h : P (.int i) mu) : EvE c n sc m mu (.Constant (.int i) k pos) P :=
  fun _ _ s _ _ _ S _ => wpAny_Constant_int (Post.pure (s := s) S h (.int i _))
theorem EvE.str {x : Str} {k : Nat} {pos : Pos} {P : PV → Mu → Prop} (h : P (.str x) mu) : EvE c n sc m mu (.Constant (.str x) k pos) P :=
  fun _ _ s _ _ _ S _ => Constant_str (Post.pure (s := s) S h (.str x _))
theorem EvE.nil {k : Nat} {pos : Pos} {P : PV → Mu → Prop} (h : P .none mu) : EvE c n sc m mu (.Constant .none k pos) P :=
  fun _ _ _ _ _ _ S _ => wpAny_pure (Post.pure0 S h .none)
theorem EvE.boolc {b : Bool} {k : Nat} {pos : Pos} {P : PV → Mu → Prop} (h : P (.bool b) mu) : EvE c n sc m mu (.Constant (.bool b) k pos) P :=
  fun _ _ _ _ _ _ S _ => wpAny_pure (Post.pure0 S h (.bool b))

theorem EvE.loc {x : Str} {pos : Pos} {d : PV} {P : PV → Mu → Prop} (hl : m.lookup x = some d) (hk : sc.names.lookup x = some .local) (h : P d mu) (hd : (x == ("__debug__" : Str)) = false := by decide) :
    EvE c n sc m mu (.Name x pos) P := by
  intro env A s he hA ht S F
  have hk' : env.kindOf x = some .local := by unfold Env.kindOf; rw [he]; exact hk
  obtain ⟨mc, hn, hv⟩ := F.loc
  obtain ⟨v, hv1, hv2⟩ := hv x d hl hk'
  exact wpAny_Name (wpAny_loadName_local F.fn hk' hn hv1 (Post.pure0 S h hv2)) hd
theorem EvE.cell {x : Str} {pos : Pos} {d : PV} {P : PV → Mu → Prop} (hl : m.lookup x = some d) (hk : sc.names.lookup x = some .cell) (h : P d mu) (hd : (x == ("__debug__" : Str)) = false := by decide) :
    EvE c n sc m mu (.Name x pos) P := by
  intro env A s he hA ht S F
  have hk' : env.kindOf x = some .cell := by unfold Env.kindOf; rw [he]; exact hk
  obtain ⟨ca, v, hc, hi, hv⟩ := F.cel x d hl (.inl hk')
  exact wpAny_Name (wpAny_loadName_cell F.fn hk' hc hi (Post.pure0 S h hv)) hd
theorem EvE.glob {x : Str} {pos : Pos} {v : Value} {d : PV} {P : PV → Mu → Prop} (hk : sc.names.lookup x = some .globalImplicit) (hv : c.mg x = some v) (hr : ∀ hp, Rep hp d v) (h : P d mu) (hd : (x == ("__debug__" : Str)) = false := by decide) :
    EvE c n sc m mu (.Name x pos) P := by
  intro env A s he hA ht S F
  have hk' : env.kindOf x = some .globalImplicit := by unfold Env.kindOf; rw [he]; exact hk
  refine Name_function_global F.fn hk' (loadGlobal_global (mg := c.mg) ?_ hv (Post.pure0 S h (hr _))) hd
  rw [F.gl]; exact c.g.keeps S.base
theorem EvE.builtin {x : Str} {pos : Pos} {v : Value} {d : PV} {P : PV → Mu → Prop} (hk : sc.names.lookup x = some .globalImplicit) (hg : c.mg x = none) (hn : x ≠ ("__name__" : Str)) (hv : bootBuiltins x = some v) (hr : ∀ hp, Rep hp d v) (h : P d mu) (hd : (x == ("__debug__" : Str)) = false := by decide) :
    EvE c n sc m mu (.Name x pos) P := by
  intro env A s he hA ht S F
  have hk' : env.kindOf x = some .globalImplicit := by unfold Env.kindOf; rw [he]; exact hk
  refine Name_function_global F.fn hk' (loadGlobal_builtin (mg := c.mg) (mb := c.mb) ?_ hg ?_ ((c.bi x hn).trans hv) (Post.pure0 S h (hr _))) hd
  · rw [F.gl]; exact c.g.keeps S.base
  · rw [F.bu]; exact c.b.keeps S.base

theorem EvE.binop {l r : PySem.Expr} {op : Operator} {pos : Pos} {P : PV → Mu → Prop}
    (h : EvE c n sc m mu l fun a mu1 => EvE c n sc m mu1 r fun b mu2 => OpB c n mu2 op a b P) : EvE c n sc m mu (.BinOp l op r pos) P := by
  intro env A s he hA ht S F
  refine wpAny_BinOp (EvE.bind h he hA ht S F fun va s1 a mu1 h1 x1 t1 S1 F1 r1 _ => ?_)
  refine EvE.bind h1 he hA t1 S1 F1 fun vb s2 b mu2 h2 x2 t2 S2 F2 r2 k2 => ?_
  exact wpAny_mono (h2 A s2 va vb hA t2 S2 (r1.mono k2) r2) (fun _ _ p => p.after x2 |>.after x1) fun _ _ x => x
theorem EvE.unop {e : PySem.Expr} {op : UnaryOp} {pos : Pos} {P : PV → Mu → Prop}
    (h : EvE c n sc m mu e fun a mu1 => OpU c n mu1 op a P) : EvE c n sc m mu (.UnaryOp op e pos) P := by
  intro env A s he hA ht S F
  show wpAny c.M A (do let v ← eval e env; standAt pos; holding [v] (unaryOp op v)) _ _ s
  refine wpAny_bind (EvE.bind h he hA ht S F fun va s1 a mu1 h1 x1 t1 S1 F1 r1 _ => wpAny_bind (wpAny_standAt (wpAny_holding ?_)))
  exact wpAny_mono (h1 A s1 va hA t1 S1 r1) (fun _ _ p => p.after x1) fun _ _ x => x
theorem EvE.cmp {l r : PySem.Expr} {op : CmpOp} {pos : Pos} {P : PV → Mu → Prop}
    (h : EvE c n sc m mu l fun a mu1 => EvE c n sc m mu1 r fun b mu2 => OpC c n mu2 op a b P) (hm : behindInMarks op r = false := by with_unfolding_all rfl) : EvE c n sc m mu (.Compare l [op] [r] pos) P := by
  intro env A s he hA ht S F
  refine wpAny_Compare1 (EvE.bind h he hA ht S F fun va s1 a mu1 h1 x1 t1 S1 F1 r1 _ => ?_) hm
  refine EvE.bind h1 he hA t1 S1 F1 fun vb s2 b mu2 h2 x2 t2 S2 F2 r2 k2 => ?_
  exact wpAny_mono (h2 A s2 va vb hA t2 S2 (r1.mono k2) r2) (fun _ _ p => p.after x2 |>.after x1) fun _ _ x => x
theorem Tst.cmp {l r : PySem.Expr} {op : CmpOp} {pos : Pos} {P : Bool → Mu → Prop}
    (h : EvE c n sc m mu l fun a mu1 => EvE c n sc m mu1 r fun b mu2 => OpC c n mu2 op a b fun d mu3 => OpT c n mu3 d P) (hm : behindInMarks op r = false := by with_unfolding_all rfl) : Tst c n sc m mu (.Compare l [op] [r] pos) P := by
  intro env A s he hA ht S F
  refine wpAny_isTrue_Compare1 (EvE.bind h he hA ht S F fun va s1 a mu1 h1 x1 t1 S1 F1 r1 _ => ?_) hm
  refine EvE.bind h1 he hA t1 S1 F1 fun vb s2 b mu2 h2 x2 t2 S2 F2 r2 k2 => ?_
  refine post_bind (h2 A s2 va vb hA t2 S2 (r1.mono k2) r2) t2 S2 fun vc s3 d mu3 h3 x3 t3 S3 r3 _ => ?_
  exact wpAny_mono (h3 A s3 vc hA t3 S3 r3) (fun _ _ p => p.after x3 |>.after x2 |>.after x1) fun _ _ x => x
/- any other test -/
theorem Tst.of {e : PySem.Expr} {P : Bool → Mu → Prop} (h : EvE c n sc m mu e fun d mu1 => OpT c n mu1 d P)
    (hs : ∀ env whole, isTrue e env whole = (do let v ← whole; standAt e.pos; holding [v] (truthy v)) := by intro _ _; rfl) : Tst c n sc m mu e P := by
  intro env A s he hA ht S F
  rw [hs]
  refine wpAny_bind (EvE.bind h he hA ht S F fun va s1 a mu1 h1 x1 t1 S1 F1 r1 _ => wpAny_bind (wpAny_standAt (wpAny_holding ?_)))
  exact wpAny_mono (h1 A s1 va hA t1 S1 r1) (fun _ _ p => p.after x1) fun _ _ x => x
/- and, or in a test -/
def TstL (c : Cx) (n : Nat) (sc : Scope) (m : Lm) (mu : Mu) (op : BoolOp) (es : List PySem.Expr) (P : Bool → Mu → Prop) : Prop :=
  ∀ env A s, env.scope = sc → AOk n A → 0 < s.toks → St c mu s.heap → Fm c mu s.heap env m → wpAny c.M A (allTrue op es env) (PostB c mu s P) NoE s
theorem Tst.boolop {op : BoolOp} {es : List PySem.Expr} {pos : Pos} {P : Bool → Mu → Prop} (h : TstL c n sc m mu op es P) : Tst c n sc m mu (.BoolOp op es pos) P :=
  fun env A s he hA ht S F => h env A s he hA ht S F
theorem TstL.and_nil {P : Bool → Mu → Prop} (h : P true mu) : TstL c n sc m mu .And [] P := fun _ _ _ _ _ _ S _ => wpAny_pure (PostB.pure0 S h)
theorem TstL.or_nil {P : Bool → Mu → Prop} (h : P false mu) : TstL c n sc m mu .Or [] P := fun _ _ _ _ _ _ S _ => wpAny_pure (PostB.pure0 S h)
theorem TstL.and_cons {e : PySem.Expr} {es : List PySem.Expr} {P : Bool → Mu → Prop} (h : Tst c n sc m mu e fun b mu1 => if b = true then TstL c n sc m mu1 .And es P else P false mu1) : TstL c n sc m mu .And (e :: es) P := by
  intro env A s he hA ht S F
  rw [allTrue]
  refine wpAny_bind (Tst.bind h he hA ht S F fun b s1 mu1 h1 x1 t1 S1 F1 _ => ?_)
  cases b with
  | true => exact wpAny_mono (h1 env A s1 he hA t1 S1 F1) (fun _ _ p => p.after x1) fun _ _ x => x
  | false => exact wpAny_pure ⟨mu1, h1, x1⟩
theorem TstL.or_cons {e : PySem.Expr} {es : List PySem.Expr} {P : Bool → Mu → Prop} (h : Tst c n sc m mu e fun b mu1 => if b = true then P true mu1 else TstL c n sc m mu1 .Or es P) : TstL c n sc m mu .Or (e :: es) P := by
  intro env A s he hA ht S F
  rw [allTrue]
  refine wpAny_bind (Tst.bind h he hA ht S F fun b s1 mu1 h1 x1 t1 S1 F1 _ => ?_)
  cases b with
  | false => exact wpAny_mono (h1 env A s1 he hA t1 S1 F1) (fun _ _ p => p.after x1) fun _ _ x => x
  | true => exact wpAny_pure ⟨mu1, h1, x1⟩
theorem EvE.ifexp {t a b : PySem.Expr} {pos : Pos} {P : PV → Mu → Prop} (h : Tst c n sc m mu t fun r mu1 => if r = true then EvE c n sc m mu1 a P else EvE c n sc m mu1 b P) : EvE c n sc m mu (.IfExp t a b pos) P := by
  intro env A s he hA ht S F
  show wpAny c.M A (do if ← isTrue t env (eval t env) then eval a env else eval b env) _ _ s
  refine wpAny_bind (Tst.bind h he hA ht S F fun r s1 mu1 h1 x1 t1 S1 F1 _ => ?_)
  cases r with
  | true => exact wpAny_mono (h1 env A s1 he hA t1 S1 F1) (fun _ _ p => p.after x1) fun _ _ x => x
  | false => exact wpAny_mono (h1 env A s1 he hA t1 S1 F1) (fun _ _ p => p.after x1) fun _ _ x => x
/- ## arguments -/
theorem EvA.nil {P : List PV → Mu → Prop} (h : P [] mu) : EvA c n sc m mu [] P := fun _ _ _ _ _ _ _ S _ => wpAny_pure ⟨[], mu, h, Step.refl S, .nil⟩
theorem EvA.cons {e : PySem.Expr} {es : List PySem.Expr} {P : List PV → Mu → Prop} (h : EvE c n sc m mu e fun a mu1 => EvA c n sc m mu1 es fun as mu2 => P (a :: as) mu2)
    (hs : ∀ env, starEach (e :: es) env = (false, eval e env) :: starEach es env := by intro _; rfl) : EvA c n sc m mu (e :: es) P := by
  intro env A s pos he hA ht S F
  rw [hs]
  show wpAny c.M A (spliced ((false, eval e env) :: backTo pos (starEach es env))) _ _ s
  refine spliced_cons (EvE.bind h he hA ht S F fun va s1 d mu1 h1 x1 t1 S1 F1 r1 _ => ?_)
  refine EvA.bind h1 he hA t1 S1 F1 fun vs s2 ds mu2 h2 x2 t2 S2 F2 r2 k2 => ?_
  exact ⟨d :: ds, mu2, h2, x1.trans x2, .cons (r1.mono k2) r2⟩
theorem EvE.tuple {es : List PySem.Expr} {k : Nat} {pos : Pos} {P : PV → Mu → Prop} (h : EvA c n sc m mu es fun ds mu1 => ds.length ≤ sizeLine ∧ P (.tuple ds) mu1) : EvE c n sc m mu (.Tuple es k pos) P := by
  intro env A s he hA ht S F
  show wpAny c.M A (do standAt pos; newTuple (← spliced (backTo pos (starEach es env)))) _ _ s
  refine wpAny_bind (wpAny_standAt (wpAny_bind (EvA.bind h he hA ht S F fun vs s1 ds mu1 h1 x1 t1 S1 F1 r1 _ => ?_)))
  refine wpAny_newTuple ?_ (by rw [r1.length]; exact h1.1)
  have x2 : Step c noT mu1 s1 mu1 { s1 with heap := s1.heap.push { cls := .type "tuple", data := .seq vs.toArray } } := Step.pushOff S1
  exact ⟨.tuple ds, mu1, h1.2, x1.trans x2, .tuple (Heap.get?_push_size _ rfl) (r1.mono (x2.tk0 S1))⟩
theorem EvE.list {es : List PySem.Expr} {pos : Pos} {P : PV → Mu → Prop} (h : EvA c n sc m mu es fun ds mu1 => ds.length ≤ sizeLine ∧ ∀ a, mu1 a = none → P (.ref a) (upd mu1 a (.list ds))) : EvE c n sc m mu (.List es pos) P := by
  intro env A s he hA ht S F
  show wpAny c.M A (do standAt pos; newList (← spliced (backTo pos (starEach es env)))) _ _ s
  refine wpAny_bind (wpAny_standAt (wpAny_bind (EvA.bind h he hA ht S F fun vs s1 ds mu1 h1 x1 t1 S1 F1 r1 _ => ?_)))
  refine wpAny_newList ?_ (by rw [r1.length]; exact h1.1)
  have x0 : Step c noT mu1 s1 mu1 { s1 with heap := s1.heap.push { cls := .type "list", data := .seq vs.toArray } } := Step.pushOff S1
  have x2 : Step c noT mu1 s1 (upd mu1 s1.heap.objs.size (.list ds)) { s1 with heap := s1.heap.push { cls := .type "list", data := .seq vs.toArray } } := Step.push S1 ⟨vs, 0, Heap.get?_push_size _ rfl, r1.mono (x0.tk0 S1)⟩
  exact ⟨.ref s1.heap.objs.size, _, h1.2 _ (S1.off (Nat.le_refl _)), x1.trans x2, .ref _⟩
end
end Mine

open PySem PySem.W PySem.Calls PyProof.Rows
set_option Elab.async false
set_option linter.unusedVariables false
namespace Mine

/- # calls of the text's own defs -/
def Binds (c : Cx) (mu : Mu) (fd : FuncData) (args : List PV) (kw : List (Str × PV)) (K : List (Str × PV) → Mu → Prop) : Prop :=
  ∀ A s vs kvs, AOk 0 A → St c mu s.heap → Reps s.heap args vs → RepD s.heap kw kvs → wpAny c.M A (bindArgs fd ⟨vs, kvs⟩) (PostD c mu s K) NoE s

theorem RepD.mem {h : Heap} {ds : List (Str × PV)} {vs : List (Str × Value)} (r : RepD h ds vs) {x : Str} {d : PV} (hx : ds.lookup x = some d) : ∃ v, vs.lookup x = some v ∧ Rep h d v := by
  induction r with
  | nil => simp at hx
  | @cons k d' v ds vs a _ ih =>
    rw [List.lookup_cons] at hx ⊢
    cases hb : x == k with
    | true => rw [hb] at hx; cases hx; exact ⟨v, rfl, a⟩
    | false => rw [hb] at hx; exact ih hx
theorem RepD.names {h : Heap} {ds : List (Str × PV)} {vs : List (Str × Value)} (r : RepD h ds vs) : vs.map (·.1) = ds.map (·.1) := by
  induction r with
  | nil => rfl
  | cons _ _ ih => simp [ih]

theorem bindL_keep {k : Str → Option NameKind} : ∀ (binds : List (Str × Value)) (m0 : Str → Option Value) (x : Str), (x ∉ binds.map (·.1)) → bindL k binds m0 x = m0 x
  | [], _, _, _ => rfl
  | (y, v) :: r, m0, x, h => by
    unfold bindL
    simp only [List.map_cons, List.mem_cons, not_or] at h
    rw [bindL_keep r _ x h.2]
    split
    · simp [h.1]
    · rfl
theorem bindC_keep {k : Str → Option NameKind} : ∀ (binds : List (Str × Value)) (m0 : Str → Option Value) (x : Str), (x ∉ binds.map (·.1)) → bindC k binds m0 x = m0 x
  | [], _, _, _ => rfl
  | (y, v) :: r, m0, x, h => by
    unfold bindC
    simp only [List.map_cons, List.mem_cons, not_or] at h
    rw [bindC_keep r _ x h.2]
    split
    · rfl
    · simp [h.1]
theorem bindL_at {k : Str → Option NameKind} : ∀ (binds : List (Str × Value)) (m0 : Str → Option Value) (x : Str) (v : Value), (binds.map (·.1)).Nodup → binds.lookup x = some v → k x = some .local → bindL k binds m0 x = some v
  | (y, w) :: r, m0, x, v, hn, hl, hk => by
    unfold bindL
    simp only [List.map_cons, List.nodup_cons] at hn
    rw [List.lookup_cons] at hl
    cases hb : x == y with
    | true =>
      rw [hb] at hl; cases hl
      have hxy := beq_iff_eq.mp hb
      subst hxy
      rw [bindL_keep r _ x hn.1, if_pos hk]; simp
    | false => rw [hb] at hl; exact bindL_at r _ x v hn.2 hl hk
theorem bindC_at {k : Str → Option NameKind} : ∀ (binds : List (Str × Value)) (m0 : Str → Option Value) (x : Str) (v : Value), (binds.map (·.1)).Nodup → binds.lookup x = some v → k x ≠ some .local → bindC k binds m0 x = some v
  | (y, w) :: r, m0, x, v, hn, hl, hk => by
    unfold bindC
    simp only [List.map_cons, List.nodup_cons] at hn
    rw [List.lookup_cons] at hl
    cases hb : x == y with
    | true =>
      rw [hb] at hl; cases hl
      have hxy := beq_iff_eq.mp hb
      subst hxy
      rw [bindC_keep r _ x hn.1, if_neg hk]; simp
    | false => rw [hb] at hl; exact bindC_at r _ x v hn.2 hl hk

/- what a def's frame hands back -/
def retOf : FV → PV
  | .ret d => d
  | _ => .none

/- the kinds of the bound names -/
def kindsOk (names : List (Str × NameKind)) (binds : List Str) : Bool := binds.all fun x => names.lookup x == some .local || names.lookup x == some .cell
theorem cellsFrom_has {x : Str} : ∀ (names : List (Str × NameKind)) (k : Nat) (acc : List (Str × Addr)), names.lookup x = some .cell ∨ (acc.lookup x).isSome = true → ((cellsFrom k names acc).lookup x).isSome = true :=
  fun names k acc h => cellsFrom_some names k acc h

structure FnOk (c : Cx) (a : Addr) (fd : FuncData) (body : List Stmt) : Prop where
  obj : ∃ o, c.base.get? a = some o ∧ o.data = .func fd
  co : fd.scope.isCoroutine = false
  gen : fd.scope.isGenerator = false
  kind : fd.scope.kind = .function
  body : fd.body = .stmts body
  code : c.base.CodeRec fd.code fd.qualname
  clos : fd.closure = []
  gl : fd.globals = mainGlobals
  bu : fd.builtins = builtinsNs

theorem fn_body {c : Cx} {n : Nat} {mu mu1 : Mu} {a : Addr} {fd : FuncData} {body : List Stmt} {binds : List (Str × PV)} {P : PV → Mu → Prop} (hf : FnOk c a fd body) {A : Around} {s s1 s2 : Shared} {bv : List (Str × Value)} (hA : AOk (n + 1) A)
    (x1 : Step c noT mu s mu1 s1) (rb : RepD s1.heap binds bv) (hnd : (binds.map (·.1)).Nodup) (hko : kindsOk fd.scope.names (binds.map (·.1)) = true) (hx : ExS c n fd.scope binds mu1 body fun fl _ mu2 => P (retOf fl) mu2)
    {env : Env} (he : env = newEnv fd.scope s1.heap.objs.size fd.globals (cellsFrom (s1.heap.objs.size + 1) fd.scope.names []) (fd.qualname ++ ".<locals>.") (some a) fd.code none fd.builtins)
    (I : InCallC s1 env.locals (bindL env.kindOf bv fun _ => none) env.cells (bindC env.kindOf bv fun _ => none) s2) (ht2 : 0 < s2.toks) :
    s2.heap.NoLimit ∧ codeAny c.M A (.func body env) (fun r s' => match r with | .ok (.ret v) => Post c mu s P v s' | .ok _ => False | .error e => NoE e s') s2 := by
  have S1 := x1.st
  have hnames := rb.names
  have hkb : ∀ y ∈ bv, fd.scope.names.lookup y.1 = some .local ∨ fd.scope.names.lookup y.1 = some .cell := fun y hy => by
    have := List.all_eq_true.mp hko y.1 (hnames ▸ List.mem_map_of_mem hy)
    simpa using this
  have hsc : env.scope = fd.scope := by rw [he]; rfl
  have hL : env.locals = s1.heap.objs.size := by rw [he]; rfl
  have hcl : env.cells = cellsFrom (s1.heap.objs.size + 1) fd.scope.names [] := by rw [he]; rfl
  obtain ⟨h2, tk2, rfl⟩ := I.toInCall.same
  have keep := I.toInCall.keep
  have hsz : s1.heap.objs.size < h2.objs.size := Nat.lt_of_le_of_lt I.toInCall.fresh I.toInCall.ns.lt
  have tkp : TK s1.heap h2 := fun b o e _ => keep b o e
  have S2 : St c mu1 h2 := ⟨fun b o e => keep b o (S1.base b o e), fun b o e => (S1.objs b o e).mono (fun o' q => keep _ _ q) tkp, S1.new⟩
  have F2 : Fm c mu1 h2 env binds := {
    fn := by rw [hsc]; exact hf.kind
    gl := by rw [he]; exact hf.gl
    bu := by rw [he]; exact hf.bu
    loc := ⟨_, I.toInCall.ns, fun y pv e hk => by
      obtain ⟨v, hv, rv⟩ := rb.mem e
      exact ⟨v, bindL_at bv _ y v (hnames ▸ hnd) hv hk, rv.mono tkp⟩⟩
    cel := fun y pv e hk => by
      obtain ⟨v, hv, rv⟩ := rb.mem e
      have hne : env.kindOf y ≠ some .local := by rcases hk with q | q <;> rw [q] <;> decide
      have hcell : fd.scope.names.lookup y = some .cell := by
        have := hkb (y, v) (mem_of_lookup hv)
        rcases this with q | q
        · exact absurd (by unfold Env.kindOf; rw [hsc]; exact q) hne
        · exact q
      obtain ⟨ca, hca⟩ := Option.isSome_iff_exists.mp (cellsFrom_has (x := y) fd.scope.names (s1.heap.objs.size + 1) [] (.inl hcell))
      have hca' : env.cells.lookup y = some ca := by rw [hcl]; exact hca
      have hi := I.cell y ca hca'
      rw [bindC_at bv _ y v (hnames ▸ hnd) hv hne] at hi
      exact ⟨ca, v, hca', hi, rv.mono tkp⟩
    has := fun y hk => by
      have hcell : fd.scope.names.lookup y = some .cell := by unfold Env.kindOf at hk; rw [hsc] at hk; exact hk
      obtain ⟨ca, hca⟩ := Option.isSome_iff_exists.mp (cellsFrom_has (x := y) fd.scope.names (s1.heap.objs.size + 1) [] (.inl hcell))
      exact ⟨ca, by rw [hcl]; exact hca⟩
    cells := fun y ca e => ⟨_, I.cell y ca e⟩
    offL := S1.off (by rw [hL]; exact Nat.le_refl _)
    offC := fun y ca e => by
      have := I.above y ca (mem_of_lookup e)
      rw [hL] at this
      exact ⟨S1.off (Nat.le_of_lt this), by rw [hL]; exact Nat.ne_of_gt this, S1.baseNone (Nat.le_of_lt this)⟩
    apart := fun y z ca h1 h2 => name_of_addr I.apart (mem_of_lookup h1) (mem_of_lookup h2)
    notB := by rw [hL]; exact S1.baseNone (Nat.le_refl _) }
  have above : ∀ b, Tch env b → s1.heap.objs.size ≤ b := fun b hb => by
    rcases hb with q | ⟨_, y, q⟩
    · rw [q, hL]; exact Nat.le_refl _
    · have := I.above y b (mem_of_lookup q); rw [hL] at this; exact Nat.le_of_lt this
  refine ⟨c.nolim.keeps S2.base, codeAny_func ?_⟩
  refine wpAny_mono (hx env _ _ hsc (hA.deeper env) ht2 S2 F2) (fun f s3 p => ?_) fun _ _ e => e.elim
  · obtain ⟨fl, m3, mu3, hp, x3, F3, rf⟩ := p
    have x13 : Step c noT mu1 s1 mu3 s3 := {
      shape := by obtain ⟨h, tk, e⟩ := x3.shape; exact ⟨h, tk, e⟩
      st := x3.st
      keep := fun b o e hm _ => x3.keep b o (keep b o e) hm fun q => absurd (Heap.lt_size e) (Nat.not_lt.mpr (above b q))
      alive := fun b o e hm => x3.alive b o (keep b o e) hm
      dom := fun b hb => by
        rcases x3.dom b hb with q | q
        · exact .inl q
        · cases e : s1.heap.get? b with
          | none => exact .inr rfl
          | some o => have := keep b o e; rw [q] at this; cases this }
    have fin : ∀ v, Rep s3.heap (retOf fl) v → Post c mu s P v s3 := fun v rv => ⟨retOf fl, mu3, hp, x1.trans x13, rv⟩
    cases rf with
    | next => exact fin _ .none
    | brk => exact fin _ .none
    | cont => exact fin _ .none
    | ret r => exact fin _ r

theorem CallV.fn {c : Cx} {n : Nat} {mu : Mu} {a : Addr} {fd : FuncData} {body : List Stmt} {args : List PV} {kw : List (Str × PV)} {P : PV → Mu → Prop} (hf : FnOk c a fd body)
    (h : Binds c mu fd args kw fun binds mu1 => (binds.map (·.1)).Nodup ∧ kindsOk fd.scope.names (binds.map (·.1)) = true ∧ ExS c n fd.scope binds mu1 body fun fl _ mu2 => P (retOf fl) mu2) :
    CallV c (n + 1) mu (.ref a) args kw P := by
  intro A s vs kvs hA ht S r rk
  refine wpAny_call ?_
  obtain ⟨o, ho, hd⟩ := hf.obj
  refine codeAny_call_function hA.room (S.base _ _ ho) hd hf.co hf.gen hf.body (hf.code.keeps S.base) ?_
  rw [hf.clos]
  refine wpAny_mono (wpAny_toks (h A.in1 s vs kvs (hA.in1.le (Nat.zero_le _)) S r rk)) (fun bv s1 p => ?_) fun _ _ x => x.2.elim
  obtain ⟨hle, binds, mu1, ⟨hnd, hko, hx⟩, x1, rb⟩ := p
  refine wpAny_with_toks (n := 1) (Nat.lt_of_lt_of_le ht hle) (wpAny_newFunctionEnv_cells hf.kind (fun y hy => ?_) fun env he s2 I ht2 => fn_body hf hA x1 rb hnd hko hx he I ht2)
  have := List.all_eq_true.mp hko y.1 (rb.names ▸ List.mem_map_of_mem hy)
  have q : fd.scope.names.lookup y.1 = some .local ∨ fd.scope.names.lookup y.1 = some .cell := by simpa using this
  exact q.imp id fun q => ⟨q, cellsFrom_has _ _ _ (.inl q)⟩
end Mine

open PySem PySem.W PySem.Calls PyProof.Rows
set_option Elab.async false
set_option linter.unusedVariables false
namespace Mine

def setL : Lm → Str → PV → Lm
  | [], x, d => [(x, d)]
  | (y, e) :: r, x, d => if y == x then (y, d) :: r else (y, e) :: setL r x d
theorem lookup_setL (m : Lm) (x : Str) (d : PV) (y : Str) : (setL m x d).lookup y = if y = x then some d else m.lookup y := by
  induction m with
  | nil =>
    simp only [setL, List.lookup_cons, List.lookup_nil]
    by_cases h : y = x
    · subst h; simp
    · have : (y == x) = false := beq_eq_false_iff_ne.mpr h
      simp [this, h]
  | cons p r ih =>
    obtain ⟨z, e⟩ := p
    simp only [setL]
    by_cases hz : z = x
    · subst hz
      simp only [beq_self_eq_true, if_true, List.lookup_cons]
      by_cases h : y = z
      · subst h; simp
      · have : (y == z) = false := beq_eq_false_iff_ne.mpr h
        simp [this, h]
    · have hz' : (z == x) = false := beq_eq_false_iff_ne.mpr hz
      simp only [hz', Bool.false_eq_true, if_false, List.lookup_cons]
      by_cases h : y = z
      · subst h; simp [hz]
      · have : (y == z) = false := beq_eq_false_iff_ne.mpr h
        simp only [this]
        exact ih

theorem ns_notT {h : Heap} {a : Addr} {m} (hn : h.Ns a m) : ∀ o, h.get? a = some o → ¬ IsT o := fun o e ht => by
  obtain ⟨o', es, ep, e', hd, _⟩ := hn
  rw [e] at e'; cases e'
  obtain ⟨_, xs, k, hq⟩ := ht
  rw [hd] at hq; cases hq
theorem cell_notT {h : Heap} {a : Addr} {v} (hn : h.IsCell a v) : ∀ o, h.get? a = some o → ¬ IsT o := fun o e ht => by
  obtain ⟨o', e', hd⟩ := hn
  rw [e] at e'; cases e'
  obtain ⟨_, xs, k, hq⟩ := ht
  rw [hd] at hq; cases hq

section
variable {c : Cx} {n : Nat} {sc : Scope} {m : Lm} {mu : Mu}

theorem Fm.weak {h : Heap} {env : Env} {m' : Lm} (F : Fm c mu h env m) (hw : ∀ x d, m'.lookup x = some d → m.lookup x = some d) : Fm c mu h env m' :=
  { F with
    loc := let ⟨mc, hn, hv⟩ := F.loc; ⟨mc, hn, fun x pv e hk => hv x pv (hw x pv e) hk⟩
    cel := fun x pv e hk => F.cel x pv (hw x pv e) hk }

/- a name stored -/
theorem store {env : Env} {A : Around} {s : Shared} {x : Str} {v : Value} {d : PV} {K : Bool} (hk : env.kindOf x = some .local ∨ (K = true ∧ env.kindOf x = some .cell)) (S : St c mu s.heap) (F : Fm c mu s.heap env m) (r : Rep s.heap d v) :
    wpAny c.M A (storeName env x v) (fun _ s' => Step c (TchK K env) mu s mu s' ∧ Fm c mu s'.heap env (setL m x d)) NoE s := by
  obtain ⟨mc, hn, hv⟩ := F.loc
  rcases hk with hk | ⟨hK, hk⟩
  · refine wpAny_storeName_local hk hn (fun h' hn' hs' => ?_) (by rw [F.fn]; rfl)
    have hal : ∃ o, h'.get? env.locals = some o := let ⟨o, _, _, e, _⟩ := hn'; ⟨o, e⟩
    have x1 : Step c (TchK K env) mu s mu { s with heap := h', toks := s.toks + 1 } := Step.turn S F.offL F.notB (ns_notT hn) hs' (.inl rfl) hal
    have tk : TK s.heap h' := fun b o e ht => (hs'.2 b (fun q => by subst q; exact ns_notT hn o e ht)).trans e
    refine ⟨x1, ?_⟩
    exact { F with
      loc := ⟨_, hn', fun y pv e hky => by
        rw [lookup_setL] at e
        by_cases hy : y = x
        · rw [if_pos hy] at e; cases e; exact ⟨v, by simp [hy], r.mono tk⟩
        · rw [if_neg hy] at e
          obtain ⟨u, h1, h2⟩ := hv y pv e hky
          exact ⟨u, by simp [hy, h1], h2.mono tk⟩⟩
      cel := fun y pv e hky => by
        rw [lookup_setL] at e
        by_cases hy : y = x
        · rw [hy, hk] at hky; rcases hky with q | q <;> cases q
        · rw [if_neg hy] at e
          obtain ⟨ca, u, h1, h2, h3⟩ := F.cel y pv e hky
          exact ⟨ca, u, h1, h2.sameBut hs' (F.offC y ca h1).2.1, h3.mono tk⟩
      cells := fun y ca e => let ⟨u, h2⟩ := F.cells y ca e; ⟨u, h2.sameBut hs' (F.offC y ca e).2.1⟩ }
  · obtain ⟨ca, hca⟩ := F.has x hk
    obtain ⟨v0, hv0⟩ := F.cells x ca hca
    refine wpAny_storeName_cell F.fn hk hca hv0 fun h' hc' hs' => ?_
    have hal : ∃ o, h'.get? ca = some o := let ⟨o, e, _⟩ := hc'; ⟨o, e⟩
    have x1 : Step c (TchK K env) mu s mu { s with heap := h', toks := s.toks } := Step.turn S (F.offC x ca hca).1 (F.offC x ca hca).2.2 (cell_notT hv0) hs' (.inr ⟨hK, x, hca⟩) hal
    have tk : TK s.heap h' := fun b o e ht => (hs'.2 b (fun q => by subst q; exact cell_notT hv0 o e ht)).trans e
    refine ⟨x1, ?_⟩
    exact { F with
      loc := ⟨mc, hn.sameBut hs' (Ne.symm (F.offC x ca hca).2.1), fun y pv e hky => by
        rw [lookup_setL] at e
        by_cases hy : y = x
        · rw [hy, hk] at hky; cases hky
        · rw [if_neg hy] at e
          obtain ⟨u, h1, h2⟩ := hv y pv e hky
          exact ⟨u, h1, h2.mono tk⟩⟩
      cel := fun y pv e hky => by
        rw [lookup_setL] at e
        by_cases hy : y = x
        · rw [if_pos hy] at e; cases e; rw [hy]; exact ⟨ca, v, hca, hc', r.mono tk⟩
        · rw [if_neg hy] at e
          obtain ⟨cb, u, h1, h2, h3⟩ := F.cel y pv e hky
          exact ⟨cb, u, h1, h2.sameBut hs' (fun q => hy (F.apart y x ca (q ▸ h1) hca)), h3.mono tk⟩
      cells := fun y cb e => by
        by_cases hy : y = x
        · subst hy; rw [hca] at e; cases e; exact ⟨_, hc'⟩
        · obtain ⟨u, h2⟩ := F.cells y cb e
          exact ⟨u, h2.sameBut hs' (fun q => hy (F.apart y x ca (q ▸ e) hca))⟩ }

def kindB (K : Bool) (sc : Scope) (x : Str) : Bool := sc.names.lookup x == some .local || (K && sc.names.lookup x == some .cell)
theorem kind_of {K : Bool} {env : Env} (he : env.scope = sc) {x : Str} (h : kindB K sc x = true) : env.kindOf x = some .local ∨ (K = true ∧ env.kindOf x = some .cell) := by
  unfold Env.kindOf; rw [he]
  simpa [kindB] using h

/- ## targets -/
theorem AsgT.name {K : Bool} {x : Str} {pos : Pos} {d : PV} {P : Lm → Mu → Prop} (hk : kindB K sc x = true) (h : P (setL m x d) mu) : AsgT K c n sc m mu (.Name x pos) d P := by
  intro env A s v he hA ht S F r
  show wpAny c.M A (do standAt pos; bindName env x v) _ _ s
  refine wpAny_bind (wpAny_standAt (wpAny_bindName ?_))
  exact wpAny_mono (store (kind_of he hk) S F r) (fun _ s' ⟨x1, F1⟩ => ⟨_, _, h, x1, F1⟩) fun _ _ x => x

theorem Step.toT {T : Addr → Prop} {mu1 : Mu} {s s1 : Shared} (x : Step c noT mu s mu1 s1) : Step c T mu s mu1 s1 := x.weaken fun _ h => h.elim
theorem Fm.tkT {K : Bool} {env : Env} {s s1 : Shared} {mu1 : Mu} (F : Fm c mu s.heap env m) (S : St c mu s.heap) (x : Step c (TchK K env) mu s mu1 s1) : TK s.heap s1.heap :=
  x.tk S fun b o hb e => by
    rcases hb with q | ⟨_, y, q⟩
    · subst q; obtain ⟨mc, hn, _⟩ := F.loc; exact ns_notT hn o e
    · obtain ⟨v, hv⟩ := F.cells y b q; exact cell_notT hv o e

/- several targets in order -/
def AsgL (K : Bool) (c : Cx) (n : Nat) (sc : Scope) (m : Lm) (mu : Mu) (ts : List PySem.Expr) (ds : List PV) (P : Lm → Mu → Prop) : Prop :=
  ∀ env A s vs, env.scope = sc → AOk n A → 0 < s.toks → St c mu s.heap → Fm c mu s.heap env m → Reps s.heap ds vs →
    wpAny c.M A (assignInOrder ((assignEach ts env).map (·.2)) vs) (fun _ s' => ∃ m' mu', P m' mu' ∧ Step c (TchK K env) mu s mu' s' ∧ Fm c mu' s'.heap env m') NoE s
theorem AsgL.nil {K : Bool} {P : Lm → Mu → Prop} (h : P m mu) : AsgL K c n sc m mu [] [] P := fun env A s vs he hA ht S F r => by
  cases r
  exact wpAny_pure ⟨m, mu, h, Step.refl S, F⟩
theorem AsgL.cons {K : Bool} {t : PySem.Expr} {ts : List PySem.Expr} {d : PV} {ds : List PV} {P : Lm → Mu → Prop} (h : AsgT K c n sc m mu t d fun m1 mu1 => AsgL K c n sc m1 mu1 ts ds P)
    (hs : ∀ env, assignEach (t :: ts) env = (false, assign t env) :: assignEach ts env := by intro _; rfl) : AsgL K c n sc m mu (t :: ts) (d :: ds) P := by
  intro env A s vs he hA ht S F r
  cases r with
  | @cons _ v _ vs r0 rs =>
  rw [hs]
  show wpAny c.M A (do holding vs (assign t env v); assignInOrder ((assignEach ts env).map (·.2)) vs) _ _ s
  refine wpAny_bind (wpAny_holding (wpAny_mono (wpAny_toks (h env A s v he hA ht S F r0)) (fun _ s1 p => ?_) fun _ _ x => x.2))
  obtain ⟨hle, m1, mu1, h1, x1, F1⟩ := p
  refine wpAny_mono (h1 env A s1 vs he hA (Nat.lt_of_lt_of_le ht hle) x1.st F1 (rs.mono (F.tkT S x1))) (fun _ s2 p => ?_) fun _ _ x => x
  obtain ⟨m2, mu2, h2, x2, F2⟩ := p
  exact ⟨m2, mu2, h2, x1.trans x2, F2⟩
theorem AsgT.tuple {K : Bool} {ts : List PySem.Expr} {k : Nat} {pos : Pos} {ds : List PV} {P : Lm → Mu → Prop} (h : AsgL K c n sc m mu ts ds P) (hlen : ts.length = ds.length)
    (hst : ∀ env, (assignEach ts env).length = ts.length ∧ (assignEach ts env).findIdx? (·.1) = none := by intro _; exact ⟨rfl, rfl⟩) : AsgT K c n sc m mu (.Tuple ts k pos) (.tuple ds) P := by
  intro env A s v he hA ht S F r
  cases r with
  | @tuple a vs q _ e rs =>
  refine wpAny_assign_Tuple (items := vs.toArray) hA.hd ⟨_, e, rfl, _, rfl⟩ (by rw [(hst env).1, hlen]; simp [rs.length]) (hst env).2 fun h' hk => ?_
  have x1 : Step c noT mu s mu { s with heap := h', toks := s.toks } := Step.ext S fun b o q => hk b o (Nat.ne_of_lt (Heap.lt_size q)) q
  refine wpAny_mono (h env A _ vs he hA ht x1.st (F.step S x1) (rs.mono (x1.tk0 S))) (fun _ s2 p => ?_) fun _ _ x => x
  obtain ⟨m2, mu2, h2, x2, F2⟩ := p
  exact ⟨m2, mu2, h2, (x1.toT).trans x2, F2⟩

/- ## statements -/
theorem ExS.nil {P : FV → Lm → Mu → Prop} (h : P .next m mu) : ExS c n sc m mu [] P := fun env A s he hA ht S F => wpAny_execs_nil ⟨.next, m, mu, h, Step.refl S, F, .next⟩
theorem ExS.cons {st : Stmt} {ss : List Stmt} {P : FV → Lm → Mu → Prop}
    (h : Ex1 c n sc m mu st fun fl m1 mu1 => match fl with | .next => ExS c n sc m1 mu1 ss P | fl => P fl m1 mu1) : ExS c n sc m mu (st :: ss) P := by
  intro env A s he hA ht S F
  refine wpAny_execs_cons (wpAny_mono (wpAny_toks (h env A s he hA ht S F)) (fun f s1 p => ?_) fun _ _ x => x.2)
  obtain ⟨hle, fl, m1, mu1, hp, x1, F1, rf⟩ := p
  cases rf with
  | next => exact wpAny_mono (hp env A s1 he hA (Nat.lt_of_lt_of_le ht hle) x1.st F1) (fun _ _ q => q.after x1) fun _ _ x => x
  | brk => exact ⟨.brk, m1, mu1, hp, x1, F1, .brk⟩
  | cont => exact ⟨.cont, m1, mu1, hp, x1, F1, .cont⟩
  | ret r => exact ⟨.ret _, m1, mu1, hp, x1, F1, .ret r⟩
theorem Ex1.assign {t value : PySem.Expr} {pos : Pos} {P : FV → Lm → Mu → Prop} (h : EvE c n sc m mu value fun d mu1 => AsgT true c n sc m mu1 t d fun m2 mu2 => P .next m2 mu2)
    (h1 : ∀ env, env.scope = sc → swapsWithSole [t] value pos.line env = pure false := by intro _ _; rfl) (h2 : ∀ env, swappedStores [t] value env = pure none := by intro _; rfl)
    (h3 : ∀ env, (assignEach [t] env).map (·.2) = [assign t env] := by intro _; rfl) : Ex1 c n sc m mu (.Assign [t] value pos) P := by
  intro env A s he hA ht S F
  show wpAny c.M A (do
    standAt pos
    if ← swapsWithSole [t] value pos.line env then do
      evalThenUse value env fun v => assignAll v ((assignEach [t] env).map (·.2))
      pure .next
    else do
      let v ← eval value env
      assignStores env v (← swappedStores [t] value env) ((assignEach [t] env).map (·.2))) _ _ s
  rw [h1 env he, h2, h3]
  refine wpAny_bind (wpAny_standAt (wpAny_bind (wpAny_pure ?_)))
  simp only [Bool.false_eq_true, if_false]
  refine wpAny_bind (EvE.bind h he hA ht S F fun v s1 d mu1 hp x1 t1 S1 F1 r1 _ => wpAny_bind (wpAny_pure ?_))
  unfold assignStores assignAll
  refine wpAny_bind (wpAny_mono (hp env A s1 v he hA t1 S1 F1 r1) (fun _ s2 p => ?_) fun _ _ x => x)
  obtain ⟨m2, mu2, h2, x2, F2⟩ := p
  exact wpAny_pure ⟨.next, m2, mu2, h2, (x1.toT).trans x2, F2, .next⟩
theorem Ex1.if {t : PySem.Expr} {b o : List Stmt} {pos : Pos} {P : FV → Lm → Mu → Prop} (h : Tst c n sc m mu t fun r mu1 => if r = true then ExS c n sc m mu1 b P else ExS c n sc m mu1 o P) : Ex1 c n sc m mu (.If t b o pos) P := by
  intro env A s he hA ht S F
  refine wpAny_If (Tst.bind h he hA ht S F fun r s1 mu1 hp x1 t1 S1 F1 _ => ?_)
  cases r with
  | true => exact wpAny_mono (hp env A s1 he hA t1 S1 F1) (fun _ _ q => q.after x1.toT) fun _ _ x => x
  | false => exact wpAny_mono (hp env A s1 he hA t1 S1 F1) (fun _ _ q => q.after x1.toT) fun _ _ x => x
theorem Ex1.ret {e : PySem.Expr} {pos : Pos} {P : FV → Lm → Mu → Prop} (h : EvE c n sc m mu e fun d mu1 => P (.ret d) m mu1) : Ex1 c n sc m mu (.Return (some e) pos) P := by
  intro env A s he hA ht S F
  refine wpAny_Return_some (EvE.bind h he hA ht S F fun v s1 d mu1 hp x1 t1 S1 F1 r1 _ => ?_)
  exact ⟨.ret d, m, mu1, hp, x1.toT, F1, .ret r1⟩
def PV.isRef : PV → Bool
  | .ref _ | .tuple _ => true
  | _ => false
theorem Ex1.expr {e : PySem.Expr} {pos : Pos} {P : FV → Lm → Mu → Prop} (h : EvE c n sc m mu e fun d mu1 => d.isRef = false ∧ P .next m mu1)
    (hs : ∀ env, swapsWith e none pos.line env = pure false := by intro _; rfl) : Ex1 c n sc m mu (.Expr e pos) P := by
  intro env A s he hA ht S F
  have hi : interactive env = false := by unfold interactive; rw [F.fn]; rfl
  rw [exec_Expr env e pos hi (hs env)]
  refine wpAny_bind (wpAny_standAt (wpAny_bind (EvE.bind h he hA ht S F fun v s1 d mu1 hp x1 t1 S1 F1 r1 _ => ?_)))
  have hv : ∀ a, v ≠ .ref a := fun a q => by subst q; cases r1 <;> cases hp.1
  rw [dropValue_plain hv]
  exact wpAny_pure ⟨.next, m, mu1, hp.2, x1.toT, F1, .next⟩
theorem loadN {env : Env} {A : Around} {s : Shared} {x : Str} {d : PV} {Q : Value → Shared → Prop} {E : Value → Shared → Prop} (hk : env.kindOf x = some .local ∨ env.kindOf x = some .cell) (hl : m.lookup x = some d) (F : Fm c mu s.heap env m)
    (h : ∀ v, Rep s.heap d v → Q v s) : wpAny c.M A (loadName env x) Q E s := by
  rcases hk with hk | hk
  · obtain ⟨mc, hn, hv⟩ := F.loc
    obtain ⟨v, h1, h2⟩ := hv x d hl hk
    exact wpAny_loadName_local F.fn hk hn h1 (h v h2)
  · obtain ⟨ca, v, h1, h2, h3⟩ := F.cel x d hl (.inl hk)
    exact wpAny_loadName_cell F.fn hk h1 h2 (h v h3)
theorem Ex1.aug {x : Str} {pos' pos : Pos} {op : Operator} {value : PySem.Expr} {a : PV} {P : FV → Lm → Mu → Prop} (hl : m.lookup x = some a) (hk : kindB true sc x = true)
    (h : EvE c n sc m mu value fun b mu2 => OpI c n mu2 op a b fun d mu3 => P .next (setL m x d) mu3) : Ex1 c n sc m mu (.AugAssign (.Name x pos') op value pos) P := by
  intro env A s he hA ht S F
  refine wpAny_AugAssign_Name (loadN ((kind_of he hk).imp id And.right) hl F fun va ra => ?_)
  refine EvE.bind h he hA ht S F fun vb s2 b mu2 h2 x2 t2 S2 F2 r2 k2 => ?_
  refine post_bind (h2 A s2 va vb hA t2 S2 (ra.mono k2) r2) t2 S2 fun vd s3 d mu3 h3 x3 t3 S3 r3 k3 => ?_
  refine wpAny_mono (store (kind_of he hk) S3 (F2.step S2 x3) r3) (fun _ s4 ⟨x4, F4⟩ => ?_) fun _ _ x => x
  exact ⟨.next, _, mu3, h3, ((x2.trans x3).toT).trans x4, F4, .next⟩
end
end Mine

open PySem PySem.W PySem.Calls PyProof.Rows
set_option Elab.async false
set_option linter.unusedVariables false
namespace Mine

/- # iteration -/
structure Iter (c : Cx) (n : Nat) (okT : PySem.Expr → Prop) (I : Addr) (priv : List Addr) (src : Mu → Prop) (xs : List PV) (J : Nat → Heap → Prop) : Prop where
  frame : ∀ i h h', J i h → (∀ b ∈ priv, ∀ o, h.get? b = some o → h'.get? b = some o) → TK h h' → J i h'
  notT : ∀ i h, J i h → ∀ b ∈ priv, ∃ o, h.get? b = some o ∧ ¬ IsT o
  next : ∀ i d A s mu target, okT target → xs[i]? = some d → AOk n A → 0 < s.toks → St c mu s.heap → src mu → (∀ b ∈ priv, mu b = none) → J i s.heap →
    wpAny c.M A (pyNext (.ref I)) (fun r s1 => ∃ v, r = some v ∧ wpAny c.M A (letOwnedTupleGo target (.ref I) v)
      (fun _ s' => ∃ h' tk, s' = { s with heap := h', toks := tk } ∧ (∀ b o, b ∉ priv → s.heap.get? b = some o → h'.get? b = some o) ∧ Rep h' d v ∧ J (i + 1) h') NoE s1) NoE s
  self : ∀ i A s (Q : Value → Shared → Prop) E, AOk n A → J i s.heap → Q (.ref I) s → wpAny c.M A (pyIter (.ref I)) Q E s
  done : ∀ i A s mu, i = xs.length → AOk n A → 0 < s.toks → St c mu s.heap → src mu → (∀ b ∈ priv, mu b = none) → J i s.heap →
    wpAny c.M A (pyNext (.ref I)) (fun r s' => r = none ∧ ∃ h' tk, s' = { s with heap := h', toks := tk } ∧ (∀ b o, b ∉ priv → s.heap.get? b = some o → h'.get? b = some o)) NoE s

/- what pyIter of a value gives: the items, the objects that go out of the ledger -/
def IterOf (c : Cx) (n : Nat) (okT : PySem.Expr → Prop) (mu : Mu) (d : PV) (xs : List PV) (src : Mu → Prop) (mu1 : Mu) : Prop :=
  Sub mu1 mu ∧ ∀ A s v, AOk n A → 0 < s.toks → St c mu s.heap → Rep s.heap d v →
    wpAny c.M A (pyIter v) (fun it s' => ∃ I priv J h' tk, it = .ref I ∧ s' = { s with heap := h', toks := tk } ∧ (∀ b o, b ∉ priv → s.heap.get? b = some o → h'.get? b = some o) ∧
      (∀ b ∈ priv, c.base.get? b = none ∧ mu1 b = none ∧ (s.heap.get? b = none ∨ mu b ≠ none)) ∧ Iter c n okT I priv src xs J ∧ J 0 h') NoE s

/- behind a private step -/
theorem St.priv {c : Cx} {mu : Mu} {h h' : Heap} {priv : List Addr} (S : St c mu h) (hp : ∀ b ∈ priv, mu b = none ∧ c.base.get? b = none) (hk : ∀ b o, b ∉ priv → h.get? b = some o → h'.get? b = some o) (tk : TK h h') : St c mu h' :=
  ⟨fun b o e => hk b o (fun q => by have := (hp b q).2; rw [e] at this; cases this) (S.base b o e),
   fun a o e => (S.objs a o e).mono (fun o' q => hk a o' (fun p => by have := (hp a p).1; rw [e] at this; cases this) q) tk, S.new⟩

def LoopE (c : Cx) (n : Nat) (sc : Scope) (src : Mu → Prop) (target : PySem.Expr) (body orelse : List Stmt) (P : FV → Lm → Mu → Prop) : List PV → Lm → Mu → Prop
  | [], m, mu => src mu ∧ ExS c n sc m mu orelse P
  | x :: xs, m, mu => src mu ∧ AsgT true c n sc m mu target x fun m1 mu1 => ExS c n sc m1 mu1 body fun fl m2 mu2 => match fl with
    | .next | .cont => LoopE c n sc src target body orelse P xs m2 mu2
    | .brk => P .next m2 mu2
    | .ret r => P (.ret r) m2 mu2

section
variable {c : Cx} {n : Nat} {sc : Scope} {m : Lm} {mu : Mu}

theorem tk_priv {h h' : Heap} {priv : List Addr} (hn : ∀ b ∈ priv, ∃ o, h.get? b = some o ∧ ¬ IsT o) (hk : ∀ b o, b ∉ priv → h.get? b = some o → h'.get? b = some o) : TK h h' :=
  fun a o e ht => hk a o (fun q => by obtain ⟨o', e', hn'⟩ := hn a q; rw [e] at e'; cases e'; exact hn' ht) e

theorem Fm.priv {env : Env} {h h' : Heap} {priv : List Addr} (F : Fm c mu h env m) (hL : env.locals ∉ priv) (hC : ∀ x ca, env.cells.lookup x = some ca → ca ∉ priv) (hk : ∀ b o, b ∉ priv → h.get? b = some o → h'.get? b = some o) (tk : TK h h') : Fm c mu h' env m := by
  obtain ⟨mc, hn, hv⟩ := F.loc
  exact { F with
    loc := ⟨mc, hn.at' fun o e => hk _ o hL e, fun y pv e hky => let ⟨v, a, b⟩ := hv y pv e hky; ⟨v, a, b.mono tk⟩⟩
    cel := fun y pv e hky => let ⟨ca, v, a, ⟨o, b, d⟩, r⟩ := F.cel y pv e hky; ⟨ca, v, a, ⟨o, hk ca o (hC y ca a) b, d⟩, r.mono tk⟩
    cells := fun y ca e => let ⟨v, ⟨o, b, d⟩⟩ := F.cells y ca e; ⟨v, ⟨o, hk ca o (hC y ca e) b, d⟩⟩ }

/- the running loop: what is known between two turns -/
structure Mid (c : Cx) (env : Env) (mu0 : Mu) (s0 : Shared) (priv : List Addr) (J : Nat → Heap → Prop) (i : Nat) (m : Lm) (mu : Mu) (s : Shared) : Prop where
  step : Step c (Tch env) mu0 s0 mu s
  fm : Fm c mu s.heap env m
  pv : ∀ b ∈ priv, mu b = none ∧ c.base.get? b = none
  j : J i s.heap
  toks : 0 < s.toks

theorem for_loop {okT : PySem.Expr → Prop} {I : Addr} {priv : List Addr} {src : Mu → Prop} {xs : List PV} {J : Nat → Heap → Prop} {target : PySem.Expr} {body orelse : List Stmt} {P : FV → Lm → Mu → Prop} {env : Env} {A : Around} {mu0 : Mu} {s0 : Shared}
    (W : Iter c n okT I priv src xs J) (hT : okT target) (he : env.scope = sc) (hA : AOk n A) (hL : env.locals ∉ priv) (hC : ∀ x ca, env.cells.lookup x = some ca → ca ∉ priv)
    (h0 : ∀ b ∈ priv, s0.heap.get? b = none ∨ mu0 b ≠ none)
    (i : Nat) (hi : i ≤ xs.length) (s : Shared) (hl : LoopE c n sc src target body orelse P (xs.drop i) m mu) (hm : Mid c env mu0 s0 priv J i m mu s) :
    codeAny c.M A (.forLoop target (.ref I) body orelse env) (fun r s' => match r with | .ok f => PostS c env mu0 s0 P f s' | .error e => cameBackBy c.M A env NoE e s') s := by
  refine codeAny_forLoop_any (fun k s' => ∃ i m mu, k = xs.length + 1 - i ∧ i ≤ xs.length ∧ LoopE c n sc src target body orelse P (xs.drop i) m mu ∧ Mid c env mu0 s0 priv J i m mu s') ?_ (xs.length + 1 - i) ⟨i, m, mu, rfl, hi, hl, hm⟩
  clear hl hm
  rintro k s ⟨i, m, mu, rfl, hi, hl, hm⟩
  have hpm : ∀ b ∈ priv, mu b = none := fun b hb => (hm.pv b hb).1
  cases hx : xs.drop i with
  | nil =>
    rw [hx] at hl
    have hxi : i = xs.length := by have := congrArg List.length hx; simp at this; omega
    refine wpAny_mono (wpAny_toks (W.done i A s mu hxi hA hm.toks hm.step.st hl.1 hpm hm.j)) (fun r s1 p => ?_) fun _ _ x => x.2.elim
    obtain ⟨hle, rfl, h', tk, rfl, hk⟩ := p
    have tkk := tk_priv (W.notT i _ hm.j) hk
    have S1 : St c mu h' := hm.step.st.priv hm.pv hk tkk
    have F1 : Fm c mu h' env m := hm.fm.priv hL hC hk tkk
    have x1 : Step c (Tch env) mu0 s0 mu { s with heap := h', toks := tk } := {
      shape := by obtain ⟨h2, tk2, e⟩ := hm.step.shape; rw [e]; exact ⟨_, _, rfl⟩
      st := S1
      keep := fun b o e hmb hTb => hk b o (fun q => by rcases h0 b q with z | z; rw [e] at z; cases z; exact z hmb) (hm.step.keep b o e hmb hTb)
      alive := fun b o e hmb => by
        obtain ⟨o1, e1⟩ := hm.step.alive b o e hmb
        exact ⟨o1, hk b o1 (fun q => by rcases h0 b q with z | z; rw [e] at z; cases z; exact z hmb) e1⟩
      dom := hm.step.dom }
    refine wpAny_mono (hl.2 env A _ he hA (Nat.lt_of_lt_of_le hm.toks hle) S1 F1) (fun f s3 p => p.after x1) fun _ _ x => x.elim
  | cons d rest =>
    rw [hx] at hl
    have hxi : xs[i]? = some d := by
      have := congrArg (fun l => l[0]?) hx
      simpa using this
    have hlt : i < xs.length := (List.getElem?_eq_some_iff.mp hxi).1
    have hrest : xs.drop (i + 1) = rest := by
      have := congrArg List.tail hx
      simpa [List.tail_drop] using this
    refine wpAny_mono (wpAny_toks (W.next i d A s mu target hT hxi hA hm.toks hm.step.st hl.1 hpm hm.j)) (fun r s1 p => ?_) fun _ _ x => x.2.elim
    obtain ⟨hle, v, rfl, p⟩ := p
    refine wpAny_mono (wpAny_toks p) (fun _ s2 p => ?_) fun _ _ x => x.2.elim
    obtain ⟨hle2, h', tk, rfl, hk, rd, hj⟩ := p
    have tkk := tk_priv (W.notT i _ hm.j) hk
    have S1 : St c mu h' := hm.step.st.priv hm.pv hk tkk
    have F1 : Fm c mu h' env m := hm.fm.priv hL hC hk tkk
    have t1 : 0 < tk := Nat.lt_of_lt_of_le (Nat.lt_of_lt_of_le hm.toks hle) hle2
    have x1 : Step c (Tch env) mu0 s0 mu { s with heap := h', toks := tk } := {
      shape := by obtain ⟨h2, tk2, e⟩ := hm.step.shape; rw [e]; exact ⟨_, _, rfl⟩
      st := S1
      keep := fun b o e hmb hTb => hk b o (fun q => by rcases h0 b q with z | z; rw [e] at z; cases z; exact z hmb) (hm.step.keep b o e hmb hTb)
      alive := fun b o e hmb => by
        obtain ⟨o1, e1⟩ := hm.step.alive b o e hmb
        exact ⟨o1, hk b o1 (fun q => by rcases h0 b q with z | z; rw [e] at z; cases z; exact z hmb) e1⟩
      dom := hm.step.dom }
    have offT : ∀ b ∈ priv, ¬ Tch env b := fun b hb q => by
      rcases q with q | ⟨_, y, q⟩
      · exact hL (q ▸ hb)
      · exact hC y b q hb
    have next : ∀ {mu2 : Mu} {sa sb : Shared}, Step c (Tch env) mu sa mu2 sb → J (i + 1) sa.heap → TK sa.heap sb.heap → J (i + 1) sb.heap ∧ ∀ b ∈ priv, mu2 b = none ∧ c.base.get? b = none := fun {mu2 sa sb} x hja tka => by
      refine ⟨W.frame _ _ _ hja (fun b hb o e => x.keep b o e (hpm b hb) (offT b hb)) tka, fun b hb => ⟨?_, (hm.pv b hb).2⟩⟩
      obtain ⟨o, e, _⟩ := W.notT _ _ hja b hb
      exact keepNone x e (hpm b hb)
    refine wpAny_mono (wpAny_toks (hl.2 env A _ v he hA t1 S1 F1 rd)) (fun _ s3 p => ?_) fun _ _ x => x.2.elim
    obtain ⟨hle3, m3, mu3, h3, x3, F3⟩ := p
    have t3 : 0 < s3.toks := Nat.lt_of_lt_of_le t1 hle3
    refine wpAny_mono (wpAny_toks (h3 env A s3 he hA t3 x3.st F3)) (fun f s4 p => ?_) fun _ _ x => x.2.elim
    obtain ⟨hle4, fl, m4, mu4, h4, x4, F4, rf⟩ := p
    have x34 := x3.trans x4
    have more : LoopE c n sc src target body orelse P (xs.drop (i + 1)) m4 mu4 → ∃ k', k' < xs.length + 1 - i ∧ ∃ i m mu, k' = xs.length + 1 - i ∧ i ≤ xs.length ∧ LoopE c n sc src target body orelse P (xs.drop i) m mu ∧ Mid c env mu0 s0 priv J i m mu s4 := fun hlo => by
      obtain ⟨hj4, hp4⟩ := next x34 hj (F1.tkT S1 x34)
      exact ⟨xs.length + 1 - (i + 1), by omega, i + 1, m4, mu4, rfl, hlt, hlo, x1.trans x34, F4, hp4, hj4, Nat.lt_of_lt_of_le t3 hle4⟩
    cases rf with
    | next => exact more (hrest ▸ h4)
    | cont => exact more (hrest ▸ h4)
    | brk => exact ⟨.next, m4, mu4, h4, x1.trans x34, F4, .next⟩
    | ret r => exact ⟨.ret _, m4, mu4, h4, x1.trans x34, F4, .ret r⟩

theorem Ex1.for {okT : PySem.Expr → Prop} {target iter : PySem.Expr} {body orelse : List Stmt} {pos : Pos} {P : FV → Lm → Mu → Prop} (hT : okT target)
    (h : EvE c n sc m mu iter fun d mu1 => ∃ xs src mu2, IterOf c n okT mu1 d xs src mu2 ∧ LoopE c n sc src target body orelse P xs m mu2)
    (hs : ∀ env x, foldedSetIterable iter env x = pure x := by intro _ _; rfl) : Ex1 c n sc m mu (.For target iter body orelse pos) P := by
  intro env A s he hA ht S F
  show wpAny c.M A (do
    standAt pos
    let x ← foldedSetIterable iter env (← eval iter env)
    standAt iter.pos
    runOwn (.forLoop target (← holding [x] (pyIter x)) body orelse env) env) _ _ s
  refine wpAny_bind (wpAny_standAt (wpAny_bind (EvE.bind h he hA ht S F fun v s1 d mu1 hp x1 t1 S1 F1 r1 _ => ?_)))
  rw [hs]
  obtain ⟨xs, src, mu2, ⟨hsub, hit⟩, hlo⟩ := hp
  refine wpAny_bind (wpAny_pure (wpAny_bind (wpAny_standAt (wpAny_bind (wpAny_holding (wpAny_mono (wpAny_toks (hit A s1 v hA t1 S1 r1)) (fun it s2 p => ?_) fun _ _ x => x.2.elim))))))
  obtain ⟨hle, I, priv, J, h', tk, rfl, rfl, hk, hpv, W, hj⟩ := p
  refine wpAny_runOwn ?_
  have hn1 : ∀ b ∈ priv, ∀ o, s1.heap.get? b = some o → mu1 b ≠ none := fun b hb o e => by
    rcases (hpv b hb).2.2 with z | z
    · rw [e] at z; cases z
    · exact z
  have hL : env.locals ∉ priv := fun q => by
    obtain ⟨mc, hn, _⟩ := F1.loc
    obtain ⟨o, _, _, e, _⟩ := hn
    exact hn1 _ q o e F1.offL
  have hC : ∀ x ca, env.cells.lookup x = some ca → ca ∉ priv := fun x ca hx q => by
    obtain ⟨_, o, e, _⟩ := F1.cells x ca hx
    exact hn1 _ q o e (F1.offC x ca hx).1
  have tkk : TK s1.heap h' := fun a o e hto => hk a o (fun q => hn1 a q o e (S1.tupOff e hto)) e
  have sub0 : ∀ b, mu2 b ≠ none → mu1 b ≠ none := fun b hb => by
    obtain ⟨o, e⟩ := Option.ne_none_iff_exists'.mp hb
    rw [hsub b o e]; simp
  have S1' : St c mu2 s1.heap := ⟨S1.base, fun a o e => S1.objs a o (hsub a o e), fun a ha => S1.new a (sub0 a ha)⟩
  have S2 : St c mu2 h' := S1'.priv (fun b hb => ⟨(hpv b hb).2.1, (hpv b hb).1⟩) hk tkk
  have off2 : ∀ b, mu1 b = none → mu2 b = none := fun b hb => by
    cases q : mu2 b with
    | none => rfl
    | some z => exact absurd hb (sub0 b (by rw [q]; simp))
  have F2 : Fm c mu2 h' env m := { (F1.priv hL hC hk tkk) with
    offL := off2 _ F1.offL
    offC := fun x ca e => ⟨off2 _ (F1.offC x ca e).1, (F1.offC x ca e).2⟩ }
  have x2 : Step c (Tch env) mu1 s1 mu2 { s1 with heap := h', toks := tk } := {
    shape := ⟨_, _, rfl⟩
    st := S2
    keep := fun b o e hm _ => hk b o (fun q => hn1 b q o e hm) e
    alive := fun b o e hm => ⟨o, hk b o (fun q => hn1 b q o e hm) e⟩
    dom := fun b hb => .inl (sub0 b hb) }
  exact codeAny_mono (for_loop W hT he hA hL hC (mu0 := mu1) (s0 := s1) (fun b hb => (hpv b hb).2.2) 0 (Nat.zero_le _) _ (by simpa using hlo)
    ⟨x2, F2, fun b hb => ⟨(hpv b hb).2.1, (hpv b hb).1⟩, hj, Nat.lt_of_lt_of_le t1 hle⟩) fun r s' q => by
      cases r with
      | ok f => exact q.after x1.toT
      | error e => exact q
end
end Mine

open PySem PySem.W PySem.Calls PyProof.Rows
set_option Elab.async false
set_option linter.unusedVariables false
namespace Mine

/- # comprehensions -/
def relab (scope sc : Scope) : Scope :=
  { scope with names := scope.names.map fun (n, k) => if (k == .free && sc.kind == .function && sc.names.lookup n == some .cell) then (n, .cell) else (n, k) }
def capt (scope : Scope) (m : Lm) : Lm := m.filter fun p => scope.names.lookup p.1 == some .free
theorem lookup_capt {scope : Scope} {m : Lm} {x : Str} {d : PV} (h : (capt scope m).lookup x = some d) : scope.names.lookup x = some .free ∧ m.lookup x = some d := by
  unfold capt at h
  induction m with
  | nil => simp at h
  | cons p r ih =>
    obtain ⟨y, e⟩ := p
    by_cases hp : scope.names.lookup y = some .free
    · have hb : (scope.names.lookup y == some NameKind.free) = true := by rw [hp]; rfl
      rw [List.filter_cons_of_pos (by simpa using hp), List.lookup_cons] at h
      rw [List.lookup_cons]
      cases hxy : x == y with
      | true => rw [hxy] at h; exact ⟨by rw [beq_iff_eq.mp hxy]; exact hp, h⟩
      | false => rw [hxy] at h; exact ih h
    · rw [List.filter_cons_of_neg (by simpa using hp)] at h
      rw [List.lookup_cons]
      cases hxy : x == y with
      | true => have := (ih h).1; rw [beq_iff_eq.mp hxy] at this; exact absurd this hp
      | false => exact ih h
theorem lookup_relab {sc : Scope} : ∀ {names : List (Str × NameKind)} {x : Str} {k : NameKind}, names.lookup x = some k →
    (names.map fun (n, k) => if (k == NameKind.free && sc.kind == .function && sc.names.lookup n == some .cell) then (n, NameKind.cell) else (n, k)).lookup x = some (if (k == NameKind.free && sc.kind == .function && sc.names.lookup x == some .cell) = true then .cell else k)
  | [], _, _, h => by simp at h
  | (y, k') :: r, x, k, h => by
    rw [List.lookup_cons] at h
    simp only [List.map_cons]
    cases hxy : x == y with
    | true =>
      rw [hxy] at h; cases h
      have := beq_iff_eq.mp hxy; subst this
      by_cases hc : (k' == NameKind.free && sc.kind == .function && sc.names.lookup x == some .cell) = true
      · rw [if_pos hc, if_pos hc, List.lookup_cons, beq_self_eq_true]
      · rw [if_neg hc, if_neg hc, List.lookup_cons, beq_self_eq_true]
    | false =>
      rw [hxy] at h
      have ih := lookup_relab (sc := sc) h
      by_cases hc : (k' == NameKind.free && sc.kind == .function && sc.names.lookup y == some .cell) = true
      · rw [if_pos hc, List.lookup_cons, hxy]; exact ih
      · rw [if_neg hc, List.lookup_cons, hxy]; exact ih
theorem lookup_relab_none {sc : Scope} : ∀ {names : List (Str × NameKind)} {x : Str}, names.lookup x = none →
    (names.map fun (n, k) => if (k == NameKind.free && sc.kind == .function && sc.names.lookup n == some .cell) then (n, NameKind.cell) else (n, k)).lookup x = none
  | [], _, _ => rfl
  | (y, k') :: r, x, h => by
    rw [List.lookup_cons] at h
    simp only [List.map_cons]
    cases hxy : x == y with
    | true => rw [hxy] at h; cases h
    | false =>
      rw [hxy] at h
      have ih := lookup_relab_none (sc := sc) h
      by_cases hc : (k' == NameKind.free && sc.kind == .function && sc.names.lookup y == some .cell) = true
      · rw [if_pos hc, List.lookup_cons, hxy]; exact ih
      · rw [if_neg hc, List.lookup_cons, hxy]; exact ih

/- the closure that a comprehension takes -/
theorem closure_go {env : Env} : ∀ (names : List (Str × NameKind)) (acc : List (Str × Addr)), (∀ x ∈ names, x.2 = .free → ∃ ca, env.cells.lookup x.1 = some ca) →
    ∃ cl : List (Str × Addr), (forIn names acc fun (x : Str × NameKind) (r : List (Str × Addr)) => if (x.2 == NameKind.free) = true then do let a ← cellOf env x.1; pure (ForInStep.yield ((x.1, a) :: r)) else pure (ForInStep.yield r)) = (pure cl : Sem (List (Str × Addr))) ∧
      (∀ p ∈ cl, p ∈ acc ∨ env.cells.lookup p.1 = some p.2) ∧ (∀ x ∈ names, x.2 = .free → (cl.lookup x.1).isSome = true) ∧ (∀ x, (acc.lookup x).isSome = true → (cl.lookup x).isSome = true)
  | [], acc, _ => ⟨acc, rfl, fun p hp => .inl hp, fun _ hx => (nomatch hx), fun _ h => h⟩
  | (y, k) :: r, acc, h => by
    have hr := fun x hx => h x (List.mem_cons_of_mem _ hx)
    by_cases hk : k = .free
    · subst hk
      obtain ⟨ca, hca⟩ := h (y, .free) List.mem_cons_self rfl
      obtain ⟨cl, e, h1, h2, h3⟩ := closure_go (env := env) r ((y, ca) :: acc) hr
      have hc : cellOf env y = pure ca := by unfold cellOf; rw [hca]
      refine ⟨cl, ?_, fun p hp => ?_, fun x hx hf => ?_, fun x hx => h3 x ?_⟩
      · rw [List.forIn_cons]
        show ((if (NameKind.free == NameKind.free) = true then do let a ← cellOf env y; pure (ForInStep.yield ((y, a) :: acc)) else pure (ForInStep.yield acc)) >>= _) = _
        rw [if_pos (by rfl), hc, pure_bind, pure_bind]; exact e
      · rcases h1 p hp with q | q
        · rcases List.mem_cons.mp q with q | q
          · subst q; exact .inr hca
          · exact .inl q
        · exact .inr q
      · rcases List.mem_cons.mp hx with q | q
        · subst q; exact h3 y (by rw [List.lookup_cons, beq_self_eq_true]; rfl)
        · exact h2 x q hf
      · rw [List.lookup_cons]; cases x == y <;> simp_all
    · obtain ⟨cl, e, h1, h2, h3⟩ := closure_go (env := env) r acc hr
      have hb : (k == NameKind.free) = false := by simpa using hk
      refine ⟨cl, ?_, h1, fun x hx hf => ?_, h3⟩
      · rw [List.forIn_cons]
        show ((if (k == NameKind.free) = true then do let a ← cellOf env y; pure (ForInStep.yield ((y, a) :: acc)) else pure (ForInStep.yield acc)) >>= _) = _
        rw [if_neg (by rw [hb]; exact Bool.false_ne_true), pure_bind]; exact e
      · rcases List.mem_cons.mp hx with q | q
        · subst q; exact absurd hf hk
        · exact h2 x q hf
theorem closure_is {env : Env} {scope : Scope} (h : ∀ x ∈ scope.names, x.2 = .free → ∃ ca, env.cells.lookup x.1 = some ca) :
    ∃ cl, closureFor scope env = pure cl ∧ (∀ x ca, cl.lookup x = some ca → env.cells.lookup x = some ca) ∧ (∀ x ∈ scope.names, x.2 = .free → (cl.lookup x.1).isSome = true) := by
  obtain ⟨cl, e, h1, h2, _⟩ := closure_go (env := env) scope.names [] h
  refine ⟨cl, ?_, fun x ca hx => ?_, h2⟩
  · unfold closureFor
    simp only [bind_pure]
    exact e
  · rcases h1 _ (mem_of_lookup hx) with q | q
    · cases q
    · exact q

/- tests of a comprehension's clause -/
def IfsE (c : Cx) (n : Nat) (sc : Scope) (m : Lm) (mu : Mu) (ifs : List PySem.Expr) (P : Bool → Mu → Prop) : Prop :=
  ∀ env A s, env.scope = sc → AOk n A → 0 < s.toks → St c mu s.heap → Fm c mu s.heap env m →
    wpAny c.M A (forIn ifs true fun c r => if r = true then do let ok ← isTrue c env (eval c env); pure (ForInStep.yield ok) else pure (ForInStep.yield r)) (PostB c mu s P) NoE s
theorem IfsE.nil {c : Cx} {n : Nat} {sc : Scope} {m : Lm} {mu : Mu} {P : Bool → Mu → Prop} (h : P true mu) : IfsE c n sc m mu [] P := fun env A s he hA ht S F => wpAny_tests_nil (PostB.pure0 S h)
theorem IfsE.one {c : Cx} {n : Nat} {sc : Scope} {m : Lm} {mu : Mu} {t : PySem.Expr} {P : Bool → Mu → Prop} (h : Tst c n sc m mu t P) : IfsE c n sc m mu [t] P := fun env A s he hA ht S F => wpAny_tests_one (h env A s he hA ht S F)

def CompE (c : Cx) (n : Nat) (sc : Scope) (src : Mu → Prop) (target : PySem.Expr) (ifs : List PySem.Expr) (elt : PySem.Expr) (P : List PV → Mu → Prop) : List PV → List PV → Lm → Mu → Prop
  | [], acc, _, mu => src mu ∧ P acc mu
  | x :: xs, acc, m, mu => src mu ∧ acc.length ≤ sizeLine ∧ AsgT false c n sc m mu target x fun m1 mu1 => IfsE c n sc m1 mu1 ifs fun ok mu2 =>
      if ok = true then EvE c n sc m1 mu2 elt fun d mu3 => CompE c n sc src target ifs elt P xs (acc ++ [d]) m1 mu3 else CompE c n sc src target ifs elt P xs acc m1 mu2

/- scopes of comprehensions: no cells of their own, every name once -/
def compOk (scope sc : Scope) : Bool :=
  scope.kind == .function && scope.names.all (fun x => x.2 != .cell) && scope.names.all (fun x => scope.names.lookup x.1 == some x.2) && scope.names.all (fun x => x.2 != .free || sc.names.lookup x.1 == some .cell)

structure MidC (c : Cx) (cenv : Env) (D : Addr) (mu0 : Mu) (s0 : Shared) (priv : List Addr) (J : Nat → Heap → Prop) (i : Nat) (acc : List PV) (m : Lm) (mu : Mu) (s : Shared) : Prop where
  step : Step c noT mu0 s0 mu s
  fm : Fm c mu s.heap cenv m
  pv : ∀ b ∈ priv, mu b = none ∧ c.base.get? b = none
  j : J i s.heap
  toks : 0 < s.toks
  accL : ∃ vs n, s.heap.get? D = some (listOf vs.toArray n) ∧ Reps s.heap acc vs
  muD : mu D = none

section
variable {c : Cx} {n : Nat} {sc : Scope} {m : Lm} {mu : Mu}

theorem list_notT {vs : List Value} {k : Nat} : ¬ IsT (listOf vs.toArray k) := by simp [IsT]

/- a step in a comprehension's frame, seen from outside -/
theorem Step.outer {T : Addr → Prop} {mu0 mu1 mu2 : Mu} {s0 s1 s2 : Shared} (x : Step c noT mu0 s0 mu1 s1) (y : Step c T mu1 s1 mu2 s2) (hT : ∀ b, T b → s0.heap.get? b = none) : Step c noT mu0 s0 mu2 s2 where
  shape := by obtain ⟨h, tk, rfl⟩ := x.shape; obtain ⟨h2, tk2, rfl⟩ := y.shape; exact ⟨h2, tk2, rfl⟩
  st := y.st
  keep := fun b o e hm _ => y.keep b o (x.keep b o e hm id) (keepNone x e hm) fun q => by rw [hT b q] at e; cases e
  alive := fun b o e hm => y.alive b o (x.keep b o e hm id) (keepNone x e hm)
  dom := fun b hb => by
    rcases y.dom b hb with h | h
    · exact x.dom b h
    · cases e : s0.heap.get? b with
      | none => exact .inr rfl
      | some o =>
        cases q : mu0 b with
        | some z => exact .inl (by simp)
        | none => have := x.keep b o e q id; rw [h] at this; cases this

theorem compLoop_tests {elt target iter : PySem.Expr} {ifs : List PySem.Expr} {scope : Scope} {pos : Pos} {it acc : Value} {env : Env} {A : Around} {R : Result → Shared → Prop} {s : Shared} (I : Nat → Shared → Prop)
    (turn : ∀ n s, I n s → wpAny c.M A (pyNext it) (fun r s₁ => match r with
      | none => R (.ok .next) s₁
      | some v => wpAny c.M A (letOwnedTupleGo target it v) (fun _ s₁' => wpAny c.M A (assign target env v) (fun _ s₂ =>
          wpAny c.M A (forIn ifs true fun c r => if r = true then do let ok ← isTrue c env (eval c env); pure (ForInStep.yield ok) else pure (ForInStep.yield r)) (fun ok s₃ =>
            if ok = true then wpAny c.M A (eval elt env) (fun x s₄ =>
              wpAny c.M A (call (.builtin "list.append") [acc, x]) (fun _ s₅ => ∃ m, m < n ∧ I m s₅) NoE s₄) NoE s₃
            else ∃ m, m < n ∧ I m s₃) NoE s₂) NoE s₁') NoE s₁) NoE s)
    (n : Nat) (h : I n s) :
    codeAny c.M A (.compLoop (.ListComp elt [⟨target, iter, ifs, 0⟩] scope pos) 0 it acc env) R s := by
  refine codeAny_loop rfl I (fun n s hI => ?_) n h
  show wpAny _ A ((compTurn (.ListComp elt [⟨target, iter, ifs, 0⟩] scope pos) 0 it acc env).onRaise (fun x => do noteFrame x env; theTreesLotGoes x)) _ _ s
  refine wpAny_noted ?_
  rw [compTurn_list]
  refine wpAny_bind (wpAny_standAt (wpAny_bind (wpAny_mono (turn n s hI) (fun r s₁ h₁ => ?_) fun _ _ h' => h'.elim)))
  cases r with
  | none => exact wpAny_pure h₁
  | some v =>
    refine wpAny_bind (wpAny_mono h₁ (fun _ s₁' h₁' => ?_) fun _ _ h' => h'.elim)
    refine wpAny_bind (wpAny_mono h₁' (fun _ s₂ h₂ => wpAny_bind (wpAny_mono h₂ (fun ok s₃ h₃ => ?_) fun _ _ h' => h'.elim)) fun _ _ h' => h'.elim)
    cases ok with
    | false => exact wpAny_pure ⟨rfl, h₃⟩
    | true =>
      exact wpAny_bind (wpAny_bind (wpAny_mono h₃ (fun x s₄ h₄ => wpAny_bind (wpAny_mono h₄ (fun _ s₅ h₅ => wpAny_pure (wpAny_pure ⟨rfl, h₅⟩)) fun _ _ h' => h'.elim)) fun _ _ h' => h'.elim))

/- what stands behind the loop -/
def CDone (c : Cx) (mu0 : Mu) (s0 : Shared) (C D : Addr) (P : List PV → Mu → Prop) (s' : Shared) : Prop :=
  ∃ ys mu3, P ys mu3 ∧ mu3 D = none ∧ Step c noT mu0 s0 (upd mu3 D (.list ys)) s' ∧ (∃ m, s'.heap.Ns C m) ∧ mu3 C = none ∧ 0 < s'.toks

theorem comp_loop {okT : PySem.Expr → Prop} {I : Addr} {priv : List Addr} {src : Mu → Prop} {xs : List PV} {J : Nat → Heap → Prop} {target elt iter : PySem.Expr} {ifs : List PySem.Expr} {scope : Scope} {pos : Pos} {P : List PV → Mu → Prop} {cenv : Env} {A : Around} {D : Addr} {mu0 : Mu} {s0 : Shared}
    (W : Iter c n okT I priv src xs J) (hT : okT target) (he : cenv.scope = sc) (hA : AOk n A) (hL : cenv.locals ∉ priv) (hC : ∀ x ca, cenv.cells.lookup x = some ca → ca ∉ priv)
    (h0 : ∀ b ∈ priv, s0.heap.get? b = none ∨ mu0 b ≠ none) (hL0 : s0.heap.get? cenv.locals = none) (hD0 : s0.heap.get? D = none) (hDb : c.base.get? D = none) (hDL : D ≠ cenv.locals) (hDp : D ∉ priv) (hDC : ∀ x, cenv.cells.lookup x ≠ some D)
    (s : Shared) (hl : CompE c n sc src target ifs elt P xs [] m mu) (hm : MidC c cenv D mu0 s0 priv J 0 [] m mu s) :
    codeAny c.M A (.compLoop (.ListComp elt [⟨target, iter, ifs, 0⟩] scope pos) 0 (.ref I) (.ref D) cenv) (fun r s' => r = .ok .next ∧ CDone c mu0 s0 cenv.locals D P s') s := by
  refine compLoop_tests (fun k s' => ∃ i acc m mu, k = xs.length + 1 - i ∧ i ≤ xs.length ∧ CompE c n sc src target ifs elt P (xs.drop i) acc m mu ∧ MidC c cenv D mu0 s0 priv J i acc m mu s') ?_ (xs.length + 1 - 0) ⟨0, [], m, mu, rfl, Nat.zero_le _, by simpa using hl, hm⟩
  clear hl hm
  rintro k s ⟨i, acc, m, mu, rfl, hi, hl, hm⟩
  have hpm : ∀ b ∈ priv, mu b = none := fun b hb => (hm.pv b hb).1
  have privStep : ∀ {h' : Heap} {tk : Nat}, (∀ b o, b ∉ priv → s.heap.get? b = some o → h'.get? b = some o) → St c mu h' → Step c noT mu0 s0 mu { s with heap := h', toks := tk } := fun {h' tk} hk S1 => {
      shape := by obtain ⟨h2, tk2, e⟩ := hm.step.shape; rw [e]; exact ⟨_, _, rfl⟩
      st := S1
      keep := fun b o e hmb hTb => hk b o (fun q => by rcases h0 b q with z | z; rw [e] at z; cases z; exact z hmb) (hm.step.keep b o e hmb hTb)
      alive := fun b o e hmb => ⟨o, hk b o (fun q => by rcases h0 b q with z | z; rw [e] at z; cases z; exact z hmb) (hm.step.keep b o e hmb id)⟩
      dom := hm.step.dom }
  obtain ⟨vs, nn, eD, rD⟩ := hm.accL
  cases hx : xs.drop i with
  | nil =>
    rw [hx] at hl
    have hxi : i = xs.length := by have := congrArg List.length hx; simp at this; omega
    refine wpAny_mono (wpAny_toks (W.done i A s mu hxi hA hm.toks hm.step.st hl.1 hpm hm.j)) (fun r s1 p => ?_) fun _ _ x => x.2.elim
    obtain ⟨hle, rfl, h', tk, rfl, hk⟩ := p
    have tkk := tk_priv (W.notT i _ hm.j) hk
    have S1 : St c mu h' := hm.step.st.priv hm.pv hk tkk
    have F1 : Fm c mu h' cenv m := hm.fm.priv hL hC hk tkk
    have x1 := privStep (tk := tk) hk S1
    have eD1 : h'.get? D = some (listOf vs.toArray nn) := hk D _ hDp eD
    refine ⟨rfl, acc, mu, hl.2, hm.muD, ?_, let ⟨mc, hn, _⟩ := F1.loc; ⟨mc, hn⟩, F1.offL, Nat.lt_of_lt_of_le hm.toks hle⟩
    refine ⟨x1.shape, ⟨S1.base, fun a o e => ?_, fun a ha => ?_⟩, x1.keep, x1.alive, fun b hb => ?_⟩
    · by_cases q : a = D
      · subst q; simp at e; subst e; exact ⟨vs, nn, eD1, rD.mono tkk⟩
      · rw [upd_ne mu _ q] at e; exact S1.objs a o e
    · by_cases q : a = D
      · subst q; exact hDb
      · rw [upd_ne mu _ q] at ha; exact S1.new a ha
    · by_cases q : b = D
      · subst q; exact .inr hD0
      · rw [upd_ne mu _ q] at hb; exact x1.dom b hb
  | cons d rest =>
    rw [hx] at hl
    have hxi : xs[i]? = some d := by
      have := congrArg (fun l => l[0]?) hx
      simpa using this
    have hlt : i < xs.length := (List.getElem?_eq_some_iff.mp hxi).1
    have hrest : xs.drop (i + 1) = rest := by
      have := congrArg List.tail hx
      simpa [List.tail_drop] using this
    refine wpAny_mono (wpAny_toks (W.next i d A s mu target hT hxi hA hm.toks hm.step.st hl.1 hpm hm.j)) (fun r s1 p => ?_) fun _ _ x => x.2.elim
    obtain ⟨hle, v, rfl, p⟩ := p
    refine wpAny_mono (wpAny_toks p) (fun _ s2 p => ?_) fun _ _ x => x.2.elim
    obtain ⟨hle2, h', tk, rfl, hk, rd, hj⟩ := p
    have tkk := tk_priv (W.notT i _ hm.j) hk
    have S1 : St c mu h' := hm.step.st.priv hm.pv hk tkk
    have F1 : Fm c mu h' cenv m := hm.fm.priv hL hC hk tkk
    have t1 : 0 < tk := Nat.lt_of_lt_of_le (Nat.lt_of_lt_of_le hm.toks hle) hle2
    have x1 := privStep (tk := tk) hk S1
    have eD1 : h'.get? D = some (listOf vs.toArray nn) := hk D _ hDp eD
    have rD1 : Reps h' acc vs := rD.mono tkk
    have offT : ∀ b ∈ priv, ¬ TchK false cenv b := fun b hb q => by
      rcases q with q | ⟨q, _⟩
      · exact hL (q ▸ hb)
      · cases q
    have dT : ¬ TchK false cenv D := fun q => by
      rcases q with q | ⟨q, _⟩
      · exact hDL q
      · cases q
    -- what a step of the frame's leaves
    have next : ∀ {mu2 : Mu} {sa sb : Shared}, Step c (TchK false cenv) mu sa mu2 sb → J (i + 1) sa.heap → TK sa.heap sb.heap → sa.heap.get? D = some (listOf vs.toArray nn) → J (i + 1) sb.heap ∧ (∀ b ∈ priv, mu2 b = none ∧ c.base.get? b = none) ∧ sb.heap.get? D = some (listOf vs.toArray nn) ∧ mu2 D = none := fun {mu2 sa sb} x hja tka ea => by
      refine ⟨W.frame _ _ _ hja (fun b hb o e => x.keep b o e (hpm b hb) (offT b hb)) tka, fun b hb => ⟨?_, (hm.pv b hb).2⟩, x.keep D _ ea hm.muD dT, keepNone x ea hm.muD⟩
      obtain ⟨o, e, _⟩ := W.notT _ _ hja b hb
      exact keepNone x e (hpm b hb)
    have hTL : ∀ b, TchK false cenv b → s0.heap.get? b = none := fun b q => by
      rcases q with q | ⟨q, _⟩
      · rw [q]; exact hL0
      · cases q
    refine wpAny_mono (wpAny_toks (hl.2.2 cenv A _ v he hA t1 S1 F1 rd)) (fun _ s3 p => ?_) fun _ _ x => x.2.elim
    obtain ⟨hle3, m3, mu3, h3, x3, F3⟩ := p
    have t3 : 0 < s3.toks := Nat.lt_of_lt_of_le t1 hle3
    refine wpAny_mono (wpAny_toks (h3 cenv A s3 he hA t3 x3.st F3)) (fun ok s4 p => ?_) fun _ _ x => x.2.elim
    obtain ⟨hle4, mu4, h4, x4⟩ := p
    have t4 : 0 < s4.toks := Nat.lt_of_lt_of_le t3 hle4
    have F4 : Fm c mu4 s4.heap cenv m3 := F3.step x3.st x4
    have x34 : Step c (TchK false cenv) mu { s with heap := h', toks := tk } mu4 s4 := x3.trans x4.toT
    cases ok with
    | false =>
      have h4' : CompE c n sc src target ifs elt P rest acc m3 mu4 := h4
      obtain ⟨hj4, hp4, eD4, mD4⟩ := next x34 hj (F1.tkT S1 x34) eD1
      exact ⟨xs.length + 1 - (i + 1), by omega, i + 1, acc, m3, mu4, rfl, hlt, hrest ▸ h4', x1.outer x34 hTL, F4, hp4, hj4, t4, ⟨vs, nn, eD4, rD1.mono (F1.tkT S1 x34)⟩, mD4⟩
    | true =>
      have h4' : EvE c n sc m3 mu4 elt fun d mu3 => CompE c n sc src target ifs elt P rest (acc ++ [d]) m3 mu3 := h4
      refine EvE.bind h4' he hA t4 x4.st F4 fun w s5 d5 mu5 h5 x5 t5 S5 F5 r5 k5 => ?_
      have x35 : Step c (TchK false cenv) mu { s with heap := h', toks := tk } mu5 s5 := x34.trans x5.toT
      obtain ⟨hj5, hp5, eD5, mD5⟩ := next x35 hj (F1.tkT S1 x35) eD1
      have rD5 : Reps s5.heap acc vs := rD1.mono (F1.tkT S1 x35)
      refine wpAny_list_append_plain (items := vs.toArray) ⟨nn, eD5⟩ (fun h6 hl6 hs6 => ?_) (by rw [List.size_toArray, rD.length]; exact hl.2.1)
      obtain ⟨n6, e6⟩ := hl6
      have notD : ∀ o, s5.heap.get? D = some o → ¬ IsT o := fun o e => by rw [eD5] at e; cases e; exact list_notT
      have tk6 : TK s5.heap h6 := fun b o e ht => (hs6.2 b (fun q => by subst q; exact notD o e ht)).trans e
      have x6 : Step c (fun b => b = D) mu5 s5 mu5 { s5 with heap := h6, toks := s5.toks } := Step.turn S5 mD5 hDb notD hs6 rfl ⟨_, e6⟩
      have hj6 : J (i + 1) h6 := W.frame _ _ _ hj5 (fun b hb o e => (hs6.2 b (fun q => hDp (q ▸ hb))).trans e) tk6
      have F6 : Fm c mu5 h6 cenv m3 := F5.priv (priv := [D]) (by simpa using Ne.symm hDL) (fun x ca hx q => hDC x (by simp at q; rw [← q]; exact hx)) (fun b o hb e => (hs6.2 b (by simpa using hb)).trans e) tk6
      refine ⟨xs.length + 1 - (i + 1), by omega, i + 1, acc ++ [d5], m3, mu5, rfl, hlt, hrest ▸ h5, ((x1.outer x35 hTL).outer x6 (fun b q => by rw [q]; exact hD0)), F6, hp5, hj6, t5, ⟨vs ++ [w], n6, ?_, (rD5.mono tk6).append (.cons (r5.mono tk6) .nil)⟩, mD5⟩
      rw [e6]; simp

theorem compOk_of {scope : Scope} (h : compOk scope sc = true) : scope.kind = .function ∧ (∀ x ∈ scope.names, x.2 ≠ .cell) ∧ (∀ x ∈ scope.names, scope.names.lookup x.1 = some x.2) ∧ (∀ x ∈ scope.names, x.2 = .free → sc.names.lookup x.1 = some .cell) := by
  unfold compOk at h
  simp only [Bool.and_eq_true, List.all_eq_true, beq_iff_eq, bne_iff_ne, Bool.or_eq_true, ne_eq] at h
  obtain ⟨⟨⟨h1, h2⟩, h3⟩, h4⟩ := h
  exact ⟨h1, h2, h3, fun x hx hf => (h4 x hx).resolve_left (fun q => q hf)⟩

/- the frame of a comprehension -/
theorem Fm.comp {scope : Scope} {env : Env} {s s3 : Shared} {mu1 : Mu} {cl : List (Str × Addr)} {C : Addr} (hco : compOk scope sc = true) (he : env.scope = sc) (F : Fm c mu1 s.heap env m) (hcl : ∀ x ca, cl.lookup x = some ca → env.cells.lookup x = some ca)
    (hcl2 : ∀ x ∈ scope.names, x.2 = .free → (cl.lookup x.1).isSome = true) {cenv : Env} (h1 : cenv.scope = relab scope sc) (h2 : cenv.locals = C) (h3 : cenv.cells = cl) (h4 : cenv.globals = env.globals) (h5 : cenv.builtins = env.builtins)
    (hk : ∀ b o, mu1 b = none → s.heap.get? b = some o → s3.heap.get? b = some o) (hns : ∃ mc, s3.heap.Ns C mc) (hC : s.heap.get? C = none) (hCm : mu1 C = none) (hCb : c.base.get? C = none) (tk : TK s.heap s3.heap) {mu2 : Mu} (hsub : ∀ b, mu1 b = none → mu2 b = none) : Fm c mu2 s3.heap cenv (capt scope m) := by
  obtain ⟨ck, cn, cu, cf⟩ := compOk_of hco
  have kindIs : ∀ x k, scope.names.lookup x = some k → cenv.kindOf x = some (if (k == NameKind.free && sc.kind == .function && sc.names.lookup x == some .cell) = true then .cell else k) := fun x k hx => by
    unfold Env.kindOf; rw [h1]; exact lookup_relab hx
  obtain ⟨mc, hmc⟩ := hns
  exact {
    fn := by rw [h1]; exact ck
    gl := h4.trans F.gl
    bu := h5.trans F.bu
    loc := ⟨mc, h2 ▸ hmc, fun x pv e hk' => by
      obtain ⟨hf, _⟩ := lookup_capt e
      rw [kindIs x _ hf] at hk'
      split at hk' <;> cases hk'⟩
    cel := fun x pv e _ => by
      obtain ⟨hf, hm⟩ := lookup_capt e
      have hkx : env.kindOf x = some .cell := by unfold Env.kindOf; rw [he]; exact cf (x, .free) (mem_of_lookup hf) rfl
      obtain ⟨ca, v, q1, ⟨o, q2, q3⟩, q4⟩ := F.cel x pv hm (.inl hkx)
      obtain ⟨ca', q5⟩ := Option.isSome_iff_exists.mp (hcl2 (x, .free) (mem_of_lookup hf) rfl)
      have := hcl x ca' q5
      rw [q1] at this; cases this
      exact ⟨ca, v, by rw [h3]; exact q5, ⟨o, hk ca o (F.offC x ca q1).1 q2, q3⟩, q4.mono tk⟩
    has := fun x hk' => by
      have hsome : ∃ k, scope.names.lookup x = some k := by
        cases q : scope.names.lookup x with
        | some k => exact ⟨k, rfl⟩
        | none =>
          have : cenv.kindOf x = none := by unfold Env.kindOf; rw [h1]; exact lookup_relab_none q
          rw [this] at hk'; cases hk'
      obtain ⟨k, hkk⟩ := hsome
      have hfree : k = .free := by
        rw [kindIs x k hkk] at hk'
        split at hk'
        · rename_i hc; simp at hc; exact hc.1.1
        · cases hk'; exact absurd rfl (cn (x, .cell) (mem_of_lookup hkk))
      subst hfree
      obtain ⟨ca, q⟩ := Option.isSome_iff_exists.mp (hcl2 (x, .free) (mem_of_lookup hkk) rfl)
      exact ⟨ca, by rw [h3]; exact q⟩
    cells := fun x ca e => by
      rw [h3] at e
      obtain ⟨v, o, q2, q3⟩ := F.cells x ca (hcl x ca e)
      exact ⟨v, o, hk ca o (F.offC x ca (hcl x ca e)).1 q2, q3⟩
    offL := by rw [h2]; exact hsub _ hCm
    offC := fun x ca e => by
      rw [h3] at e
      have hc := hcl x ca e
      obtain ⟨a1, a2, a3⟩ := F.offC x ca hc
      refine ⟨hsub _ a1, fun q => ?_, a3⟩
      obtain ⟨v, o, q2, q3⟩ := F.cells x ca hc
      rw [q, h2, hC] at q2; cases q2
    apart := fun x y ca e1 e2 => by rw [h3] at e1 e2; exact F.apart x y ca (hcl x ca e1) (hcl y ca e2)
    notB := by rw [h2]; exact hCb }

/- the comprehension up to what its list is used for -/
theorem comp_run {okT : PySem.Expr → Prop} {target iter elt : PySem.Expr} {ifs : List PySem.Expr} {scope : Scope} {pos pos' : Pos} {P : List PV → Mu → Prop} (hT : okT target) (hco : compOk scope sc = true)
    (h : EvE c n sc m mu iter fun d mu1 => ∃ xs src mu2, IterOf c n okT mu1 d xs src mu2 ∧ CompE c n (relab scope sc) src target ifs elt P xs [] (capt scope m) mu2)
    (hs : ∀ env x, foldedSetIterable iter env x = pure x) {env : Env} {A : Around} {s : Shared} (he : env.scope = sc) (hA : AOk n A) (ht : 0 < s.toks) (S : St c mu s.heap) (F : Fm c mu s.heap env m)
    {use : Option (Value → Sem Unit)} {Q : Value → Shared → Prop}
    (k : ∀ C D s', (mu C = none → s.heap.get? C = none) → C ≠ D → c.base.get? C = none → CDone c mu s C D P s' → compPost c.M A NoE use Q (.ref D) C (.ok .next) s') :
    wpAny c.M A (comprehension (.ListComp elt [⟨target, iter, ifs, 0⟩] scope pos) scope env pos' (newList []) false (eval iter env) use) Q NoE s := by
  obtain ⟨ck, cn, cu, cf⟩ := compOk_of hco
  obtain ⟨cl, hcl0, hcl, hcl2⟩ := closure_is (env := env) (scope := scope) fun x hx hf => by
    have hkx : env.kindOf x.1 = some .cell := by unfold Env.kindOf; rw [he]; exact cf x hx hf
    exact F.has _ hkx
  refine wpAny_comprehension_free (g := ⟨target, iter, ifs, 0⟩) (gs := []) rfl (hs env) hcl0 ck (fun x hx hl => by rw [cu x hx, hl]) ?_
  refine EvE.bind h he hA ht S F fun v s1 d mu1 hp x1 t1 S1 F1 r1 _ => ?_
  obtain ⟨xs, src, mu2, ⟨hsub, hit⟩, hlo⟩ := hp
  refine wpAny_mono (wpAny_toks (hit A s1 v hA t1 S1 r1)) (fun it s2 p => ?_) fun _ _ x => x.2.elim
  obtain ⟨hle, I, priv, J, h2, tk2, rfl, rfl, hk2, hpv, W, hj⟩ := p
  refine wpAny_newList ?_
  refine wpAny_with_toks (n := 1) (Nat.lt_of_lt_of_le t1 hle) (wpAny_newFunctionEnv cn (by intro y hy; cases hy) (fun h4 hns hsb ht4 => ?_) ck)
  have hn1 : ∀ b ∈ priv, ∀ o, s1.heap.get? b = some o → mu1 b ≠ none := fun b hb o e => by
    rcases (hpv b hb).2.2 with z | z
    · rw [e] at z; cases z
    · exact z
  dsimp only at hns hsb ht4 ⊢
  -- the new addresses
  have hDC : h2.objs.size ≠ (h2.push { cls := .type "list", data := .seq ([] : List Value).toArray }).objs.size := by rw [Heap.size_push]; exact Nat.ne_of_lt (Nat.lt_succ_self _)
  have below : ∀ b, b < h2.objs.size → b ≠ (h2.push { cls := .type "list", data := .seq ([] : List Value).toArray }).objs.size := fun b hb => by rw [Heap.size_push]; exact Nat.ne_of_lt (Nat.lt_succ_of_lt hb)
  generalize hCe : (h2.push { cls := .type "list", data := .seq ([] : List Value).toArray }).objs.size = C at *
  generalize hDe : h2.objs.size = D at *
  have keep4 : ∀ b o, h2.get? b = some o → h4.get? b = some o := fun b o e => hsb.extBut b o (below b (hDe ▸ Heap.lt_size e)) (Heap.get?_push_of_some _ (Heap.get?_push_of_some _ e))
  have D2 : h2.get? D = none := get_none (Nat.le_of_eq hDe)
  have C2 : h2.get? C = none := get_none (by rw [← hCe, Heap.size_push]; exact Nat.le_succ _)
  have old : ∀ b o, mu1 b = none → s1.heap.get? b = some o → h4.get? b = some o := fun b o hm e => keep4 b o (hk2 b o (fun q => hn1 b q o e hm) e)
  have jalive : ∀ b ∈ priv, ∃ o, h2.get? b = some o ∧ ¬ IsT o := W.notT 0 _ hj
  have fresh : ∀ b, h2.get? b = none → b ∉ priv := fun b hb q => by obtain ⟨o, e, _⟩ := jalive b q; rw [hb] at e; cases e
  have freshM : ∀ b, h2.get? b = none → s1.heap.get? b = none := fun b hb => by
    cases e : s1.heap.get? b with
    | none => rfl
    | some o => have := hk2 b o (fresh b hb) e; rw [hb] at this; cases this
  have nomu1 : ∀ b, h2.get? b = none → mu1 b = none := fun b hb => by
    cases e : mu1 b with
    | none => rfl
    | some o =>
      obtain ⟨o', e', _⟩ := (S1.objs b o e).noTup
      rw [freshM b hb] at e'; cases e'
  have nobase : ∀ b, h2.get? b = none → c.base.get? b = none := fun b hb => by
    cases e : c.base.get? b with
    | none => rfl
    | some o => have := S1.base b o e; rw [freshM b hb] at this; cases this
  have sub0 : ∀ b, mu2 b ≠ none → mu1 b ≠ none := fun b hb => by
    obtain ⟨o, e⟩ := Option.ne_none_iff_exists'.mp hb
    rw [hsub b o e]; simp
  have off2 : ∀ b, mu1 b = none → mu2 b = none := fun b hb => by
    cases q : mu2 b with
    | none => rfl
    | some z => exact absurd hb (sub0 b (by rw [q]; simp))
  have tk14 : TK s1.heap h4 := fun a o e hto => old a o (S1.tupOff e hto) e
  have S1' : St c mu2 s1.heap := ⟨S1.base, fun a o e => S1.objs a o (hsub a o e), fun a ha => S1.new a (sub0 a ha)⟩
  have S2 : St c mu2 h2 := S1'.priv (fun b hb => ⟨(hpv b hb).2.1, (hpv b hb).1⟩) hk2 (fun a o e hto => hk2 a o (fun q => hn1 a q o e (S1.tupOff e hto)) e)
  have S4 : St c mu2 h4 := ⟨fun b o e => keep4 b o (S2.base b o e), fun a o e => (S2.objs a o e).mono (fun o' q => keep4 a o' q) (fun b o' q _ => keep4 b o' q), S2.new⟩
  -- the steps seen from s
  have x14 : Step c noT mu1 s1 mu2 { s1 with heap := h4, toks := tk2 } := {
    shape := ⟨_, _, rfl⟩
    st := S4
    keep := fun b o e hm _ => old b o hm e
    alive := fun b o e hm => ⟨o, old b o hm e⟩
    dom := fun b hb => .inl (sub0 b hb) }
  have hCs : mu C = none → s.heap.get? C = none := fun hm => by
    cases q : s.heap.get? C with
    | none => rfl
    | some o => have := x1.keep C o q hm id; rw [freshM C C2] at this; cases this
  have hL : ∀ x ca, env.cells.lookup x = some ca → ca ∉ priv := fun x ca hx q => by
    obtain ⟨_, o, e, _⟩ := F1.cells x ca hx
    exact hn1 _ q o e (F1.offC x ca hx).1
  have D4 : h4.get? D = some (listOf ([] : List Value).toArray 0) := hsb.extBut D _ hDC (Heap.get?_push_of_some _ (hDe ▸ Heap.get?_push_size _ rfl))
  have hj4 : J 0 h4 := W.frame _ _ _ hj (fun b hb o e => keep4 b o e) fun b o e _ => keep4 b o e
  have loop : ∀ cenv : Env, cenv.scope = relab scope sc → cenv.locals = C → cenv.cells = cl → cenv.globals = env.globals → cenv.builtins = env.builtins →
      codeAny c.M A (.compLoop (.ListComp elt [⟨target, iter, ifs, 0⟩] scope pos) 0 (.ref I) (.ref D) cenv) (compPost c.M A NoE use Q (.ref D) C) { s1 with heap := h4, toks := tk2 } := fun cenv e1 e2 e3 e4 e5 => by
    have F4 : Fm c mu2 h4 cenv (capt scope m) := Fm.comp (s3 := { s1 with heap := h4, toks := tk2 }) hco he F1 hcl hcl2 e1 e2 e3 e4 e5 old ⟨_, hns⟩ (freshM C C2) (nomu1 C C2) (nobase C C2) tk14 off2
    refine codeAny_mono (comp_loop (sc := relab scope sc) (mu0 := mu1) (s0 := s1) (P := P) W hT e1 hA (by rw [e2]; exact fresh C C2) (fun x ca hx => by rw [e3] at hx; exact hL x ca (hcl x ca hx)) (fun b hb => (hpv b hb).2.2) (by rw [e2]; exact freshM C C2) (freshM D D2) (nobase D D2)
      (by rw [e2]; exact hDC) (fresh D D2) (fun x hx => ?_) _ hlo ⟨x14, F4, fun b hb => ⟨(hpv b hb).2.1, (hpv b hb).1⟩, hj4, ht4, ⟨[], 0, D4, .nil⟩, off2 _ (nomu1 D D2)⟩) fun r s' q => ?_
    · rw [e3] at hx
      obtain ⟨_, o, e, _⟩ := F1.cells x D (hcl x D hx)
      rw [freshM D D2] at e; cases e
    · obtain ⟨rfl, ys, mu3, p1, p2, p3, p4, p5, p6⟩ := q
      rw [e2] at p4 p5
      exact k C D s' hCs (Ne.symm hDC) (nobase C C2) ⟨ys, mu3, p1, p2, x1.trans p3, p4, p5, p6⟩
  have l0 := loop { newEnv scope C env.globals cl env.qual none .none (some env) 0 with scope := relabel scope env } (by rw [← he]; rfl) rfl rfl rfl rfl
  exact codeAny_compStart_list l0 (W.self 0 _ _ _ _ hA hj4 l0)

/- behind a comprehension: its names go -/
theorem CDone.step {C D : Addr} {P : List PV → Mu → Prop} {s s' : Shared} {h' : Heap} (hC : mu C = none → s.heap.get? C = none) (hCD : C ≠ D) (hCb : c.base.get? C = none) {ys : List PV} {mu3 : Mu} (x : Step c noT mu s (upd mu3 D (.list ys)) s') (hns : ∃ m, s'.heap.Ns C m) (hC3 : mu3 C = none) (hs : Heap.SameBut C s'.heap h') :
    Step c noT mu s (upd mu3 D (.list ys)) { s' with heap := h' } := by
  obtain ⟨mc, hn⟩ := hns
  have hCu : upd mu3 D (.list ys) C = none := by rw [upd_ne _ _ hCD]; exact hC3
  have tk : TK s'.heap h' := fun b o e ht => (hs.2 b (fun q => by subst q; exact ns_notT hn o e ht)).trans e
  exact {
    shape := by obtain ⟨h, tk, rfl⟩ := x.shape; exact ⟨_, _, rfl⟩
    st := ⟨fun b o e => (hs.2 b (fun q => by rw [q, hCb] at e; cases e)).trans (x.st.base b o e), fun a o e => (x.st.objs a o e).mono (fun o' q => (hs.2 a (fun z => by rw [z, hCu] at e; cases e)).trans q) tk, x.st.new⟩
    keep := fun b o e hm hT => (hs.2 b (fun q => by subst q; rw [hC hm] at e; cases e)).trans (x.keep b o e hm hT)
    alive := fun b o e hm => ⟨o, (hs.2 b (fun q => by subst q; rw [hC hm] at e; cases e)).trans (x.keep b o e hm id)⟩
    dom := x.dom }

theorem EvE.listcomp {okT : PySem.Expr → Prop} {target iter elt : PySem.Expr} {ifs : List PySem.Expr} {scope : Scope} {pos : Pos} {P : PV → Mu → Prop} (hT : okT target) (hco : compOk scope sc = true)
    (h : EvE c n sc m mu iter fun d mu1 => ∃ xs src mu2, IterOf c n okT mu1 d xs src mu2 ∧ CompE c n (relab scope sc) src target ifs elt (fun ys mu3 => ∀ D, mu3 D = none → P (.ref D) (upd mu3 D (.list ys))) xs [] (capt scope m) mu2)
    (hs : ∀ env x, foldedSetIterable iter env x = pure x := by intro _ _; rfl) : EvE c n sc m mu (.ListComp elt [⟨target, iter, ifs, 0⟩] scope pos) P := by
  intro env A s he hA ht S F
  rw [eval_ListComp]
  refine comp_run hT hco h hs he hA ht S F fun C D s' hC hCD hCb q => ?_
  obtain ⟨ys, mu3, p1, p2, p3, p4, p5, p6⟩ := q
  obtain ⟨mc, hmc⟩ := p4
  exact ⟨mc, hmc, fun h' hs' => ⟨.ref D, _, p1 D p2, CDone.step (P := fun _ _ => True) hC hCD hCb p3 ⟨mc, hmc⟩ p5 hs', .ref D⟩⟩

end
end Mine

open PySem PySem.W PySem.Calls PyProof.Rows
set_option Elab.async false
set_option linter.unusedVariables false
namespace Mine

def noStar : List PySem.Expr → Bool
  | [] => true
  | .Starred _ _ :: _ => false
  | _ :: r => noStar r
def allNamed : List Keyword → Bool
  | [] => true
  | ⟨some _, _, _⟩ :: r => allNamed r
  | _ => false
theorem noStar_any : ∀ {es : List PySem.Expr} (env : Env) (pos : Pos), noStar es = true → (backTo pos (starEach es env)).any (·.1) = false
  | [], _, _, _ => rfl
  | e :: r, env, pos, h => by
    have ih := fun h => noStar_any (es := r) env pos h
    cases e <;> first | (simp [noStar] at h; done) | (simp only [noStar] at h; have := ih h; simpa [starEach, backTo] using this)
theorem allNamed_all : ∀ {ks : List Keyword} (env : Env) (pos : Pos), allNamed ks = true → (backToKw pos (keywordEach ks env)).all (·.1.isSome) = true
  | [], _, _, _ => rfl
  | ⟨some x, e, p⟩ :: r, env, pos, h => by
    have := allNamed_all (ks := r) env pos h
    simpa [keywordEach, backToKw] using this
  | ⟨none, e, p⟩ :: r, env, pos, h => by simp [allNamed] at h
section
variable {c : Cx} {n : Nat} {sc : Scope} {m : Lm} {mu : Mu}

/- # calls -/
theorem evalArgs_go {f : Value} {args : List (Bool × Sem Value)} {kws : List (Option Str × Sem Value)} {M : Model} {A : Around} {E : Value → Shared → Prop} {s : Shared} {Q : Args → Shared → Prop} (hs : args.any (·.1) = false) (hall : kws.all (·.1.isSome) = true)
    (h : wpAny M A (spliced args) (fun vs s₁ => wpAny M A (evalAll (kws.map (·.2))) (fun ks s₂ => Q ⟨vs, (kws.filterMap (·.1)).zip ks⟩ s₂) E s₁) E s) :
    wpAny M A (evalArgs f true args kws) Q E s := by
  cases args with
  | nil =>
    unfold evalArgs
    show wpAny M A (spliced [] >>= _) Q E s
    refine wpAny_bind (wpAny_mono h (fun vs s₁ h₁ => wpAny_holding ?_) fun _ _ x => x)
    simp only [hall, if_true]
    exact wpAny_bind (wpAny_mono h₁ (fun ks s₂ h₂ => wpAny_bind (wpAny_pure (wpAny_pure h₂))) fun _ _ x => x)
  | cons a r =>
    obtain ⟨b, t⟩ := a
    have hb : b = false := by simp only [List.any_cons, Bool.or_eq_false_iff] at hs; exact hs.1
    subst hb
    exact evalArgs_kw hall h

theorem EvK.nil {P : List (Str × PV) → Mu → Prop} (h : P [] mu) : EvK c n sc m mu [] P := fun env A s pos he hA ht S F => wpAny_pure ⟨[], mu, h, Step.refl S, .nil⟩
theorem EvK.cons {x : Str} {e : PySem.Expr} {p : Pos} {ks : List Keyword} {P : List (Str × PV) → Mu → Prop} (h : EvE c n sc m mu e fun d mu1 => EvK c n sc m mu1 ks fun kw mu2 => P ((x, d) :: kw) mu2) : EvK c n sc m mu (⟨some x, e, p⟩ :: ks) P := by
  intro env A s pos he hA ht S F
  show wpAny c.M A (evalAll ((do let v ← eval e env; standAt pos; pure v) :: (backToKw pos (keywordEach ks env)).map (·.2))) _ _ s
  refine wpAny_evalAll_cons (wpAny_bind (EvE.bind h he hA ht S F fun va s1 d mu1 h1 x1 t1 S1 F1 r1 _ => wpAny_bind (wpAny_standAt (wpAny_pure ?_))))
  refine wpAny_mono (h1 env A s1 pos he hA t1 S1 F1) (fun vs s2 p => ?_) fun _ _ x => x
  obtain ⟨kw, mu2, h2, x2, r2⟩ := p
  exact ⟨(x, d) :: kw, mu2, h2, x1.trans x2, .cons (r1.mono (x2.tk0 S1)) r2⟩

/- the call of a value with its arguments -/
theorem callWith_go {f : Value} {first : List PV} {vfirst : List Value} {es : List PySem.Expr} {ks : List Keyword} {P : PV → Mu → Prop} {env : Env} {A : Around} {s : Shared} {pos pos' : Pos}
    (h : EvA c n sc m mu es fun ds mu1 => EvK c n sc m mu1 ks fun kw mu2 => Keepr c mu2 f ∧ CallV c n mu2 f (first ++ ds) kw P)
    (hst : noStar es = true) (hks : allNamed ks = true)
    (he : env.scope = sc) (hA : AOk n A) (ht : 0 < s.toks) (S : St c mu s.heap) (F : Fm c mu s.heap env m) (rf : Reps s.heap first vfirst) :
    wpAny c.M A (callWith pos f vfirst (backTo pos' (starEach es env)) (backToKw pos' (keywordEach ks env))) (Post c mu s P) NoE s := by
  unfold callWith
  refine wpAny_bind (wpAny_holding (evalArgs_go (noStar_any env pos' hst) (allNamed_all env pos' hks) ?_))
  refine EvA.bind h he hA ht S F fun vs s1 ds mu1 h1 x1 t1 S1 F1 r1 k1 => ?_
  refine wpAny_mono (wpAny_toks (h1 env A s1 pos' he hA t1 S1 F1)) (fun kvs s2 p => ?_) fun _ _ x => x.2
  obtain ⟨hle, kw, mu2, ⟨hkp, hcl⟩, x2, r2⟩ := p
  have k2 := x2.tk0 S1
  refine wpAny_bind (wpAny_standAt (wpAny_bind (hkp A s2 _ _ x2.st fun k => ?_)))
  have hc := hcl A s2 (vfirst ++ vs) _ hA (Nat.lt_of_lt_of_le t1 hle) x2.st (((rf.mono k1).mono k2).append (r1.mono k2)) r2
  have tail : ∀ {t : Sem Value}, wpAny c.M A t (Post c mu2 s2 P) NoE s2 → wpAny c.M A (t >>= fun r => holding [r] point >>= fun _ => pure r) (Post c mu s P) NoE s2 :=
    fun ht => wpAny_bind (wpAny_mono ht (fun r s3 p => wpAny_bind (wpAny_holding (wpAny_point (wpAny_pure (p.after x2 |>.after x1))))) fun _ _ x => x)
  have hm : ∀ mark, wpAny c.M A (callMarked mark f (vfirst ++ vs) (((backToKw pos' (keywordEach ks env)).filterMap (·.1)).zip kvs)) (Post c mu2 s2 P) NoE s2 := fun mark => by unfold callMarked; exact wpAny_keep hc
  have ho : ∀ l, wpAny c.M A (operate l (call f (vfirst ++ vs) (((backToKw pos' (keywordEach ks env)).filterMap (·.1)).zip kvs))) (Post c mu2 s2 P) NoE s2 := fun l => wpAny_operating hc
  dsimp only
  generalize ((backTo pos' (starEach es env)).any (fun x => x.1) || (backToKw pos' (keywordEach ks env)).any fun x => x.1.isNone) = st
  cases k <;> cases st <;> dsimp only <;> first | exact tail hc | exact tail (hm _) | exact tail (ho _) | (split <;> first | exact tail hc | exact tail (hm _))

theorem Keepr.builtin {id : String} : Keepr c mu (.builtin id) := fun A s Q E S h => wpAny_pure (h _)
theorem Keepr.type {id : String} : Keepr c mu (.type id) := fun A s Q E S h => wpAny_pure (h _)
theorem Keepr.fn {a : Addr} {fd : FuncData} {body : List Stmt} (hf : FnOk c a fd body) : Keepr c mu (.ref a) := fun A s Q E S h => by
  obtain ⟨o, ho, hd⟩ := hf.obj
  unfold keeperOf
  refine wpAny_bind (wpAny_load (S.base _ _ ho) ?_)
  rw [hd]; exact wpAny_pure (h _)

/- f(..), f no attribute -/
theorem EvE.call {fe : PySem.Expr} {f : Value} {fp : PV} {es : List PySem.Expr} {ks : List Keyword} {pos : Pos} {P : PV → Mu → Prop}
    (h : EvE c n sc m mu fe fun d mu0 => d = fp ∧ EvA c n sc m mu0 es fun ds mu1 => EvK c n sc m mu1 ks fun kw mu2 => Keepr c mu2 f ∧ CallV c n mu2 f ds kw P)
    (hfp : ∀ hp v, Rep hp fp v → v = f) (hst : noStar es = true := by rfl) (hks : allNamed ks = true := by rfl)
    (hev : ∀ env, eval (.Call fe es ks pos) env = (do callWith pos (← eval fe env) [] (backTo pos (starEach es env)) (backToKw pos (keywordEach ks env))) := by intro _; rfl) : EvE c n sc m mu (.Call fe es ks pos) P := by
  intro env A s he hA ht S F
  rw [hev]
  refine wpAny_bind (EvE.bind h he hA ht S F fun v s0 d mu0 h0 x0 t0 S0 F0 r0 _ => ?_)
  obtain ⟨rfl, h0⟩ := h0
  have := hfp _ _ r0
  subst this
  exact wpAny_mono (callWith_go (first := []) h0 hst hks he hA t0 S0 F0 .nil) (fun _ _ p => p.after x0) fun _ _ x => x

/- o.name(..) -/
theorem EvE.method {o : PySem.Expr} {name : Str} {es : List PySem.Expr} {ks : List Keyword} {apos pos : Pos} {P : PV → Mu → Prop}
    (h : EvE c n sc m mu o fun d mu0 => ∃ f, Meth c mu0 d name f ∧ EvA c n sc m mu0 es fun ds mu1 => EvK c n sc m mu1 ks fun kw mu2 => Keepr c mu2 f ∧ CallV c n mu2 f (d :: ds) kw P)
    (hb : ∀ env, attributeBase o name env (eval o env) = eval o env := by intro _; rfl) (hst : noStar es = true := by rfl) (hks : allNamed ks = true := by rfl)
    (hlen : (es.length + ks.length + (if ks.isEmpty then 0 else 1) < 30) := by decide) (hline : (apos.endLine == pos.line) = true := by rfl) : EvE c n sc m mu (.Call (.Attribute o name apos) es ks pos) P := by
  intro env A s he hA ht S F
  rw [arm_eval_Call, hb]
  refine wpAny_bind (EvE.bind h he hA ht S F fun v s0 d mu0 h0 x0 t0 S0 F0 r0 _ => ?_)
  obtain ⟨f, hm, h0⟩ := h0
  refine wpAny_bind (wpAny_standAt ?_)
  have hform : methodCallForm (es.length + ks.length) (backTo pos (starEach es env)) (backToKw pos (keywordEach ks env)) = true := by
    have h1 := noStar_any env pos hst
    have h2 := allNamed_all env pos hks
    unfold methodCallForm
    simp only [Bool.and_eq_true, decide_eq_true_eq]
    refine ⟨⟨?_, h2⟩, ?_⟩
    · rw [List.all_eq_true]; intro x hx
      rw [List.any_eq_false] at h1
      simpa using h1 x hx
    · have : (backToKw pos (keywordEach ks env)).isEmpty = ks.isEmpty := by
        cases ks with
        | nil => rfl
        | cons k r => cases k; rfl
      rw [this]; exact hlen
  have hpos : methodCallPos true o env apos pos = pure pos := by unfold methodCallPos; simp [hline]
  unfold methodCall
  rw [hform]
  refine wpAny_bind (wpAny_holding ?_)
  show wpAny c.M A (getMethod v name _) _ _ s0
  refine hm A s0 v _ _ _ S0 r0 ?_
  refine wpAny_bind (wpAny_of_eq hpos ?_)
  exact wpAny_mono (callWith_go (first := [d]) h0 hst hks he hA t0 S0 F0 (.cons r0 .nil)) (fun _ _ p => p.after x0) fun _ _ x => x

/- # subscripts -/
def OpSub (c : Cx) (n : Nat) (mu : Mu) (slice : PySem.Expr) (a i : PV) (P : PV → Mu → Prop) : Prop :=
  ∀ A s va vi value, AOk n A → 0 < s.toks → St c mu s.heap → Rep s.heap a va → Rep s.heap i vi → wpAny c.M A (subscriptTail value slice va vi) (Post c mu s P) NoE s
theorem EvE.sub {value slice : PySem.Expr} {pos : Pos} {P : PV → Mu → Prop} (h : EvE c n sc m mu value fun a mu1 => EvE c n sc m mu1 slice fun i mu2 => OpSub c n mu2 slice a i P) : EvE c n sc m mu (.Subscript value slice pos) P := by
  intro env A s he hA ht S F
  refine Subscript_ (EvE.bind h he hA ht S F fun va s1 a mu1 h1 x1 t1 S1 F1 r1 _ => ?_)
  refine EvE.bind h1 he hA t1 S1 F1 fun vb s2 b mu2 h2 x2 t2 S2 F2 r2 k2 => ?_
  exact wpAny_mono (h2 A s2 va vb value hA t2 S2 (r1.mono k2) r2) (fun _ _ p => p.after x2 |>.after x1) fun _ _ x => x
/- the value is of a built-in type -/
def Ty (c : Cx) (mu : Mu) (a : PV) (T : String) : Prop := ∀ (s : Shared) (v : Value), St c mu s.heap → Rep s.heap a v → s.TypeIs v T
theorem OpSub.of {slice : PySem.Expr} {a i : PV} {T id : String} {P : PV → Mu → Prop} (hT : Ty c mu a T) (hl : typeLookup (.type T) "__getitem__" = pure (some (.builtin id))) (h : OpG c n mu a i P)
    (hs : ∀ o i, ∃ ops, subscripted slice false o i = operate ops (getItem o i) := by intro _ _; exact ⟨_, rfl⟩) : OpSub c n mu slice a i P := by
  intro A s va vi value hA ht S ra ri
  obtain ⟨ops, e⟩ := hs va vi
  exact tail_any (hT s va S ra) hl (h A s va vi hA ht S ra ri) e
end
end Mine

open PySem PySem.W PySem.Calls PyProof.Rows
set_option Elab.async false
set_option linter.unusedVariables false
namespace Mine

def anyT : PySem.Expr → Prop := fun _ => True

def ownIters : List String := ["enumerate", "zip", "dict_itemiterator", "dict_reverseitemiterator", "odict_iterator", "itertools.zip_longest", "itertools.pairwise"]
theorem letOwned_plain {M : Model} {A : Around} {E : Value → Shared → Prop} {s : Shared} {target : PySem.Expr} {I : Addr} {v : Value} {o : Obj} {T : String} {Q : Unit → Shared → Prop} (ho : s.heap.get? I = some o) (hc : o.cls = .type T) (hT : ownIters.contains T = false) (h : Q () s) :
    wpAny M A (letOwnedTupleGo target (.ref I) v) Q E s := by
  have go : wpAny M A (do
    let (.ref r, .ref a) := (Value.ref I, v) | return
    let o ← load r
    match o.cls, o.data with
    | .type n, .fields vs =>
      if ["enumerate", "zip", "dict_itemiterator", "dict_reverseitemiterator", "odict_iterator", "itertools.zip_longest", "itertools.pairwise"].contains n && vs[0]? == some (rawInt a) then
        rule "for.unpacks-the-owned-tuple"
        updateField r 0 .none
    | _, _ => pure ()) Q E s := by
    cases v with
    | ref a =>
      refine wpAny_bind (wpAny_load ho ?_)
      rw [hc]
      cases o.data with
      | fields vs =>
        show wpAny M A (if (ownIters.contains T && vs[0]? == some (rawInt a)) = true then _ else _) Q E s
        rw [hT, Bool.false_and, if_neg Bool.false_ne_true]
        exact wpAny_pure h
      | _ => exact wpAny_pure h
    | _ => exact wpAny_pure h
  unfold letOwnedTupleGo
  cases target <;> first | exact go | exact wpAny_pure h

section
variable {c : Cx} {n : Nat} {mu : Mu}

/- ## lists -/
theorem iter_list {I l : Addr} {xs : List PV} {src : Mu → Prop} {priv : List Addr} {J : Nat → Heap → Prop} (hIl : I ≠ l)
    (hI : I ∈ priv) (hp : ∀ b ∈ priv, b = I ∨ b = l)
    (hJ : ∀ i h, J i h → h.IsListIter I l i)
    (hL : ∀ mu i (h : Heap), St c mu h → src mu → J i h → ∃ vs, h.IsList l vs.toArray ∧ Reps h xs vs)
    (hJ' : ∀ i j (h h' : Heap), J i h → h'.IsListIter I l j → (∀ b o, b ≠ I → h.get? b = some o → h'.get? b = some o) → TK h h' → J j h')
    (hfr : ∀ i h h', J i h → (∀ b ∈ priv, ∀ o, h.get? b = some o → h'.get? b = some o) → TK h h' → J i h')
    (hnt : ∀ i h, J i h → l ∈ priv → ∃ o, h.get? l = some o ∧ ¬ IsT o) : Iter c n anyT I priv src xs J where
  frame := hfr
  notT := fun i h hj b hb => by
    rcases hp b hb with q | q
    · subst q; obtain ⟨o, e, hc, _⟩ := hJ i h hj; exact ⟨o, e, fun ht => by have := ht.1; rw [hc] at this; simp at this⟩
    · subst q; exact hnt i h hj hb
  next := fun i d A s mu target _ hx hA ht S hs hm hj => by
    obtain ⟨vs, hl, rs⟩ := hL mu i s.heap S hs hj
    obtain ⟨v, hv, rv⟩ := rs.get hx
    have hit := hJ i s.heap hj
    refine wpAny_pyNext_list_item hit hl (x := v) (by simpa using hv) fun h' hit' hs' => ⟨v, rfl, ?_⟩
    obtain ⟨o, e, hc, _⟩ := id hit'
    refine letOwned_plain e hc (by decide) ⟨h', s.toks, rfl, fun b o' hb e' => hs'.extBut b o' (fun q => hb (q ▸ hI)) e', ?_, ?_⟩
    · exact rv.mono fun b o' e' hto => hs'.extBut b o' (fun q => by subst q; obtain ⟨o2, e2, hc2, _⟩ := hit; rw [e'] at e2; cases e2; have := hto.1; rw [hc2] at this; simp at this) e'
    · exact hJ' i (i + 1) _ _ hj hit' (fun b o' hb e' => hs'.extBut b o' hb e') fun b o' e' hto => hs'.extBut b o' (fun q => by subst q; obtain ⟨o2, e2, hc2, _⟩ := hit; rw [e'] at e2; cases e2; have := hto.1; rw [hc2] at this; simp at this) e'
  self := fun i A s Q E _ hj h => wpAny_pyIter_listiter (hJ i _ hj) h
  done := fun i A s mu hx hA ht S hs hm hj => by
    obtain ⟨vs, hl, rs⟩ := hL mu i s.heap S hs hj
    refine wpAny_pyNext_list_end hA.hd (hJ i _ hj) hl (by
      have := rs.length
      simp; omega) fun h' he' => ⟨rfl, h', s.toks, rfl, fun b o hb e => he' b o (fun q => hb (q ▸ hI)) e⟩

theorem sub_refl (mu : Mu) : Sub mu mu := fun _ _ e => e
theorem fresh_priv {h : Heap} (S : St c mu h) : ∀ b ∈ [h.objs.size], c.base.get? b = none ∧ mu b = none ∧ (h.get? b = none ∨ mu b ≠ none) := fun b hb => by
  rw [List.mem_singleton.mp hb]
  exact ⟨S.baseNone (Nat.le_refl _), S.off (Nat.le_refl _), .inl (get_none (Nat.le_refl _))⟩

/- a list of the ledger that stays in it -/
theorem IterOf.list {l : Addr} {xs : List PV} (hl : mu l = some (.list xs)) : IterOf c n anyT mu (.ref l) xs (fun mu' => mu' l = some (.list xs)) mu := by
  refine ⟨sub_refl mu, fun A s v hA ht S r => ?_⟩
  cases r
  obtain ⟨vs, k, e, rs⟩ := S.objs l _ hl
  have hne : s.heap.objs.size ≠ l := Nat.ne_of_gt (Heap.lt_size e)
  refine wpAny_pyIter_list (items := vs.toArray) ⟨_, e, rfl, k, rfl⟩ ⟨_, [s.heap.objs.size], fun i h => h.IsListIter s.heap.objs.size l i, _, _, rfl, rfl, fun b o _ e' => Heap.get?_push_of_some _ e', fresh_priv S, ?_, ⟨_, Heap.get?_push_size _ rfl, rfl, rfl⟩⟩
  refine iter_list hne (by simp) (fun b hb => .inl (by simpa using hb)) (fun i h hj => hj) (fun mu' i h S' hs hj => ?_) (fun i j h h' _ hj _ _ => hj) (fun i h h' hj hk _ => hj.at fun o e => hk _ (by simp) o e) (fun i h hj hb => absurd (by simpa using hb) (Ne.symm hne))
  obtain ⟨vs', k', e', rs'⟩ := S'.objs l _ hs
  exact ⟨vs', ⟨_, e', rfl, k', rfl⟩, rs'⟩

/- a list that nothing else holds: it goes out of the ledger -/
theorem IterOf.listTmp {l : Addr} {xs : List PV} {mu0 : Mu} (h0 : mu0 l = none) : IterOf c n anyT (upd mu0 l (.list xs)) (.ref l) xs (fun _ => True) mu0 := by
  refine ⟨fun a o e => by rw [upd_ne _ _ (fun q => by rw [q, h0] at e; cases e)]; exact e, fun A s v hA ht S r => ?_⟩
  cases r
  obtain ⟨vs, k, e, rs⟩ := S.objs l (.list xs) (by simp)
  have hne : s.heap.objs.size ≠ l := Nat.ne_of_gt (Heap.lt_size e)
  have tkp : TK s.heap (s.heap.push { cls := .type "list_iterator", data := .fields #[.ref l, .int 0 0] }) := fun b o e' _ => Heap.get?_push_of_some _ e'
  refine wpAny_pyIter_list (items := vs.toArray) ⟨_, e, rfl, k, rfl⟩ ⟨_, [s.heap.objs.size, l], fun i h => h.IsListIter s.heap.objs.size l i ∧ ∃ vs k, h.get? l = some (listOf vs.toArray k) ∧ Reps h xs vs, _, _, rfl, rfl, fun b o _ e' => Heap.get?_push_of_some _ e', ?_, ?_,
    ⟨⟨_, Heap.get?_push_size _ rfl, rfl, rfl⟩, vs, k, Heap.get?_push_of_some _ e, rs.mono tkp⟩⟩
  · intro b hb
    rcases List.mem_cons.mp hb with q | q
    · subst q
      have h1 := fresh_priv S s.heap.objs.size (by simp)
      exact ⟨h1.1, by have := h1.2.1; rwa [upd_ne _ _ hne] at this, h1.2.2⟩
    · rw [List.mem_singleton.mp q]
      exact ⟨S.new l (by simp), h0, .inr (by simp)⟩
  · refine iter_list hne (by simp) (fun b hb => by simpa using hb) (fun i h hj => hj.1) (fun mu' i h S' hs hj => ?_) (fun i j h h' hj hj' hk tk => ⟨hj', ?_⟩) (fun i h h' hj hk tk => ⟨hj.1.at fun o e => hk _ (by simp) o e, ?_⟩) (fun i h hj hb => ?_)
    · obtain ⟨_, vs', k', e', rs'⟩ := hj; exact ⟨vs', ⟨_, e', rfl, k', rfl⟩, rs'⟩
    · obtain ⟨_, vs', k', e', rs'⟩ := hj; exact ⟨vs', k', hk l _ (Ne.symm hne) e', rs'.mono tk⟩
    · obtain ⟨_, vs', k', e', rs'⟩ := hj; exact ⟨vs', k', hk l (by simp) _ e', rs'.mono tk⟩
    · obtain ⟨_, vs', k', e', rs'⟩ := hj; exact ⟨_, e', list_notT⟩

/- a list of the base -/
def BaseList (c : Cx) (l : Addr) (xs : List PV) : Prop := ∃ vs, c.base.IsList l vs.toArray ∧ Reps c.base xs vs
theorem BaseList.at {l : Addr} {xs : List PV} (hb : BaseList c l xs) {h : Heap} (S : St c mu h) : ∃ vs, h.IsList l vs.toArray ∧ Reps h xs vs := by
  obtain ⟨vs, hl, rs⟩ := hb
  exact ⟨vs, hl.at fun o e => S.base _ _ e, rs.mono fun b o e _ => S.base b o e⟩
theorem IterOf.base {l : Addr} {xs : List PV} (hl : BaseList c l xs) : IterOf c n anyT mu (.ref l) xs (fun _ => True) mu := by
  refine ⟨sub_refl mu, fun A s v hA ht S r => ?_⟩
  cases r
  obtain ⟨vs, hli, rs⟩ := hl.at S
  have hne : s.heap.objs.size ≠ l := by obtain ⟨o, e, _⟩ := hli; exact Nat.ne_of_gt (Heap.lt_size e)
  refine wpAny_pyIter_list hli ⟨_, [s.heap.objs.size], fun i h => h.IsListIter s.heap.objs.size l i, _, _, rfl, rfl, fun b o _ e' => Heap.get?_push_of_some _ e', fresh_priv S, ?_, ⟨_, Heap.get?_push_size _ rfl, rfl, rfl⟩⟩
  exact iter_list hne (by simp) (fun b hb => .inl (by simpa using hb)) (fun i h hj => hj) (fun mu' i h S' _ hj => hl.at S') (fun i j h h' _ hj _ _ => hj) (fun i h h' hj hk _ => hj.at fun o e => hk _ (by simp) o e) (fun i h hj hb => absurd (by simpa using hb) (Ne.symm hne))

/- ## from the library's walks: one private object -/
theorem iter_walk {I : Addr} {k : Nat} {Pw : Nat → Value → Prop} {Stw : Nat → Heap → Prop} {xs : List PV} {T : String} (W : ∀ A : Around, A.handled = none → Walks c.prog c.w A I [I] [I] k Pw Stw) (hk : xs.length = k)
    (hP : ∀ i v d (h : Heap), Pw i v → xs[i]? = some d → Rep h d v) (hO : ∀ i h, Stw i h → ∃ o, h.get? I = some o ∧ o.cls = .type T) (hT : ownIters.contains T = false) (hT2 : T ≠ "tuple") : Iter c n anyT I [I] (fun _ => True) xs Stw where
  frame := fun i h h' st hk _ => (W {} rfl).frame i h h' st hk
  notT := fun i h st b hb => by
    rw [List.mem_singleton.mp hb]
    obtain ⟨o, e, hc⟩ := hO i h st
    exact ⟨o, e, fun q => hT2 (by have := q.1; rw [hc] at this; exact Value.type.inj this)⟩
  next := fun i d A s mu target _ hx hA ht S hs hm st => by
    have hi : i < k := by rw [← hk]; exact (List.getElem?_eq_some_iff.mp hx).1
    refine (W A hA.hd).item i s _ _ hi st fun v h' tk hpv st' hkp => ⟨v, rfl, ?_⟩
    obtain ⟨o, e, hc⟩ := hO _ _ st'
    exact letOwned_plain (s := { s with heap := h', toks := tk }) e hc hT ⟨h', tk, rfl, hkp, hP i v d h' hpv hx, st'⟩
  self := fun i A s Q E hA st h => (W A hA.hd).self i s Q E st h
  done := fun i A s mu hx hA ht S hs hm st => by
    rw [hx, hk] at st
    exact (W A hA.hd).done s _ _ st fun h' tk hkp => ⟨rfl, h', tk, rfl, hkp⟩

theorem IterOf.str {x : Str} : IterOf c n anyT mu (.str x) (x.cps.toList.map fun ch => .str ⟨#[ch]⟩) (fun _ => True) mu := by
  refine ⟨sub_refl mu, fun A s v hA ht S r => ?_⟩
  cases r with
  | str _ t =>
  have hP : ∀ i v d (h : Heap), SignAt x i v → (x.cps.toList.map fun ch => PV.str ⟨#[ch]⟩)[i]? = some d → Rep h d v := fun i v d h hp hd => by
    obtain ⟨ch, u, e, rfl⟩ := hp
    have e' : x.cps.toList[i]? = some ch := by simpa using e
    rw [List.getElem?_map, e'] at hd
    cases hd
    exact .str _ _
  cases ha : x.cps.all (· < 128)
  · refine wpAny_pyIter_wide ha ⟨_, [s.heap.objs.size], _, _, _, rfl, rfl, fun b o _ e' => Heap.get?_push_of_some _ e', fresh_priv S, iter_walk (T := "str_iterator") (fun A' hA' => Walks.strWide hA' _ x t) (by simp) hP ?_ (by decide) (by decide), ⟨_, Heap.get?_push_size _ rfl, rfl, rfl⟩⟩
    rintro i h ⟨o, e, hc, _⟩; exact ⟨o, e, hc⟩
  · refine wpAny_pyIter_ascii ha ⟨_, [s.heap.objs.size], _, _, _, rfl, rfl, fun b o _ e' => Heap.get?_push_of_some _ e', fresh_priv S, iter_walk (T := "str_ascii_iterator") (fun A' hA' => Walks.strAscii hA' _ x t) (by simp) hP ?_ (by decide) (by decide), ⟨_, Heap.get?_push_size _ rfl, rfl, rfl⟩⟩
    rintro i h ⟨o, e, hc, _⟩; exact ⟨o, e, hc⟩

def rangeL (a b st : Int) : List PV := (List.range (Builtin.Range.rangeSize a b st).toNat).map fun (i : Nat) => PV.int (a + (i : Int) * st)
theorem rangeSize_nonneg (a b st : Int) : 0 ≤ Builtin.Range.rangeSize a b st := by
  unfold Builtin.Range.rangeSize
  split
  · split
    · have := Int.ediv_nonneg (a := b - a - 1) (b := st) (by omega) (by omega); omega
    · omega
  · split
    · have := Int.ediv_nonneg (a := a - b - 1) (b := -st) (by omega) (by omega); omega
    · omega

theorem IterOf.range {r : Addr} {a b st : Int} (h0 : mu r = none) (hsm : Builtin.Range.small a b st = true) : IterOf c n anyT (upd mu r (.rng a b st)) (.ref r) (rangeL a b st) (fun _ => True) mu := by
  refine ⟨fun x o e => by rw [upd_ne _ _ (fun q => by rw [q, h0] at e; cases e)]; exact e, fun A s v hA ht S r0 => ?_⟩
  cases r0
  obtain ⟨t, u, w, e⟩ := S.objs r (.rng a b st) (by simp)
  have hne : s.heap.objs.size ≠ r := Nat.ne_of_gt (Heap.lt_size e)
  refine wpAny_pyIter_range e hsm ⟨_, [s.heap.objs.size], fun i h => IsRangeIter h s.heap.objs.size (a + (i : Nat) * st) (((Builtin.Range.rangeSize a b st).toNat : Int) - (i : Nat)) st, _, _, rfl, rfl, fun b o _ e' => Heap.get?_push_of_some _ e', ?_, ?_, ?_⟩
  · intro b hb
    have h1 := fresh_priv S b hb
    have hb' : b ≠ r := by rw [List.mem_singleton.mp hb]; exact hne
    exact ⟨h1.1, by have := h1.2.1; rwa [upd_ne _ _ hb'] at this, h1.2.2⟩
  · refine iter_walk (T := "range_iterator") (fun A' hA' => (Walks.range hA' _ a st (Builtin.Range.rangeSize a b st).toNat).bound) (by simp [rangeL]) (fun i v d h hp hd => ?_) (fun i h hh => ⟨_, hh, rfl⟩) (by decide) (by decide)
    obtain ⟨hi, tk, rfl⟩ := hp
    have : (rangeL a b st)[i]? = some (.int (a + (i : Int) * st)) := by simp [rangeL, hi]
    rw [this] at hd; cases hd
    exact .int _ _
  · show IsRangeIter _ _ _ _ _
    have e1 : ((Builtin.Range.rangeSize a b st).toNat : Int) - ((0 : Nat) : Int) = Builtin.Range.rangeSize a b st := by have := rangeSize_nonneg a b st; omega
    have e2 : a + ((0 : Nat) : Int) * st = a := by simp
    rw [e1, e2]
    exact Heap.get?_push_size _ rfl
end
end Mine

open PySem PySem.W PySem.Calls PyProof.Rows
set_option Elab.async false
set_option linter.unusedVariables false
namespace Mine

section
variable {c : Cx} {n : Nat} {sc : Scope} {m : Lm} {mu : Mu}

/- # ints -/
theorem OpB.addI {a b : Int} {P : PV → Mu → Prop} (h : P (.int (a + b)) mu) : OpB c n mu .Add (.int a) (.int b) P := fun A s va vb hA ht S ra rb => by
  cases ra; cases rb; exact PySem.P.add_int (Post.pure S h (.int _ _))
theorem OpI.subI {a b : Int} {P : PV → Mu → Prop} (h : P (.int (a - b)) mu) : OpI c n mu .Sub (.int a) (.int b) P := fun A s va vb hA ht S ra rb => by
  cases ra; cases rb; exact PySem.P.isub_int (Post.pure S h (.int _ _))
theorem OpB.modI {a b : Int} {P : PV → Mu → Prop} (hb : b ≠ 0) (h : P (.int (a.fmod b)) mu) : OpB c n mu .Mod (.int a) (.int b) P := fun A s va vb hA ht S ra rb => by
  cases ra; cases rb; exact PyProof.Rows.mod_int' hb (Post.pure S h (.int _ _))
theorem OpB.divI {a b : Int} {P : PV → Mu → Prop} (hb : b ≠ 0) (hp : b.natAbs < 1000) (h : P (.int (a.fdiv b)) mu) : OpB c n mu .FloorDiv (.int a) (.int b) P := fun A s va vb hA ht S ra rb => by
  cases ra; cases rb; exact PyProof.Rows.floordiv_int hb (Post.pure S h (.int _ _)) (Or.inl (PyProof.noPylong_small (by omega)))
theorem OpU.negI {a : Int} {P : PV → Mu → Prop} (h : P (.int (-a)) mu) : OpU c n mu .USub (.int a) P := fun A s va hA ht S ra => by
  cases ra; exact PySem.P.neg_int (Post.pure S h (.int _ _))
theorem OpC.eqI {a b : Int} {P : PV → Mu → Prop} (h : P (.bool (decide (a = b))) mu) : OpC c n mu .Eq (.int a) (.int b) P := fun A s va vb hA ht S ra rb => by
  cases ra; cases rb; exact PySem.P.eq_int (Post.pure0 S h (by rw [show (a == b) = decide (a = b) from rfl]; exact .bool _))
theorem OpC.leI {a b : Int} {P : PV → Mu → Prop} (h : P (.bool (decide (a ≤ b))) mu) : OpC c n mu .LtE (.int a) (.int b) P := fun A s va vb hA ht S ra rb => by
  cases ra; cases rb; exact PySem.P.le_int (Post.pure0 S h (.bool _))
theorem OpC.gtI {a b : Int} {P : PV → Mu → Prop} (h : P (.bool (decide (a > b))) mu) : OpC c n mu .Gt (.int a) (.int b) P := fun A s va vb hA ht S ra rb => by
  cases ra; cases rb; exact PySem.P.gt_int (Post.pure0 S h (.bool _))
theorem OpC.geI {a b : Int} {P : PV → Mu → Prop} (h : P (.bool (decide (a ≥ b))) mu) : OpC c n mu .GtE (.int a) (.int b) P := fun A s va vb hA ht S ra rb => by
  cases ra; cases rb; exact PySem.P.ge_int (Post.pure0 S h (.bool _))

/- # truth -/
theorem OpT.bool {b : Bool} {P : Bool → Mu → Prop} (h : P b mu) : OpT c n mu (.bool b) P := fun A s va hA ht S ra => by
  cases ra; exact wpAny_truthy_bool (PostB.pure0 S h)
theorem OpT.int {a : Int} {P : Bool → Mu → Prop} (h : P (decide (a ≠ 0)) mu) : OpT c n mu (.int a) P := fun A s va hA ht S ra => by
  cases ra; exact PySem.P.truthy_int (PostB.pure0 S (by rw [show (a != 0) = decide (a ≠ 0) from by simp [bne, BEq.beq]]; exact h))
theorem OpT.str {x : Str} {P : Bool → Mu → Prop} (hsz : x.length < 2 ^ 62) (h : P (decide (x ≠ Str.empty)) mu) : OpT c n mu (.str x) P := fun A s va hA ht S ra => by
  cases ra
  refine PySem.P.truthy_str (by omega) (PostB.pure S ?_)
  have : ((x.length : Int) != 0) = decide (x ≠ Str.empty) := by
    obtain ⟨⟨l⟩⟩ := x
    cases l
    · simp [Str.length, Str.empty]
    · simp [Str.length, Str.empty]; omega
  rw [this]; exact h
theorem OpT.none {P : Bool → Mu → Prop} (h : P false mu) : OpT c n mu .none P := fun A s va hA ht S ra => by
  cases ra; exact wpAny_pure (PostB.pure0 S h)
/- # is None -/
theorem OpC.isNone {a : PV} {P : PV → Mu → Prop} (ha : ∀ id, a ≠ .bi id) (h : P (.bool (match a with | .none => true | _ => false)) mu) : OpC c n mu .Is a .none P := fun A s va vb hA ht S ra rb => by
  cases rb
  cases ra <;> first | (exact wpAny_is_plain rfl (Post.pure0 S h (.bool _))) | (exact absurd rfl (ha _))
theorem OpC.isNotNone {a : PV} {P : PV → Mu → Prop} (ha : ∀ id, a ≠ .bi id) (h : P (.bool (match a with | .none => false | _ => true)) mu) : OpC c n mu .IsNot a .none P := fun A s va vb hA ht S ra rb => by
  cases rb
  cases ra <;> first | (exact wpAny_isNot_plain rfl (Post.pure0 S h (.bool _))) | (exact absurd rfl (ha _))

/- # strs -/
theorem str_eq_empty {x : Str} (h : (x.length == 0) = true) : x = Str.empty := by
  obtain ⟨⟨l⟩⟩ := x
  cases l <;> simp_all [Str.length, Str.empty]
theorem OpB.addS {x y : Str} {P : PV → Mu → Prop} (hsz : x.length + y.length ≤ sizeLine) (h : P (.str (x ++ y)) mu) : OpB c n mu .Add (.str x) (.str y) P := fun A s va vb hA ht S ra rb => by
  cases ra; cases rb
  refine PySem.P.add_str ?_
  split
  · rename_i hx; have := str_eq_empty hx; subst this
    exact Post.pure0 S (by rw [Str.empty_append] at h; exact h) (.str _ _)
  · split
    · rename_i hy; have := str_eq_empty hy; subst this
      exact Post.pure0 S (by rw [Str.append_empty] at h; exact h) (.str _ _)
    · exact ⟨by rw [Str.length_append]; exact hsz, Post.pure S h (.str _ _)⟩
theorem OpI.addS {x y : Str} {P : PV → Mu → Prop} (hsz : x.length + y.length ≤ sizeLine) (h : P (.str (x ++ y)) mu) : OpI c n mu .Add (.str x) (.str y) P := fun A s va vb hA ht S ra rb => by
  cases ra; cases rb
  refine PySem.P.iadd_str ?_
  split
  · rename_i hx; have := str_eq_empty hx; subst this
    exact Post.pure0 S (by rw [Str.empty_append] at h; exact h) (.str _ _)
  · split
    · rename_i hy; have := str_eq_empty hy; subst this
      exact Post.pure0 S (by rw [Str.append_empty] at h; exact h) (.str _ _)
    · exact ⟨by rw [Str.length_append]; exact hsz, Post.pure S h (.str _ _)⟩
theorem OpC.eqS {x y : Str} {P : PV → Mu → Prop} (h : P (.bool (decide (x = y))) mu) : OpC c n mu .Eq (.str x) (.str y) P := fun A s va vb hA ht S ra rb => by
  cases ra; cases rb
  refine PySem.P.eq_str (Post.pure0 S h ?_)
  have : (x.cps.toList == y.cps.toList) = decide (x = y) := by
    obtain ⟨⟨l⟩⟩ := x; obtain ⟨⟨k⟩⟩ := y
    by_cases h : l = k <;> simp [h]
  rw [this]; exact .bool _
theorem OpC.neS {x y : Str} {P : PV → Mu → Prop} (h : P (.bool (decide (x ≠ y))) mu) : OpC c n mu .NotEq (.str x) (.str y) P := fun A s va vb hA ht S ra rb => by
  cases ra; cases rb
  refine PySem.P.ne_str (Post.pure0 S h ?_)
  have : (x.cps.toList != y.cps.toList) = decide (x ≠ y) := by
    obtain ⟨⟨l⟩⟩ := x; obtain ⟨⟨k⟩⟩ := y
    by_cases h : l = k <;> simp [h]
  rw [this]; exact .bool _
theorem Ty.list {l : Addr} {xs : List PV} (hl : mu l = some (.list xs)) : Ty c mu (.ref l) "list" := fun s v S r => by
  cases r; obtain ⟨vs, k, e, rs⟩ := S.objs l _ hl; exact ⟨_, e, rfl⟩
theorem Ty.baseList {l : Addr} {xs : List PV} (hl : BaseList c l xs) : Ty c mu (.ref l) "list" := fun s v S r => by
  cases r; obtain ⟨vs, ⟨o, e, hc, _⟩, _⟩ := hl.at S; exact ⟨_, e, hc⟩
theorem CallV.lenS {x : Str} {P : PV → Mu → Prop} (hsz : x.length < 2 ^ 62) (h : P (.int x.length) mu) : CallV c n mu (.builtin "len") [.str x] [] P := fun A s vs kvs hA ht S r rk => by
  cases r with | cons r0 r =>
  cases r; cases rk; cases r0
  exact PySem.P.len_str (by omega) (Post.pure S h (.int _ _))
theorem CallV.chr {i : Int} {P : PV → Mu → Prop} (hi : 0 ≤ i ∧ i ≤ 0x10FFFF) (h : P (.str ⟨#[i.toNat]⟩) mu) : CallV c n mu (.builtin "chr") [.int i] [] P := fun A s vs kvs hA ht S r rk => by
  cases r with | cons r0 r =>
  cases r; cases rk; cases r0
  exact PySem.P.chr_of_int (by simp; omega) (Post.pure S h (.str _ _))

/- # lists -/
theorem CallV.lenL {l : Addr} {xs : List PV} {P : PV → Mu → Prop} (hl : mu l = some (.list xs)) (hsz : xs.length < 2 ^ 62) (h : P (.int xs.length) mu) : CallV c n mu (.builtin "len") [.ref l] [] P := fun A s vs kvs hA ht S r rk => by
  cases r with | cons r0 r =>
  cases r; cases rk; cases r0
  obtain ⟨ws, k, e, rs⟩ := S.objs l _ hl
  have hlen := rs.length
  refine call_len_list (items := ws.toArray) ⟨_, e, rfl, k, rfl⟩ (by simp; omega) ?_
  exact Post.pure S h (by rw [show ((ws.toArray.size : Nat) : Int) = xs.length from by simp [hlen]]; exact .int _ _)
theorem OpG.base {l : Addr} {xs : List PV} {i : Int} {d : PV} {P : PV → Mu → Prop} (hl : BaseList c l xs) (h0 : 0 ≤ i) (h1 : i < 2 ^ 63) (hd : xs[i.toNat]? = some d) (h : P d mu) : OpG c n mu (.ref l) (.int i) P := fun A s va vi hA ht S ra ri => by
  cases ra; cases ri
  obtain ⟨ws, hli, rs⟩ := hl.at S
  obtain ⟨v, hv, rv⟩ := rs.get hd
  exact wpAny_getItem_list hli h0 h1 (by simpa using hv) (Post.pure0 S h rv)
theorem OpG.list {l : Addr} {xs : List PV} {i : Int} {d : PV} {P : PV → Mu → Prop} (hl : mu l = some (.list xs)) (h0 : 0 ≤ i) (h1 : i < 2 ^ 63) (hd : xs[i.toNat]? = some d) (h : P d mu) : OpG c n mu (.ref l) (.int i) P := fun A s va vi hA ht S ra ri => by
  cases ra; cases ri
  obtain ⟨ws, k, e, rs⟩ := S.objs l _ hl
  obtain ⟨v, hv, rv⟩ := rs.get hd
  exact wpAny_getItem_list (items := ws.toArray) ⟨_, e, rfl, k, rfl⟩ h0 h1 (by simpa using hv) (Post.pure0 S h rv)
theorem Step.pushT {T : Addr → Prop} {s : Shared} {o : Obj} {x : AO} {k : Nat} (S : St c mu s.heap) (r : RepO c (s.heap.push o) s.heap.objs.size x) : Step c T mu s (upd mu s.heap.objs.size x) { s with heap := s.heap.push o, toks := k } :=
  (Step.push S r).trans (Step.tok (Step.push (T := T) (s := s) S r).st)
theorem CallV.range2 {a b : Int} {P : PV → Mu → Prop} (h : ∀ r, mu r = none → P (.ref r) (upd mu r (.rng a b 1))) : CallV c n mu (.type "range") [.int a, .int b] [] P := fun A s vs kvs hA ht S r rk => by
  cases r with | cons r0 r =>
  cases r with | cons r1 r =>
  cases r; cases rk; cases r0; cases r1
  refine call_range_2 ?_
  exact ⟨_, _, h _ (S.off (Nat.le_refl _)), Step.pushT S (by exact ⟨_, _, _, Heap.get?_push_size _ rfl⟩), .ref _⟩
end
end Mine

open PySem PySem.W PySem.Calls PyProof.Rows PySem.Builtin.Re
set_option Elab.async false
set_option linter.unusedVariables false
set_option maxRecDepth 100000
namespace Mine
theorem slot_search : Slot "re.Pattern" "search" "re.Pattern.search" :=
  .of (owner := "re.Pattern") (n := "search") (by rw [typeLookup_type, builtinLookup_eq_fast]; kernel_rfl) (by decide +kernel) (by decide +kernel) (by decide +kernel)
    (by first | exact .inl (by decide +kernel) | exact .inr (by decide +kernel)) (by rw [isSubtype_type]; kernel_rfl)
theorem entry_search : entryFor table "re.Pattern.search" = some Builtin.«re.Pattern.search» := entryFor_of_fast (by kernel_rfl)
theorem args_search (a b : Value) : argsOk "re.Pattern.search" ⟨[a, b], []⟩ := by unfold argsOk; kernel_rfl
theorem plain_pattern : PlainAttrs "re.Pattern" := ⟨⟨"object.__getattribute__", by rw [typeLookup_type, builtinLookup_eq_fast]; kernel_rfl, by decide +kernel⟩, by rw [typeLookup_type, builtinLookup_eq_fast]; kernel_rfl⟩
theorem ty_search : typeOf (.builtin "re.Pattern.search") = pure (.type "method_descriptor") := by kernel_rfl

section
variable {M : Model} {A : Around} {E : Value → Shared → Prop} {s : Shared}
theorem named_eq (v : Value) : reNamed "re.Pattern.search" "search" ["string", "pos", "endpos"] 1 [v] [] = pure [some v, none, none] := by rfl

theorem wp_target {p T : Addr} {x : Str} {t : Tok} {fs ws : Array Value} {k : Nat} {Q : ReTarget → Shared → Prop} {o : Obj} (hp : s.heap.get? p = some o) (hd : o.data = .fields fs) (h6 : reRawNat (fs.getD 6 .none) = 0) (h5 : fs.getD 5 .none = .ref T) {oT : Obj} (hT : s.heap.get? T = some oT) (hdT : oT.data = .seq ws k)
    (hsz : x.cps.size ≤ 2 ^ 62)
    (h : Q { pattern := .ref p, string := .str x t, code := (ws.map reRawOf).map (·.toNat), text := x.cps, kind := 0, groups := reRawNat (fs.getD 2 .none), pos := 0, lim := x.cps.size } s) :
    wpAny M A (reTarget "re.Pattern.search" "search" ⟨[.ref p, .str x t], []⟩) Q E s := by
  unfold reTarget
  refine wpAny_bind (wpAny_of_eq (named_eq _) ?_)
  refine wpAny_bind (wpAny_pure (wpAny_bind (wpAny_pure (wpAny_bind (wpAny_fieldsOf hp hd ?_)))))
  refine wpAny_bind (wpAny_pure ?_)
  dsimp only
  rw [h6]
  simp only [beq_self_eq_true, Bool.true_and, Nat.reduceBEq, Bool.false_eq_true, if_false, Bool.and_true]
  refine wpAny_bind (wpAny_pure ?_)
  refine wpAny_bind ?_
  unfold reRawItems
  rw [h5]
  refine wpAny_bind (wpAny_seqItems hT hdT (wpAny_pure (wpAny_pure ?_)))
  have e : min ((2 ^ 63 - 1 : Int)).toNat x.cps.size = x.cps.size := by
    have : ((2 ^ 63 - 1 : Int)).toNat = 2 ^ 63 - 1 := by decide
    omega
  simp only [Option.getD_some]
  rw [show min (0 : Int).toNat x.cps.size = 0 from by simp]
  rw [e]
  exact h
end

/- ## the machine over a first set -/
/- a pattern that is one set of signs: the set by the header, the set by the body -/
structure SetCode (code : Array Nat) (f : Nat → Bool) : Prop where
  head : (Sre.header code) = (1, 15) ∨ (Sre.header code) = (1, 11)
  info : code.getD 2 0 = 4
  info0 : code.getD 0 0 = 14
  first : ∀ ch seen, ∃ seen', Sre.inSet code ch code.size 5 true seen = .ok (f ch, seen')
  body : ∀ ch seen, ∃ seen', Sre.accepts code (Sre.header code).2 ch seen = .ok (f ch, seen')
  isIn : code.getD (Sre.header code).2 0 = 13
  width : code.getD ((Sre.header code).2 + Sre.itemWidth code (Sre.header code).2) 0 = 1
  size : (Sre.header code).2 + Sre.itemWidth code (Sre.header code).2 < code.size

theorem admitted_spec {code : Array Nat} {f : Nat → Bool} (hc : SetCode code f) (m : Sre.M) (hm : m.code = code) (hl : m.lim = m.text.size) : ∀ (k s : Nat) (seen : Sre.Seen), m.lim + 1 - s ≤ k → s ≤ m.lim →
    (∃ seen', Sre.M.admitted m k s seen = .ok (none, seen') ∧ ∀ j, s ≤ j → j < m.text.size → f (m.text.getD j 0) = false) ∨
    (∃ i seen', Sre.M.admitted m k s seen = .ok (some i, seen') ∧ s ≤ i ∧ i < m.text.size ∧ f (m.text.getD i 0) = true)
  | 0, s, seen, hk, hs => by omega
  | k + 1, s, seen, hk, hs => by
    unfold Sre.M.admitted
    by_cases hge : s ≥ m.lim
    · rw [if_pos hge]; exact .inl ⟨seen, rfl, fun j h1 h2 => by omega⟩
    · rw [if_neg hge, hm]
      obtain ⟨seen', e⟩ := hc.first (m.text.getD s 0) seen
      rw [e]
      cases hf : f (m.text.getD s 0) with
      | true => exact .inr ⟨s, seen', rfl, Nat.le_refl _, by omega, hf⟩
      | false =>
        rcases admitted_spec hc m hm hl k (s + 1) seen' (by omega) (by omega) with ⟨s2, e2, h2⟩ | ⟨i, s2, e2, h3, h4, h5⟩
        · refine .inl ⟨s2, e2, fun j h1 h6 => ?_⟩
          by_cases hj : j = s
          · subst hj; exact hf
          · exact h2 j (by omega) h6
        · exact .inr ⟨i, s2, e2, by omega, h4, h5⟩


theorem forSearch_eq (code text : Array Nat) : Sre.forSearch code text 0 0 text.size false =
    (let m : Sre.M := { code, text, lim := text.size, start := 0, pc := (Sre.header code).2, pos := 0, handed := 0, marks := Array.replicate (2 * 0) none, mustAdvance := false, seen := if (Sre.header code).2 == 0 then {} else ({} : Sre.Seen).add 14 }
     let hinted := (Sre.header code).2 != 0 && code.getD 2 0 &&& 5 != 0
     if 0 > text.size || text.size - 0 < (Sre.header code).1 then m.say false
     else { m with lastStart := if (Sre.header code).1 > 1 && !hinted then max 0 (text.size - ((Sre.header code).1 - 1)) else text.size }.attemptFrom 0 true) := rfl

theorem run_said {m : Sre.M} (h1 : m.outcome = none) (h2 : m.frames = []) (h3 : m.answer = some false) : (m.runFor 4).outcome = some .failed := by
  have e : m.step = { m with outcome := some .failed } := by
    unfold Sre.M.step
    rw [h1, h2, h3]; rfl
  unfold Sre.M.runFor
  rw [h1, e]
  rfl

theorem step_in {code : Array Nat} {f : Nat → Bool} (hc : SetCode code f) {m : Sre.M} (h1 : m.outcome = none) (h2 : m.answer = none) (h3 : m.code = code) (h4 : m.pc = (Sre.header code).2) (h5 : m.pos < m.lim) (h6 : f (m.text.getD m.pos 0) = true) :
    ∃ seen', m.step = { m with seen := seen', pc := m.pc + Sre.itemWidth code (Sre.header code).2, pos := m.pos + 1 } := by
  obtain ⟨seen', e⟩ := hc.body (m.text.getD m.pos 0) (m.seen.add 13)
  refine ⟨seen', ?_⟩
  have hlt : m.pc < m.code.size := by have := hc.size; rw [h3, h4]; omega
  have hw : m.word 0 = 13 := by unfold Sre.M.word; rw [h3, h4]; exact hc.isIn
  unfold Sre.M.step
  rw [h1, h2]
  simp only [Option.isSome_none, Bool.false_eq_true, if_false, if_pos hlt]
  unfold Sre.M.exec
  rw [hw]
  have ho : Sre.ops[13]? = some Sre.Op.IN := rfl
  rw [ho]
  simp only [ge_iff_le, Nat.not_le.mpr h5, if_false, h3, h4, e, h6, h1, h2]

theorem step_ok {code : Array Nat} {f : Nat → Bool} (hc : SetCode code f) {m : Sre.M} (h1 : m.outcome = none) (h2 : m.answer = none) (h3 : m.code = code) (h4 : m.pc = (Sre.header code).2 + Sre.itemWidth code (Sre.header code).2) (h5 : m.wholeText = false) (h6 : m.mustAdvance = false) :
    ∃ seen', m.step = { m with seen := seen', handed := m.pos, answer := some true } := by
  have hlt : m.pc < m.code.size := by have := hc.size; rw [h3, h4]; omega
  have hw : m.word 0 = 1 := by unfold Sre.M.word; rw [h3, h4]; exact hc.width
  refine ⟨m.seen.add 1, ?_⟩
  unfold Sre.M.step
  rw [h1, h2]
  simp only [Option.isSome_none, Bool.false_eq_true, if_false, if_pos hlt]
  unfold Sre.M.exec
  rw [hw]
  have ho : Sre.ops[1]? = some Sre.Op.SUCCESS := rfl
  rw [ho]
  simp only [h5, h6, Bool.false_and, Bool.or_false, Bool.and_false, Bool.false_eq_true, if_false, Sre.M.say, h1, h2]

theorem search_run {code : Array Nat} {f : Nat → Bool} (hc : SetCode code f) (text : Array Nat) :
    (((Sre.forSearch code text 0 0 text.size false).runFor 4).outcome = some .failed ∧ ∀ j, j < text.size → f (text.getD j 0) = false) ∨
    (((Sre.forSearch code text 0 0 text.size false).runFor 4).outcome = some .matched ∧ ∃ j, j < text.size ∧ f (text.getD j 0) = true) := by
  rw [forSearch_eq]
  have h1 : (Sre.header code).1 = 1 := by rcases hc.head with h | h <;> rw [h]
  have hB : ((Sre.header code).2 == 0) = false := by rcases hc.head with h | h <;> rw [h] <;> rfl
  generalize hB' : (Sre.header code).2 = B at *
  simp only [h1, hB, hc.info, Bool.false_eq_true, if_false]
  by_cases hz : text.size = 0
  · left
    rw [if_pos (by simp [hz])]
    exact ⟨run_said rfl rfl rfl, fun j hj => by omega⟩
  rw [if_neg (by rw [Bool.or_eq_true, decide_eq_true_eq, decide_eq_true_eq]; omega)]
  rw [if_neg (by simp)]
  generalize hm : ({ code := code, text := text, lim := text.size, start := 0, lastStart := text.size, pc := B, pos := 0, handed := 0, marks := Array.replicate (2 * 0) none, seen := ({} : Sre.Seen).add 14 } : Sre.M) = m
  have hcode : m.code = code := by rw [← hm]
  have htext : m.text = text := by rw [← hm]
  have hlim : m.lim = text.size := by rw [← hm]
  have hfs : m.hasFirstSet = true := by
    unfold Sre.M.hasFirstSet
    rw [hcode, hc.info0, hc.info]; rfl
  unfold Sre.M.attemptFrom
  rw [hfs]
  simp only [Bool.not_true, Bool.false_eq_true, if_false]
  rcases admitted_spec hc m hcode (by rw [hlim, htext]) (m.lim + 1 - 0) 0 m.seen (Nat.le_refl _) (Nat.zero_le _) with ⟨seen', e, hn⟩ | ⟨i, seen', e, _, hi, hfi⟩
  · left
    rw [e]
    refine ⟨run_said (by rw [← hm]; rfl) (by rw [← hm]; rfl) rfl, fun j hj => by rw [← htext]; exact hn j (Nat.zero_le _) (by rw [htext]; exact hj)⟩
  · right
    rw [e]
    rw [htext] at hi hfi
    refine ⟨?_, i, hi, hfi⟩
    dsimp only
    have ha : ({ m with mustAdvance := false, seen := seen' } : Sre.M).attemptAt i true = { m with mustAdvance := false, seen := seen', start := i, pos := i, lastmark := -1, lastindex := -1, frames := [{ wait := .nextStart, pc := m.pc, pos := i, outermost := true }], weight := 1, handed := i, outermost := true } := by
      rw [← hm]; rfl
    rw [ha]
    generalize ha' : ({ m with mustAdvance := false, seen := seen', start := i, pos := i, lastmark := -1, lastindex := -1, frames := [{ wait := .nextStart, pc := m.pc, pos := i, outermost := true }], weight := 1, handed := i, outermost := true } : Sre.M) = m1
    have o1 : m1.outcome = none := by rw [← ha', ← hm]
    obtain ⟨s2, e2⟩ := step_in hc (m := m1) o1 (by rw [← ha', ← hm]) (by rw [← ha']; exact hcode) (by rw [← ha', ← hm]; exact hB'.symm) (by rw [← ha', ← hm]; exact hi) (by rw [← ha']; show f (m.text.getD i 0) = true; rw [htext]; exact hfi)
    generalize hm2 : ({ m1 with seen := s2, pc := m1.pc + Sre.itemWidth code (Sre.header code).2, pos := m1.pos + 1 } : Sre.M) = m2 at e2
    have o2 : m2.outcome = none := by rw [← hm2]; exact o1
    obtain ⟨s3, e3⟩ := step_ok hc (m := m2) o2 (by rw [← hm2, ← ha', ← hm]) (by rw [← hm2, ← ha']; exact hcode) (by rw [← hm2, ← ha', ← hm]; show B + _ = _; rw [hB']) (by rw [← hm2, ← ha', ← hm]) (by rw [← hm2, ← ha'])
    generalize hm3 : ({ m2 with seen := s3, handed := m2.pos, answer := some true } : Sre.M) = m3 at e3
    have o3 : m3.outcome = none := by rw [← hm3]; exact o2
    have e4 : ∃ m4, m3.step = m4 ∧ m4.outcome = none ∧ m4.answer = some true ∧ m4.frames = [] := by
      refine ⟨_, rfl, ?_⟩
      rw [← hm3, ← hm2, ← ha', ← hm]
      exact ⟨rfl, rfl, rfl⟩
    obtain ⟨m4, e4, o4, a4, f4⟩ := e4
    have e5 : m4.step.outcome = some .matched := by
      unfold Sre.M.step
      rw [o4, a4, f4]; rfl
    unfold Sre.M.runFor; rw [o1, e2]
    unfold Sre.M.runFor; rw [o2, e3]
    unfold Sre.M.runFor; rw [o3, e4]
    unfold Sre.M.runFor; rw [o4]
    simp only [Option.isSome_none, Bool.false_eq_true, if_false]
    unfold Sre.M.runFor
    exact e5

section
variable {c : Cx} {n : Nat} {mu : Mu}
theorem rules_go {M : Model} {A : Around} {E : Value → Shared → Prop} {s : Shared} {Q : PUnit → Shared → Prop} {b : Nat → PUnit → Sem (ForInStep PUnit)} (l : List Nat) (hb : ∀ i u, (∃ g, b i u = (rule g >>= fun _ => pure (ForInStep.yield PUnit.unit))) ∨ b i u = pure (ForInStep.yield PUnit.unit)) (h : Q ⟨⟩ s) :
    wpAny M A (forIn l PUnit.unit b) Q E s := by
  refine wpAny_forIn_list _ (fun _ _ s' => s' = s) _ (fun x rest u s' hs => ?_) (fun b s' hs => by subst hs; exact h) l _ rfl
  subst hs
  rcases hb x u with ⟨g, e⟩ | e
  · rw [e]; exact wpAny_bind (wpAny_rule (wpAny_pure rfl))
  · rw [e]; exact wpAny_pure rfl

theorem drive_go {M : Model} {A : Around} {E : Value → Shared → Prop} {s : Shared} {Q : Sre.M → Shared → Prop} {m : Sre.M} (ho : (m.runFor 4).outcome.isSome = true) (h : Q (m.runFor 4) s) : wpAny M A (reDrive (2 ^ 64) m) Q E s := by
  have e : ∀ k, reDrive (k + 1) m = pure (m.runFor 4) := fun k => by
    rw [reDrive]
    show (if (m.runFor 4).outcome.isSome = true then _ else _) = _
    rw [if_pos ho]; rfl
  rw [show (2 ^ 64 : Nat) = 18446744073709551615 + 1 from rfl, e]
  exact wpAny_pure h

/- the search of a set of signs -/
theorem CallV.search {p T : Addr} {x : Str} {fs ws : Array Value} {k : Nat} {code : Array Nat} {f : Nat → Bool} {P : PV → Mu → Prop} (hp : c.base.get? p = some { cls := .type "re.Pattern", data := .fields fs }) (h6 : reRawNat (fs.getD 6 .none) = 0) (h5 : fs.getD 5 .none = .ref T) (h2 : reRawNat (fs.getD 2 .none) = 0)
    (hT : c.base.get? T = some { cls := .type "tuple", data := .seq ws k }) (hcode : (ws.map reRawOf).map (·.toNat) = code) (hc : SetCode code f) (hsz : x.length ≤ 2 ^ 62)
    (h0 : x.cps.any f = false → P .none mu) (h1 : x.cps.any f = true → ∀ a o, mu a = none → o.cls = .type "re.Match" → o.dict = none → P (.ref a) (upd mu a (.obj o))) : CallV c n mu (.builtin "re.Pattern.search") [.ref p, .str x] [] P := fun A s vs kvs hA ht S r rk => by
  cases r with | cons r0 r =>
  cases r with | cons r1 r =>
  cases r; cases rk; cases r0; cases r1
  rename_i t
  refine wpAny_call_entry slot_search ⟨_, S.base _ _ hp, rfl⟩ entry_search ?_ (args_search _ _)
  unfold Builtin.«re.Pattern.search»
  refine wpAny_bind (wp_target (S.base _ _ hp) rfl h6 h5 (S.base _ _ hT) rfl hsz ?_)
  dsimp only
  rw [h2, hcode]
  unfold reAnswer reRunToEnd
  have any_iff : x.cps.any f = true ↔ ∃ j, j < x.cps.size ∧ f (x.cps.getD j 0) = true := by
    rw [Array.any_eq_true]
    constructor
    · rintro ⟨i, hi, hf⟩; exact ⟨i, hi, by rw [Array.getD_eq_getD_getElem?, Array.getElem?_eq_getElem hi]; exact hf⟩
    · rintro ⟨i, hi, hf⟩; refine ⟨i, hi, ?_⟩; rw [Array.getD_eq_getD_getElem?, Array.getElem?_eq_getElem hi] at hf; exact hf
  rcases search_run hc x.cps with ⟨ho, hn⟩ | ⟨ho, j, hj, hfj⟩
  · refine wpAny_bind (wpAny_bind (drive_go (by rw [ho]; rfl) (wpAny_bind (rules_go _ (fun i u => by split <;> first | exact .inl ⟨_, rfl⟩ | exact .inr rfl) ?_))))
    rw [ho]
    refine wpAny_pure (wpAny_pure ⟨_, rfl, Post.pure0 S (h0 ?_) .none⟩)
    cases q : x.cps.any f with
    | false => rfl
    | true => obtain ⟨j, hj, hf⟩ := any_iff.mp q; rw [hn j hj] at hf; cases hf
  · refine wpAny_bind (wpAny_bind (drive_go (by rw [ho]; rfl) (wpAny_bind (rules_go _ (fun i u => by split <;> first | exact .inl ⟨_, rfl⟩ | exact .inr rfl) ?_))))
    rw [ho]
    refine wpAny_pure ?_
    refine wpAny_bind ?_
    unfold reNewMatch
    simp only [List.range_zero, List.flatMap_nil, List.any_nil, Bool.false_eq_true, if_false]
    refine wpAny_bind (wpAny_newTuple ?_)
    refine wpAny_newObj_type ?_
    refine wpAny_pure ⟨_, rfl, ?_⟩
    have x1 : Step c noT mu s mu { s with heap := s.heap.push { cls := .type "tuple", data := .seq ([rawInt ((Sre.forSearch code x.cps 0 0 x.cps.size false).runFor 4).start, rawInt ((Sre.forSearch code x.cps 0 0 x.cps.size false).runFor 4).handed] : List Value).toArray } } := Step.pushOff S
    refine ⟨.ref _, _, h1 (any_iff.mpr ⟨j, hj, hfj⟩) _ _ (x1.st.off (Nat.le_refl _)) ?_ ?_, x1.trans (Step.push x1.st ⟨Heap.get?_push_size _ rfl, ?_⟩), .ref _⟩
    · rfl
    · rfl
    · simp [IsT]
end
end Mine

open PySem PySem.W PySem.Calls PyProof.Rows
set_option Elab.async false
set_option linter.unusedVariables false
set_option maxRecDepth 100000
namespace Mine

section
variable {c : Cx} {n : Nat} {sc : Scope} {m : Lm} {mu : Mu}

theorem Meth.str {x : Str} {name : Str} {id : String} (slot : Slot "str" name id) (hty : typeOf (.builtin id) = pure (.type "method_descriptor")) : Meth c mu (.str x) name (.builtin id) := fun A s v pl Q E S r h => by
  cases r
  exact getMethod_builtin (typeIs_str _ _ _) F.plainAttrs_str slot hty (fun a q => by cases q) h
theorem Meth.list {l : Addr} {xs : List PV} {name : Str} {id : String} (hl : mu l = some (.list xs)) (slot : Slot "list" name id) (hty : typeOf (.builtin id) = pure (.type "method_descriptor")) : Meth c mu (.ref l) name (.builtin id) := fun A s v pl Q E S r h => by
  cases r
  obtain ⟨vs, k, e, rs⟩ := S.objs l _ hl
  exact getMethod_builtin ⟨_, e, rfl⟩ F.plainAttrs_list slot hty (fun a q => by cases q; exact ⟨_, e, rfl⟩) h
theorem Meth.pattern {p : Addr} {fs : Array Value} (hp : c.base.get? p = some { cls := .type "re.Pattern", data := .fields fs }) : Meth c mu (.ref p) "search" (.builtin "re.Pattern.search") := fun A s v pl Q E S r h => by
  cases r
  exact getMethod_builtin ⟨_, S.base _ _ hp, rfl⟩ plain_pattern slot_search ty_search (fun a q => by cases q; exact ⟨_, S.base _ _ hp, rfl⟩) h

/- ## forgetting -/
theorem Step.sub {mu' mu2 : Mu} {s s2 : Shared} (hs : Sub mu mu') (x : Step c noT mu s mu2 s2) : Step c noT mu' s mu2 s2 :=
  have hn : ∀ b, mu' b = none → mu b = none := fun b hb => by
    cases q : mu b with
    | none => rfl
    | some o => rw [hs b o q] at hb; cases hb
  ⟨x.shape, x.st, fun b o e hm hT => x.keep b o e (hn b hm) hT, fun b o e hm => x.alive b o e (hn b hm), fun b hb => (x.dom b hb).imp (fun h => fun q => h (hn b q)) id⟩
theorem St.sub {mu' : Mu} {h : Heap} (hs : Sub mu mu') (S : St c mu' h) : St c mu h :=
  ⟨S.base, fun a o e => S.objs a o (hs a o e), fun a ha => S.new a (by obtain ⟨o, e⟩ := Option.ne_none_iff_exists'.mp ha; rw [hs a o e]; simp)⟩
theorem Fm.sub {mu' : Mu} {h : Heap} {env : Env} (hs : Sub mu mu') (F : Fm c mu' h env m) : Fm c mu h env m :=
  have hn : ∀ b, mu' b = none → mu b = none := fun b hb => by
    cases q : mu b with
    | none => rfl
    | some o => rw [hs b o q] at hb; cases hb
  { F with offL := hn _ F.offL, offC := fun x ca e => ⟨hn _ (F.offC x ca e).1, (F.offC x ca e).2⟩ }
theorem Step.subT {T : Addr → Prop} {mu' mu2 : Mu} {s s2 : Shared} (hs : Sub mu mu') (x : Step c T mu s mu2 s2) : Step c T mu' s mu2 s2 :=
  have hn : ∀ b, mu' b = none → mu b = none := fun b hb => by
    cases q : mu b with
    | none => rfl
    | some o => rw [hs b o q] at hb; cases hb
  ⟨x.shape, x.st, fun b o e hm hT => x.keep b o e (hn b hm) hT, fun b o e hm => x.alive b o e (hn b hm), fun b hb => (x.dom b hb).imp (fun h => fun q => h (hn b q)) id⟩
theorem ExS.forget {mu' : Mu} {ss : List Stmt} {P : FV → Lm → Mu → Prop} (hs : Sub mu mu') (h : ExS c n sc m mu ss P) : ExS c n sc m mu' ss P := fun env A s he hA ht S F =>
  wpAny_mono (h env A s he hA ht (S.sub hs) (F.sub hs)) (fun _ _ ⟨fl, m2, mu2, a, x, F2, r⟩ => ⟨fl, m2, mu2, a, Step.subT hs x, F2, r⟩) fun _ _ x => x
/- forgetting names of the frame -/
theorem ExS.weak {m' : Lm} {ss : List Stmt} {P : FV → Lm → Mu → Prop} (hw : ∀ x d, m.lookup x = some d → m'.lookup x = some d) (h : ExS c n sc m mu ss P) : ExS c n sc m' mu ss P := fun env A s he hA ht S F => h env A s he hA ht S (F.weak hw)
theorem sub_upd {a : Addr} {o : AO} (h : mu a = none) : Sub mu (upd mu a o) := fun b x e => by
  rw [upd_ne _ _ (fun q => by rw [q, h] at e; cases e)]; exact e
theorem Sub.trans {mu1 mu2 mu3 : Mu} (h : Sub mu1 mu2) (k : Sub mu2 mu3) : Sub mu1 mu3 := fun a o e => k a o (h a o e)

/- a temporary that goes -/
theorem post_tmp {a : Addr} {o : AO} {s : Shared} {P : PV → Mu → Prop} {v : Value} {d : PV} {k : Nat} (h0 : mu a = none) (S : St c (upd mu a o) s.heap) (h : P d mu) (r : Rep s.heap d v) : Post c (upd mu a o) s P v { s with toks := k } :=
  ⟨d, mu, h, (Step.tok S).forget (sub_upd h0), r⟩

/- ## a match is true -/
/- ## f-strings -/
def EvJ (c : Cx) (n : Nat) (sc : Scope) (m : Lm) (mu : Mu) (es : List PySem.Expr) (acc : Str) (P : PV → Mu → Prop) : Prop :=
  ∀ env A s, env.scope = sc → AOk n A → 0 < s.toks → St c mu s.heap → Fm c mu s.heap env m → wpAny c.M A (joinParts acc (evalEach es env)) (Post c mu s P) NoE s
theorem EvJ.nil {acc : Str} {P : PV → Mu → Prop} (hsz : acc.length ≤ sizeLine) (h : P (.str acc) mu) : EvJ c n sc m mu [] acc P := fun env A s he hA ht S F =>
  wpAny_mkStr (Post.pure S h (.str _ _)) hsz
theorem EvJ.cons {e : PySem.Expr} {es : List PySem.Expr} {acc : Str} {P : PV → Mu → Prop} (h : EvE c n sc m mu e fun d mu1 => ∃ y, d = .str y ∧ acc.length + y.length ≤ sizeLine ∧ EvJ c n sc m mu1 es (acc ++ y) P) : EvJ c n sc m mu (e :: es) acc P := by
  intro env A s he hA ht S F
  show wpAny c.M A (joinParts acc (eval e env :: evalEach es env)) _ _ s
  rw [joinParts]
  refine wpAny_bind (EvE.bind h he hA ht S F fun v s1 d mu1 hp x1 t1 S1 F1 r1 _ => ?_)
  obtain ⟨y, rfl, hz, h1⟩ := hp
  cases r1
  refine wpAny_bind (wpAny_pure ?_)
  show wpAny c.M A (if acc.length + y.length > sizeLine then _ else _) _ _ s1
  rw [if_neg (Nat.not_lt.mpr hz)]
  first
    | exact wpAny_mono (h1 env A s1 he hA t1 S1 F1) (fun _ _ p => p.after x1) fun _ _ x => x
    | exact wpAny_bind (wpAny_pure (wpAny_mono (h1 env A s1 he hA t1 S1 F1) (fun _ _ p => p.after x1) fun _ _ x => x))
theorem EvE.joined {e1 e2 : PySem.Expr} {es : List PySem.Expr} {pos : Pos} {P : PV → Mu → Prop} (h : EvJ c n sc m mu (e1 :: e2 :: es) Str.empty P) : EvE c n sc m mu (.JoinedStr (e1 :: e2 :: es) pos) P := fun env A s he hA ht S F => by
  rw [arm_eval_JoinedStr]
  exact h env A s he hA ht S F
theorem EvE.fmtS {e : PySem.Expr} {pos : Pos} {P : PV → Mu → Prop} (h : EvE c n sc m mu e fun d mu1 => ∃ y, d = .str y ∧ y.length ≤ sizeLine ∧ P (.str y) mu1) : EvE c n sc m mu (.FormattedValue e 115 none pos) P := fun env A s he hA ht S F => by
  rw [arm_eval_FormattedValue]
  refine wpAny_bind (EvE.bind h he hA ht S F fun v s1 d mu1 hp x1 t1 S1 F1 r1 _ => ?_)
  obtain ⟨y, rfl, hz, h1⟩ := hp
  cases r1
  refine wpAny_bind (wpAny_standAt (wpAny_bind (wpAny_holding ?_)))
  show wpAny c.M A (habitSame "fstring-hands-on-the-str" (.str y _)) _ _ s1
  have fin : ∀ t (s2 : Shared), Step c noT mu1 s1 mu1 s2 → wpAny c.M A (formatField (.str y t) Str.empty) (Post c mu s P) NoE s2 := fun t s2 x2 => by
    show wpAny _ _ (do rule "fstring.same-str"; habitSame "fstring-hands-on-the-str" (.str y t)) _ _ s2
    refine wpAny_bind (wpAny_rule (wpAny_habitSame_str ?_ ?_ hz))
    · exact ⟨_, mu1, h1, x1.trans x2, .str _ _⟩
    · exact ⟨_, mu1, h1, (x1.trans x2).trans (Step.tok x2.st), .str _ _⟩
  exact wpAny_habitSame_str (fin _ _ (Step.refl S1)) (fin _ _ (Step.tok S1)) hz

/- ## join -/
theorem Reps.strs {h : Heap} : ∀ {xs : List Str} {vs : List Value}, Reps h (xs.map .str) vs → ∃ l : List (Str × Tok), strValues l = vs ∧ l.map (·.1) = xs
  | [], vs, r => by cases r; exact ⟨[], rfl, rfl⟩
  | x :: xs, vs, r => by
    cases r with
    | cons r0 r =>
      cases r0
      obtain ⟨l, e1, e2⟩ := Reps.strs r
      exact ⟨(x, _) :: l, by subst e1; rfl, by simp [e2]⟩
theorem CallV.joinL {l : Addr} {sep : Str} {xs : List Str} {P : PV → Mu → Prop} (hl : mu l = some (.list (xs.map .str))) (hok : JoinOk sep xs = true) (h : P (.str (Txt.join sep xs)) mu) : CallV c n mu (.builtin "str.join") [.str sep, .ref l] [] P := fun A s vs kvs hA ht S r rk => by
  cases r with | cons r0 r =>
  cases r with | cons r1 r =>
  cases r; cases rk; cases r0; cases r1
  obtain ⟨ws, k, e, rs⟩ := S.objs l _ hl
  obtain ⟨ps, e1, e2⟩ := rs.strs
  refine SC.join (l := ps) (texts := xs) ⟨_, by rw [e, ← e1], rfl, k, rfl⟩ e2 hok fun t' k' => Post.pure S h (.str _ _)
theorem CallV.joinTmp {l : Addr} {sep : Str} {xs : List Str} {P : PV → Mu → Prop} (h0 : mu l = none) (hok : JoinOk sep xs = true) (h : P (.str (Txt.join sep xs)) mu) : CallV c n (upd mu l (.list (xs.map .str))) (.builtin "str.join") [.str sep, .ref l] [] P := fun A s vs kvs hA ht S r rk => by
  cases r with | cons r0 r =>
  cases r with | cons r1 r =>
  cases r; cases rk; cases r0; cases r1
  obtain ⟨ws, k, e, rs⟩ := S.objs l (.list (xs.map .str)) (by simp)
  obtain ⟨ps, e1, e2⟩ := rs.strs
  refine SC.join (l := ps) (texts := xs) ⟨_, by rw [e, ← e1], rfl, k, rfl⟩ e2 hok fun t' k' => post_tmp h0 S h (.str _ _)

/- ## replace by written texts -/
theorem EvE.replaceC {o : PySem.Expr} {y z : Str} {k1 k2 : Nat} {apos p1 p2 pos : Pos} {P : PV → Mu → Prop} (hyz : (y == z) = false)
    (h : EvE c n sc m mu o fun d mu1 => ∃ x, d = .str x ∧ x.length + (x.length + 1) * z.length ≤ 16777216 ∧ P (.str (Txt.replace x y z)) mu1)
    (hb : ∀ env, attributeBase o "replace" env (eval o env) = eval o env := by intro _; rfl) (hline : (apos.endLine == pos.line) = true := by rfl) :
    EvE c n sc m mu (.Call (.Attribute o "replace" apos) [.Constant (.str y) k1 p1, .Constant (.str z) k2 p2] [] pos) P := by
  intro env A s he hA ht S F
  rw [arm_eval_Call, hb]
  refine wpAny_bind (EvE.bind h he hA ht S F fun v s0 d mu0 h0 x0 t0 S0 F0 r0 _ => ?_)
  obtain ⟨x, rfl, hsz, h0⟩ := h0
  cases r0
  refine wpAny_bind (wpAny_standAt ?_)
  have hpos : methodCallPos true o env apos pos = pure pos := by unfold methodCallPos; simp [hline]
  unfold methodCall
  refine wpAny_bind (wpAny_holding ?_)
  show wpAny c.M A (getMethod _ "replace" _) _ _ s0
  refine GM.replace ?_
  refine wpAny_bind (wpAny_of_eq hpos ?_)
  refine callWith_builtin rfl ?_
  show wpAny c.M A (evalArgs (.builtin "str.replace") true [(false, eval (.Constant (.str y) k1 p1) env), (false, eval (.Constant (.str z) k2 p2) env)] []) _ _ s0
  refine evalArgs_plain (spliced_cons (Constant_str (spliced_cons (Constant_str (spliced_nil ?_)))))
  refine SC.replace (Nat.ne_of_gt t0) (Nat.succ_ne_zero _) (Nat.ne_of_lt (Nat.lt_succ_self _)) hyz hsz fun t' k => ?_
  exact ⟨_, mu0, h0, x0.trans (Step.tok (s := s0) S0), .str _ _⟩
end
end Mine

open PySem PySem.W PySem.Calls PyProof.Rows
set_option Elab.async false
set_option linter.unusedVariables false
set_option maxRecDepth 100000
namespace Mine

theorem env_split (scope : Scope) (g : Addr) (x : Str) (v : Value) (rest : List (Str × Value)) (q : Str) (f : Option Addr) (cd : Value) (b : Addr) :
    newFunctionEnv scope g [] ((x, v) :: rest) q f cd none b = (newFunctionEnv scope g [] [] q f cd none b >>= fun env => storeName env x v >>= fun _ => (forIn rest PUnit.unit fun (p : Str × Value) (_ : PUnit) => (do storeName env p.1 p.2; pure (ForInStep.yield PUnit.unit) : Sem (ForInStep PUnit))) >>= fun _ => pure env) := by
  unfold newFunctionEnv
  simp only [bind_assoc, List.forIn_cons, List.forIn_nil, pure_bind]

/- a frame whose first name is a local: at least one token is spent -/
theorem newEnv_pos {M : Model} {A : Around} {E : Value → Shared → Prop} {s : Shared} {scope : Scope} {globals : Addr} {x : Str} {v : Value} {rest : List (Str × Value)} {qual : Str} {func : Option Addr} {code : Value} {builtins : Addr} {Q : Env → Shared → Prop}
    (hk : scope.kind = .function) (hx : scope.names.lookup x = some .local)
    (hkind : ∀ y ∈ rest, scope.names.lookup y.1 = some .local ∨ (scope.names.lookup y.1 = some .cell ∧ ((cellsFrom (s.heap.objs.size + 1) scope.names []).lookup y.1).isSome = true))
    (hQ : ∀ env, env = newEnv scope s.heap.objs.size globals (cellsFrom (s.heap.objs.size + 1) scope.names []) qual func code none builtins →
      ∀ s', InCallC s env.locals (bindL env.kindOf ((x, v) :: rest) fun _ => none) env.cells (bindC env.kindOf ((x, v) :: rest) fun _ => none) s' → 0 < s'.toks → Q env s') :
    wpAny M A (newFunctionEnv scope globals [] ((x, v) :: rest) qual func code none builtins) Q E s := by
  rw [env_split]
  refine wpAny_bind (wpAny_newFunctionEnv_cells hk (fun y hy => by cases hy) fun env he s1 I => ?_)
  have hkx : env.kindOf x = some .local := by rw [he]; exact hx
  have hkf : env.scope.kind = .function := by rw [he]; exact hk
  obtain ⟨h1, tk1, rfl⟩ := I.toInCall.same
  refine wpAny_bind (wpAny_storeName_local hkx I.toInCall.ns (fun h' hn' hs' => ?_) (by rw [hkf]; rfl))
  have I2 : InCallC s env.locals (fun y => if y = x then some v else none) env.cells (fun _ => none) { s with heap := h', toks := tk1 + 1 } := by
    refine ⟨⟨⟨_, _, rfl⟩, hn', fun b o e => hs'.extBut b o (Nat.ne_of_lt (Nat.lt_of_lt_of_le (Heap.lt_size e) I.toInCall.fresh)) (I.toInCall.keep b o e), I.toInCall.fresh⟩, fun k c hc => (I.cell k c hc).sameBut hs' (Nat.ne_of_gt (I.above k c (mem_of_lookup hc))), I.apart, I.above⟩
  refine wpAny_bind (wpAny_with_toks (n := 1) (by show 1 ≤ tk1 + 1; omega) (wpAny_bindParams (s₀ := s) (env := env) _ (fun _ _ _ => rfl) hkf rest _ _ _ _ I2 (fun y hy => by
    have := hkind y hy
    rw [he]; exact this) fun s' I3 ht => wpAny_pure (hQ env he s' ?_ ht)))
  have e1 : bindL env.kindOf ((x, v) :: rest) (fun _ => none) = bindL env.kindOf rest (fun y => if y = x then some v else none) := by
    rw [bindL, if_pos hkx]
  have e2 : bindC env.kindOf ((x, v) :: rest) (fun _ => none) = bindC env.kindOf rest (fun _ => none) := by
    rw [bindC, if_pos hkx]
  rw [e1, e2]; exact I3

theorem St.empty {c : Cx} {h : Heap} (hk : ∀ b o, c.base.get? b = some o → h.get? b = some o) : St c (fun _ => none) h := ⟨hk, fun a o e => (nomatch e), fun a ha => absurd rfl ha⟩

/- a law that gives back True -/
theorem law_good {c : Cx} {claim : ClaimW} {cl : Str → Option Addr} {mean : ExcName → Option Value} {args : List WData} {s s' : Shared} {v : Value} (hb : c.base = s.heap) (hg : s.gens = #[]) (hn : ∀ cls, claim.raises args cls = false) (hp : claim.post args (.bool true) args = true)
    (p : Post c (fun _ => none) s (fun d _ => d = .bool true) v s') : GoodWG claim cl mean args s (.ok (.ret v)) s' := by
  obtain ⟨d, mu', rfl, x, r⟩ := p
  cases r
  obtain ⟨h, tk, rfl⟩ := x.shape
  exact GoodW.toG ⟨.inl ⟨_, _, [], rfl, hn, .bool true, hp, fun _ => ⟨List.nodup_nil, fun a ha => (nomatch ha)⟩⟩, fun b o e => x.keep b o e rfl id, rfl, hg⟩
end Mine

open PySem PySem.W PySem.Calls PyProof.Rows
set_option Elab.async false
set_option linter.unusedVariables false
set_option maxRecDepth 100000
namespace Mine

theorem ifd {p : Prop} [Decidable p] {X Y : Prop} (h1 : p → X) (h2 : ¬ p → Y) : if decide p = true then X else Y := by
  by_cases h : p <;> simp [h] <;> first | exact h1 h | exact h2 h
theorem ifb {b : Bool} {X Y : Prop} (h1 : b = true → X) (h2 : b = false → Y) : if b = true then X else Y := by
  cases b <;> simp <;> first | exact h1 rfl | exact h2 rfl
theorem ifT {X Y : Prop} (h : X) : if true = true then X else Y := by simpa using h
theorem ifF {X Y : Prop} (h : Y) : if false = true then X else Y := by simpa using h

section
variable {c : Cx} {n : Nat} {sc : Scope} {m : Lm} {mu : Mu}

/- ## binding -/
theorem Binds.p1 {fd : FuncData} {x : Str} {d : PV} {K : List (Str × PV) → Mu → Prop} (hb : ∀ v, bindArgs fd ⟨[v], []⟩ = pure [(x, v)]) (h : K [(x, d)] mu) : Binds c mu fd [d] [] K := fun A s vs kvs hA S r rk => by
  cases r with | cons r0 r =>
  cases r; cases rk
  rw [hb]; exact wpAny_pure ⟨_, mu, h, Step.refl S, .cons r0 .nil⟩
/- ## calls by name -/
theorem EvE.callFn {x : Str} {p pos : Pos} {a : Addr} {es : List PySem.Expr} {ks : List Keyword} {P : PV → Mu → Prop} (hk : sc.names.lookup x = some .globalImplicit) (hv : c.mg x = some (.ref a))
    (h : EvA c n sc m mu es fun ds mu1 => EvK c n sc m mu1 ks fun kw mu2 => Keepr c mu2 (.ref a) ∧ CallV c n mu2 (.ref a) ds kw P) (hd : (x == ("__debug__" : Str)) = false := by decide) (hst : noStar es = true := by rfl) (hks : allNamed ks = true := by rfl) :
    EvE c n sc m mu (.Call (.Name x p) es ks pos) P :=
  EvE.call (fp := .ref a) (f := .ref a) (EvE.glob hk hv (fun _ => .ref a) ⟨rfl, h⟩ hd) (fun _ _ r => by cases r; rfl) hst hks
theorem EvE.callBi {x : Str} {p pos : Pos} {id : String} {es : List PySem.Expr} {P : PV → Mu → Prop} (hk : sc.names.lookup x = some .globalImplicit) (hg : c.mg x = none) (hn : x ≠ ("__name__" : Str)) (hv : bootBuiltins x = some (.builtin id))
    (h : EvA c n sc m mu es fun ds mu1 => CallV c n mu1 (.builtin id) ds [] P) (hd : (x == ("__debug__" : Str)) = false := by decide) (hst : noStar es = true := by rfl) :
    EvE c n sc m mu (.Call (.Name x p) es [] pos) P :=
  EvE.call (fp := .bi id) (f := .builtin id) (EvE.builtin hk hg hn hv (fun _ => .bi id) ⟨rfl, fun env A s pos he hA ht S F => wpAny_mono (h env A s pos he hA ht S F) (fun _ _ ⟨ds, mu1, q, x, r⟩ => ⟨ds, mu1, EvK.nil ⟨Keepr.builtin, q⟩, x, r⟩) fun _ _ x => x⟩ hd) (fun _ _ r => by cases r; rfl) hst rfl
theorem EvE.callTy {x : Str} {p pos : Pos} {id : String} {es : List PySem.Expr} {P : PV → Mu → Prop} (hk : sc.names.lookup x = some .globalImplicit) (hg : c.mg x = none) (hn : x ≠ ("__name__" : Str)) (hv : bootBuiltins x = some (.type id))
    (h : EvA c n sc m mu es fun ds mu1 => CallV c n mu1 (.type id) ds [] P) (hd : (x == ("__debug__" : Str)) = false := by decide) (hst : noStar es = true := by rfl) :
    EvE c n sc m mu (.Call (.Name x p) es [] pos) P :=
  EvE.call (fp := .ty id) (f := .type id) (EvE.builtin hk hg hn hv (fun _ => .ty id) ⟨rfl, fun env A s pos he hA ht S F => wpAny_mono (h env A s pos he hA ht S F) (fun _ _ ⟨ds, mu1, q, x, r⟩ => ⟨ds, mu1, EvK.nil ⟨Keepr.type, q⟩, x, r⟩) fun _ _ x => x⟩ hd) (fun _ _ r => by cases r; rfl) hst rfl

/- ## methods without keywords -/
theorem EvE.methB {o : PySem.Expr} {name : Str} {es : List PySem.Expr} {apos pos : Pos} {P : PV → Mu → Prop}
    (h : EvE c n sc m mu o fun d mu0 => ∃ id, Meth c mu0 d name (.builtin id) ∧ EvA c n sc m mu0 es fun ds mu1 => CallV c n mu1 (.builtin id) (d :: ds) [] P)
    (hb : ∀ env, attributeBase o name env (eval o env) = eval o env := by intro _; rfl) (hst : noStar es = true := by rfl)
    (hlen : (es.length + ([] : List Keyword).length + (if ([] : List Keyword).isEmpty then 0 else 1) < 30) := by decide) (hline : (apos.endLine == pos.line) = true := by rfl) : EvE c n sc m mu (.Call (.Attribute o name apos) es [] pos) P :=
  EvE.method (h.imp fun d mu0 ⟨id, hm, q⟩ => ⟨.builtin id, hm, fun env A s pos he hA ht S F => wpAny_mono (q env A s pos he hA ht S F) (fun _ _ ⟨ds, mu1, q, x, r⟩ => ⟨ds, mu1, EvK.nil ⟨Keepr.builtin, q⟩, x, r⟩) fun _ _ x => x⟩) hb hst rfl hlen hline

/- ## statements, in a row -/
def SeqP (c : Cx) (n : Nat) (sc : Scope) (ss : List Stmt) (P : FV → Lm → Mu → Prop) (fl : FV) (m : Lm) (mu : Mu) : Prop := match fl with
  | .next => ExS c n sc m mu ss P
  | fl => P fl m mu
theorem SeqP.next {ss : List Stmt} {P : FV → Lm → Mu → Prop} (h : ExS c n sc m mu ss P) : SeqP c n sc ss P .next m mu := h
theorem SeqP.ret {ss : List Stmt} {P : FV → Lm → Mu → Prop} {d : PV} (h : P (.ret d) m mu) : SeqP c n sc ss P (.ret d) m mu := h
theorem ExS.seq {st : Stmt} {ss : List Stmt} {P : FV → Lm → Mu → Prop} (h : Ex1 c n sc m mu st (SeqP c n sc ss P)) : ExS c n sc m mu (st :: ss) P :=
  ExS.cons (fun env A s he hA ht S F => wpAny_mono (h env A s he hA ht S F) (fun _ _ ⟨fl, m', mu', a, b⟩ => ⟨fl, m', mu', by cases fl <;> exact a, b⟩) fun _ _ x => x)
theorem ExS.asg {t value : PySem.Expr} {pos : Pos} {ss : List Stmt} {P : FV → Lm → Mu → Prop} (h : EvE c n sc m mu value fun d mu1 => AsgT true c n sc m mu1 t d fun m2 mu2 => ExS c n sc m2 mu2 ss P)
    (h1 : ∀ env, env.scope = sc → swapsWithSole [t] value pos.line env = pure false := by intro _ _; rfl) (h2 : ∀ env, swappedStores [t] value env = pure none := by intro _; rfl)
    (h3 : ∀ env, (assignEach [t] env).map (·.2) = [PySem.assign t env] := by intro _; rfl) : ExS c n sc m mu (.Assign [t] value pos :: ss) P := ExS.seq (Ex1.assign h h1 h2 h3)
theorem ExS.if {t : PySem.Expr} {b o : List Stmt} {pos : Pos} {ss : List Stmt} {P : FV → Lm → Mu → Prop} (h : Tst c n sc m mu t fun r mu1 => if r = true then ExS c n sc m mu1 b (SeqP c n sc ss P) else ExS c n sc m mu1 o (SeqP c n sc ss P)) : ExS c n sc m mu (.If t b o pos :: ss) P := ExS.seq (Ex1.if h)
theorem ExS.ret {e : PySem.Expr} {pos : Pos} {ss : List Stmt} {P : FV → Lm → Mu → Prop} (h : EvE c n sc m mu e fun d mu1 => P (.ret d) m mu1) : ExS c n sc m mu (.Return (some e) pos :: ss) P := ExS.seq (Ex1.ret h)
theorem ExS.expr {e : PySem.Expr} {pos : Pos} {ss : List Stmt} {P : FV → Lm → Mu → Prop} (h : EvE c n sc m mu e fun d mu1 => d.isRef = false ∧ ExS c n sc m mu1 ss P)
    (hs : ∀ env, swapsWith e none pos.line env = pure false := by intro _; rfl) : ExS c n sc m mu (.Expr e pos :: ss) P := ExS.seq (Ex1.expr h hs)
theorem ExS.aug {x : Str} {pos' pos : Pos} {op : Operator} {value : PySem.Expr} {a : PV} {ss : List Stmt} {P : FV → Lm → Mu → Prop} (hl : m.lookup x = some a) (hk : kindB true sc x = true)
    (h : EvE c n sc m mu value fun b mu2 => OpI c n mu2 op a b fun d mu3 => ExS c n sc (setL m x d) mu3 ss P) : ExS c n sc m mu (.AugAssign (.Name x pos') op value pos :: ss) P := ExS.seq (Ex1.aug hl hk h)
theorem ExS.for {okT : PySem.Expr → Prop} {target iter : PySem.Expr} {body orelse : List Stmt} {pos : Pos} {ss : List Stmt} {P : FV → Lm → Mu → Prop} (hT : okT target)
    (h : EvE c n sc m mu iter fun d mu1 => ∃ xs src mu2, IterOf c n okT mu1 d xs src mu2 ∧ LoopE c n sc src target body orelse (SeqP c n sc ss P) xs m mu2)
    (hs : ∀ env x, foldedSetIterable iter env x = pure x := by intro _ _; rfl) : ExS c n sc m mu (.For target iter body orelse pos :: ss) P := ExS.seq (Ex1.for hT h hs)

/- ## chained comparisons of ints in a test -/
theorem Tst.cmp2 {l r1 r2 : PySem.Expr} {op1 op2 : CmpOp} {pos : Pos} {P : Bool → Mu → Prop}
    (h : EvE c n sc m mu l fun a mu1 => EvE c n sc m mu1 r1 fun b mu2 => OpC c n mu2 op1 a b fun d mu3 => OpT c n mu3 d fun t mu4 => if t = true then EvE c n sc m mu4 r2 fun e mu5 => OpC c n mu5 op2 b e fun d2 mu6 => OpT c n mu6 d2 P else P false mu4)
    (hm : lastMarks [op1, op2] [r1, r2] = false := by with_unfolding_all rfl) : Tst c n sc m mu (.Compare l [op1, op2] [r1, r2] pos) P := by
  intro env A s he hA ht S F
  refine isTrue_chain (EvE.bind h he hA ht S F fun va s1 a mu1 h1 x1 t1 S1 F1 ra _ => ?_) hm
  refine test_link (EvE.bind h1 he hA t1 S1 F1 fun vb s2 b mu2 h2 x2 t2 S2 F2 rb k2 => ?_)
  refine post_bind (h2 A s2 va vb hA t2 S2 (ra.mono k2) rb) t2 S2 fun vc s3 d mu3 h3 x3 t3 S3 rc k3 => ?_
  refine postB_bind (h3 A s3 vc hA t3 S3 rc) t3 S3 fun t s4 mu4 h4 x4 t4 S4 k4 => ?_
  cases t with
  | false => exact ⟨mu4, h4, ((x1.trans x2).trans x3).trans x4⟩
  | true =>
    simp only [if_true] at h4 ⊢
    have F4 := (F2.step S2 x3).step S3 x4
    refine test_last (EvE.bind h4 he hA t4 S4 F4 fun ve s5 e mu5 h5 x5 t5 S5 F5 re k5 => ?_)
    refine post_bind (h5 A s5 vb ve hA t5 S5 (((rb.mono k3).mono k4).mono k5) re) t5 S5 fun vd s6 d2 mu6 h6 x6 t6 S6 rd k6 => ?_
    exact wpAny_mono (h6 A s6 vd hA t6 S6 rd) (fun _ _ p => p.after ((((x1.trans x2).trans x3).trans x4).trans (x5.trans x6))) fun _ _ x => x

/- ## signs of a text -/
end
end Mine

open PySem PySem.W PySem.Calls PyProof.Rows
set_option Elab.async false
set_option linter.unusedVariables false
set_option maxRecDepth 100000
namespace Mine

/- # texts as lists of numbers -/
abbrev S (l : List Nat) : Str := ⟨l.toArray⟩
theorem S_append (a b : List Nat) : S a ++ S b = S (a ++ b) := by
  show Str.mk (a.toArray ++ b.toArray) = _
  simp
theorem S_length (a : List Nat) : (S a).length = a.length := by simp [Str.length]
theorem S_of (x : Str) : S x.cps.toList = x := by obtain ⟨⟨l⟩⟩ := x; rfl
theorem S_inj {a b : List Nat} : S a = S b ↔ a = b := by
  constructor
  · intro h; have := congrArg (fun x => x.cps.toList) h; simpa using this
  · intro h; rw [h]
theorem S_empty : S [] = Str.empty := rfl
theorem S_cps (a : List Nat) : (S a).cps.toList = a := by simp

/- a backslash ahead of quotation marks and backslashes -/
def escL (l : List Nat) : List Nat := l.flatMap fun ch => if ch = 34 ∨ ch = 92 then [92, ch] else [ch]
theorem escL_append (a b : List Nat) : escL (a ++ b) = escL a ++ escL b := by simp [escL]
theorem escL_nil : escL [] = [] := rfl
theorem escL_cons (a : Nat) (b : List Nat) : escL (a :: b) = (if a = 34 ∨ a = 92 then [92, a] else [a]) ++ escL b := by simp [escL]
theorem escL_length (l : List Nat) : (escL l).length ≤ 2 * l.length := by
  induction l with
  | nil => simp [escL]
  | cons a r ih => rw [escL_cons]; split <;> simp <;> omega

/- one sign replaced -/
def replL (ch : Nat) (z : List Nat) (l : List Nat) : List Nat := l.flatMap fun k => if k = ch then z else [k]
theorem replL_free (ch : Nat) (z : List Nat) : ∀ l : List Nat, ch ∉ l → replL ch z l = l
  | [], _ => rfl
  | k :: r, h => by
    have h1 : k ≠ ch := fun e => h (e ▸ List.mem_cons_self ..)
    have h2 : ch ∉ r := fun m => h (List.mem_cons_of_mem _ m)
    have ih := replL_free ch z r h2
    unfold replL at ih ⊢
    rw [List.flatMap_cons, ih, if_neg h1]; rfl
theorem replL_join (ch : Nat) (z : List Nat) : ∀ parts : List Str, (∀ p ∈ parts, ch ∉ p.cps.toList) → replL ch z (Str.join ⟨#[ch]⟩ parts).cps.toList = (Str.join (S z) parts).cps.toList
  | [], _ => rfl
  | [p], h => replL_free ch z _ (h p (List.mem_singleton.mpr rfl))
  | p :: q :: r, h => by
    have ih := replL_join ch z (q :: r) fun a ha => h a (List.mem_cons_of_mem _ ha)
    show replL ch z (p ++ ⟨#[ch]⟩ ++ Str.join ⟨#[ch]⟩ (q :: r)).cps.toList = (p ++ S z ++ Str.join (S z) (q :: r)).cps.toList
    simp only [Str.cps_append, Array.toList_append]
    have e : ∀ a b, replL ch z (a ++ b) = replL ch z a ++ replL ch z b := fun a b => by simp [replL]
    rw [e, e, ih, replL_free ch z _ (h p (List.mem_cons_self ..))]
    simp [replL]
theorem replace_list (x : Str) (ch : Nat) (z : List Nat) : Txt.replace x ⟨#[ch]⟩ (S z) = S (replL ch z x.cps.toList) := by
  have h := StrLaws.replace_one x (S z) ch
  have h2 := replL_join ch z _ (StrLaws.split_free x ch)
  rw [StrLaws.join_split] at h2
  rw [h, h2, S_of]
theorem esc_two (l : List Nat) : replL 34 [92, 34] (replL 92 [92, 92] l) = escL l := by
  induction l with
  | nil => rfl
  | cons a r ih =>
    unfold replL escL at *
    rw [List.flatMap_cons, List.flatMap_append, ih, List.flatMap_cons]
    congr 1
    by_cases h1 : a = 92
    · subst h1; simp
    · by_cases h2 : a = 34
      · subst h2; simp
      · simp [h1, h2]

/- the join of texts -/
theorem join_empty (xs : List (List Nat)) : Txt.join (S []) (xs.map S) = S xs.flatten := by
  have h : ∀ xs : List Str, Txt.join Str.empty xs = S ((xs.map fun x => x.cps.toList).flatten) := fun xs => by
    unfold Txt.join Builtin.Str.glued
    cases xs with
    | nil => rfl
    | cons x r =>
      simp only [List.drop_succ_cons, List.drop_zero, List.headD_cons, List.map_cons, List.flatten_cons]
      have : ∀ (r : List Str) (acc : Array Nat), r.foldl (fun acc p => acc ++ Str.empty.cps ++ p.cps) acc = acc ++ ((r.map fun x => x.cps.toList).flatten).toArray := fun r => by
        induction r with
        | nil => intro acc; simp
        | cons y r ih =>
          intro acc; rw [List.foldl_cons, ih]
          obtain ⟨⟨l⟩⟩ := y
          simp [Str.empty]
      rw [this]
      obtain ⟨⟨l⟩⟩ := x
      simp
  rw [S_empty, h]
  have e : (xs.map S).map (fun x => x.cps.toList) = xs := by
    rw [List.map_map]
    exact List.map_id'' (fun x => by simp) xs
  rw [e]
theorem joinOk_le {sep : Str} {xs : List Str} {k : Nat} (h : ∀ x ∈ xs, x.length + sep.length ≤ k) (hk : xs.length * k ≤ 16777216) : JoinOk sep xs = true := by
  unfold JoinOk Builtin.Str.tooLong sizeLine
  have : ∀ (xs : List Str) (a : Nat), (∀ x ∈ xs, x.length + sep.length ≤ k) → xs.foldl (· + ·.length + sep.length) a ≤ a + xs.length * k := fun xs => by
    induction xs with
    | nil => intro a _; simp
    | cons x r ih =>
      intro a h
      rw [List.foldl_cons]
      have h1 := ih (a + x.length + sep.length) fun y hy => h y (List.mem_cons_of_mem _ hy)
      have h2 := h x (List.mem_cons_self ..)
      have h3 : (x :: r).length * k = r.length * k + k := by simp [Nat.succ_mul]
      omega
  have h1 := this xs 0 h
  rw [List.foldl_toArray]
  simp only [Bool.not_eq_true', decide_eq_false_iff_not]
  show ¬ _ > 2 ^ 24
  omega

/- # frames: fewer names -/
def SubL : Lm → Lm → Prop
  | [], _ => True
  | p :: r, m' => m'.lookup p.1 = some p.2 ∧ SubL r m'
theorem SubL.look {m m' : Lm} (h : SubL m m') : ∀ x d, m.lookup x = some d → m'.lookup x = some d := by
  induction m with
  | nil => intro x d e; simp at e
  | cons p r ih =>
    intro x d e
    obtain ⟨y, d'⟩ := p
    rw [List.lookup_cons] at e
    cases hxy : x == y with
    | true => rw [hxy] at e; cases e; rw [beq_iff_eq.mp hxy]; exact h.1
    | false => rw [hxy] at e; exact ih h.2 x d e

section
variable {c : Cx} {n : Nat} {sc : Scope} {m : Lm} {mu : Mu}
theorem AsgT.weak {K : Bool} {m' : Lm} {t : PySem.Expr} {d : PV} {P : Lm → Mu → Prop} (hw : SubL m m') (h : AsgT K c n sc m mu t d P) : AsgT K c n sc m' mu t d P := fun env A s v he hA ht S F r => h env A s v he hA ht S (F.weak hw.look) r
theorem ExS.weakL {m' : Lm} {ss : List Stmt} {P : FV → Lm → Mu → Prop} (hw : SubL m m') (h : ExS c n sc m mu ss P) : ExS c n sc m' mu ss P := ExS.weak hw.look h
end
/- # outcomes that do not hang on the way -/
section
variable {c : Cx} {n : Nat} {sc : Scope} {m : Lm} {mu : Mu}
theorem Tst.det {e : PySem.Expr} {b : Bool} {P : Bool → Mu → Prop} (h : Tst c n sc m mu e fun r mu1 => r = b ∧ mu1 = mu) (h2 : P b mu) : Tst c n sc m mu e P := fun env A s he hA ht S F =>
  wpAny_mono (h env A s he hA ht S F) (fun r s' ⟨mu1, ⟨e1, e2⟩, x⟩ => by subst e1; subst e2; exact ⟨_, h2, x⟩) fun _ _ x => x
theorem EvJ.lit {x : Str} {k : Nat} {pos : Pos} {es : List PySem.Expr} {acc : Str} {P : PV → Mu → Prop} (hz : acc.length + x.length ≤ sizeLine) (h : EvJ c n sc m mu es (acc ++ x) P) : EvJ c n sc m mu (.Constant (.str x) k pos :: es) acc P :=
  EvJ.cons (EvE.str ⟨_, rfl, hz, h⟩)
theorem EvJ.fmt {e : PySem.Expr} {pos : Pos} {es : List PySem.Expr} {acc : Str} {P : PV → Mu → Prop} (h : EvE c n sc m mu e fun d mu1 => ∃ y, d = .str y ∧ acc.length + y.length ≤ sizeLine ∧ EvJ c n sc m mu1 es (acc ++ y) P) : EvJ c n sc m mu (.FormattedValue e 115 none pos :: es) acc P :=
  EvJ.cons (EvE.fmtS (h.imp fun d mu1 ⟨y, e, hz, h⟩ => ⟨y, e, by omega, y, rfl, hz, h⟩))
end
end Mine

open PySem PySem.W PySem.Calls PyProof.Rows
set_option Elab.async false
set_option linter.unusedVariables false
set_option maxRecDepth 100000
namespace Mine

section
variable {c : Cx} {n : Nat} {sc : Scope} {m : Lm} {mu : Mu}

/- ## ways that meet again -/
theorem ExS.join {st : Stmt} {ss : List Stmt} {P : FV → Lm → Mu → Prop} {m1 : Lm} {mu1 : Mu} (h : Ex1 c n sc m mu st fun fl m' mu' => fl = .next ∧ mu' = mu1 ∧ SubL m1 m') (h2 : ExS c n sc m1 mu1 ss P) : ExS c n sc m mu (st :: ss) P :=
  ExS.seq fun env A s he hA ht S F => wpAny_mono (h env A s he hA ht S F) (fun _ _ ⟨fl, m', mu', ⟨e1, e2, e3⟩, b⟩ => ⟨fl, m', mu', by subst e1; subst e2; exact ExS.weakL e3 h2, b⟩) fun _ _ x => x

/- ## comprehensions, item by item -/
theorem CompE.all {src : Mu → Prop} {target elt : PySem.Expr} {ifs : List PySem.Expr} {P : List PV → Mu → Prop} {m0 : Lm} (p : PV → Bool) (g : PV → PV) (hs : src mu) (xs acc : List PV) (m : Lm) (hl : acc.length + xs.length ≤ sizeLine) (hm : SubL m0 m)
    (hstep : ∀ x ∈ xs, AsgT false c n sc m0 mu target x fun m1 mu1 => mu1 = mu ∧ SubL m0 m1 ∧ IfsE c n sc m1 mu ifs fun ok mu2 => ok = p x ∧ mu2 = mu ∧ (p x = true → EvE c n sc m1 mu elt fun d mu3 => d = g x ∧ mu3 = mu))
    (hP : P (acc ++ (xs.filter p).map g) mu) : CompE c n sc src target ifs elt P xs acc m mu := by
  induction xs generalizing acc m with
  | nil => exact ⟨hs, by simpa using hP⟩
  | cons x xs ih0 =>
    refine ⟨hs, by simp at hl; omega, AsgT.weak hm fun env A s v he hA ht S F r => wpAny_mono (hstep x (List.mem_cons_self ..) env A s v he hA ht S F r) (fun _ _ ⟨m1, mu1, ⟨e1, e2, q⟩, b⟩ => ⟨m1, mu1, ?_, b⟩) fun _ _ x => x⟩
    subst e1
    intro env A s he hA ht S F
    refine wpAny_mono (q env A s he hA ht S F) (fun ok _ ⟨mu2, ⟨a1, a2, a3⟩, b⟩ => ⟨mu2, ?_, b⟩) fun _ _ x => x
    subst a2; subst a1
    have ih := fun acc' => ih0 acc' m1
    have hst := fun x hx => hstep x (List.mem_cons_of_mem _ hx)
    cases hp : p x with
    | true =>
      simp only [if_true]
      refine (a3 hp).imp fun d mu' ⟨d1, d2⟩ => ?_
      subst d1; subst d2
      refine ih _ (by simp at hl ⊢; omega) e2 hst ?_
      rw [List.filter_cons_of_pos hp] at hP
      simpa using hP
    | false =>
      simp only [Bool.false_eq_true, if_false]
      refine ih _ (by simp at hl ⊢; omega) e2 hst ?_
      rw [List.filter_cons_of_neg (by simp [hp])] at hP
      exact hP

/- ## loops, item by item -/
theorem LoopE.from {src : Mu → Prop} {target : PySem.Expr} {body orelse : List Stmt} {P : FV → Lm → Mu → Prop} (Inv : Nat → Lm) (hs : src mu) (xs : List PV) (k : Nat) (m : Lm) (hm : SubL (Inv k) m)
    (hstep : ∀ i x, xs[i]? = some x → AsgT true c n sc (Inv (k + i)) mu target x fun m1 mu1 => ExS c n sc m1 mu1 body fun fl m2 mu2 => (fl = .next ∨ fl = .cont) ∧ mu2 = mu ∧ SubL (Inv (k + i + 1)) m2)
    (hP : ExS c n sc (Inv (k + xs.length)) mu orelse P) : LoopE c n sc src target body orelse P xs m mu := by
  induction xs generalizing k m with
  | nil => exact ⟨hs, ExS.weakL hm hP⟩
  | cons x xs ih0 =>
    refine ⟨hs, AsgT.weak hm fun env A s v he hA ht S F r => wpAny_mono (hstep 0 x rfl env A s v he hA ht S F r) (fun _ _ ⟨m1, mu1, q, b⟩ => ⟨m1, mu1, ?_, b⟩) fun _ _ x => x⟩
    refine ExS.imp q fun fl m2 mu2 ⟨e1, e2, e3⟩ => ?_
    subst e2
    have := ih0 (k + 1) m2 e3 (fun i x hx => by
      have := hstep (i + 1) x (by simpa using hx)
      rwa [show k + (i + 1) = k + 1 + i from by omega] at this) (by rwa [show k + (x :: xs).length = k + 1 + xs.length from by simp; omega] at hP)
    rcases e1 with e | e <;> subst e <;> exact this
theorem LoopE.ind {src : Mu → Prop} {target : PySem.Expr} {body orelse : List Stmt} {P : FV → Lm → Mu → Prop} {xs : List PV} (Inv : Nat → Lm) (hs : src mu) (hm : SubL (Inv 0) m)
    (hstep : ∀ i x, xs[i]? = some x → AsgT true c n sc (Inv i) mu target x fun m1 mu1 => ExS c n sc m1 mu1 body fun fl m2 mu2 => (fl = .next ∨ fl = .cont) ∧ mu2 = mu ∧ SubL (Inv (i + 1)) m2)
    (hP : ExS c n sc (Inv xs.length) mu orelse P) : LoopE c n sc src target body orelse P xs m mu :=
  LoopE.from Inv hs xs 0 m hm (fun i x hx => by rw [Nat.zero_add]; exact hstep i x hx) (by rw [Nat.zero_add]; exact hP)

/- ## ranges -/
theorem fitsLong {a : Int} (h : -1000000000 ≤ a ∧ a ≤ 1000000000) : Builtin.Range.rangeFitsLong a = true := by
  unfold Builtin.Range.rangeFitsLong; simp; omega
theorem small_up {a b : Int} (ha : -1000000 ≤ a ∧ a ≤ 1000000) (hb : -1000000 ≤ b ∧ b ≤ 1000000) : Builtin.Range.small a b 1 = true := by
  unfold Builtin.Range.small
  rw [fitsLong (by omega), fitsLong (by omega), fitsLong (by omega), fitsLong (by
    unfold Builtin.Range.rangeSize; simp only [show (1 : Int) > 0 from by decide, if_true, Int.ediv_one]; split <;> omega)]
  simp [fitsLong (a := b) (by omega)]
theorem rangeL_up {a : Int} {k : Nat} : rangeL a (a + k) 1 = (List.range k).map fun (i : Nat) => PV.int (a + i) := by
  unfold rangeL
  have : (Builtin.Range.rangeSize a (a + k) 1).toNat = k := by
    unfold Builtin.Range.rangeSize; simp only [show (1 : Int) > 0 from by decide, if_true, Int.ediv_one]; split <;> omega
  rw [this]; simp
/- ## one sign, many times -/
end
end Mine

open PySem PySem.W PySem.Calls PyProof.Rows
set_option Elab.async false
set_option linter.unusedVariables false
set_option maxRecDepth 100000
namespace Mine
theorem ints_rep {h : Heap} : ∀ {vs : List Value} {ns : List Int}, IntsAre vs ns → Reps h (ns.map .int) vs := by
  intro vs ns hI
  induction ns generalizing vs with
  | nil => cases vs with
    | nil => exact .nil
    | cons v r => cases hI
  | cons a r ih => cases vs with
    | nil => cases hI
    | cons v rs => cases hI with | cons n t hI => exact .cons (.int _ _) (ih hI)
end Mine

open PySem PySem.W PySem.Calls PyProof.Rows
set_option Elab.async false
set_option linter.unusedVariables false
set_option maxRecDepth 100000
namespace Mine

/- # while -/
section
variable {c : Cx} {n : Nat} {sc : Scope} {m : Lm} {mu : Mu}

/- # slices -/
def EvP (c : Cx) (n : Nat) (sc : Scope) (m : Lm) (mu : Mu) (e : Option PySem.Expr) (P : Option Nat → Mu → Prop) : Prop := match e with
  | none => P none mu
  | some e => EvE c n sc m mu e fun d mu1 => ∃ k : Nat, d = .int (k : Int) ∧ P (some k) mu1
theorem EvP.none {P : Option Nat → Mu → Prop} (h : P .none mu) : EvP c n sc m mu .none P := h
def pk {α : Type} (l : List α) (lo hi : Option Nat) : List α := (l.take (hi.getD l.length)).drop (lo.getD 0)

theorem EvP.bind {e : Option PySem.Expr} {P : Option Nat → Mu → Prop} (h : EvP c n sc m mu e P) {env : Env} {A : Around} {s : Shared} (he : env.scope = sc) (hA : AOk n A) (ht : 0 < s.toks) (S : St c mu s.heap) (F : Fm c mu s.heap env m)
    {Q : Value → Shared → Prop} {E : Value → Shared → Prop}
    (k : ∀ (o : Option (Int × Tok)) s1 (p : Option Nat) mu1, P p mu1 → o.map (·.1) = Option.map (fun k : Nat => (k : Int)) p → Step c noT mu s mu1 s1 → 0 < s1.toks → St c mu1 s1.heap → Fm c mu1 s1.heap env m → TK s.heap s1.heap → Q (partValue o) s1) : wpAny c.M A (evalPart e env) Q E s := by
  cases e with
  | none => exact wpAny_evalPart_none (k .none s .none mu h rfl (Step.refl S) ht S F (fun _ _ e _ => e))
  | some e =>
    refine wpAny_evalPart_some (EvE.bind h he hA ht S F fun v s1 d mu1 hp x t S1 F1 r tk => ?_)
    obtain ⟨j, rfl, hp⟩ := hp
    cases r with | int _ t => exact k (.some (_, _)) s1 (.some j) mu1 hp rfl x ‹_› S1 F1 tk
/- # slices of lists -/
def ListAt (c : Cx) (mu : Mu) (l : Addr) (xs : List PV) : Prop := mu l = some (.list xs) ∨ BaseList c l xs
theorem ListAt.at {l : Addr} {xs : List PV} (h : ListAt c mu l xs) {hp : Heap} (S : St c mu hp) : ∃ vs, hp.IsList l vs.toArray ∧ Reps hp xs vs := by
  rcases h with h | h
  · obtain ⟨vs, k, e, rs⟩ := S.objs l _ h; exact ⟨vs, ⟨_, e, rfl, k, rfl⟩, rs⟩
  · exact h.at S
theorem part_is {o : Option (Int × Tok)} : IsPart (partValue o) (o.map (·.1)) := by
  cases o with
  | none => exact .none
  | some p => exact .int _ _
theorem pick_pk (vs : List Value) (lo hi : Option Nat) (hh : lo = none ∨ hi = none) : slicePick vs.toArray (Option.map (fun k : Nat => (k : Int)) lo) (Option.map (fun k : Nat => (k : Int)) hi) none = (pk vs lo hi).toArray := by
  cases lo with
  | none => cases hi with
    | none => rw [Option.map_none, slicePick_all]; simp [pk]
    | some b => rw [Option.map_none, Option.map_some, slicePick_upto']; simp [pk]
  | some a => cases hi with
    | none => rw [Option.map_none, Option.map_some, slicePick_from']; simp [pk]
    | some b => rcases hh with h | h <;> cases h
/- # lists -/
theorem CallV.append {l : Addr} {xs : List PV} {d : PV} {P : PV → Mu → Prop} (hl : mu l = some (.list xs)) (hsz : xs.length ≤ sizeLine) (h : P .none (upd mu l (.list (xs ++ [d])))) : CallV c n mu (.builtin "list.append") [.ref l, d] [] P := fun A s vs kvs hA ht S r rk => by
  cases r with | cons r0 r =>
  cases r with | cons r1 r =>
  cases r; cases rk; cases r0
  rename_i v
  obtain ⟨ws, k, e, rs⟩ := S.objs l _ hl
  refine wpAny_list_append_plain (items := ws.toArray) ⟨k, e⟩ (fun h' hl' hs' => ?_) (by rw [List.size_toArray, rs.length]; exact hsz)
  obtain ⟨k', e'⟩ := hl'
  have tk : TK s.heap h' := fun b o eb hto => hs'.extBut b o (fun q => by subst q; rw [e] at eb; cases eb; exact list_notT hto) eb
  refine ⟨.none, _, h, Step.set (k := s.toks) S (by rw [hl]; simp) hs' ⟨ws ++ [v], k', by rw [e']; simp, (rs.mono tk).append (.cons (r1.mono tk) .nil)⟩, .none⟩
theorem EvE.appendC {o e : PySem.Expr} {apos pos : Pos} {P : PV → Mu → Prop} (h : EvE c n sc m mu o fun d mu0 => ∃ l ys, d = .ref l ∧ mu0 l = some (.list ys) ∧ EvE c n sc m mu0 e fun x mu1 => ∃ xs, mu1 l = some (.list xs) ∧ xs.length ≤ sizeLine ∧ P .none (upd mu1 l (.list (xs ++ [x]))))
    (hb : ∀ env, attributeBase o "append" env (eval o env) = eval o env := by intro _; rfl) (hse : ∀ env, starEach [e] env = (false, eval e env) :: starEach [] env := by intro _; rfl) (hst : noStar [e] = true := by rfl) (hline : (apos.endLine == pos.line) = true := by rfl) : EvE c n sc m mu (.Call (.Attribute o "append" apos) [e] [] pos) P := by
  refine EvE.methB (h.imp fun d mu0 ⟨l, ys, e1, hl, q⟩ => ⟨"list.append", ?_, EvA.cons (q.imp fun x mu1 ⟨xs, h1, h2, h3⟩ => EvA.nil ?_) ?_⟩) hb hst (by simp) hline
  · subst e1; exact Meth.list hl F.slot_list_append F.type_list_append
  · subst e1; exact CallV.append h1 h2 h3
  · exact hse
theorem OpB.addL {l b : Addr} {xs ys : List PV} {P : PV → Mu → Prop} (hl : ListAt c mu l xs) (hb : ListAt c mu b ys) (hsz : xs.length + ys.length ≤ sizeLine) (h : ∀ D, mu D = none → P (.ref D) (upd mu D (.list (xs ++ ys)))) : OpB c n mu .Add (.ref l) (.ref b) P := fun A s va vb hA ht S ra rb => by
  cases ra; cases rb
  obtain ⟨vs, hli, rs⟩ := hl.at S
  obtain ⟨ws, hlb, rb⟩ := hb.at S
  obtain ⟨⟨cls, dd, data, sl⟩, ho, hc, k, hd⟩ := id hli
  obtain ⟨⟨cls2, dd2, data2, sl2⟩, ho2, hc2, k2, hd2⟩ := id hlb
  simp only at hc hd hc2 hd2
  subst hc hd hc2 hd2
  have e : vs.toArray ++ ws.toArray = (vs ++ ws).toArray := by simp
  refine concat_meets ⟨_, ho, rfl⟩ ⟨_, ho2, rfl⟩ noFill_list_add seq_list_add PySem.F.slot_list_add PySem.F.entry_list_add (PySem.F.args_list_add_2 _ _) (list_addW l b vs.toArray ws.toArray k k2 dd dd2 sl sl2 (by simpa [rs.length, rb.length] using hsz)) ⟨ho, ho2, ?_⟩
  rw [e]
  exact ⟨_, _, h _ (S.off (Nat.le_refl _)), Step.pushT S ⟨_, 0, Heap.get?_push_size _ rfl, (rs.append rb).mono fun b o e _ => Heap.get?_push_of_some _ e⟩, .ref _⟩
end
end Mine

open PySem PySem.W PySem.Calls PyProof.Rows
set_option Elab.async false
set_option linter.unusedVariables false
set_option maxRecDepth 100000
namespace Mine
section
variable {c : Cx} {n : Nat} {sc : Scope} {m : Lm} {mu : Mu}

/- # tuples -/
/- # equality -/
open SeqAt in
open SeqAt in
open SeqAt in
end
end Mine

open PySem PySem.W PySem.Calls PyProof.Rows
set_option Elab.async false
set_option linter.unusedVariables false
set_option maxRecDepth 100000
namespace Mine
section
variable {c : Cx} {n : Nat} {sc : Scope} {m : Lm} {mu : Mu}

/- two lists that nothing else holds -/
theorem OpB.addTmp {mu0 : Mu} {l b : Addr} {xs ys : List PV} {P : PV → Mu → Prop} (h0 : mu0 l = none) (h1 : upd mu0 l (.list xs) b = none) (hsz : xs.length + ys.length ≤ sizeLine) (h : ∀ D, mu0 D = none → P (.ref D) (upd mu0 D (.list (xs ++ ys)))) : OpB c n (upd (upd mu0 l (.list xs)) b (.list ys)) .Add (.ref l) (.ref b) P := fun A s va vb hA ht S ra rb => by
  have hbl : b ≠ l := fun q => by rw [q] at h1; simp at h1
  have hl : upd (upd mu0 l (.list xs)) b (.list ys) l = some (.list xs) := by rw [upd_ne _ _ (Ne.symm hbl)]; simp
  have hb : upd (upd mu0 l (.list xs)) b (.list ys) b = some (.list ys) := by simp
  have hs1 : Sub mu0 (upd (upd mu0 l (.list xs)) b (.list ys)) := (sub_upd h0).trans (sub_upd h1)
  refine wpAny_mono (OpB.addL (n := n) (P := fun d mu2 => ∃ D, upd (upd mu0 l (.list xs)) b (.list ys) D = none ∧ d = .ref D ∧ mu2 = upd (upd (upd mu0 l (.list xs)) b (.list ys)) D (.list (xs ++ ys))) (.inl hl) (.inl hb) hsz (fun D hD => ⟨D, hD, rfl, rfl⟩) A s va vb hA ht S ra rb) (fun v s' ⟨d, mu2, ⟨D, hD, e1, e2⟩, x, r⟩ => ?_) fun _ _ x => x
  subst e1; subst e2
  have hD0 : mu0 D = none := by
    cases q : mu0 D with
    | none => rfl
    | some z => rw [hs1 D z q] at hD; cases hD
  refine ⟨_, _, h D hD0, x.forget fun a o e => ?_, r⟩
  by_cases hq : a = D
  · subst hq; simp at e ⊢; exact e
  · rw [upd_ne _ _ hq] at e ⊢; exact hs1 a o e
theorem pk_all {α : Type} (l : List α) : pk l none none = l := by simp [pk]
end
end Mine

open PySem PySem.W PySem.Calls PyProof.Rows
set_option Elab.async false
set_option linter.unusedVariables false
set_option maxRecDepth 100000
namespace Mine
section
variable {c : Cx} {n : Nat} {sc : Scope} {m : Lm} {mu : Mu}

/- # objects of own classes -/
theorem inst_at {x C dx : Addr} {es : List DictEntry} {k : Nat} (hx : mu x = some (.inst C dx)) (hd : mu dx = some (.obj (dictOf es k))) {h : Heap} (S : St c mu h) : PySem.W.InstAt h x (instObj C dx) C (some (dictOf es k)) :=
  ⟨S.objs x _ hx, rfl, rfl, (S.objs dx _ hd).1⟩
theorem Meth.inst {K : Frag} {x C dx f : Addr} {es : List DictEntry} {k : Nat} {name : Str} (hK : K.In c.base) (hx : mu x = some (.inst C dx)) (hd : mu dx = some (.obj (dictOf es k))) (hg : plainGet K C name = true)
    (hf : findIn K (.ref C) name = some (some (.ref f))) (ht : isFn K (.ref f) = true) (hl : getL name es = some none) : Meth c mu (.ref x) name (.ref f) := fun A s v pl Q E S r h => by
  cases r
  exact method_fn (hK.keeps S.base) (inst_at hx hd S) (plainGet_of hg).1 (plainGet_of hg).2 hf (beq_iff_eq.mp ht) (by show (lookIn name (dictOf es k)).map _ = _; rw [lookIn_dict, hl]; rfl) h
theorem EvE.attrOwn {K : Frag} {value : PySem.Expr} {name : Str} {pos : Pos} {P : PV → Mu → Prop} (hK : K.In c.base)
    (h : EvE c n sc m mu value fun d mu1 => ∃ x C dx es k v dv attr, d = .ref x ∧ mu1 x = some (.inst C dx) ∧ mu1 dx = some (.obj (dictOf es k)) ∧ plainGet K C name = true ∧ hasDictIn K C = true ∧ findIn K (.ref C) name = some attr ∧ noGet K attr = true ∧ getL name es = some (some v) ∧ handedIn v = true ∧ (∀ h, Rep h dv v) ∧ P dv mu1)
    (hb : ∀ env, attributeBase value name env (eval value env) = eval value env := by intro _; rfl) (ht : ∀ o r, letTemporaryGo value o r = pure () := by intro _ _; rfl) : EvE c n sc m mu (.Attribute value name pos) P := by
  intro env A s he hA htk S F
  rw [arm_eval_Attribute, hb]
  refine wpAny_bind (EvE.bind h he hA htk S F fun v0 s1 d mu1 h1 x1 t1 S1 F1 r1 _ => ?_)
  obtain ⟨x, C, dx, es, k, v, dv, attr, rfl, hx, hd, hg, hh, ha, hn, hl, hv, hr, hP⟩ := h1
  cases r1
  refine wpAny_bind (wpAny_standAt (wpAny_bind (wpAny_holding ?_)))
  refine get_value (hK.keeps S1.base) (inst_at hx hd S1) (plainGet_of hg).1 (findObj_own hh ha hn hl) hv ?_
  refine wpAny_bind (wpAny_of_eq (ht _ _) (wpAny_pure ?_))
  exact ⟨dv, mu1, hP, x1.trans (Step.tok S1), hr _⟩

/- # making -/
def CallK (c : Cx) (n : Nat) (mu : Mu) (f : Value) (args : List PV) (kw : List (Str × PV)) (P : PV → Mu → Prop) : Prop :=
  ∀ A s vs kvs, AOk n A → 0 < s.toks → St c mu s.heap → Reps s.heap args vs → RepD s.heap kw kvs →
    codeAny c.M A (.call f ⟨vs, kvs⟩) (fun r s' => match r with | .ok (.ret v) => Post c mu s P v s' | .ok _ => False | .error e => False) s
theorem CallK.fn {a : Addr} {fd : FuncData} {body : List Stmt} {args : List PV} {kw : List (Str × PV)} {P : PV → Mu → Prop} (hf : FnOk c a fd body)
    (h : Binds c mu fd args kw fun binds mu1 => (binds.map (·.1)).Nodup ∧ kindsOk fd.scope.names (binds.map (·.1)) = true ∧ ExS c n fd.scope binds mu1 body fun fl _ mu2 => P (retOf fl) mu2) :
    CallK c (n + 1) mu (.ref a) args kw P := by
  intro A s vs kvs hA ht S r rk
  obtain ⟨o, ho, hd⟩ := hf.obj
  refine codeAny_call_function hA.room (S.base _ _ ho) hd hf.co hf.gen hf.body (hf.code.keeps S.base) ?_
  rw [hf.clos]
  refine wpAny_mono (wpAny_toks (h A.in1 s vs kvs (hA.in1.le (Nat.zero_le _)) S r rk)) (fun bv s1 p => ?_) fun _ _ x => x.2.elim
  obtain ⟨hle, binds, mu1, ⟨hnd, hko, hx⟩, x1, rb⟩ := p
  refine wpAny_with_toks (n := 1) (Nat.lt_of_lt_of_le ht hle) (wpAny_newFunctionEnv_cells hf.kind (fun y hy => ?_) fun env he s2 I ht2 => fn_body hf hA x1 rb hnd hko hx he I ht2)
  have := List.all_eq_true.mp hko y.1 (rb.names ▸ List.mem_map_of_mem hy)
  have q : fd.scope.names.lookup y.1 = some .local ∨ fd.scope.names.lookup y.1 = some .cell := by simpa using this
  exact q.imp id fun q => ⟨q, cellsFrom_has _ _ _ (.inl q)⟩
theorem AOk.typeCall {A : Around} {C : Addr} {rest : List Value} {kw : List (Str × Value)} (h : AOk (n + 1) A) : AOk n (A.under (.builtin "type.__call__" ⟨.ref C :: rest, kw⟩)) := by
  have hw : (Code.builtin "type.__call__" ⟨.ref C :: rest, kw⟩).weight = 1 := by kernel_rfl
  have hu : (Code.builtin "type.__call__" ⟨.ref C :: rest, kw⟩).cUnits = 1 := by kernel_rfl
  refine ⟨h.hd, ?_, ?_⟩
  · show A.depth + (Code.builtin "type.__call__" _).weight + n < _
    have := h.dp; rw [hw]; omega
  · show A.units + (Code.builtin "type.__call__" _).cUnits + 20 * n < _
    have := h.un; rw [hu]; omega
theorem CallV.make {K : Frag} {C fI : Addr} {args : List PV} {kw : List (Str × PV)} {P : PV → Mu → Prop} (hK : K.In c.base) (hm : makesIn K C = true) (hi : findIn K (.ref C) "__init__" = some (some (.ref fI))) (hf : typeIn K (.ref fI) = some (.type "function"))
    (h : ∀ x dx, mu x = none → mu dx = none → x ≠ dx → CallK c n (upd (upd mu dx (.obj (dictOf [] 0))) x (.inst C dx)) (.ref fI) (.ref x :: args) kw fun d mu2 => d = .none ∧ P (.ref x) mu2) : CallV c (n + 1) mu (.ref C) args kw P := by
  intro A s vs kvs hA ht S r rk
  refine wpAny_call ?_
  have X := hK.keeps S.base
  have x1 : Step c noT mu s (upd mu s.heap.objs.size (.obj (dictOf [] 0))) { s with heap := s.heap.push emptyDict } := Step.push S ⟨Heap.get?_push_size _ rfl, by simp [IsT]⟩
  have x2 := Step.push (T := noT) (s := { s with heap := s.heap.push emptyDict }) (o := instObj C s.heap.objs.size) (x := .inst C s.heap.objs.size) x1.st (Heap.get?_push_size _ rfl)
  have hsz : (s.heap.push emptyDict).objs.size = s.heap.objs.size + 1 := Heap.size_push ..
  obtain ⟨hp, g, d, t, os⟩ := s
  simp only at *
  rw [hsz] at x2
  refine make_core (makes_of X hm) (looks_findIn X hi) (fun self => bind_fn X self hf) (.inl rfl) ?_
  have tk : TK hp ((hp.push emptyDict).push (instObj C hp.objs.size)) := fun b o e _ => Heap.get?_push_of_some _ (Heap.get?_push_of_some _ e)
  refine codeAny_mono (h (hp.objs.size + 1) hp.objs.size (S.off (Nat.le_succ _)) (S.off (Nat.le_refl _)) (Nat.ne_of_gt (Nat.lt_succ_self _)) _ ⟨(hp.push emptyDict).push (instObj C hp.objs.size), g, d, t, os⟩ (.ref (hp.objs.size + 1) :: vs) kvs hA.typeCall ht x2.st (.cons (.ref _) (r.mono tk)) (rk.mono tk)) fun r' s' q => ?_
  match r', q with
  | .ok (.ret v), q =>
    obtain ⟨d', mu2, ⟨e1, hP⟩, x3, r3⟩ := q
    subst e1; cases r3
    exact ⟨rfl, _, mu2, hP, (x1.trans x2).trans x3, .ref _⟩

/- # storing an attribute -/
theorem osa_own {K : Frag} {A : Around} {s : Shared} {x C dx : Addr} {es : List DictEntry} {k : Nat} {name : Str} {tk : Tok} {v : Value} {R : Result → Shared → Prop} (X : K.In s.heap) (I : PySem.W.InstAt s.heap x (instObj C dx) C (some (dictOf es k)))
    (hp : plainOver K C = true) (ht : takerIn K C name = some none) (hh : hasDictIn K C = true) (hl : (getL name es).isSome = true) (hz : (putL name (PyData.keyHash c.w.params name) (.str name s.toks) v es).length ≤ 1000)
    (h : ∀ h', h'.get? dx = some (dictOf (putL name (PyData.keyHash c.w.params name) (.str name s.toks) v es) (putN name es k)) → Heap.SameBut dx s.heap h' → R (.ok (.ret .none)) { s with heap := h', toks := s.toks + 1 }) :
    codeAny c.M A (.call (.builtin "object.__setattr__") ⟨[.ref x, .str name tk, v], []⟩) R s := by
  refine osa_open X I hp ht fun b => ?_
  obtain ⟨cd, hc, hd'⟩ := any_some hh
  have D : s.heap.get? dx = some (dictOf es k) := I.dict
  have hput := putName_dict name (PyData.keyHash c.w.params name) (.str name s.toks) v es k
  have D' : (s.heap.update dx (Obj.putName name (PyData.keyHash c.w.params name) (.str name s.toks) v)).get? dx = some (dictOf (putL name (PyData.keyHash c.w.params name) (.str name s.toks) v es) (putN name es k)) := by
    rw [← hput]
    exact Heap.get?_update_self _ D (by rw [hput]; rfl)
  refine wpAny_bind (wpAny_pure (wpAny_bind (wpAny_bind (wpAny_loadPart I.at_ (wpAny_bind ((looks_clsIn X hc).here ?_))))))
  rw [hd']
  refine wpAny_pure (a := some dx) (wpAny_bind (wpAny_pure (wpAny_bind ?_)))
  unfold nsSet
  refine wpAny_bind (wpAny_bind (wpAny_askSetting (wpAny_pure (wpAny_bind (wpAny_mkText (wpAny_bind (wpAny_loadPart D ?_)))))))
  have cc : (!es.toArray.any (·.key.isStr name) && es.toArray.any (·.refKey)) = false := by
    rw [List.any_toArray, List.any_toArray]
    unfold getL at hl
    split at hl
    · rename_i en he
      rw [List.any_eq_true.mpr ⟨en, List.mem_of_find?_eq_some he, List.find?_some he⟩]; rfl
    · split at hl
      · cases hl
      · rename_i z; rw [Bool.not_eq_true] at z; rw [z, Bool.and_false]
  dsimp only
  rw [aRefKeyMayBeTheName_at, cc]
  refine wpAny_updatePart D ?_
  refine wpAny_bind (wpAny_lookBehind D' (pastItsLine_dict (by rw [List.size_toArray, sizeLine_eq]; omega)) ?_)
  exact wpAny_pure (h _ D' (Heap.SameBut.update ..))
theorem AsgT.attrRef {Kb : Bool} {K : Frag} {o : PySem.Expr} {name : Str} {pos : Pos} {l : Addr} {P : Lm → Mu → Prop} (hK : K.In c.base)
    (h : EvE c n sc m mu o fun dv mu1 => ∃ x C dx es k, dv = .ref x ∧ mu1 x = some (.inst C dx) ∧ mu1 dx = some (.obj (dictOf es k)) ∧ findIn K (.ref C) "__setattr__" = some (some (.builtin "object.__setattr__")) ∧ plainOver K C = true ∧ takerIn K C name = some none ∧ hasDictIn K C = true ∧ (getL name es).isSome = true ∧
      ∀ tok, (putL name (PyData.keyHash c.w.params name) (.str name tok) (.ref l) es).length ≤ 1000 ∧ P m (upd mu1 dx (.obj (dictOf (putL name (PyData.keyHash c.w.params name) (.str name tok) (.ref l) es) (putN name es k))))) : AsgT Kb c n sc m mu (.Attribute o name pos) (.ref l) P := by
  intro env A s v he hA ht S F r
  cases r
  rw [arm_assign_Attribute]
  refine wpAny_bind (wpAny_holding (EvE.bind h he hA ht S F fun v0 s1 d mu1 h1 x1 t1 S1 F1 r1 _ => ?_))
  obtain ⟨x, C, dx, es, k, rfl, hx, hd, hs, hp, htk, hh, hl, hP⟩ := h1
  cases r1
  refine wpAny_bind (wpAny_standAt (wpAny_bind (wpAny_holding ?_)))
  have X := hK.keeps S1.base
  have I := inst_at hx hd S1
  refine set_plain X I hs (osa_own (s := { s1 with toks := s1.toks + 1 }) X I hp htk hh hl (hP _).1 fun h' e' hs' => ?_)
  have x2 : Step c (TchK Kb env) mu1 s1 _ { s1 with heap := h', toks := s1.toks + 1 + 1 } := Step.set (k := s1.toks + 1 + 1) S1 (by rw [hd]; simp) hs' (x := .obj (dictOf (putL name (PyData.keyHash c.w.params name) (.str name (s1.toks + 1)) (.ref l) es) (putN name es k))) ⟨e', by simp [IsT]⟩
  have F2 : Fm c (upd mu1 dx (.obj (dictOf (putL name (PyData.keyHash c.w.params name) (.str name (s1.toks + 1)) (.ref l) es) (putN name es k)))) h' env m := F1.step S1 (s1 := { s1 with heap := h', toks := s1.toks + 1 + 1 }) (Step.set (T := noT) (k := s1.toks + 1 + 1) S1 (by rw [hd]; simp) hs' ⟨e', by simp [IsT]⟩)
  refine wpAny_release ?_
  exact ⟨m, _, (hP _).2, x1.toT.trans x2, F2⟩
end
end Mine

open PySem PySem.W PySem.Calls PyProof.Rows
set_option Elab.async false
set_option linter.unusedVariables false
set_option maxRecDepth 100000
namespace Mine
def isCtl (ch : Nat) : Bool := decide (ch ≤ 31) || decide (ch = 127)
def ctlCode : Array Nat := #[14, 10, 4, 1, 1, 22, 0, 31, 16, 127, 0, 13, 7, 22, 0, 31, 16, 127, 0, 1]
theorem ctl_at (ch : Nat) (seen : Sre.Seen) : Sre.inSet ctlCode ch 20 5 true seen = if (decide (0 ≤ ch) && decide (ch ≤ 31)) = true then .ok (true, seen.add 22) else if (ch == 127) = true then .ok (true, (seen.add 22).add 16) else .ok (false, ((seen.add 22).add 16).add 0) := by rfl
theorem ctl_in (ch : Nat) (seen : Sre.Seen) : Sre.accepts ctlCode 11 ch seen = if (decide (0 ≤ ch) && decide (ch ≤ 31)) = true then .ok (true, seen.add 22) else if (ch == 127) = true then .ok (true, (seen.add 22).add 16) else .ok (false, ((seen.add 22).add 16).add 0) := by rfl
theorem ctl_go (ch : Nat) (seen : Sre.Seen) {r : Except String (Bool × Sre.Seen)} (h : r = if (decide (0 ≤ ch) && decide (ch ≤ 31)) = true then .ok (true, seen.add 22) else if (ch == 127) = true then .ok (true, (seen.add 22).add 16) else .ok (false, ((seen.add 22).add 16).add 0)) : ∃ seen', r = .ok (isCtl ch, seen') := by
  rw [h]
  unfold isCtl
  by_cases h1 : ch ≤ 31
  · simp [h1]
  · by_cases h2 : ch = 127
    · simp [h2]
    · simp [h1, h2]
theorem ctl_set : SetCode ctlCode isCtl where
  head := .inr (by decide +kernel)
  info := by decide +kernel
  info0 := by decide +kernel
  first := fun ch seen => ctl_go ch seen (ctl_at ch seen)
  body := fun ch seen => by
    have e : (Sre.header ctlCode).2 = 11 := by decide +kernel
    rw [e]
    exact ctl_go ch seen (ctl_in ch seen)
  isIn := by decide +kernel
  width := by decide +kernel
  size := by decide +kernel
def isCtlV (ch : Nat) : Bool := decide (ch ≤ 8) || (decide (10 ≤ ch) && decide (ch ≤ 31)) || decide (ch = 127)
def ctlVCode : Array Nat := #[14, 14, 4, 1, 1, 9, 4294966783, 0, 0, 2147483648, 0, 0, 0, 0, 0, 13, 11, 9, 4294966783, 0, 0, 2147483648, 0, 0, 0, 0, 0, 1]
def setBitV (ch : Nat) : Bool := decide (ch < 256) && (ctlVCode.getD (5 + (1 + ch / 32)) 0).testBit (ch % 32)
theorem setBitV_is (ch : Nat) : setBitV ch = isCtlV ch := by
  by_cases h : ch < 256
  · have : ∀ k : Fin 256, setBitV k.1 = isCtlV k.1 := by decide +kernel
    exact this ⟨ch, h⟩
  · have h1 : setBitV ch = false := by unfold setBitV; simp [h]
    have h2 : isCtlV ch = false := by
      unfold isCtlV
      simp only [Bool.or_eq_false_iff, Bool.and_eq_false_iff, decide_eq_false_iff_not]
      omega
    rw [h1, h2]
theorem ctlV_first (ch : Nat) (seen : Sre.Seen) : Sre.inSet ctlVCode ch 28 5 true seen = if setBitV ch = true then .ok (true, seen.add 9) else .ok (false, (seen.add 9).add 0) := by rfl
theorem ctlV_body (ch : Nat) (seen : Sre.Seen) : Sre.accepts ctlVCode 15 ch seen = if (decide (ch < 256) && (ctlVCode.getD (17 + (1 + ch / 32)) 0).testBit (ch % 32)) = true then .ok (true, seen.add 9) else .ok (false, (seen.add 9).add 0) := by rfl
theorem ctlV_set : SetCode ctlVCode isCtlV where
  head := .inl (by decide +kernel)
  info := by decide +kernel
  info0 := by decide +kernel
  first := fun ch seen => by
    rw [← setBitV_is]
    show ∃ seen', Sre.inSet ctlVCode ch 28 5 true seen = _
    rw [ctlV_first]
    cases setBitV ch <;> exact ⟨_, rfl⟩
  body := fun ch seen => by
    rw [← setBitV_is]
    have e : (Sre.header ctlVCode).2 = 15 := by decide +kernel
    rw [e, ctlV_body]
    have e2 : ∀ k, k < 8 → ctlVCode.getD (17 + (1 + k)) 0 = ctlVCode.getD (5 + (1 + k)) 0 := by decide +kernel
    have e3 : (decide (ch < 256) && (ctlVCode.getD (17 + (1 + ch / 32)) 0).testBit (ch % 32)) = setBitV ch := by
      unfold setBitV
      by_cases h : ch < 256
      · rw [e2 (ch / 32) (by omega)]
      · simp [h]
    rw [e3]
    cases setBitV ch <;> exact ⟨_, rfl⟩
  isIn := by decide +kernel
  width := by decide +kernel
  size := by decide +kernel
end Mine

open PySem PySem.W PySem.Calls PyProof.Rows
set_option Elab.async false
set_option linter.unusedVariables false
set_option maxRecDepth 100000
namespace Mine
section
variable {c : Cx} {n : Nat} {sc : Scope} {m : Lm} {mu : Mu}
/- # types -/
theorem CallV.typeStr {x : Str} {P : PV → Mu → Prop} (h : P (.ty "str") mu) : CallV c n mu (.type "type") [.str x] [] P := fun A s vs kvs hA ht S r rk => by
  cases r with | cons r0 r =>
  cases r; cases rk; cases r0
  exact call_type_of (typeIs_str _ _ _) (by decide) (Post.pure0 S h (.ty _))
theorem CallV.typeList {l : Addr} {xs : List PV} {P : PV → Mu → Prop} (hl : mu l = some (.list xs)) (h : P (.ty "list") mu) : CallV c n mu (.type "type") [.ref l] [] P := fun A s vs kvs hA ht S r rk => by
  cases r with | cons r0 r =>
  cases r; cases rk; cases r0
  obtain ⟨vs, k, e, rs⟩ := S.objs l _ hl
  exact call_type_of ⟨_, e, rfl⟩ (by decide) (Post.pure0 S h (.ty _))
theorem OpC.isTy {a b : String} {P : PV → Mu → Prop} (h : P (.bool (decide (a = b))) mu) : OpC c n mu .Is (.ty a) (.ty b) P := fun A s va vb hA ht S ra rb => by
  cases ra; cases rb
  refine wpAny_is_plain rfl (Post.pure0 S h ?_)
  have : (Value.type a == Value.type b) = decide (a = b) := by
    by_cases h : a = b
    · subst h; simp
    · simp [h]
  rw [this]; exact .bool _
theorem OpC.isNotTy {a b : String} {P : PV → Mu → Prop} (h : P (.bool (decide (a ≠ b))) mu) : OpC c n mu .IsNot (.ty a) (.ty b) P := fun A s va vb hA ht S ra rb => by
  cases ra; cases rb
  refine wpAny_isNot_plain rfl (Post.pure0 S h ?_)
  have : (!(Value.type a == Value.type b)) = decide (a ≠ b) := by
    by_cases h : a = b
    · subst h; simp
    · simp [h]
  rw [this]; exact .bool _
theorem Binds.k21 {fd : FuncData} {x y z : Str} {d e f : PV} {K : List (Str × PV) → Mu → Prop} (hb : ∀ v w u, bindArgs fd ⟨[v, w], [(z, u)]⟩ = pure [(x, v), (y, w), (z, u)]) (h : K [(x, d), (y, e), (z, f)] mu) : Binds c mu fd [d, e] [(z, f)] K := fun A s vs kvs hA S r rk => by
  cases r with | cons r0 r =>
  cases r with | cons r1 r =>
  cases r
  cases rk with | cons r2 rk =>
  cases rk
  rw [hb]; exact wpAny_pure ⟨_, mu, h, Step.refl S, .cons r0 (.cons r1 (.cons r2 .nil))⟩
/- given arguments and defaults that are constants -/
theorem Binds.dflt {fd : FuncData} {args : List PV} {xs : List (Str × PV)} {T : Addr} {items : Array Value} {k : Nat} {o : Obj} {K : List (Str × PV) → Mu → Prop} (ht : c.base.get? T = some o) (hd : o.data = .seq items k)
    (hb : ∀ (h : Heap) vs, Reps h args vs → ∃ g ys, bindArgs fd ⟨vs, []⟩ = (seqItems? (.ref T) >>= g) ∧ g (some items) = pure ys ∧ RepD h xs ys) (h : K xs mu) : Binds c mu fd args [] K := fun A s vs kvs hA S r rk => by
  cases rk
  obtain ⟨g, ys, e1, e2, r2⟩ := hb s.heap vs r
  rw [e1]
  refine wpAny_bind (wpAny_seqItems (S.base _ _ ht) hd ?_)
  rw [e2]
  exact wpAny_pure ⟨_, mu, h, Step.refl S, r2⟩
/- # slices of lists that an expression gives -/
theorem sub_slice {M : Model} {A : Around} {E : Value → Shared → Prop} {s : Shared} {env : Env} {value : PySem.Expr} {lower upper : Option PySem.Expr} {p pos : Pos} {T id : String} {Q : Value → Shared → Prop}
    (hgo : ∀ {o r : Value} {s : Shared} {Q : Unit → Shared → Prop}, Q () s → wpAny M A (letTemporaryGo value o r) Q E s)
    (hl : typeLookup (.type T) "__getitem__" = pure (some (.builtin id)))
    (h : wpAny M A (eval value env) (fun o s₁ => wpAny M A (eval (.Slice lower upper none p) env) (fun i s₂ => s₂.TypeIs o T ∧ wpAny M A (getItem o i) Q E s₂) E s₁) E s) :
    wpAny M A (eval (.Subscript value (.Slice lower upper none p) pos) env) Q E s := by
  rw [arm_eval_Subscript]
  refine wpAny_bind (wpAny_mono h (fun o s₁ h₁ => wpAny_bind (wpAny_holding (wpAny_mono h₁ (fun i s₂ h₂ => wpAny_bind (wpAny_standAt ?_)) fun _ _ x => x))) fun _ _ x => x)
  rw [getitemInPython_of_ne h₂.1.not_modules]
  have fin : wpAny M A (operate [i, o] (getItem o i)) (fun r s₃ => wpAny M A (letTemporaryGo value o r >>= fun _ => pure r) Q E s₃) E s₂ :=
    wpAny_operating (wpAny_mono h₂.2 (fun r s₃ h₃ => wpAny_bind (hgo (wpAny_pure h₃))) fun _ _ x => x)
  refine wpAny_bind ?_
  first
    | exact wpAny_bind (wpAny_specialOf h₂.1 hl (wpAny_pure (wpAny_bind fin)))
    | exact wpAny_bind (wpAny_specialOf h₂.1 hl (wpAny_bind (wpAny_pure (wpAny_bind fin))))
    | exact wpAny_bind (wpAny_specialOf h₂.1 hl (wpAny_pure (wpAny_bind fin)))
    | exact wpAny_bind (wpAny_specialOf h₂.1 hl (wpAny_bind fin))
theorem EvE.sliceL2 {value : PySem.Expr} {lower upper : Option PySem.Expr} {p pos : Pos} {P : PV → Mu → Prop}
    (h : EvE c n sc m mu value fun d mu1 => EvP c n sc m mu1 lower fun lo mu2 => EvP c n sc m mu2 upper fun hi mu3 => ∃ l xs, d = .ref l ∧ ListAt c mu3 l xs ∧ (lo = none ∨ hi = none) ∧ xs.length ≤ sizeLine ∧ ∀ D, mu3 D = none → P (.ref D) (upd mu3 D (.list (pk xs lo hi)))) : EvE c n sc m mu (.Subscript value (.Slice lower upper none p) pos) P := by
  intro env A s he hA htk S F
  refine sub_slice (T := "list") wpAny_letTemporaryGo list_getitem_lookup (EvE.bind h he hA htk S F fun v s1 d mu1 h1 x1 t1 S1 F1 r1 _ => ?_)
  refine wpAny_Slice (EvP.bind h1 he hA t1 S1 F1 fun o1 s2 lo mu2 h2 e1 x2 t2 S2 F2 k2 => ?_)
  refine EvP.bind h2 he hA t2 S2 F2 fun o2 s3 hi mu3 h3 e2 x3 t3 S3 F3 k3 => ?_
  obtain ⟨l, xs, rfl, hl, hor, hsz, h3⟩ := h3
  cases r1
  obtain ⟨vs, hli, rs⟩ := hl.at S3
  refine wpAny_evalPart_none ⟨(hli.push _).typeIs, ?_⟩
  refine wpAny_getItem_list_slice (hli.push _) (Heap.IsSliceOf.new ..) part_is part_is .none (by simp) ?_ (by rw [List.size_toArray, rs.length]; exact hsz)
  rw [e1, e2, pick_pk vs lo hi hor, Heap.size_push]
  let sl : Obj := { cls := .type "slice", data := .fields #[partValue o1, partValue o2, .none] }
  have x4 : Step c noT mu3 s3 mu3 { s3 with heap := s3.heap.push sl } := Step.pushOff S3
  have hsz4 : (s3.heap.push sl).objs.size = s3.heap.objs.size + 1 := Heap.size_push ..
  have rs4 : Reps ((s3.heap.push sl).push (listOf (pk vs lo hi).toArray 0)) (pk xs lo hi) (pk vs lo hi) := by
    have : Reps s3.heap (pk xs lo hi) (pk vs lo hi) := by
      unfold pk; rw [rs.length]; exact (rs.take _).drop _
    exact this.mono fun b o e _ => Heap.get?_push_of_some _ (Heap.get?_push_of_some _ e)
  have x5 := Step.push (T := noT) (s := { s3 with heap := s3.heap.push sl }) (o := listOf (pk vs lo hi).toArray 0) (x := .list (pk xs lo hi)) x4.st ⟨_, 0, Heap.get?_push_size _ rfl, rs4⟩
  have hoff : mu3 (s3.heap.objs.size + 1) = none := S3.off (by omega)
  have x5' : Step c noT mu3 { s3 with heap := s3.heap.push sl } (upd mu3 (s3.heap.objs.size + 1) (.list (pk xs lo hi))) { s3 with heap := (s3.heap.push sl).push (listOf (pk vs lo hi).toArray 0) } := by
    rw [← hsz4]; exact x5
  exact ⟨_, _, h3 _ hoff, (((x1.trans x2).trans x3).trans x4).trans x5', .ref _⟩
end
end Mine

open PySem PySem.W PySem.Calls PyProof.Rows
set_option Elab.async false
set_option linter.unusedVariables false
set_option maxRecDepth 100000
namespace Mine
section
variable {c : Cx} {n : Nat} {sc : Scope} {m : Lm} {mu : Mu}

/- # special methods of own classes -/
structure InstK (c : Cx) (mu : Mu) (K : Frag) (x C f : Addr) (name : Str) : Prop where
  hK : K.In c.base
  inst : ∃ dx es k, mu x = some (.inst C dx) ∧ mu dx = some (.obj (dictOf es k))
  find : findIn K (.ref C) name = some (some (.ref f))
  fn : isFn K (.ref f) = true
theorem InstK.at {K : Frag} {x C f : Addr} {name : Str} (h : InstK c mu K x C f name) {hp : Heap} (S : St c mu hp) : ∃ ox od, PySem.W.InstAt hp x ox C od := by
  obtain ⟨dx, es, k, hx, hd⟩ := h.inst
  exact ⟨_, _, inst_at hx hd S⟩
/- # l[:] = .. -/
end
end Mine

open PySem PySem.W PySem.Calls PyProof.Rows
set_option Elab.async false
set_option linter.unusedVariables false
set_option maxRecDepth 100000
namespace Mine
/- # enumerate over a list that only it sees -/
def tupT (t : PySem.Expr) : Prop := ∃ elts k pos, t = .Tuple elts k pos
theorem tupT.mk {elts : List PySem.Expr} {k : Nat} {pos : Pos} : tupT (.Tuple elts k pos) := ⟨_, _, _, rfl⟩
def enumL (xs : List PV) : List PV := xs.zipIdx.map fun p => .tuple [.int (p.2 : Int), p.1]
theorem enumL_get {xs : List PV} {i : Nat} {x : PV} (h : (enumL xs)[i]? = some x) : ∃ d, xs[i]? = some d ∧ x = .tuple [.int (i : Int), d] := by
  unfold enumL at h
  rw [List.getElem?_map, List.getElem?_zipIdx] at h
  cases e : xs[i]? with
  | none => rw [e] at h; cases h
  | some d => rw [e] at h; simp at h; exact ⟨d, rfl, h.symm⟩
theorem enumL_length (xs : List PV) : (enumL xs).length = xs.length := by simp [enumL]
def enumObj (it : Addr) : Obj := { cls := .type "enumerate", dict := none, data := .fields #[.none, .bool false, .ref it, rawInt 0, .none, .none], slots := #[] }
section
variable {c : Cx} {n : Nat} {sc : Scope} {m : Lm} {mu : Mu}
theorem CallV.enum {l : Addr} {xs : List PV} {P : PV → Mu → Prop} (hl : mu l = some (.list xs))
    (h : ∀ e it oi, mu e = none → mu it = none → e ≠ it → (oi.cls = .type "list_iterator" ∧ oi.data = .fields #[.ref l, .int 0 0]) → P (.ref e) (upd (upd mu it (.obj oi)) e (.obj (enumObj it)))) : CallV c n mu (.type "enumerate") [.ref l] [] P := fun A s vs kvs hA ht S r rk => by
  cases r with | cons r0 r =>
  cases r; cases rk; cases r0
  obtain ⟨vs, k, e, rs⟩ := S.objs l _ hl
  refine call_enumerate_list (items := vs.toArray) ⟨_, e, rfl, k, rfl⟩ fun h' he hi hsz hk => ?_
  obtain ⟨oi, ei, hc, hd⟩ := id hi
  have tk : TK s.heap h' := fun b o eb _ => hk b o eb
  have ne : ¬ IsT oi := fun q => by have := q.1; rw [hc] at this; simp at this
  have n1 : mu s.heap.objs.size = none := S.off (Nat.le_refl _)
  have n2 : mu (s.heap.objs.size + 1) = none := S.off (Nat.le_succ _)
  refine ⟨_, _, h (s.heap.objs.size + 1) s.heap.objs.size oi n2 n1 (Nat.succ_ne_self _) ⟨hc, hd⟩, ?_, .ref _⟩
  exact {
    shape := ⟨_, _, rfl⟩
    st := {
      base := fun b o eb => hk b o (S.base b o eb)
      objs := fun a y ea => by
        by_cases h1 : a = s.heap.objs.size + 1
        · subst h1; simp at ea; subst ea; exact ⟨he, by simp [IsT, enumObj]⟩
        · rw [upd_ne _ _ h1] at ea
          by_cases h2 : a = s.heap.objs.size
          · subst h2; simp at ea; subst ea; exact ⟨ei, ne⟩
          · rw [upd_ne _ _ h2] at ea
            exact (S.objs a y ea).mono (fun o q => hk _ _ q) tk
      new := fun a ha => by
        by_cases h1 : a = s.heap.objs.size + 1
        · subst h1; exact S.baseNone (Nat.le_succ _)
        · rw [upd_ne _ _ h1] at ha
          by_cases h2 : a = s.heap.objs.size
          · subst h2; exact S.baseNone (Nat.le_refl _)
          · rw [upd_ne _ _ h2] at ha; exact S.new a ha }
    keep := fun b o eb _ _ => hk b o eb
    alive := fun b o eb _ => ⟨o, hk b o eb⟩
    dom := fun b hb => by
      by_cases h1 : b = s.heap.objs.size + 1
      · subst h1; exact .inr (get_none (Nat.le_succ _))
      · rw [upd_ne _ _ h1] at hb
        by_cases h2 : b = s.heap.objs.size
        · subst h2; exact .inr (get_none (Nat.le_refl _))
        · rw [upd_ne _ _ h2] at hb; exact .inl hb }
theorem IterOf.enum {mu0 : Mu} {l e it : Addr} {xs : List PV} {oi : Obj} (hl : mu0 l = none) (hi : upd mu0 l (.list xs) it = none) (he : upd mu0 l (.list xs) e = none) (hei : e ≠ it) (hoi : oi.cls = .type "list_iterator" ∧ oi.data = .fields #[.ref l, .int 0 0]) :
    IterOf c n tupT (upd (upd (upd mu0 l (.list xs)) it (.obj oi)) e (.obj (enumObj it))) (.ref e) (enumL xs) (fun _ => True) mu0 := by
  have hil : it ≠ l := fun q => by rw [q] at hi; simp at hi
  have hel : e ≠ l := fun q => by rw [q] at he; simp at he
  rw [upd_ne _ _ hil] at hi
  rw [upd_ne _ _ hel] at he
  refine ⟨fun a o ea => ?_, fun A s v hA ht S r => ?_⟩
  · have h1 : a ≠ e := fun q => by rw [q, he] at ea; cases ea
    have h2 : a ≠ it := fun q => by rw [q, hi] at ea; cases ea
    have h3 : a ≠ l := fun q => by rw [q, hl] at ea; cases ea
    rw [upd_ne _ _ h1, upd_ne _ _ h2, upd_ne _ _ h3]; exact ea
  cases r
  have ge : s.heap.get? e = some (enumObj it) := (S.objs e (.obj (enumObj it)) (by simp)).1
  have gi : s.heap.get? it = some oi := (S.objs it (.obj oi) (by rw [upd_ne _ _ (Ne.symm hei)]; simp)).1
  obtain ⟨vs, k, gl, rs⟩ := S.objs l (.list xs) (by rw [upd_ne _ _ (Ne.symm hel), upd_ne _ _ (Ne.symm hil)]; simp)
  refine wpAny_pyIter_enum (i := 0) (old := .none) ge ⟨e, [e, it, l], fun i h => ((∃ old, IsEnum h e it i old) ∧ h.IsListIter it l i) ∧ ∃ vs k, h.get? l = some (listOf vs.toArray k) ∧ Reps h xs vs, s.heap, s.toks, rfl, rfl, fun b o _ eb => eb, fun b hb => ?_, ?_, ⟨⟨_, ge⟩, ⟨oi, gi, hoi⟩⟩, vs, k, gl, rs⟩
  · have hin : upd (upd (upd mu0 l (.list xs)) it (.obj oi)) e (.obj (enumObj it)) b ≠ none ∧ mu0 b = none := by
      rcases List.mem_cons.mp hb with q | q
      · subst q; exact ⟨by simp, he⟩
      · rcases List.mem_cons.mp q with q | q
        · subst q; exact ⟨by rw [upd_ne _ _ (Ne.symm hei)]; simp, hi⟩
        · rw [List.mem_singleton.mp q]; exact ⟨by rw [upd_ne _ _ (Ne.symm hel), upd_ne _ _ (Ne.symm hil)]; simp, hl⟩
    exact ⟨S.new b hin.1, hin.2, .inr hin.1⟩
  exact {
    frame := fun i h h' hj hk tk => by
      obtain ⟨⟨⟨old, h1⟩, h2⟩, vs, k, h3, h4⟩ := hj
      exact ⟨⟨⟨old, hk e (by simp) _ h1⟩, h2.at fun o x => hk it (by simp) o x⟩, vs, k, hk l (by simp) _ h3, h4.mono tk⟩
    notT := fun i h hj b hb => by
      obtain ⟨⟨⟨old, h1⟩, h2⟩, vs, k, h3, h4⟩ := hj
      rcases List.mem_cons.mp hb with q | q
      · subst q; exact ⟨_, h1, by simp [IsT]⟩
      · rcases List.mem_cons.mp q with q | q
        · subst q; obtain ⟨o, ho, hc, _⟩ := h2; exact ⟨o, ho, fun q => by have := q.1; rw [hc] at this; simp at this⟩
        · rw [List.mem_singleton.mp q]; exact ⟨_, h3, list_notT⟩
    next := fun i d A s mu target hT hx hA ht S hs hm hj => by
      obtain ⟨⟨⟨old, h1⟩, h2⟩, vs, k, h3, h4⟩ := hj
      obtain ⟨d, hd, rfl⟩ := enumL_get hx
      obtain ⟨v, hv, rv⟩ := h4.get hd
      obtain ⟨elts, kk, pos, rfl⟩ := hT
      refine wpAny_pyNext_enum_item h1 h2 (items := vs.toArray) ⟨_, h3, rfl, k, rfl⟩ (x := v) (by simpa using hv) hei fun h' g1 g2 g3 g4 g5 => ⟨_, rfl, ?_⟩
      refine wpAny_letOwnedTupleGo_enum (s := { s with heap := h', toks := s.toks + 1 }) g1 fun h'' q1 q2 => ?_
      have hse : s.heap.objs.size ≠ e := Nat.ne_of_gt (Heap.lt_size h1)
      have kp : ∀ b o, b ∉ [e, it, l] → s.heap.get? b = some o → h''.get? b = some o := fun b o hb eb => (q2.2 b (fun q => hb (by simp [q]))).trans (g5 b o (fun q => hb (by simp [q])) (fun q => hb (by simp [q])) eb)
      have tk : TK s.heap h'' := fun b o eb hto => by
        refine (q2.2 b (fun q => ?_)).trans (g5 b o (fun q => ?_) (fun q => ?_) eb)
        · rw [q, h1] at eb; cases eb; simp [IsT] at hto
        · rw [q, h1] at eb; cases eb; simp [IsT] at hto
        · obtain ⟨o2, e2, hc2, _⟩ := id h2; rw [q, e2] at eb; cases eb; have := hto.1; rw [hc2] at this; simp at this
      have g3' : h''.get? s.heap.objs.size = some { cls := .type "tuple", data := .seq #[.int i s.toks, v] } := (q2.2 _ hse).trans g3
      refine ⟨h'', s.toks + 1, rfl, kp, .tuple (vs := [.int i s.toks, v]) g3' (.cons (.int _ _) (.cons (rv.mono tk) .nil)), ⟨⟨v, by simpa using q1⟩, g2.at fun o y => (q2.2 it (Ne.symm hei)).trans y⟩, vs, k, ?_, h4.mono tk⟩
      exact (q2.2 l (Ne.symm hel)).trans (g5 l _ (Ne.symm hel) (Ne.symm hil) h3)
    self := fun i A s Q E hA hj hq => by
      obtain ⟨⟨⟨old, h1⟩, h2⟩, _⟩ := hj
      exact wpAny_pyIter_enum h1 hq
    done := fun i A s mu hx hA ht S hs hm hj => by
      obtain ⟨⟨⟨old, h1⟩, h2⟩, vs, k, h3, h4⟩ := hj
      rw [enumL_length] at hx
      refine wpAny_pyNext_enum_end hA.hd h1 h2 (items := vs.toArray) ⟨_, h3, rfl, k, rfl⟩ (by have := h4.length; simp; omega) fun h' hx' => ⟨rfl, h', s.toks, rfl, fun b o hb eb => hx' b o (fun q => hb (by simp [q])) eb⟩ }
end
end Mine

open PySem PySem.W PySem.Calls PyProof.Rows
set_option Elab.async false
set_option linter.unusedVariables false
set_option maxRecDepth 100000
namespace Mine
/- # values as data; equality -/
mutual
def IsD (c : Cx) (mu : Mu) : PyData → PV → Prop
  | .none, d => d = .none
  | .bool b, d => d = .bool b
  | .int i, d => d = .int i
  | .str x, d => d = .str x
  | .tuple xs, d => ∃ ds, d = .tuple ds ∧ IsDs c mu xs ds
  | .list xs, d => ∃ l ds, d = .ref l ∧ ListAt c mu l ds ∧ IsDs c mu xs ds
  | .dict _, _ => False
def IsDs (c : Cx) (mu : Mu) : List PyData → List PV → Prop
  | [], ds => ds = []
  | x :: xs, ds => ∃ d r, ds = d :: r ∧ IsD c mu x d ∧ IsDs c mu xs r
end
section
variable {c : Cx} {n : Nat} {sc : Scope} {m : Lm} {mu : Mu}
mutual
theorem IsD.reads {h : Heap} (S : St c mu h) : ∀ (D : PyData) {d : PV} {v : Value}, IsD c mu D d → Rep h d v → ∃ as, Reads h v D as
  | .none, d, v, q, r => by rw [IsD] at q; subst q; cases r; exact ⟨_, .none⟩
  | .bool b, d, v, q, r => by rw [IsD] at q; subst q; cases r; exact ⟨_, .bool _⟩
  | .int i, d, v, q, r => by rw [IsD] at q; subst q; cases r; exact ⟨_, .int _ _⟩
  | .str x, d, v, q, r => by rw [IsD] at q; subst q; cases r; exact ⟨_, .str _ _⟩
  | .tuple xs, d, v, q, r => by
    rw [IsD] at q
    obtain ⟨ds, rfl, hx⟩ := q
    cases r with
    | tuple e rs =>
      obtain ⟨as, ra⟩ := IsDs.reads S xs hx rs
      exact ⟨as, .tuple e rfl rfl (by simpa using ra)⟩
  | .list xs, d, v, q, r => by
    rw [IsD] at q
    obtain ⟨l, ds, rfl, hl, hx⟩ := q
    cases r
    obtain ⟨vs, ⟨o, ho, hc, k, hd⟩, rs⟩ := hl.at S
    obtain ⟨as, ra⟩ := IsDs.reads S xs hx rs
    exact ⟨_, .list ho hc hd (by simpa using ra)⟩
  | .dict _, d, v, q, r => by rw [IsD] at q; exact q.elim
theorem IsDs.reads {h : Heap} (S : St c mu h) : ∀ (xs : List PyData) {ds : List PV} {vs : List Value}, IsDs c mu xs ds → Reps h ds vs → ∃ as, ReadsAll h vs xs as
  | [], ds, vs, q, r => by rw [IsDs] at q; subst q; cases r; exact ⟨_, .nil⟩
  | x :: xs, ds, vs, q, r => by
    rw [IsDs] at q
    obtain ⟨d, r', rfl, hd, hr⟩ := q
    cases r with
    | cons r0 rs =>
      obtain ⟨as, ra⟩ := IsD.reads S x hd r0
      obtain ⟨bs, rb⟩ := IsDs.reads S xs hr rs
      exact ⟨_, .cons ra rb⟩
end
theorem IsDs.map {α : Type} {f : α → PyData} {g : α → PV} : ∀ (l : List α), (∀ x ∈ l, IsD c mu (f x) (g x)) → IsDs c mu (l.map f) (l.map g)
  | [], _ => by simp [IsDs]
  | x :: l, h => by
    rw [List.map_cons, List.map_cons, IsDs]
    exact ⟨_, _, rfl, h x (List.mem_cons_self ..), IsDs.map l fun y hy => h y (List.mem_cons_of_mem _ hy)⟩
theorem canLayAll0_map {α : Type} {f : α → PyData} : ∀ (l : List α), (∀ x ∈ l, (f x).canLay0 = true) → PyData.canLayAll0 (l.map f) = true
  | [], _ => by simp [PyData.canLayAll0]
  | x :: l, h => by
    rw [List.map_cons, PyData.canLayAll0, h x (List.mem_cons_self ..), canLayAll0_map l fun y hy => h y (List.mem_cons_of_mem _ hy)]; rfl
theorem depthAll_map {α : Type} {f : α → PyData} {k : Nat} : ∀ (l : List α), (∀ x ∈ l, (f x).depth ≤ k) → PyData.depthAll (l.map f) ≤ k
  | [], _ => by simp [PyData.depthAll]
  | x :: l, h => by
    rw [List.map_cons, PyData.depthAll]
    have h1 := h x (List.mem_cons_self ..)
    have h2 := depthAll_map l fun y hy => h y (List.mem_cons_of_mem _ hy)
    omega
theorem OpC.eqG {a b : PV} {D D' : PyData} {P : PV → Mu → Prop} (ha : IsD c mu D a) (hb : IsD c mu D' b) (hc : D.canLay0 = true) (hc' : D'.canLay0 = true) (hn : 1 ≤ n) (hdp : D.depth ≤ 19) (h : P (.bool (PyData.eqv D D')) mu) : OpC c n mu .Eq a b P := fun A s va vb hA ht S ra rb => by
  obtain ⟨as, r1⟩ := IsD.reads S D ha ra
  obtain ⟨bs, r2⟩ := IsD.reads S D' hb rb
  exact SeqAt.compareEq_reads r1 r2 hc hc' (by have := hA.un; omega) (Post.pure0 S h (.bool _))
theorem OpC.neG {a b : PV} {D D' : PyData} {P : PV → Mu → Prop} (ha : IsD c mu D a) (hb : IsD c mu D' b) (hc : D.canLay0 = true) (hc' : D'.canLay0 = true) (hn : 1 ≤ n) (hdp : D.depth ≤ 19) (h : P (.bool (!PyData.eqv D D')) mu) : OpC c n mu .NotEq a b P := fun A s va vb hA ht S ra rb => by
  obtain ⟨as, r1⟩ := IsD.reads S D ha ra
  obtain ⟨bs, r2⟩ := IsD.reads S D' hb rb
  exact SeqAt.compareNe_reads r1 r2 hc hc' (by have := hA.un; omega) (Post.pure0 S h (.bool _))
theorem OpC.eqD {a b : PV} {D : PyData} {P : PV → Mu → Prop} (ha : IsD c mu D a) (hb : IsD c mu D b) (hc : D.canLay0 = true) (hn : 1 ≤ n) (hdp : D.depth ≤ 19) (h : P (.bool true) mu) : OpC c n mu .Eq a b P :=
  OpC.eqG ha hb hc hc hn hdp (by rw [SeqAt.eqv_refl D hc]; exact h)
theorem OpC.neD {a b : PV} {D : PyData} {P : PV → Mu → Prop} (ha : IsD c mu D a) (hb : IsD c mu D b) (hc : D.canLay0 = true) (hn : 1 ≤ n) (hdp : D.depth ≤ 19) (h : P (.bool false) mu) : OpC c n mu .NotEq a b P :=
  OpC.neG ha hb hc hc hn hdp (by rw [SeqAt.eqv_refl D hc]; exact h)
/- # membership in a list of texts -/
end
end Mine

open PySem PySem.W PySem.Calls PyProof.Rows
set_option Elab.async false
set_option linter.unusedVariables false
set_option maxRecDepth 100000
namespace Mine
/- # texts of numbers -/
def dig (i : Nat) : List Nat := (Str.ofString (toString (i : Int))).cps.toList
theorem S_dig (i : Nat) : Str.ofString (toString (i : Int)) = S (dig i) := (S_of _).symm
section
variable {c : Cx} {n : Nat} {sc : Scope} {m : Lm} {mu : Mu}
theorem CallV.strInt {i : Nat} {P : PV → Mu → Prop} (hi : i < 1000000) (h : P (.str (S (dig i))) mu) : CallV c n mu (.type "str") [.int (i : Int)] [] P := fun A s vs kvs hA ht S r rk => by
  cases r with | cons r0 r =>
  cases r; cases rk; cases r0
  refine _root_.PySem.P.str_of_int ?_ (Post.pure (s := s) S h ?_)
  · have : (Int.natAbs (i : Int)) = i := by omega
    rw [this]
    by_cases h0 : i = 0
    · subst h0; decide
    · exact (Nat.log2_lt h0).mpr (Nat.lt_of_lt_of_le hi (by decide))
  · rw [S_dig]; exact .str _ _
/- # lists -/
end
end Mine

open PySem PySem.W PySem.Calls PyProof.Rows
set_option Elab.async false
set_option linter.unusedVariables false
set_option maxRecDepth 100000
namespace Mine
section
variable {c : Cx} {n : Nat} {sc : Scope} {m : Lm} {mu : Mu}
/- # subscripts -/
theorem Ty.listAt {l : Addr} {xs : List PV} (hl : ListAt c mu l xs) : Ty c mu (.ref l) "list" := by
  rcases hl with h | h
  · exact Ty.list h
  · exact Ty.baseList h
theorem OpSub.listN {slice : PySem.Expr} {l : Addr} {xs : List PV} {i : Int} {d : PV} {P : PV → Mu → Prop} (hl : ListAt c mu l xs) (h0 : 0 ≤ i) (h1 : i < 2 ^ 62) (hx : xs[i.toNat]? = some d) (h : P d mu)
    (hs : ∀ o i, ∃ ops, subscripted slice false o i = operate ops (getItem o i) := by intro _ _; exact ⟨_, rfl⟩) : OpSub c n mu slice (.ref l) (.int i) P :=
  OpSub.of (Ty.listAt hl) F.slot_list_getitem.lookup (by
    rcases hl with q | q
    · exact OpG.list q h0 (by omega) hx h
    · exact OpG.base q h0 (by omega) hx h) hs
/- an item of a list that only this expression sees -/
theorem OpSub.tmpN {slice : PySem.Expr} {l : Addr} {xs : List PV} {i : Int} {d : PV} {P : PV → Mu → Prop} (hl : mu l = none) (h0 : 0 ≤ i) (h1 : i < 2 ^ 62) (hx : xs[i.toNat]? = some d) (h : P d mu)
    (hs : ∀ o i, ∃ ops, subscripted slice false o i = operate ops (getItem o i) := by intro _ _; exact ⟨_, rfl⟩) : OpSub c n (upd mu l (.list xs)) slice (.ref l) (.int i) P := fun A s va vi value hA ht S ra ri => by
  refine wpAny_mono (OpSub.listN (P := fun d' mu' => d' = d ∧ mu' = upd mu l (.list xs)) (.inl (by simp)) h0 h1 hx ⟨rfl, rfl⟩ hs A s va vi value hA ht S ra ri) (fun v s' p => ?_) fun _ _ x => x
  obtain ⟨d', mu', ⟨rfl, rfl⟩, x1, r1⟩ := p
  exact ⟨_, mu, h, x1.forget (sub_upd hl), r1⟩

/- # loops with a told invariant -/
theorem LoopE.invFrom {src : Mu → Prop} {target : PySem.Expr} {body orelse : List Stmt} {P : FV → Lm → Mu → Prop} (I : Nat → Lm → Mu → Prop) (hs : ∀ i m mu, I i m mu → src mu) (xs : List PV) (k : Nat) (m : Lm) (mu : Mu) (h0 : I k m mu)
    (hstep : ∀ i x m mu, xs[i]? = some x → I (k + i) m mu → AsgT true c n sc m mu target x fun m1 mu1 => ExS c n sc m1 mu1 body fun fl m2 mu2 => match fl with
      | .next | .cont => I (k + i + 1) m2 mu2
      | .brk => P .next m2 mu2
      | .ret r => P (.ret r) m2 mu2)
    (hP : ∀ m mu, I (k + xs.length) m mu → ExS c n sc m mu orelse P) : LoopE c n sc src target body orelse P xs m mu := by
  induction xs generalizing k m mu with
  | nil => exact ⟨hs _ _ _ h0, hP m mu h0⟩
  | cons x xs ih0 =>
    refine ⟨hs _ _ _ h0, fun env A s v he hA ht S F r => wpAny_mono (hstep 0 x m mu rfl h0 env A s v he hA ht S F r) (fun _ _ ⟨m1, mu1, q, b⟩ => ⟨m1, mu1, ?_, b⟩) fun _ _ x => x⟩
    refine ExS.imp q fun fl m2 mu2 q => ?_
    have nx : I (k + 1) m2 mu2 → LoopE c n sc src target body orelse P xs m2 mu2 := fun hI => ih0 (k + 1) m2 mu2 hI (fun i x m mu hx hi => by
      have := hstep (i + 1) x m mu (by simpa using hx) (by rwa [show k + (i + 1) = k + 1 + i from by omega])
      rwa [show k + (i + 1) = k + 1 + i from by omega] at this) (fun m mu hi => hP m mu (by rwa [show k + (x :: xs).length = k + 1 + xs.length from by simp; omega]))
    cases fl with
    | next => exact nx q
    | cont => exact nx q
    | brk => exact q
    | ret r => exact q
theorem LoopE.inv {src : Mu → Prop} {target : PySem.Expr} {body orelse : List Stmt} {P : FV → Lm → Mu → Prop} {xs : List PV} (I : Nat → Lm → Mu → Prop) (hs : ∀ i m mu, I i m mu → src mu) (h0 : I 0 m mu)
    (hstep : ∀ i x m mu, xs[i]? = some x → I i m mu → AsgT true c n sc m mu target x fun m1 mu1 => ExS c n sc m1 mu1 body fun fl m2 mu2 => match fl with
      | .next | .cont => I (i + 1) m2 mu2
      | .brk => P .next m2 mu2
      | .ret r => P (.ret r) m2 mu2)
    (hP : ∀ m mu, I xs.length m mu → ExS c n sc m mu orelse P) : LoopE c n sc src target body orelse P xs m mu :=
  LoopE.invFrom I hs xs 0 m mu h0 (fun i x m mu hx hi => by rw [Nat.zero_add] at hi ⊢; exact hstep i x m mu hx hi) (fun m mu hi => hP m mu (by rwa [Nat.zero_add] at hi))
/- what follows a statement, told by an invariant -/
theorem ExS.mid {st : Stmt} {ss : List Stmt} {P : FV → Lm → Mu → Prop} (I : Lm → Mu → Prop) (h : Ex1 c n sc m mu st fun fl m' mu' => fl = .next ∧ I m' mu') (h2 : ∀ m' mu', I m' mu' → ExS c n sc m' mu' ss P) : ExS c n sc m mu (st :: ss) P :=
  ExS.seq fun env A s he hA ht S F => wpAny_mono (h env A s he hA ht S F) (fun _ _ ⟨fl, m', mu', ⟨e1, e2⟩, b⟩ => ⟨fl, m', mu', by subst e1; exact h2 m' mu' e2, b⟩) fun _ _ x => x

/- # tables -/
def okN (k : List Nat) : Bool := k.all (fun ch => decide (32 ≤ ch) && decide (ch < 127)) && decide (k.length ≤ 100000)
def okV (v : List Nat) : Bool := !v.any isCtlV && v.all (fun ch => decide (ch < 1114112)) && decide (v.length ≤ 100000)
abbrev Row := List Nat × List Nat
def okR (x : Row) : Bool := okN x.1 && okV x.2
theorem okN.asc {k : List Nat} (h : okN k = true) : ∀ ch ∈ k, ch < 128 := fun ch hc => by
  unfold okN at h
  simp only [Bool.and_eq_true, List.all_eq_true, decide_eq_true_eq] at h
  have := (h.1 ch hc).2; omega
theorem okN.len {k : List Nat} (h : okN k = true) : k.length ≤ 100000 := by
  unfold okN at h; simp only [Bool.and_eq_true, decide_eq_true_eq] at h; exact h.2
theorem okN.ctl {k : List Nat} (h : okN k = true) : k.any isCtl = false := by
  unfold okN at h
  simp only [Bool.and_eq_true, List.all_eq_true, decide_eq_true_eq] at h
  rw [List.any_eq_false]
  intro ch hc
  have := h.1 ch hc
  simp only [isCtl, Bool.or_eq_true, decide_eq_true_eq]; omega
theorem okV.ctl {v : List Nat} (h : okV v = true) : v.any isCtlV = false := by
  unfold okV at h; simp only [Bool.and_eq_true, Bool.not_eq_true'] at h; exact h.1.1
theorem okV.uni {v : List Nat} (h : okV v = true) : ∀ ch ∈ v, ch < 1114112 := by
  unfold okV at h; simp only [Bool.and_eq_true, List.all_eq_true, decide_eq_true_eq] at h; exact h.1.2
theorem okV.len {v : List Nat} (h : okV v = true) : v.length ≤ 100000 := by
  unfold okV at h; simp only [Bool.and_eq_true, decide_eq_true_eq] at h; exact h.2
theorem okR.nm {x : Row} (h : okR x = true) : okN x.1 = true := by unfold okR at h; simp only [Bool.and_eq_true] at h; exact h.1
theorem okR.vl {x : Row} (h : okR x = true) : okV x.2 = true := by unfold okR at h; simp only [Bool.and_eq_true] at h; exact h.2
abbrev hdDict (c : Cx) (tok : Tok) (l : Addr) : AO := .obj (dictOf [⟨PyData.keyHash c.w.params (Str.ofString "_headers"), .str (Str.ofString "_headers") tok, .ref l⟩] 1)
def pairPV (x : Row) : PV := .tuple [.str (S x.1), .str (S x.2)]
structure Hd (c : Cx) (C : Addr) (mu : Mu) (x l : Addr) (kvs : List Row) : Prop where
  inst : ∃ dx tok, mu x = some (.inst C dx) ∧ mu dx = some (hdDict c tok l)
  list : mu l = some (.list (kvs.map pairPV))
  ok : kvs.all okR = true
  len : kvs.length ≤ 10000
theorem Hd.row {C x l : Addr} {kvs : List Row} (h : Hd c C mu x l kvs) {r : Row} (hr : r ∈ kvs) : okR r = true := List.all_eq_true.mp h.ok r hr
/- another list told anew -/
theorem Hd.other {C x l D : Addr} {kvs : List Row} {ys : List PV} (h : Hd c C mu x l kvs) (hne : D ≠ l) (hD : mu D = none ∨ ∃ zs, mu D = some (.list zs)) : Hd c C (upd mu D (.list ys)) x l kvs := by
  obtain ⟨dx, tok, h1, h2⟩ := h.inst
  refine ⟨⟨dx, tok, ?_, ?_⟩, ?_, h.ok, h.len⟩
  · rw [upd_ne _ _ (fun q => by subst q; rcases hD with z | ⟨zs, z⟩ <;> rw [h1] at z <;> cases z)]; exact h1
  · rw [upd_ne _ _ (fun q => by subst q; rcases hD with z | ⟨zs, z⟩ <;> rw [h2] at z <;> cases z)]; exact h2
  · rw [upd_ne _ _ (Ne.symm hne)]; exact h.list
theorem Hd.fresh {C x l D : Addr} {kvs : List Row} {o : AO} (h : Hd c C mu x l kvs) (hD : mu D = none) : Hd c C (upd mu D o) x l kvs := by
  obtain ⟨dx, tok, h1, h2⟩ := h.inst
  have h3 := h.list
  refine ⟨⟨dx, tok, ?_, ?_⟩, ?_, h.ok, h.len⟩
  · rw [upd_ne _ _ (fun q => by subst q; rw [h1] at hD; cases hD)]; exact h1
  · rw [upd_ne _ _ (fun q => by subst q; rw [h2] at hD; cases hD)]; exact h2
  · rw [upd_ne _ _ (fun q => by subst q; rw [h3] at hD; cases hD)]; exact h3
theorem Hd.set {C x l : Addr} {kvs kvs' : List Row} (h : Hd c C mu x l kvs) (hok : kvs'.all okR = true) (hlen : kvs'.length ≤ 10000) : Hd c C (upd mu l (.list (kvs'.map pairPV))) x l kvs' := by
  obtain ⟨dx, tok, h1, h2⟩ := h.inst
  have h3 := h.list
  refine ⟨⟨dx, tok, ?_, ?_⟩, by simp, hok, hlen⟩
  · rw [upd_ne _ _ (fun q => by subst q; rw [h1] at h3; cases h3)]; exact h1
  · rw [upd_ne _ _ (fun q => by subst q; rw [h2] at h3; cases h3)]; exact h2
theorem Hd.sub {C x l : Addr} {kvs : List Row} {mu' : Mu} (hs : Sub mu mu') (h : Hd c C mu x l kvs) : Hd c C mu' x l kvs := by
  obtain ⟨dx, tok, h1, h2⟩ := h.inst
  exact ⟨⟨dx, tok, hs _ _ h1, hs _ _ h2⟩, hs _ _ h.list, h.ok, h.len⟩
structure HK (K : Frag) (C : Addr) : Prop where
  get : plainGet K C "_headers" = true
  dict : hasDictIn K C = true
  find : findIn K (.ref C) "_headers" = some none
theorem EvE.hdr {K : Frag} {C : Addr} {value : PySem.Expr} {pos : Pos} {P : PV → Mu → Prop} (hK : K.In c.base) (k : HK K C)
    (h : EvE c n sc m mu value fun d mu1 => ∃ x l kvs, d = .ref x ∧ Hd c C mu1 x l kvs ∧ P (.ref l) mu1)
    (hb : ∀ env, attributeBase value "_headers" env (eval value env) = eval value env := by intro _; rfl) (ht : ∀ o r, letTemporaryGo value o r = pure () := by intro _ _; rfl) : EvE c n sc m mu (.Attribute value "_headers" pos) P :=
  EvE.attrOwn hK (h.imp fun d mu1 ⟨x, l, kvs, e, H, hP⟩ => by
    obtain ⟨dx, tok, h1, h2⟩ := H.inst
    exact ⟨x, C, dx, _, _, .ref l, .ref l, none, e, h1, h2, k.get, k.dict, k.find, by rfl, by with_unfolding_all rfl, by rfl, fun _ => .ref l, hP⟩) hb ht
theorem Meth.hd {K : Frag} {C x l f : Addr} {kvs : List Row} {name : Str} (hK : K.In c.base) (H : Hd c C mu x l kvs) (hg : plainGet K C name = true)
    (hf : findIn K (.ref C) name = some (some (.ref f))) (ht : isFn K (.ref f) = true) (hl : ("_headers" : Str) ≠ name) : Meth c mu (.ref x) name (.ref f) := by
  obtain ⟨dx, tok, h1, h2⟩ := H.inst
  refine Meth.inst hK h1 h2 hg hf ht ?_
  have : ((Str.ofString "_headers") == name) = false := beq_eq_false_iff_ne.mpr hl
  simp [getL, Value.isStr, this]
  rfl
theorem InstK.hd {K : Frag} {C x l f : Addr} {kvs : List Row} {name : Str} (hK : K.In c.base) (H : Hd c C mu x l kvs) (hf : findIn K (.ref C) name = some (some (.ref f))) (ht : isFn K (.ref f) = true) : InstK c mu K x C f name := by
  obtain ⟨dx, tok, h1, h2⟩ := H.inst
  exact ⟨hK, ⟨dx, _, _, h1, h2⟩, hf, ht⟩
end
end Mine
namespace Mine
section
variable {c : Cx} {n : Nat} {sc : Scope} {m : Lm} {mu : Mu}
end
end Mine
namespace Mine
section
variable {c : Cx} {n : Nat} {sc : Scope} {m : Lm} {mu : Mu}
theorem Keepr.cls {K : Frag} {C : Addr} {o : Obj} {cd : ClassData} {r : Option Value} (hK : K.In c.base) (ho : c.base.get? C = some o) (hd : o.data = .cls cd) (e : specialIn K (.ref C) "__call__" = some r) : Keepr c mu (.ref C) := fun A s Q E S h => by
  unfold keeperOf
  refine wpAny_bind (wpAny_load (S.base _ _ ho) ?_)
  rw [hd]
  exact wpAny_bind ((looks_specialIn (hK.keeps S.base) e).here (wpAny_pure (h _)))
end
end Mine

open PySem PySem.W PySem.Calls PyProof.Rows
set_option Elab.async false
set_option linter.unusedVariables false
namespace Mine
section
variable {c : Cx} {n : Nat} {sc : Scope} {m : Lm} {mu : Mu}
end
theorem fmod_nat (i : Int) (b : Nat) (hb : 0 < b) : ∃ k : Nat, i.fmod (b : Int) = (k : Int) ∧ k < b := by
  have e : i.fmod (b : Int) = i % (b : Int) := by rw [Int.fmod_eq_emod_of_nonneg]; omega
  have h1 : 0 ≤ i % (b : Int) := Int.emod_nonneg i (by omega)
  have h2 : i % (b : Int) < b := Int.emod_lt_of_pos i (by omega)
  exact ⟨(i % (b : Int)).toNat, by rw [e]; omega, by omega⟩
end Mine
namespace Mine
end Mine

open PySem PySem.W PySem.Calls PyProof.Rows
set_option Elab.async false
set_option linter.unusedVariables false
namespace Mine
/- # rows -/
end Mine
namespace Mine
theorem ne_sn {mu : Mu} {a b : Addr} {o : AO} (h : mu a = some o) (h' : mu b = none) : a ≠ b := fun q => by rw [q, h'] at h; cases h
end Mine

open PySem PySem.W PySem.Calls PyProof.Rows
set_option Elab.async false
set_option linter.unusedVariables false
namespace Mine
end Mine
namespace Mine
end Mine
namespace Mine
end Mine
namespace Mine
end Mine
namespace Mine
/- # rows as data -/
def rowD (r : Row) : PyData := .tuple [.str (S r.1), .str (S r.2)]
def rowsD (ps : List Row) : PyData := .list (ps.map rowD)
theorem strOk_S {v : List Nat} (h : ∀ ch ∈ v, ch < 1114112) : PyData.strOk (S v) = true := by
  unfold PyData.strOk
  rw [List.all_toArray, List.all_eq_true]
  intro ch hc; simpa using h ch hc
theorem rowD_lay {r : Row} (h : okR r = true) : (rowD r).canLay0 = true := by
  have h1 : PyData.strOk (S r.1) = true := strOk_S fun ch hc => by have := okN.asc (okR.nm h) ch hc; omega
  have h2 : PyData.strOk (S r.2) = true := strOk_S (okV.uni (okR.vl h))
  simp [rowD, PyData.canLay0, PyData.canLayAll0, h1, h2]
theorem rowsD_lay {ps : List Row} (h : ps.all okR = true) : (rowsD ps).canLay0 = true := by
  rw [rowsD, PyData.canLay0]
  exact canLayAll0_map ps fun r hr => rowD_lay (List.all_eq_true.mp h r hr)
theorem rowsD_depth (ps : List Row) : (rowsD ps).depth ≤ 2 := by
  rw [rowsD, PyData.depth]
  have := depthAll_map (f := rowD) (k := 1) ps fun r _ => by simp [rowD, PyData.depth, PyData.depthAll]
  omega
theorem rowD_is {c : Cx} {mu : Mu} (r : Row) : IsD c mu (rowD r) (pairPV r) := by
  rw [rowD, IsD]
  refine ⟨_, rfl, ?_⟩
  rw [IsDs]; refine ⟨_, _, rfl, by rw [IsD], ?_⟩
  rw [IsDs]; refine ⟨_, _, rfl, by rw [IsD], ?_⟩
  rw [IsDs]
theorem rowsD_is {c : Cx} {mu : Mu} {l : Addr} {ps : List Row} (h : ListAt c mu l (ps.map pairPV)) : IsD c mu (rowsD ps) (.ref l) := by
  rw [rowsD, IsD]
  exact ⟨l, _, rfl, h, IsDs.map ps fun r _ => rowD_is r⟩
/- # the turned list -/
section
variable {c : Cx} {n : Nat} {sc : Scope} {m : Lm} {mu : Mu}
end
end Mine

open PySem PySem.W PySem.Calls PyProof.Rows
set_option Elab.async false
set_option linter.unusedVariables false
namespace Mine
section
variable {prog : Program} {w : World} {A : Around} {E : Value → Shared → Prop}
end
section
variable {c : Cx} {n : Nat} {sc : Scope} {m : Lm} {mu : Mu}
end
end Mine

open PySem PySem.W PySem.Calls PyProof.Rows
set_option Elab.async false
set_option linter.unusedVariables false
namespace Mine
/- # tables laid under one another -/
end Mine

open PySem PySem.W PySem.Calls PyProof.Rows
set_option Elab.async false
set_option linter.unusedVariables false
set_option maxRecDepth 100000
namespace Mine
def tspL : List Nat := [32, 40, 41, 60, 62, 64, 44, 59, 58, 92, 34, 47, 91, 93, 63, 61]
def isTsp (ch : Nat) : Bool := tspL.contains ch
def fp (p v : List Nat) (q : Bool) : List Nat := if v = [] then p else if q || v.any isTsp then p ++ [61, 34] ++ escL v ++ [34] else p ++ [61] ++ v

theorem replL_length (ch : Nat) (z : List Nat) (k : Nat) (hk : 1 ≤ k) (hz : z.length ≤ k) (l : List Nat) : (replL ch z l).length ≤ k * l.length := by
  unfold replL
  induction l with
  | nil => simp
  | cons a r ih =>
    rw [List.flatMap_cons, List.length_append, List.length_cons, Nat.mul_succ]
    split
    · omega
    · rw [List.length_singleton]; omega
end Mine

open PySem PySem.W PySem.Calls PyProof.Rows
set_option Elab.async false
set_option linter.unusedVariables false
namespace Mine
section
variable {c : Cx} {n : Nat} {sc : Scope} {m : Lm} {mu : Mu}

/- # dicts of texts -/
theorem St.big {h : Heap} (S : St c mu h) : sysModules < h.objs.size := by
  obtain ⟨mc, hn, _⟩ := c.nolim
  obtain ⟨o, es, ep, e, _⟩ := hn
  exact Nat.lt_trans (by decide) (Heap.lt_size (S.base _ _ e))
/- a key that is new, laid into a dict -/
theorem ns_new {A : Around} {s : Shared} {d : Addr} {es : List DictEntry} {k : Nat} {x : Str} {v : Value} {E : Value → Shared → Prop} {Q : Unit → Shared → Prop} (hd : s.heap.get? d = some (dictOf es k)) (hs : ∀ e ∈ es, e.key.isStr x = false) (hr : ∀ e ∈ es, e.refKey = false)
    (h : ∀ h', h'.get? d = some (dictOf (es ++ [⟨PyData.keyHash c.w.params x, .str x s.toks, v⟩]) (k + 1)) → Heap.SameBut d s.heap h' → Q () { s with heap := h', toks := s.toks + 1 }) : wpAny c.M A (nsSet d x v) Q E s := by
  have e1 : es.any (·.key.isStr x) = false := List.any_eq_false.mpr fun e he => by rw [hs e he]; exact Bool.false_ne_true
  have e2 : es.any (·.refKey) = false := List.any_eq_false.mpr fun e he => by rw [hr e he]; exact Bool.false_ne_true
  have e : Obj.putName x (PyData.keyHash c.w.params x) (.str x s.toks) v (dictOf es k) = dictOf (es ++ [⟨PyData.keyHash c.w.params x, .str x s.toks, v⟩]) (k + 1) := by
    rw [putName_dict, putL_new hs]
    show dictOf _ (if es.any (·.key.isStr x) then k else k + 1) = _
    rw [e1, if_neg Bool.false_ne_true]
  have q : aRefKeyMayBeTheName x es.toArray = false := by
    rw [aRefKeyMayBeTheName_at, ← Array.any_toList, ← Array.any_toList]
    show (!es.any (·.key.isStr x) && es.any (·.refKey)) = false
    rw [e2, Bool.and_false]
  unfold nsSet
  refine wpAny_bind (wpAny_bind (wpAny_askSetting (wpAny_pure (wpAny_bind (wpAny_mkText (wpAny_bind (wpAny_loadPart hd ?_)))))))
  dsimp only
  rw [q]
  refine wpAny_updatePart hd (h _ ?_ (Heap.SameBut.update ..))
  have z := Heap.get?_update_self (Obj.putName x (PyData.keyHash c.w.params x) (.str x s.toks) v) hd (by rw [e]; rfl)
  rw [e] at z
  exact z
theorem ns_fill {A : Around} {d : Addr} {E : Value → Shared → Prop} {Q : PUnit → Shared → Prop} : ∀ (ex : List (Str × Value)) (s : Shared) (es : List DictEntry) (k : Nat), s.heap.get? d = some (dictOf es k) →
    (∀ e ∈ es, ∀ x ∈ ex, e.key.isStr x.1 = false) → (∀ e ∈ es, e.refKey = false) → (ex.map (·.1)).Nodup →
    (∀ h' tk, h'.get? d = some (dictOf (es ++ kwEs c.w.params s.toks ex) (k + ex.length)) → Heap.SameBut d s.heap h' → Q ⟨⟩ { s with heap := h', toks := tk }) →
    wpAny c.M A (forIn ex PUnit.unit fun x _ => (nsSet d x.1 x.2 >>= fun _ => pure (ForInStep.yield PUnit.unit))) Q E s := by
  intro ex
  induction ex with
  | nil =>
    intro s es k hd _ _ _ h
    rw [List.forIn_nil]
    refine wpAny_pure (h s.heap s.toks ?_ (Heap.SameBut.refl ..))
    rw [show kwEs c.w.params s.toks [] = [] from rfl, List.append_nil]; exact hd
  | cons x r ih =>
    intro s es k hd hs hr hn h
    obtain ⟨hn1, hn2⟩ := List.nodup_cons.mp (show (x.1 :: r.map (·.1)).Nodup from hn)
    rw [List.forIn_cons]
    refine wpAny_bind (wpAny_bind (ns_new hd (fun e he => hs e he x (.head _)) hr fun h' hd' hb' => wpAny_pure ?_))
    refine ih { s with heap := h', toks := s.toks + 1 } _ _ hd' (fun e he y hy => ?_) (fun e he => ?_) hn2 fun h'' tk hd'' hb'' => ?_
    · rcases List.mem_append.mp he with he | he
      · exact hs e he y (.tail _ hy)
      · obtain rfl := List.mem_singleton.mp he
        exact beq_eq_false_iff_ne.mpr fun q => hn1 (by rw [q]; exact List.mem_map_of_mem hy)
    · rcases List.mem_append.mp he with he | he
      · exact hr e he
      · obtain rfl := List.mem_singleton.mp he; rfl
    · refine h h'' tk ?_ (hb'.trans hb'')
      rw [List.append_assoc, show k + 1 + r.length = k + (r.length + 1) by omega] at hd''
      exact hd''
theorem dict_notT {es : List DictEntry} {k : Nat} : ¬ IsT (dictOf es k) := fun h => by have := h.1; simp at this
theorem dict_new {ex : List (Str × Value)} {h : Heap} {d : Addr} {t k : Nat} (hd : h.get? d = some (dictOf (kwEs c.w.params t ex) k)) (hn : (ex.map (·.1)).Nodup) : h.DictOf (PySem.strKind c.prog c.w) d ex := by
  obtain ⟨es, ep, h1, h2, h3, h4, h5⟩ := kp_isDict (prog := c.prog) (w := c.w) t k hn
  exact ⟨_, es, ep, hd, h1, h2, h3, h4, h5⟩
/- three arguments by place, the keywords in a dict -/
theorem Binds.more {fd : FuncData} {x y z nm : Str} {d e f : PV} {kw : List (Str × PV)} {K : List (Str × PV) → Mu → Prop}
    (hb : ∀ v w u (kvs : List (Str × Value)), kvs.map (·.1) = kw.map (·.1) → bindArgs fd ⟨[v, w, u], kvs⟩ = (alloc (dictOf [] 0) >>= fun D => (forIn kvs PUnit.unit fun x _ => (nsSet D x.1 x.2 >>= fun _ => pure (ForInStep.yield PUnit.unit))) >>= fun _ => pure [(x, v), (y, w), (z, u), (nm, .ref D)]))
    (hnd : (kw.map (·.1)).Nodup) (h : ∀ D, mu D = none → D ≠ sysModules → K [(x, d), (y, e), (z, f), (nm, .ref D)] (upd mu D (.dict kw))) : Binds c mu fd [d, e, f] kw K := fun A s vs kvs hA S r rk => by
  cases r with | cons r0 r =>
  cases r with | cons r1 r =>
  cases r with | cons r2 r =>
  cases r
  have hnm := rk.names
  rw [hb _ _ _ kvs hnm]
  refine wpAny_bind (wpAny_alloc (wpAny_bind (ns_fill kvs { s with heap := s.heap.push (dictOf [] 0) } [] 0 (Heap.get?_push_size _ rfl) (fun _ he => nomatch he) (fun _ he => nomatch he) (by rw [hnm]; exact hnd) fun h' tk hd' hb' => wpAny_pure ?_)))
  have hoff : mu s.heap.objs.size = none := S.off (Nat.le_refl _)
  have x1 : Step c noT mu s mu { s with heap := s.heap.push (dictOf [] 0) } := Step.pushOff S
  have hk : ∀ b o, s.heap.get? b = some o → h'.get? b = some o := fun b o eb => hb'.extBut b o (Nat.ne_of_lt (Heap.lt_size eb)) (Heap.get?_push_of_some _ eb)
  have tk0 : TK s.heap h' := fun b o eb _ => hk b o eb
  have x2 : Step c noT mu s (upd mu s.heap.objs.size (.dict kw)) { s with heap := h', toks := tk } := {
    shape := ⟨_, _, rfl⟩
    st := {
      base := fun b o eb => hk b o (S.base b o eb)
      objs := fun a y ea => by
        by_cases h1 : a = s.heap.objs.size
        · subst h1; simp at ea; subst ea
          exact ⟨kvs, _, _, hd', dict_new hd' (by rw [hnm]; exact hnd), rk.mono tk0⟩
        · rw [upd_ne _ _ h1] at ea
          exact (S.objs a y ea).mono (fun o q => hk _ _ q) tk0
      new := fun a ha => by
        by_cases h1 : a = s.heap.objs.size
        · subst h1; exact S.baseNone (Nat.le_refl _)
        · rw [upd_ne _ _ h1] at ha; exact S.new a ha }
    keep := fun b o eb _ _ => hk b o eb
    alive := fun b o eb _ => ⟨o, hk b o eb⟩
    dom := fun b hb => by
      by_cases h1 : b = s.heap.objs.size
      · subst h1; exact .inr (get_none (Nat.le_refl _))
      · rw [upd_ne _ _ h1] at hb; exact .inl hb }
  exact ⟨_, _, h s.heap.objs.size hoff (Nat.ne_of_gt S.big), x2, .cons (r0.mono tk0) (.cons (r1.mono tk0) (.cons (r2.mono tk0) (.cons (.ref _) .nil)))⟩
/- # the items of a dict -/
theorem Meth.dict {d : Addr} {kw : List (Str × PV)} {name : Str} {id : String} (hd : mu d = some (.dict kw)) (slot : Slot "dict" name id) (hty : typeOf (.builtin id) = pure (.type "method_descriptor")) : Meth c mu (.ref d) name (.builtin id) := fun A s v pl Q E S r h => by
  cases r
  obtain ⟨vs, es, k, e, _, _⟩ := S.objs d _ hd
  exact getMethod_builtin ⟨_, e, rfl⟩ F.plainAttrs_dict slot hty (fun a q => by cases q; exact ⟨_, e, rfl⟩) h
abbrev viewO (d : Addr) : Obj := { cls := .type "dict_items", data := .fields #[.ref d] }
theorem CallV.items {d : Addr} {kw : List (Str × PV)} {P : PV → Mu → Prop} (hd : mu d = some (.dict kw)) (hdS : d ≠ sysModules) (h : ∀ v, mu v = none → P (.ref v) (upd mu v (.obj (viewO d)))) : CallV c n mu (.builtin "dict.items") [.ref d] [] P := fun A s vs kvs hA ht S r rk => by
  cases r with | cons r0 r =>
  cases r; cases rk; cases r0
  obtain ⟨vs, es, k, e, D, rs⟩ := S.objs d _ hd
  refine call_meetsIn F.slot_dict_items D.typeIs F.entry_dict_items (F.args_dict_items_1 _) (meets_dict_items (PySem.strKind c.prog c.w) d (beq_eq_false_iff_ne.mpr hdS)) ⟨⟨vs, D⟩, ?_⟩
  exact ⟨_, _, h _ (S.off (Nat.le_refl _)), Step.push S ⟨Heap.get?_push_size _ rfl, fun q => by have := q.1; simp at this⟩, .ref _⟩
def itemsL (kw : List (Str × PV)) : List PV := kw.map fun p => .tuple [.str p.1, p.2]
theorem RepD.get {h : Heap} {ds : List (Str × PV)} {vs : List (Str × Value)} (r : RepD h ds vs) {i : Nat} {p : Str × PV} (hp : ds[i]? = some p) : ∃ v, vs[i]? = some (p.1, v) ∧ Rep h p.2 v := by
  induction r generalizing i with
  | nil => simp at hp
  | @cons k d v ds vs r0 r ih =>
    cases i with
    | zero => simp at hp; subst hp; exact ⟨v, rfl, r0⟩
    | succ i => simp at hp ⊢; exact ih hp
theorem RepD.length {h : Heap} {ds : List (Str × PV)} {vs : List (Str × Value)} (r : RepD h ds vs) : vs.length = ds.length := by
  have := congrArg List.length r.names; simpa using this
/- for k, v in d.items(), d a dict that nothing else holds -/
theorem IterOf.items {mu0 : Mu} {d v : Addr} {kw : List (Str × PV)} (h0 : mu0 d = none) (hv : upd mu0 d (.dict kw) v = none) :
    IterOf c n tupT (upd (upd mu0 d (.dict kw)) v (.obj (viewO d))) (.ref v) (itemsL kw) (fun _ => True) mu0 := by
  have hvd : v ≠ d := fun q => by rw [q] at hv; simp at hv
  rw [upd_ne _ _ hvd] at hv
  refine ⟨fun a o ea => ?_, fun A s va hA ht S r => ?_⟩
  · have h1 : a ≠ v := fun q => by rw [q, hv] at ea; cases ea
    have h2 : a ≠ d := fun q => by rw [q, h0] at ea; cases ea
    rw [upd_ne _ _ h1, upd_ne _ _ h2]; exact ea
  cases r
  have gv := (S.objs v (.obj (viewO d)) (by simp)).1
  obtain ⟨vs, es, k, gd, D, rs⟩ := S.objs d (.dict kw) (by rw [upd_ne _ _ (Ne.symm hvd)]; simp)
  obtain ⟨ep, hDA⟩ := D.dictAt
  let I := s.heap.objs.size
  have hdI : d ≠ I := Nat.ne_of_lt (Heap.lt_size gd)
  refine wpAny_pyIter_items (d := d) (kvs := vs) (ep := ep) ⟨_, gv, rfl, rfl⟩ hDA ⟨I, [I, d], fun i h => (∃ ok ov, IsItemIter h I d i vs.length ep ok ov) ∧ h.DictAt (PySem.strKind c.prog c.w) d vs ep ∧ RepD h kw vs, _, s.toks, rfl, rfl, fun b o _ eb => Heap.get?_push_of_some _ eb, fun b hb => ?_, ?_, ⟨_, _, Heap.get?_push_size _ rfl⟩, hDA.push _, rs.mono fun b o eb _ => Heap.get?_push_of_some _ eb⟩
  · rcases List.mem_cons.mp hb with q | q
    · have hI0 : mu0 I = none := by
        cases hq : mu0 I with
        | none => rfl
        | some o =>
          have z := S.off (Nat.le_refl I)
          rw [upd_ne _ _ (fun e => by rw [e, hv] at hq; cases hq), upd_ne _ _ (fun e => by rw [e, h0] at hq; cases hq), hq] at z
          cases z
      rw [q]; exact ⟨S.baseNone (Nat.le_refl _), hI0, .inl (get_none (Nat.le_refl _))⟩
    · rw [List.mem_singleton.mp q]
      have hin : upd (upd mu0 d (.dict kw)) v (.obj (viewO d)) d ≠ none := by rw [upd_ne _ _ (Ne.symm hvd)]; simp
      exact ⟨S.new d hin, h0, .inr hin⟩
  exact {
    frame := fun i h h' hj hk tk => by
      obtain ⟨⟨ok, ov, h1⟩, h2, h3⟩ := hj
      exact ⟨⟨ok, ov, hk I (by simp) _ h1⟩, h2.at fun o x => hk d (by simp) o x, h3.mono tk⟩
    notT := fun i h hj b hb => by
      obtain ⟨⟨ok, ov, h1⟩, ⟨o, es, ho, ⟨hc, _⟩, _⟩, h3⟩ := hj
      rcases List.mem_cons.mp hb with q | q
      · rw [q]; exact ⟨_, h1, fun q => by have := q.1; simp at this⟩
      · rw [List.mem_singleton.mp q]; exact ⟨o, ho, fun q => by have := q.1; rw [hc] at this; simp at this⟩
    next := fun i dd A s mu target hT hx hA ht S hs hm hj => by
      obtain ⟨⟨ok, ov, h1⟩, h2, h3⟩ := hj
      unfold itemsL at hx
      rw [List.getElem?_map] at hx
      obtain ⟨p, hp, rfl⟩ := Option.map_eq_some_iff.mp hx
      obtain ⟨vv, hvv, rv⟩ := h3.get hp
      obtain ⟨elts, kk, pos, rfl⟩ := hT
      refine wpAny_pyNext_items_item h1 h2 hvv fun key h' hkey g1 g2 g3 g4 => ⟨_, rfl, ?_⟩
      obtain ⟨t, rfl⟩ := Value.isStrOf_shape hkey
      refine wpAny_letOwnedTupleGo_items (s := { s with heap := h', toks := s.toks }) g1 fun h'' q1 q2 => ?_
      have hsI : s.heap.objs.size ≠ I := Nat.ne_of_gt (Heap.lt_size h1)
      have kp : ∀ b o, b ≠ I → s.heap.get? b = some o → h''.get? b = some o := fun b o hb eb => (q2.2 b hb).trans (g4 b o hb eb)
      have tk : TK s.heap h'' := fun b o eb hto => kp b o (fun q => by rw [q, h1] at eb; cases eb; have := hto.1; simp at this) eb
      have g2' : h''.get? s.heap.objs.size = some { cls := .type "tuple", data := .seq #[.str p.1 t, vv] } := (q2.2 _ hsI).trans g2
      exact ⟨h'', s.toks, rfl, fun b o hb eb => kp b o (fun q => hb (by simp [q])) eb, .tuple (vs := [.str p.1 t, vv]) g2' (.cons (.str _ _) (.cons (rv.mono tk) .nil)), ⟨_, _, q1⟩, h2.at fun o x => kp d o hdI x, h3.mono tk⟩
    self := fun i A s Q E hA hj hq => by
      obtain ⟨⟨ok, ov, h1⟩, _⟩ := hj
      exact kcp_self h1 hq
    done := fun i A s mu hx hA ht S hs hm hj => by
      obtain ⟨⟨ok, ov, h1⟩, h2, h3⟩ := hj
      refine wpAny_pyNext_items_end hA.hd h1 h2 ?_ fun h' hx' => ⟨rfl, h', s.toks, rfl, fun b o hb eb => hx' b o (fun q => hb (by simp [q])) eb⟩
      rw [List.getElem?_eq_none_iff, h3.length, hx]; simp [itemsL] }
end
end Mine

open PySem PySem.W PySem.Calls PyProof.Rows
set_option Elab.async false
set_option linter.unusedVariables false
namespace Mine
/- # the text of a header -/
def joinL (sep : List Nat) : List (List Nat) → List Nat
  | [] => []
  | x :: r => x ++ r.flatMap fun y => sep ++ y
theorem join_S (sep : List Nat) (xs : List (List Nat)) : Txt.join (S sep) (xs.map S) = S (joinL sep xs) := by
  unfold Txt.join Builtin.Str.glued
  cases xs with
  | nil => rfl
  | cons x r =>
    simp only [List.map_cons, List.drop_succ_cons, List.drop_zero, List.headD_cons]
    have h : ∀ (r : List (List Nat)) (acc : Array Nat), (r.map S).foldl (fun acc p => acc ++ (S sep).cps ++ p.cps) acc = acc ++ (r.flatMap fun y => sep ++ y).toArray := fun r => by
      induction r with
      | nil => intro acc; simp
      | cons y r ih => intro acc; rw [List.map_cons, List.foldl_cons, ih]; simp
    rw [h]
    simp [joinL]
theorem joinOk_row {sep : List Nat} {xs : List (List Nat)} (h : (joinL sep xs).length + sep.length ≤ 1000000) : JoinOk (S sep) (xs.map S) = true := by
  unfold JoinOk Builtin.Str.tooLong sizeLine
  have : ∀ (xs : List (List Nat)) (a : Nat), (xs.map S).foldl (· + ·.length + (S sep).length) a = a + (xs.flatMap fun y => sep ++ y).length := fun xs => by
    induction xs with
    | nil => intro a; simp
    | cons x r ih => intro a; rw [List.map_cons, List.foldl_cons, ih]; simp [S_length]; omega
  have h1 := this xs 0
  have h2 : (xs.flatMap fun y => sep ++ y).length ≤ (joinL sep xs).length + sep.length := by
    cases xs with
    | nil => simp
    | cons x r => simp [joinL]; omega
  rw [List.foldl_toArray', h1]
  · simp only [Bool.not_eq_true', decide_eq_false_iff_not]
    omega
  · simp
/- a parameter: its name, and None or a text -/
abbrev Kw := List Nat × Option (List Nat)
def optPV : Option (List Nat) → PV
  | none => .none
  | some v => .str (S v)
def kwPV (ks : List Kw) : List (Str × PV) := ks.map fun p => (S p.1, optPV p.2)
def dashL (k : List Nat) : List Nat := replL 95 [45] k
def partL : Kw → List Nat
  | (k, none) => dashL k
  | (k, some v) => fp (dashL k) v true
def rowL (own : Option (List Nat)) (ks : List Kw) : List Nat := joinL [59, 32] (own.toList ++ ks.map partL)
def okK (p : Kw) : Bool := okN p.1 && (match p.2 with | none => true | some v => okV v)
def okO (o : Option (List Nat)) : Bool := match o with | none => true | some v => okV v
theorem dashL_length (k : List Nat) : (dashL k).length = k.length := by
  unfold dashL replL
  induction k with
  | nil => rfl
  | cons a r ih => rw [List.flatMap_cons, List.length_append, ih]; split <;> simp <;> omega
theorem len_mem_joinL {sep : List Nat} {xs : List (List Nat)} {x : List Nat} (h : x ∈ xs) : x.length ≤ (joinL sep xs).length := by
  cases xs with
  | nil => cases h
  | cons y r =>
    rcases List.mem_cons.mp h with q | q
    · subst q; simp [joinL]
    · have : x.length ≤ (r.flatMap fun y => sep ++ y).length := by
        clear h
        induction r with
        | nil => cases q
        | cons z r ih =>
          rcases List.mem_cons.mp q with q | q
          · subst q; simp; omega
          · have := ih q; simp at this ⊢; omega
      simp [joinL] at this ⊢; omega
theorem mem_joinL {sep : List Nat} {xs : List (List Nat)} {ch : Nat} (h : ch ∈ joinL sep xs) : ch ∈ sep ∨ ∃ x ∈ xs, ch ∈ x := by
  cases xs with
  | nil => cases h
  | cons y r =>
    rcases List.mem_append.mp h with q | q
    · exact .inr ⟨y, by simp, q⟩
    · obtain ⟨z, hz, q⟩ := List.mem_flatMap.mp q
      rcases List.mem_append.mp q with q | q
      · exact .inl q
      · exact .inr ⟨z, by simp [hz], q⟩
theorem mem_dashL {k : List Nat} {ch : Nat} (h : ch ∈ dashL k) : ch = 45 ∨ ch ∈ k := by
  unfold dashL replL at h
  obtain ⟨a, ha, q⟩ := List.mem_flatMap.mp h
  split at q
  · exact .inl (by simpa using q)
  · have : ch = a := by simpa using q
    exact .inr (this ▸ ha)
theorem mem_escL {v : List Nat} {ch : Nat} (h : ch ∈ escL v) : ch = 92 ∨ ch ∈ v := by
  unfold escL at h
  obtain ⟨a, ha, q⟩ := List.mem_flatMap.mp h
  split at q
  · rcases List.mem_cons.mp q with q | q
    · exact .inl q
    · have : ch = a := by simpa using q
      exact .inr (this ▸ ha)
  · have : ch = a := by simpa using q
    exact .inr (this ▸ ha)
theorem mem_fp {p v : List Nat} {ch : Nat} (h : ch ∈ fp p v true) : ch ∈ p ∨ ch = 61 ∨ ch = 34 ∨ ch = 92 ∨ ch ∈ v := by
  unfold fp at h
  split at h
  · exact .inl h
  · simp only [Bool.true_or, if_true, List.mem_append, List.mem_cons, List.not_mem_nil, or_false] at h
    rcases h with ((q | q) | q) | q
    · exact .inl q
    · omega
    · rcases mem_escL q with q | q
      · omega
      · exact .inr (.inr (.inr (.inr q)))
    · omega
/- a sign that a value may have -/
def sgV (ch : Nat) : Prop := isCtlV ch = false ∧ ch < 1114112
theorem okV.sg {v : List Nat} (h : okV v = true) {ch : Nat} (hc : ch ∈ v) : sgV ch := by
  refine ⟨?_, okV.uni h ch hc⟩
  have := okV.ctl h
  rw [List.any_eq_false] at this
  simpa using this ch hc
theorem okN.sg {v : List Nat} (h : okN v = true) {ch : Nat} (hc : ch ∈ v) : sgV ch := by
  have h1 := okN.ctl h
  rw [List.any_eq_false] at h1
  have h2 := okN.asc h ch hc
  have h3 := h1 ch hc
  simp only [isCtl, Bool.or_eq_true, decide_eq_true_eq, not_or] at h3
  refine ⟨?_, by omega⟩
  simp only [isCtlV, Bool.or_eq_false_iff, Bool.and_eq_false_iff, decide_eq_false_iff_not]
  omega
theorem okV_of {v : List Nat} (h : ∀ ch ∈ v, sgV ch) (hl : v.length ≤ 100000) : okV v = true := by
  unfold okV
  rw [Bool.and_eq_true, Bool.and_eq_true, decide_eq_true_eq]
  refine ⟨⟨?_, ?_⟩, hl⟩
  · rw [Bool.not_eq_true', List.any_eq_false]
    intro ch hc; rw [(h ch hc).1]; exact Bool.false_ne_true
  · rw [List.all_eq_true]
    intro ch hc; rw [decide_eq_true_eq]; exact (h ch hc).2
theorem okK.nm {p : Kw} (h : okK p = true) : okN p.1 = true := by unfold okK at h; rw [Bool.and_eq_true] at h; exact h.1
theorem okK.vl {p : Kw} (h : okK p = true) {v : List Nat} (hv : p.2 = some v) : okV v = true := by
  unfold okK at h; rw [Bool.and_eq_true, hv] at h; exact h.2
theorem partL_sg {p : Kw} (h : okK p = true) {ch : Nat} (hc : ch ∈ partL p) : sgV ch := by
  have hd : ∀ ch, ch ∈ dashL p.1 → sgV ch := fun ch hc => by
    rcases mem_dashL hc with q | q
    · subst q; exact ⟨by decide, by decide⟩
    · exact okN.sg (okK.nm h) q
  obtain ⟨k, o⟩ := p
  cases o with
  | none => exact hd ch hc
  | some v =>
    rcases mem_fp hc with q | q | q | q | q
    · exact hd ch q
    · subst q; exact ⟨by decide, by decide⟩
    · subst q; exact ⟨by decide, by decide⟩
    · subst q; exact ⟨by decide, by decide⟩
    · exact okV.sg (okK.vl h rfl) q
theorem rowL_ok {own : Option (List Nat)} {ks : List Kw} (ho : okO own = true) (hk : ∀ p ∈ ks, okK p = true) (hl : (rowL own ks).length ≤ 100000) : okV (rowL own ks) = true := by
  refine okV_of (fun ch hc => ?_) hl
  rcases mem_joinL hc with q | ⟨x, hx, q⟩
  · simp at q
    rcases q with q | q <;> subst q <;> exact ⟨by decide, by decide⟩
  · rcases List.mem_append.mp hx with hx | hx
    · cases own with
      | none => cases hx
      | some v => simp at hx; subst hx; exact okV.sg ho q
    · obtain ⟨p, hp, rfl⟩ := List.mem_map.mp hx
      exact partL_sg (hk p hp) q
theorem part_len {own : Option (List Nat)} {ks : List Kw} {p : Kw} (hp : p ∈ ks) : (partL p).length ≤ (rowL own ks).length := len_mem_joinL (by simp; exact .inr ⟨_, _, hp, rfl⟩)
theorem partL_key (p : Kw) : p.1.length ≤ (partL p).length := by
  obtain ⟨k, o⟩ := p
  cases o with
  | none => simp [partL, dashL_length]
  | some v =>
    show k.length ≤ (fp (dashL k) v true).length
    unfold fp
    split
    · rw [dashL_length]; exact Nat.le_refl _
    · simp [dashL_length]
theorem forIn_yield {α β : Type} (f : α → β → Sem (ForInStep β)) (g : β → α → β) : ∀ (l : List α) (b : β), (∀ x ∈ l, ∀ b, f x b = pure (.yield (g b x))) → forIn l b f = pure (l.foldl g b) := by
  intro l
  induction l with
  | nil => intro b _; rfl
  | cons x r ih =>
    intro b h
    rw [List.forIn_cons, h x (by simp)]
    show (forIn r (g b x) f) = _
    rw [ih _ fun y hy => h y (by simp [hy])]
    rfl
theorem bind_more0 {fd : FuncData} {a1 a2 a3 ka : Arg} (hp : fd.params = { posonlyargs := [], args := [a1, a2, a3], vararg := none, kwonlyargs := [], kw_defaults := [], kwarg := some ka, defaults := [] }) (hd : fd.defaults = .none) (kvs : List (Str × Value)) (hkw : ∀ p ∈ kvs, p.1 ≠ a1.arg ∧ p.1 ≠ a2.arg ∧ p.1 ≠ a3.arg) (hlen : kvs.length ≤ sizeLine) (h12 : (a2.arg == a1.arg) = false) (h13 : (a3.arg == a1.arg) = false) (h23 : (a3.arg == a2.arg) = false) (v w u : Value) :
    bindArgs fd ⟨[v, w, u], kvs⟩ = (alloc (dictOf [] 0) >>= fun D => (forIn kvs PUnit.unit fun x _ => (nsSet D x.1 x.2 >>= fun _ => pure (ForInStep.yield PUnit.unit))) >>= fun _ => pure [(a1.arg, v), (a2.arg, w), (a3.arg, u), (ka.arg, .ref D)]) := by
  unfold bindArgs
  rw [hp, hd]
  dsimp only [List.map, List.append, List.nil_append, List.zip]
  rw [forIn_yield _ (fun b x => (b.1, b.2 ++ [x])) kvs _ (fun x hx b => ?_)]
  · have e : kvs.foldl (fun (b : List (Str × Value) × List (Str × Value)) x => (b.1, b.2 ++ [x])) (List.zipWith Prod.mk [a1.arg, a2.arg, a3.arg] [v, w, u], []) = ([(a1.arg, v), (a2.arg, w), (a3.arg, u)], kvs) := by
      have : ∀ (l : List (Str × Value)) (a b : List (Str × Value)), l.foldl (fun (b : List (Str × Value) × List (Str × Value)) x => (b.1, b.2 ++ [x])) (a, b) = (a, b ++ l) := fun l => by
        induction l with
        | nil => intro a b; simp
        | cons x r ih => intro a b; rw [List.foldl_cons, ih]; simp
      rw [this]; rfl
    rw [e]
    have hl : ¬ kvs.length > sizeLine + 1 := by omega
    have l1 : List.lookup a1.arg [(a1.arg, v), (a2.arg, w), (a3.arg, u)] = some v := by simp [List.lookup]
    have l2 : List.lookup a2.arg [(a1.arg, v), (a2.arg, w), (a3.arg, u)] = some w := by simp [List.lookup, h12]
    have l3 : List.lookup a3.arg [(a1.arg, v), (a2.arg, w), (a3.arg, u)] = some u := by simp [List.lookup, h13, h23]
    rw [show seqItems? Value.none = pure none from rfl]
    simp [l1, l2, l3, hl, pure_bind]
  · have q := hkw x hx
    have e : ([a1.arg, a2.arg, a3.arg].contains x.fst || ([] : List Str).contains x.fst) = false := by
      simp [q.1, q.2.1, q.2.2]
    rw [if_neg (by rw [e]; exact Bool.false_ne_true)]
    rfl
theorem bind_more {fd : FuncData} {x y z nm : Str} (hp : ∃ a1 a2 a3 ka, fd.params = { posonlyargs := [], args := [a1, a2, a3], vararg := none, kwonlyargs := [], kw_defaults := [], kwarg := some ka, defaults := [] } ∧ a1.arg = x ∧ a2.arg = y ∧ a3.arg = z ∧ ka.arg = nm) (hd : fd.defaults = .none) (kvs : List (Str × Value)) (hkw : ∀ p ∈ kvs, p.1 ≠ x ∧ p.1 ≠ y ∧ p.1 ≠ z) (hlen : kvs.length ≤ sizeLine) (h12 : (y == x) = false) (h13 : (z == x) = false) (h23 : (z == y) = false) (v w u : Value) :
    bindArgs fd ⟨[v, w, u], kvs⟩ = (alloc (dictOf [] 0) >>= fun D => (forIn kvs PUnit.unit fun x _ => (nsSet D x.1 x.2 >>= fun _ => pure (ForInStep.yield PUnit.unit))) >>= fun _ => pure [(x, v), (y, w), (z, u), (nm, .ref D)]) := by
  obtain ⟨a1, a2, a3, ka, e, rfl, rfl, rfl, rfl⟩ := hp
  exact bind_more0 e hd kvs hkw hlen h12 h13 h23 v w u
end Mine

open PySem PySem.W PySem.Calls PyProof.Rows
set_option Elab.async false
set_option linter.unusedVariables false
namespace Mine
section
variable {c : Cx} {n : Nat} {sc : Scope} {m : Lm} {mu : Mu}
end
/- texts as data -/
def txtD (xs : List (List Nat)) : PyData := .list (xs.map fun v => .str (S v))
theorem txtD_is {c : Cx} {mu : Mu} {l : Addr} {xs : List (List Nat)} (h : ListAt c mu l (xs.map fun v => .str (S v))) : IsD c mu (txtD xs) (.ref l) := ⟨l, _, rfl, h, IsDs.map xs fun v _ => rfl⟩
theorem txtD_lay {xs : List (List Nat)} (h : ∀ v ∈ xs, ∀ ch ∈ v, ch < 1114112) : (txtD xs).canLay0 = true := canLayAll0_map xs fun v hv => strOk_S (h v hv)
theorem txtD_depth (xs : List (List Nat)) : (txtD xs).depth ≤ 1 := by
  rw [txtD, PyData.depth]
  have := depthAll_map (f := fun v => PyData.str (S v)) (k := 0) xs fun _ _ => by simp [PyData.depth]
  omega
end Mine

open PySem PySem.W PySem.Calls PyProof.Rows
set_option Elab.async false
set_option linter.unusedVariables false
namespace Mine
/- # dict comprehensions, keys all new -/
def CompD (c : Cx) (n : Nat) (sc : Scope) (src : Mu → Prop) (target : PySem.Expr) (ifs : List PySem.Expr) (kx vx : PySem.Expr) (P : List (Str × PV) → Mu → Prop) : List PV → List (Str × PV) → Lm → Mu → Prop
  | [], acc, _, mu => src mu ∧ P acc mu
  | x :: xs, acc, m, mu => src mu ∧ acc.length ≤ sizeLine ∧ AsgT false c n sc m mu target x fun m1 mu1 => IfsE c n sc m1 mu1 ifs fun ok mu2 =>
      if ok = true then EvE c n sc m1 mu2 kx fun k mu3 => EvE c n sc m1 mu3 vx fun d mu4 => ∃ key, k = .str key ∧ key ∉ acc.map (·.1) ∧ CompD c n sc src target ifs kx vx P xs (acc ++ [(key, d)]) m1 mu4 else CompD c n sc src target ifs kx vx P xs acc m1 mu2
structure MidD (c : Cx) (cenv : Env) (D : Addr) (mu0 : Mu) (s0 : Shared) (priv : List Addr) (J : Nat → Heap → Prop) (i : Nat) (acc : List (Str × PV)) (m : Lm) (mu : Mu) (s : Shared) : Prop where
  step : Step c noT mu0 s0 mu s
  fm : Fm c mu s.heap cenv m
  pv : ∀ b ∈ priv, mu b = none ∧ c.base.get? b = none
  j : J i s.heap
  toks : 0 < s.toks
  accL : ∃ vs, s.heap.DictOf (PySem.strKind c.prog c.w) D vs ∧ RepD s.heap acc vs
  muD : mu D = none
section
variable {c : Cx} {n : Nat} {sc : Scope} {m : Lm} {mu : Mu}
theorem dict_rep {h : Heap} {D : Addr} {vs : List (Str × Value)} {kw : List (Str × PV)} (hd : h.DictOf (PySem.strKind c.prog c.w) D vs) (r : RepD h kw vs) : RepO c h D (.dict kw) := by
  obtain ⟨⟨cls, dd, data, sl⟩, es, ep, e, ⟨h1, h2, h3⟩, h4, r2⟩ := id hd
  simp only at h1 h2 h3 h4
  subst h1 h2 h3 h4
  obtain ⟨es⟩ := es
  exact ⟨vs, es, ep, e, hd, r⟩
theorem stored_new {vs : List (Str × Value)} {k : Str} {v : Value} (h : k ∉ vs.map (·.1)) : stored vs k v = vs ++ [(k, v)] := by
  unfold stored
  rw [if_neg]
  intro q
  obtain ⟨p, hp, e⟩ := List.any_eq_true.mp q
  exact h (List.mem_map.mpr ⟨p, hp, by simpa using e⟩)
theorem RepD.snoc {h : Heap} {ds : List (Str × PV)} {vs : List (Str × Value)} {k : Str} {d : PV} {v : Value} (r : RepD h ds vs) (r2 : Rep h d v) : RepD h (ds ++ [(k, d)]) (vs ++ [(k, v)]) := by
  induction r with
  | nil => exact .cons r2 .nil
  | cons a b ih => exact .cons a ih
theorem compLoop_testsD {kx vx target iter : PySem.Expr} {ifs : List PySem.Expr} {scope : Scope} {pos : Pos} {it : Value} {D : Addr} {env : Env} {A : Around} {R : Result → Shared → Prop} {s : Shared} (I : Nat → Shared → Prop)
    (turn : ∀ n s, I n s → wpAny c.M A (pyNext it) (fun r s₁ => match r with
      | none => R (.ok .next) s₁
      | some v => wpAny c.M A (letOwnedTupleGo target it v) (fun _ s₁' => wpAny c.M A (assign target env v) (fun _ s₂ =>
          wpAny c.M A (forIn ifs true fun c r => if r = true then do let ok ← isTrue c env (eval c env); pure (ForInStep.yield ok) else pure (ForInStep.yield r)) (fun ok s₃ =>
            if ok = true then wpAny c.M A (eval kx env) (fun kv s₄ => wpAny c.M A (eval vx env) (fun vv s₅ =>
              wpAny c.M A (dictSet D kv vv) (fun _ s₆ => ∃ m, m < n ∧ I m s₆) NoE s₅) NoE s₄) NoE s₃
            else ∃ m, m < n ∧ I m s₃) NoE s₂) NoE s₁') NoE s₁) NoE s)
    (n : Nat) (h : I n s) :
    codeAny c.M A (.compLoop (.DictComp kx vx [⟨target, iter, ifs, 0⟩] scope pos) 0 it (.ref D) env) R s := by
  refine codeAny_loop rfl I (fun n s hI => ?_) n h
  show wpAny _ A ((compTurn (.DictComp kx vx [⟨target, iter, ifs, 0⟩] scope pos) 0 it (.ref D) env).onRaise (fun x => do noteFrame x env; theTreesLotGoes x)) _ _ s
  refine wpAny_noted ?_
  rw [compTurn_dict]
  refine wpAny_bind (wpAny_standAt (wpAny_bind (wpAny_mono (turn n s hI) (fun r s₁ h₁ => ?_) fun _ _ h' => h'.elim)))
  cases r with
  | none => exact wpAny_pure h₁
  | some v =>
    refine wpAny_bind (wpAny_mono h₁ (fun _ s₁' h₁' => ?_) fun _ _ h' => h'.elim)
    refine wpAny_bind (wpAny_mono h₁' (fun _ s₂ h₂ => wpAny_bind (wpAny_mono h₂ (fun ok s₃ h₃ => ?_) fun _ _ h' => h'.elim)) fun _ _ h' => h'.elim)
    cases ok with
    | false => exact wpAny_pure ⟨rfl, h₃⟩
    | true =>
      refine wpAny_bind (wpAny_bind (wpAny_mono h₃ (fun kv s₄ h₄ => wpAny_bind (wpAny_holding (wpAny_mono h₄ (fun vv s₅ h₅ => wpAny_bind (wpAny_standAt (wpAny_holding (wpAny_mono h₅ (fun _ s₆ h₆ => ?_) fun _ _ h' => h'.elim)))) fun _ _ h' => h'.elim))) fun _ _ h' => h'.elim))
      exact wpAny_pure ⟨rfl, h₆⟩
def DDone (c : Cx) (mu0 : Mu) (s0 : Shared) (C D : Addr) (P : List (Str × PV) → Mu → Prop) (s' : Shared) : Prop :=
  ∃ ys mu3, P ys mu3 ∧ mu3 D = none ∧ Step c noT mu0 s0 (upd mu3 D (.dict ys)) s' ∧ (∃ m, s'.heap.Ns C m) ∧ mu3 C = none ∧ 0 < s'.toks
theorem comp_loopD {okT : PySem.Expr → Prop} {I : Addr} {priv : List Addr} {src : Mu → Prop} {xs : List PV} {J : Nat → Heap → Prop} {target kx vx iter : PySem.Expr} {ifs : List PySem.Expr} {scope : Scope} {pos : Pos} {P : List (Str × PV) → Mu → Prop} {cenv : Env} {A : Around} {D : Addr} {mu0 : Mu} {s0 : Shared}
    (W : Iter c n okT I priv src xs J) (hT : okT target) (he : cenv.scope = sc) (hA : AOk n A) (hL : cenv.locals ∉ priv) (hC : ∀ x ca, cenv.cells.lookup x = some ca → ca ∉ priv)
    (h0 : ∀ b ∈ priv, s0.heap.get? b = none ∨ mu0 b ≠ none) (hL0 : s0.heap.get? cenv.locals = none) (hD0 : s0.heap.get? D = none) (hDb : c.base.get? D = none) (hDL : D ≠ cenv.locals) (hDp : D ∉ priv) (hDC : ∀ x, cenv.cells.lookup x ≠ some D)
    (s : Shared) (hl : CompD c n sc src target ifs kx vx P xs [] m mu) (hm : MidD c cenv D mu0 s0 priv J 0 [] m mu s) :
    codeAny c.M A (.compLoop (.DictComp kx vx [⟨target, iter, ifs, 0⟩] scope pos) 0 (.ref I) (.ref D) cenv) (fun r s' => r = .ok .next ∧ DDone c mu0 s0 cenv.locals D P s') s := by
  refine compLoop_testsD (fun k s' => ∃ i acc m mu, k = xs.length + 1 - i ∧ i ≤ xs.length ∧ CompD c n sc src target ifs kx vx P (xs.drop i) acc m mu ∧ MidD c cenv D mu0 s0 priv J i acc m mu s') ?_ (xs.length + 1 - 0) ⟨0, [], m, mu, rfl, Nat.zero_le _, by simpa using hl, hm⟩
  clear hl hm
  rintro k s ⟨i, acc, m, mu, rfl, hi, hl, hm⟩
  have hpm : ∀ b ∈ priv, mu b = none := fun b hb => (hm.pv b hb).1
  have privStep : ∀ {h' : Heap} {tk : Nat}, (∀ b o, b ∉ priv → s.heap.get? b = some o → h'.get? b = some o) → St c mu h' → Step c noT mu0 s0 mu { s with heap := h', toks := tk } := fun {h' tk} hk S1 => {
      shape := by obtain ⟨h2, tk2, e⟩ := hm.step.shape; rw [e]; exact ⟨_, _, rfl⟩
      st := S1
      keep := fun b o e hmb hTb => hk b o (fun q => by rcases h0 b q with z | z; rw [e] at z; cases z; exact z hmb) (hm.step.keep b o e hmb hTb)
      alive := fun b o e hmb => ⟨o, hk b o (fun q => by rcases h0 b q with z | z; rw [e] at z; cases z; exact z hmb) (hm.step.keep b o e hmb id)⟩
      dom := hm.step.dom }
  obtain ⟨vs, eD, rD⟩ := hm.accL
  have aD : ∃ o, s.heap.get? D = some o := by obtain ⟨o, _, _, e, _⟩ := id eD; exact ⟨o, e⟩
  cases hx : xs.drop i with
  | nil =>
    rw [hx] at hl
    have hxi : i = xs.length := by have := congrArg List.length hx; simp at this; omega
    refine wpAny_mono (wpAny_toks (W.done i A s mu hxi hA hm.toks hm.step.st hl.1 hpm hm.j)) (fun r s1 p => ?_) fun _ _ x => x.2.elim
    obtain ⟨hle, rfl, h', tk, rfl, hk⟩ := p
    have tkk := tk_priv (W.notT i _ hm.j) hk
    have S1 : St c mu h' := hm.step.st.priv hm.pv hk tkk
    have F1 : Fm c mu h' cenv m := hm.fm.priv hL hC hk tkk
    have x1 := privStep (tk := tk) hk S1
    have eD1 : h'.DictOf (PySem.strKind c.prog c.w) D vs := dictOf_at eD fun o e => hk D o hDp e
    refine ⟨rfl, acc, mu, hl.2, hm.muD, ?_, let ⟨mc, hn, _⟩ := F1.loc; ⟨mc, hn⟩, F1.offL, Nat.lt_of_lt_of_le hm.toks hle⟩
    refine ⟨x1.shape, ⟨S1.base, fun a o e => ?_, fun a ha => ?_⟩, x1.keep, x1.alive, fun b hb => ?_⟩
    · by_cases q : a = D
      · subst q; simp at e; subst e; exact dict_rep eD1 (rD.mono tkk)
      · rw [upd_ne mu _ q] at e; exact S1.objs a o e
    · by_cases q : a = D
      · subst q; exact hDb
      · rw [upd_ne mu _ q] at ha; exact S1.new a ha
    · by_cases q : b = D
      · subst q; exact .inr hD0
      · rw [upd_ne mu _ q] at hb; exact x1.dom b hb
  | cons d rest =>
    rw [hx] at hl
    have hxi : xs[i]? = some d := by
      have := congrArg (fun l => l[0]?) hx
      simpa using this
    have hlt : i < xs.length := (List.getElem?_eq_some_iff.mp hxi).1
    have hrest : xs.drop (i + 1) = rest := by
      have := congrArg List.tail hx
      simpa [List.tail_drop] using this
    refine wpAny_mono (wpAny_toks (W.next i d A s mu target hT hxi hA hm.toks hm.step.st hl.1 hpm hm.j)) (fun r s1 p => ?_) fun _ _ x => x.2.elim
    obtain ⟨hle, v, rfl, p⟩ := p
    refine wpAny_mono (wpAny_toks p) (fun _ s2 p => ?_) fun _ _ x => x.2.elim
    obtain ⟨hle2, h', tk, rfl, hk, rd, hj⟩ := p
    have tkk := tk_priv (W.notT i _ hm.j) hk
    have S1 : St c mu h' := hm.step.st.priv hm.pv hk tkk
    have F1 : Fm c mu h' cenv m := hm.fm.priv hL hC hk tkk
    have t1 : 0 < tk := Nat.lt_of_lt_of_le (Nat.lt_of_lt_of_le hm.toks hle) hle2
    have x1 := privStep (tk := tk) hk S1
    have eD1 : h'.DictOf (PySem.strKind c.prog c.w) D vs := dictOf_at eD fun o e => hk D o hDp e
    have rD1 : RepD h' acc vs := rD.mono tkk
    have offT : ∀ b ∈ priv, ¬ TchK false cenv b := fun b hb q => by
      rcases q with q | ⟨q, _⟩
      · exact hL (q ▸ hb)
      · cases q
    have dT : ¬ TchK false cenv D := fun q => by
      rcases q with q | ⟨q, _⟩
      · exact hDL q
      · cases q
    -- what a step of the frame's leaves
    have next : ∀ {mu2 : Mu} {sa sb : Shared}, Step c (TchK false cenv) mu sa mu2 sb → J (i + 1) sa.heap → TK sa.heap sb.heap → sa.heap.DictOf (PySem.strKind c.prog c.w) D vs → J (i + 1) sb.heap ∧ (∀ b ∈ priv, mu2 b = none ∧ c.base.get? b = none) ∧ sb.heap.DictOf (PySem.strKind c.prog c.w) D vs ∧ mu2 D = none := fun {mu2 sa sb} x hja tka ea => by
      refine ⟨W.frame _ _ _ hja (fun b hb o e => x.keep b o e (hpm b hb) (offT b hb)) tka, fun b hb => ⟨?_, (hm.pv b hb).2⟩, dictOf_at ea fun o e => x.keep D o e hm.muD dT, by obtain ⟨o, _, _, e, _⟩ := id ea; exact keepNone x e hm.muD⟩
      obtain ⟨o, e, _⟩ := W.notT _ _ hja b hb
      exact keepNone x e (hpm b hb)
    have hTL : ∀ b, TchK false cenv b → s0.heap.get? b = none := fun b q => by
      rcases q with q | ⟨q, _⟩
      · rw [q]; exact hL0
      · cases q
    refine wpAny_mono (wpAny_toks (hl.2.2 cenv A _ v he hA t1 S1 F1 rd)) (fun _ s3 p => ?_) fun _ _ x => x.2.elim
    obtain ⟨hle3, m3, mu3, h3, x3, F3⟩ := p
    have t3 : 0 < s3.toks := Nat.lt_of_lt_of_le t1 hle3
    refine wpAny_mono (wpAny_toks (h3 cenv A s3 he hA t3 x3.st F3)) (fun ok s4 p => ?_) fun _ _ x => x.2.elim
    obtain ⟨hle4, mu4, h4, x4⟩ := p
    have t4 : 0 < s4.toks := Nat.lt_of_lt_of_le t3 hle4
    have F4 : Fm c mu4 s4.heap cenv m3 := F3.step x3.st x4
    have x34 : Step c (TchK false cenv) mu { s with heap := h', toks := tk } mu4 s4 := x3.trans x4.toT
    cases ok with
    | false =>
      have h4' : CompD c n sc src target ifs kx vx P rest acc m3 mu4 := h4
      obtain ⟨hj4, hp4, eD4, mD4⟩ := next x34 hj (F1.tkT S1 x34) eD1
      exact ⟨xs.length + 1 - (i + 1), by omega, i + 1, acc, m3, mu4, rfl, hlt, hrest ▸ h4', x1.outer x34 hTL, F4, hp4, hj4, t4, ⟨vs, eD4, rD1.mono (F1.tkT S1 x34)⟩, mD4⟩
    | true =>
      have h4' : EvE c n sc m3 mu4 kx fun k mu5 => EvE c n sc m3 mu5 vx fun d mu6 => ∃ key, k = .str key ∧ key ∉ acc.map (·.1) ∧ CompD c n sc src target ifs kx vx P rest (acc ++ [(key, d)]) m3 mu6 := h4
      refine EvE.bind h4' he hA t4 x4.st F4 fun kw s5 d5 mu5 h5 x5 t5 S5 F5 r5 k5 => ?_
      refine EvE.bind h5 he hA t5 S5 F5 fun w s6 d6 mu6 h6 x6 t6 S6 F6 r6 k6 => ?_
      obtain ⟨key, rfl, hnew, h7⟩ := h6
      cases r5 with | str _ tt =>
      have x36 : Step c (TchK false cenv) mu { s with heap := h', toks := tk } mu6 s6 := (x34.trans x5.toT).trans x6.toT
      obtain ⟨hj6, hp6, eD6, mD6⟩ := next x36 hj (F1.tkT S1 x36) eD1
      have rD6 : RepD s6.heap acc vs := rD1.mono (F1.tkT S1 x36)
      have aD6 : ∃ o, s6.heap.get? D = some o ∧ ¬ IsT o := by
        obtain ⟨o, _, _, e, ⟨hc, _⟩, _⟩ := id eD6
        exact ⟨o, e, fun q => by have := q.1; rw [hc] at this; simp at this⟩
      refine wpAny_dictSet_pairs (k := key) (strKind_is _ _ key tt) eD6 (fun h8 hd8 hs8 => ?_) (by rw [rD6.length]; exact hl.2.1)
      have notD : ∀ o, s6.heap.get? D = some o → ¬ IsT o := fun o e => by obtain ⟨o', e', h'⟩ := aD6; rw [e'] at e; cases e; exact h'
      have tk8 : TK s6.heap h8 := fun b o e ht => (hs8.2 b (fun q => by subst q; exact notD o e ht)).trans e
      have hal : ∃ o, h8.get? D = some o := by obtain ⟨o, _, _, e, _⟩ := id hd8; exact ⟨o, e⟩
      have x8 : Step c (fun b => b = D) mu6 s6 mu6 { s6 with heap := h8, toks := s6.toks + 1 } := Step.turn S6 mD6 hDb notD hs8 rfl hal
      have hj8 : J (i + 1) h8 := W.frame _ _ _ hj6 (fun b hb o e => (hs8.2 b (fun q => hDp (q ▸ hb))).trans e) tk8
      have F8 : Fm c mu6 h8 cenv m3 := F6.priv (priv := [D]) (by simpa using Ne.symm hDL) (fun x ca hx q => hDC x (by simp at q; rw [← q]; exact hx)) (fun b o hb e => (hs8.2 b (by simpa using hb)).trans e) tk8
      have est : stored vs key w = vs ++ [(key, w)] := stored_new (by rw [rD6.names]; exact hnew)
      rw [est] at hd8
      exact ⟨xs.length + 1 - (i + 1), by omega, i + 1, acc ++ [(key, d6)], m3, mu6, rfl, hlt, hrest ▸ h7, ((x1.outer x36 hTL).outer x8 (fun b q => by rw [q]; exact hD0)), F8, hp6, hj8, Nat.lt_succ_of_lt t6, ⟨vs ++ [(key, w)], hd8, (rD6.mono tk8).snoc (r6.mono tk8)⟩, mD6⟩

/- the comprehension up to what its list is used for -/
theorem comp_runD {okT : PySem.Expr → Prop} {target iter kx vx : PySem.Expr} {ifs : List PySem.Expr} {scope : Scope} {pos pos' : Pos} {P : List (Str × PV) → Mu → Prop} (hT : okT target) (hco : compOk scope sc = true)
    (h : EvE c n sc m mu iter fun d mu1 => ∃ xs src mu2, IterOf c n okT mu1 d xs src mu2 ∧ CompD c n (relab scope sc) src target ifs kx vx P xs [] (capt scope m) mu2)
    (hs : ∀ env x, foldedSetIterable iter env x = pure x) {env : Env} {A : Around} {s : Shared} (he : env.scope = sc) (hA : AOk n A) (ht : 0 < s.toks) (S : St c mu s.heap) (F : Fm c mu s.heap env m)
    {use : Option (Value → Sem Unit)} {Q : Value → Shared → Prop}
    (k : ∀ C D s', (mu C = none → s.heap.get? C = none) → C ≠ D → c.base.get? C = none → D ≠ sysModules → DDone c mu s C D P s' → compPost c.M A NoE use Q (.ref D) C (.ok .next) s') :
    wpAny c.M A (comprehension (.DictComp kx vx [⟨target, iter, ifs, 0⟩] scope pos) scope env pos' newDict false (eval iter env) use) Q NoE s := by
  obtain ⟨ck, cn, cu, cf⟩ := compOk_of hco
  obtain ⟨cl, hcl0, hcl, hcl2⟩ := closure_is (env := env) (scope := scope) fun x hx hf => by
    have hkx : env.kindOf x.1 = some .cell := by unfold Env.kindOf; rw [he]; exact cf x hx hf
    exact F.has _ hkx
  refine wpAny_comprehension_free (g := ⟨target, iter, ifs, 0⟩) (gs := []) rfl (hs env) hcl0 ck (fun x hx hl => by rw [cu x hx, hl]) ?_
  refine EvE.bind h he hA ht S F fun v s1 d mu1 hp x1 t1 S1 F1 r1 _ => ?_
  obtain ⟨xs, src, mu2, ⟨hsub, hit⟩, hlo⟩ := hp
  refine wpAny_mono (wpAny_toks (hit A s1 v hA t1 S1 r1)) (fun it s2 p => ?_) fun _ _ x => x.2.elim
  obtain ⟨hle, I, priv, J, h2, tk2, rfl, rfl, hk2, hpv, W, hj⟩ := p
  refine wpAny_newObj_type ?_
  refine wpAny_with_toks (n := 1) (Nat.lt_of_lt_of_le t1 hle) (wpAny_newFunctionEnv cn (by intro y hy; cases hy) (fun h4 hns hsb ht4 => ?_) ck)
  have hn1 : ∀ b ∈ priv, ∀ o, s1.heap.get? b = some o → mu1 b ≠ none := fun b hb o e => by
    rcases (hpv b hb).2.2 with z | z
    · rw [e] at z; cases z
    · exact z
  dsimp only at hns hsb ht4 ⊢
  -- the new addresses
  have hDC : h2.objs.size ≠ (h2.push (dictOf [] 0)).objs.size := by rw [Heap.size_push]; exact Nat.ne_of_lt (Nat.lt_succ_self _)
  have below : ∀ b, b < h2.objs.size → b ≠ (h2.push (dictOf [] 0)).objs.size := fun b hb => by rw [Heap.size_push]; exact Nat.ne_of_lt (Nat.lt_succ_of_lt hb)
  generalize hCe : (h2.push (dictOf [] 0)).objs.size = C at *
  generalize hDe : h2.objs.size = D at *
  have keep4 : ∀ b o, h2.get? b = some o → h4.get? b = some o := fun b o e => hsb.extBut b o (below b (hDe ▸ Heap.lt_size e)) (Heap.get?_push_of_some _ (Heap.get?_push_of_some _ e))
  have D2 : h2.get? D = none := get_none (Nat.le_of_eq hDe)
  have C2 : h2.get? C = none := get_none (by rw [← hCe, Heap.size_push]; exact Nat.le_succ _)
  have old : ∀ b o, mu1 b = none → s1.heap.get? b = some o → h4.get? b = some o := fun b o hm e => keep4 b o (hk2 b o (fun q => hn1 b q o e hm) e)
  have jalive : ∀ b ∈ priv, ∃ o, h2.get? b = some o ∧ ¬ IsT o := W.notT 0 _ hj
  have fresh : ∀ b, h2.get? b = none → b ∉ priv := fun b hb q => by obtain ⟨o, e, _⟩ := jalive b q; rw [hb] at e; cases e
  have freshM : ∀ b, h2.get? b = none → s1.heap.get? b = none := fun b hb => by
    cases e : s1.heap.get? b with
    | none => rfl
    | some o => have := hk2 b o (fresh b hb) e; rw [hb] at this; cases this
  have nomu1 : ∀ b, h2.get? b = none → mu1 b = none := fun b hb => by
    cases e : mu1 b with
    | none => rfl
    | some o =>
      obtain ⟨o', e', _⟩ := (S1.objs b o e).noTup
      rw [freshM b hb] at e'; cases e'
  have nobase : ∀ b, h2.get? b = none → c.base.get? b = none := fun b hb => by
    cases e : c.base.get? b with
    | none => rfl
    | some o => have := S1.base b o e; rw [freshM b hb] at this; cases this
  have sub0 : ∀ b, mu2 b ≠ none → mu1 b ≠ none := fun b hb => by
    obtain ⟨o, e⟩ := Option.ne_none_iff_exists'.mp hb
    rw [hsub b o e]; simp
  have off2 : ∀ b, mu1 b = none → mu2 b = none := fun b hb => by
    cases q : mu2 b with
    | none => rfl
    | some z => exact absurd hb (sub0 b (by rw [q]; simp))
  have tk14 : TK s1.heap h4 := fun a o e hto => old a o (S1.tupOff e hto) e
  have S1' : St c mu2 s1.heap := ⟨S1.base, fun a o e => S1.objs a o (hsub a o e), fun a ha => S1.new a (sub0 a ha)⟩
  have S2 : St c mu2 h2 := S1'.priv (fun b hb => ⟨(hpv b hb).2.1, (hpv b hb).1⟩) hk2 (fun a o e hto => hk2 a o (fun q => hn1 a q o e (S1.tupOff e hto)) e)
  have S4 : St c mu2 h4 := ⟨fun b o e => keep4 b o (S2.base b o e), fun a o e => (S2.objs a o e).mono (fun o' q => keep4 a o' q) (fun b o' q _ => keep4 b o' q), S2.new⟩
  -- the steps seen from s
  have x14 : Step c noT mu1 s1 mu2 { s1 with heap := h4, toks := tk2 } := {
    shape := ⟨_, _, rfl⟩
    st := S4
    keep := fun b o e hm _ => old b o hm e
    alive := fun b o e hm => ⟨o, old b o hm e⟩
    dom := fun b hb => .inl (sub0 b hb) }
  have hCs : mu C = none → s.heap.get? C = none := fun hm => by
    cases q : s.heap.get? C with
    | none => rfl
    | some o => have := x1.keep C o q hm id; rw [freshM C C2] at this; cases this
  have hL : ∀ x ca, env.cells.lookup x = some ca → ca ∉ priv := fun x ca hx q => by
    obtain ⟨_, o, e, _⟩ := F1.cells x ca hx
    exact hn1 _ q o e (F1.offC x ca hx).1
  have D4 : h4.get? D = some (dictOf [] 0) := hsb.extBut D _ hDC (Heap.get?_push_of_some _ (hDe ▸ Heap.get?_push_size _ rfl))
  have hj4 : J 0 h4 := W.frame _ _ _ hj (fun b hb o e => keep4 b o e) fun b o e _ => keep4 b o e
  have loop : ∀ cenv : Env, cenv.scope = relab scope sc → cenv.locals = C → cenv.cells = cl → cenv.globals = env.globals → cenv.builtins = env.builtins →
      codeAny c.M A (.compLoop (.DictComp kx vx [⟨target, iter, ifs, 0⟩] scope pos) 0 (.ref I) (.ref D) cenv) (compPost c.M A NoE use Q (.ref D) C) { s1 with heap := h4, toks := tk2 } := fun cenv e1 e2 e3 e4 e5 => by
    have F4 : Fm c mu2 h4 cenv (capt scope m) := Fm.comp (s3 := { s1 with heap := h4, toks := tk2 }) hco he F1 hcl hcl2 e1 e2 e3 e4 e5 old ⟨_, hns⟩ (freshM C C2) (nomu1 C C2) (nobase C C2) tk14 off2
    refine codeAny_mono (comp_loopD (sc := relab scope sc) (mu0 := mu1) (s0 := s1) (P := P) W hT e1 hA (by rw [e2]; exact fresh C C2) (fun x ca hx => by rw [e3] at hx; exact hL x ca (hcl x ca hx)) (fun b hb => (hpv b hb).2.2) (by rw [e2]; exact freshM C C2) (freshM D D2) (nobase D D2)
      (by rw [e2]; exact hDC) (fresh D D2) (fun x hx => ?_) _ hlo ⟨x14, F4, fun b hb => ⟨(hpv b hb).2.1, (hpv b hb).1⟩, hj4, ht4, ⟨[], dict_new (t := 0) D4 List.nodup_nil, .nil⟩, off2 _ (nomu1 D D2)⟩) fun r s' q => ?_
    · rw [e3] at hx
      obtain ⟨_, o, e, _⟩ := F1.cells x D (hcl x D hx)
      rw [freshM D D2] at e; cases e
    · obtain ⟨rfl, ys, mu3, p1, p2, p3, p4, p5, p6⟩ := q
      rw [e2] at p4 p5
      exact k C D s' hCs (Ne.symm hDC) (nobase C C2) (by have := S2.big; rw [hDe] at this; exact Nat.ne_of_gt this) ⟨ys, mu3, p1, p2, x1.trans p3, p4, p5, p6⟩
  have l0 := loop { newEnv scope C env.globals cl env.qual none .none (some env) 0 with scope := relabel scope env } (by rw [← he]; rfl) rfl rfl rfl rfl
  exact codeAny_compStart_dict l0 (W.self 0 _ _ _ _ hA hj4 l0)

/- behind a comprehension: its names go -/
theorem DDone.step {C D : Addr} {P : List (Str × PV) → Mu → Prop} {s s' : Shared} {h' : Heap} (hC : mu C = none → s.heap.get? C = none) (hCD : C ≠ D) (hCb : c.base.get? C = none) {ys : List (Str × PV)} {mu3 : Mu} (x : Step c noT mu s (upd mu3 D (.dict ys)) s') (hns : ∃ m, s'.heap.Ns C m) (hC3 : mu3 C = none) (hs : Heap.SameBut C s'.heap h') :
    Step c noT mu s (upd mu3 D (.dict ys)) { s' with heap := h' } := by
  obtain ⟨mc, hn⟩ := hns
  have hCu : upd mu3 D (.dict ys) C = none := by rw [upd_ne _ _ hCD]; exact hC3
  have tk : TK s'.heap h' := fun b o e ht => (hs.2 b (fun q => by subst q; exact ns_notT hn o e ht)).trans e
  exact {
    shape := by obtain ⟨h, tk, rfl⟩ := x.shape; exact ⟨_, _, rfl⟩
    st := ⟨fun b o e => (hs.2 b (fun q => by rw [q, hCb] at e; cases e)).trans (x.st.base b o e), fun a o e => (x.st.objs a o e).mono (fun o' q => (hs.2 a (fun z => by rw [z, hCu] at e; cases e)).trans q) tk, x.st.new⟩
    keep := fun b o e hm hT => (hs.2 b (fun q => by subst q; rw [hC hm] at e; cases e)).trans (x.keep b o e hm hT)
    alive := fun b o e hm => ⟨o, (hs.2 b (fun q => by subst q; rw [hC hm] at e; cases e)).trans (x.keep b o e hm id)⟩
    dom := x.dom }

theorem EvE.dictcomp {okT : PySem.Expr → Prop} {target iter kx vx : PySem.Expr} {ifs : List PySem.Expr} {scope : Scope} {pos : Pos} {P : PV → Mu → Prop} (hT : okT target) (hco : compOk scope sc = true)
    (h : EvE c n sc m mu iter fun d mu1 => ∃ xs src mu2, IterOf c n okT mu1 d xs src mu2 ∧ CompD c n (relab scope sc) src target ifs kx vx (fun ys mu3 => ∀ D, mu3 D = none → D ≠ sysModules → P (.ref D) (upd mu3 D (.dict ys))) xs [] (capt scope m) mu2)
    (hs : ∀ env x, foldedSetIterable iter env x = pure x := by intro _ _; rfl) : EvE c n sc m mu (.DictComp kx vx [⟨target, iter, ifs, 0⟩] scope pos) P := by
  intro env A s he hA ht S F
  rw [arm_eval_DictComp]
  refine comp_runD hT hco h hs he hA ht S F fun C D s' hC hCD hCb hDS q => ?_
  obtain ⟨ys, mu3, p1, p2, p3, p4, p5, p6⟩ := q
  obtain ⟨mc, hmc⟩ := p4
  exact ⟨mc, hmc, fun h' hs' => ⟨.ref D, _, p1 D p2 hDS, DDone.step (P := fun _ _ => True) hC hCD hCb p3 ⟨mc, hmc⟩ p5 hs', .ref D⟩⟩
theorem CompD.all {src : Mu → Prop} {target kx vx : PySem.Expr} {ifs : List PySem.Expr} {P : List (Str × PV) → Mu → Prop} {m0 : Lm} (p : PV → Bool) (g : PV → Str × PV) (hs : src mu) : ∀ (xs : List PV) (acc : List (Str × PV)) (m : Lm), acc.length + xs.length ≤ sizeLine → SubL m0 m →
    ((acc ++ (xs.filter p).map g).map (·.1)).Nodup →
    (∀ x ∈ xs, AsgT false c n sc m0 mu target x fun m1 mu1 => mu1 = mu ∧ SubL m0 m1 ∧ IfsE c n sc m1 mu ifs fun ok mu2 => ok = p x ∧ mu2 = mu ∧ (p x = true → EvE c n sc m1 mu kx fun k mu3 => k = .str (g x).1 ∧ mu3 = mu ∧ EvE c n sc m1 mu vx fun d mu4 => d = (g x).2 ∧ mu4 = mu)) →
    P (acc ++ (xs.filter p).map g) mu → CompD c n sc src target ifs kx vx P xs acc m mu := by
  intro xs
  induction xs with
  | nil => intro acc m _ _ _ _ hP; exact ⟨hs, by simpa using hP⟩
  | cons x xs ih =>
    intro acc m hl hm hnd hstep hP
    refine ⟨hs, by simp at hl; omega, AsgT.weak hm ?_⟩
    have hx := hstep x (by simp)
    intro env A s v he hA ht S F r
    refine wpAny_mono (hx env A s v he hA ht S F r) (fun _ s' q => ?_) fun _ _ z => z
    obtain ⟨m', mu', ⟨rfl, hm1, hif⟩, q2, q3⟩ := q
    refine ⟨m', mu', fun env A s he hA ht S F => wpAny_mono (hif env A s he hA ht S F) (fun ok s' q => ?_) fun _ _ z => z, q2, q3⟩
    obtain ⟨mu2, ⟨rfl, rfl, hk⟩, q2⟩ := q
    refine ⟨mu2, ?_, q2⟩
    cases hp : p x with
    | false =>
      rw [if_neg Bool.false_ne_true]
      rw [List.filter_cons, hp, if_neg Bool.false_ne_true] at hnd hP
      exact ih acc m' (by simp at hl; omega) hm1 hnd (fun y hy => hstep y (by simp [hy])) hP
    | true =>
      rw [if_pos rfl]
      rw [List.filter_cons, hp, if_pos rfl, List.map_cons] at hnd hP
      refine (hk hp).imp fun k mu3 ⟨e1, e2, hv⟩ => ?_
      subst e2
      refine hv.imp fun d mu4 ⟨e3, e4⟩ => ?_
      subst e4
      refine ⟨(g x).1, e1, fun hin => ?_, ?_⟩
      · rw [List.map_append, List.map_cons] at hnd
        have := (List.nodup_append.mp hnd).2.2 _ hin (g x).1 (by simp)
        exact this rfl
      · rw [e3]
        refine ih (acc ++ [((g x).1, (g x).2)]) m' (by simp at hl ⊢; omega) hm1 ?_ (fun y hy => hstep y (by simp [hy])) ?_
        · simpa using hnd
        · simpa using hP
end
end Mine

open PySem PySem.W PySem.Calls PyProof.Rows
set_option Elab.async false
set_option linter.unusedVariables false
namespace Mine
section
variable {c : Cx} {n : Nat} {sc : Scope} {m : Lm} {mu : Mu}
theorem find_new {A : Around} {s : Shared} {d : Addr} {vs : List (Str × Value)} {k : Str} {t : Tok} {E : Value → Shared → Prop} {Q : Option Nat → Shared → Prop} (hd : s.heap.DictOf (PySem.strKind c.prog c.w) d vs) (hk : k ∉ vs.map (·.1)) (h : Q none s) :
    wpAny c.M A (dictFind d (.str k t) ((PySem.strKind c.prog c.w).hash k)) Q E s := by
  obtain ⟨o, es, ep, ho, hc, hdd, hkk, hp, hn⟩ := hd
  refine wpAny_dictFind_of (strKind_is _ _ k t) ho hdd hkk ?_
  have hidx : (es.findIdx? fun e => (PySem.strKind c.prog c.w).is k e.key) = vs.findIdx? fun kv => decide (kv.1 = k) := by
    rw [← hp.findIdx k]; obtain ⟨l⟩ := es; simp
  have : vs.findIdx? (fun kv => decide (kv.1 = k)) = none := by
    rw [List.findIdx?_eq_none_iff]
    intro x hx
    simp only [decide_eq_false_iff_not]
    exact fun e => hk (e ▸ List.mem_map_of_mem hx)
  rw [hidx, this]; exact h
theorem put_new {A : Around} {s : Shared} {d : Addr} {vs : List (Str × Value)} {k : Str} {t : Tok} {v : Value} {E : Value → Shared → Prop} {Q : Unit → Shared → Prop} (hd : s.heap.DictOf (PySem.strKind c.prog c.w) d vs) (hk : k ∉ vs.map (·.1)) (hz : vs.length ≤ sizeLine)
    (h : ∀ h', h'.DictOf (PySem.strKind c.prog c.w) d (vs ++ [(k, v)]) → Heap.SameBut d s.heap h' → Q () { s with heap := h' }) :
    wpAny c.M A (dictPut d ((PySem.strKind c.prog c.w).hash k) (.str k t) v) Q E s := by
  unfold dictPut
  refine wpAny_bind (find_new hd hk ?_)
  obtain ⟨o, es, ep, ho, hc, hdd, hkk, hp, hn⟩ := hd
  have hes : es.size ≤ sizeLine := by have e1 := hp.length; have e2 : es.toList.length = es.size := by simp
                                      omega
  refine wpAny_updateDictKeys (hz := hes) ho hdd (h _ ⟨_, _, ep + 1, Heap.get?_update_self _ ho (Obj.isFreed_of_dict (Obj.data_mapDictKeys hdd _)), hc.mapDictKeys _, Obj.data_mapDictKeys hdd _, hkk.push (strKind_is _ _ k t) _, ?_, ?_⟩ (Heap.SameBut.update ..))
  · have := hp.append (strKind_is c.prog c.w k t) ((PySem.strKind c.prog c.w).hash k) v
    obtain ⟨l⟩ := es
    simpa using this
  · rw [List.map_append, List.nodup_append]
    refine ⟨hn, by simp, ?_⟩
    intro a ha b hb
    simp only [List.map_cons, List.map_nil, List.mem_singleton] at hb
    subst hb
    exact fun e => hk (e ▸ ha)
theorem merge_go {A : Around} {s : Shared} {d a : Addr} {vs : List (Str × Value)} {E : Value → Shared → Prop} {Q : Unit → Shared → Prop} (hda : d ≠ a) (haS : a ≠ sysModules) (hd : s.heap.DictOf (PySem.strKind c.prog c.w) d []) (ha : s.heap.DictOf (PySem.strKind c.prog c.w) a vs) (hz : vs.length ≤ sizeLine)
    (h : ∀ h', h'.DictOf (PySem.strKind c.prog c.w) d vs → Heap.SameBut d s.heap h' → Q () { s with heap := h' }) : wpAny c.M A (mergeMapping d (.ref a) true) Q E s := by
  obtain ⟨oa, esa, epa, hoa, hca, hda', hka, hpa, hna⟩ := id ha
  obtain ⟨od, esd, epd, hod, hcd, hdd, hkd, hpd, hnd⟩ := id hd
  have hT := ha.typeIs
  unfold mergeMapping
  have hsz : esa.size = vs.length := by rw [← hpa.length]; simp
  have hsd : esd.isEmpty = true := by
    have : esd.size = 0 := by rw [← Array.length_toList, hpd.length]; rfl
    simpa [Array.isEmpty] using this
  refine wpAny_bind (wpAny_isInstance hT isSubtype_dict_dict ?_)
  simp only [if_true]
  refine wpAny_bind (wpAny_specialOf hT F.slot_dict_iter.lookup (wpAny_bind (wpAny_pure ?_)))
  rw [beq_self_eq_true]
  dsimp only
  rw [if_neg (by simpa using haS)]
  refine wpAny_bind (wpAny_dictEntries hod hdd ?_)
  rw [if_pos hsd]
  refine wpAny_bind (wpAny_dictEntries hoa hda' ?_)
  have keyAt : ∀ (i : Nat) (hi : i < esa.size), ∃ k v t, vs[i]? = some (k, v) ∧ esa[i].key = .str k t ∧ esa[i].val = v ∧ esa[i].hash = (PySem.strKind c.prog c.w).hash k := fun i hi => by
    have hv : i < vs.length := by omega
    obtain ⟨h1, h2⟩ := hpa.get? (e := esa[i]) (by simp [hi]) (List.getElem?_eq_getElem hv)
    obtain ⟨t, ht⟩ := Value.isStrOf_shape h1
    obtain ⟨k', hk', hh⟩ := hka esa[i] (Array.getElem_mem hi)
    obtain ⟨t', ht'⟩ := Value.isStrOf_shape hk'
    rw [ht] at ht'
    cases ht'
    exact ⟨vs[i].1, vs[i].2, t, List.getElem?_eq_getElem hv, ht, h2, hh⟩
  have e0 : (forIn esa PUnit.unit fun e (__s : PUnit) => match e.key with
      | Value.ref a => (do
        let __do_lift ← specialOf e.key (Str.ofString "__eq__")
        if (__do_lift != some (Value.builtin "object.__eq__")) = true then
            if (Array.filter (fun x => x.hash == e.hash) esa).size > 1 then do
              unsupported "dict.merge-into-an-empty-dict:keys-of-equal-hash"
              pure (ForInStep.yield PUnit.unit)
            else pure (ForInStep.yield PUnit.unit)
          else pure (ForInStep.yield PUnit.unit) : Sem (ForInStep PUnit))
      | x => pure (ForInStep.yield PUnit.unit)) = (pure PUnit.unit : Sem PUnit) := by
    rw [← Array.forIn_toList]
    rw [forIn_yield _ (fun _ _ => PUnit.unit) _ _ (fun e he b => ?_)]
    obtain ⟨i, hi, rfl⟩ := List.mem_iff_getElem.mp he
    obtain ⟨k, v, t, _, hkey, _⟩ := keyAt i (by simpa using hi)
    simp only [Array.getElem_toList]
    rw [hkey]
  refine wpAny_bind (wpAny_of_eq e0 ?_)
  refine wpAny_bind (wpAny_dictEntries hoa hda' ?_)
  refine wpAny_bind (wpAny_dictEpoch hoa hda' ?_)
  refine wpAny_bind ?_
  rw [List.range_eq_range']
  refine wpAny_forIn_list _ (fun rest _ s' => ∃ h' i, s' = { s with heap := h' } ∧ rest = List.range' i (esa.size - i) ∧ i ≤ esa.size ∧ h'.DictOf (PySem.strKind c.prog c.w) d (vs.take i) ∧ h'.get? a = some oa ∧ Heap.SameBut d s.heap h')
    _ ?_ ?_ _ _ ⟨s.heap, 0, rfl, by simp, Nat.zero_le _, by simpa using hd, hoa, Heap.SameBut.refl _ _⟩
  · rintro x rest b s' ⟨h', i, rfl, hr, hi, hd', hoa', hs'⟩
    have hlt : i < esa.size := by
      rcases Nat.lt_or_ge i esa.size with z | z
      · exact z
      · rw [Nat.sub_eq_zero_of_le z] at hr; simp at hr
    rw [show esa.size - i = (esa.size - (i + 1)) + 1 from by omega, List.range'_succ] at hr
    obtain ⟨rfl, rfl⟩ := List.cons.inj hr
    obtain ⟨k, v, t, hv, hkey, hval, hhash⟩ := keyAt x hlt
    have hnew : k ∉ (vs.take x).map (·.1) := fun hin => by
      obtain ⟨j, hj, e⟩ := List.mem_iff_getElem.mp hin
      have hj' : j < x := by simp at hj; omega
      have hvx := (List.getElem?_eq_some_iff.mp hv).2
      have e1 : (vs.map (·.1))[j]'(by simp; omega) = (vs.map (·.1))[x]'(by simp; omega) := by
        simp only [List.getElem_map, List.getElem_take] at e ⊢
        rw [e, hvx]
      have := (List.getElem_inj (h₀ := by simp; omega) (h₁ := by simp; omega) hna).mp e1
      omega
    refine wpAny_bind (wpAny_dictEntries (s := { s with heap := h' }) hoa' hda' ?_)
    rw [Array.getElem?_eq_getElem hlt]
    dsimp only
    rw [hkey, hval, hhash]
    refine wpAny_bind (wpAny_holding (wpAny_bind (find_new hd' hnew ?_)))
    simp only [Option.isSome_none, Bool.false_eq_true, if_false]
    refine put_new hd' hnew (by simp; omega) fun h2 hd2 hs2 => ?_
    have hoa2 : h2.get? a = some oa := (hs2.2 a (Ne.symm hda)).trans hoa'
    refine wpAny_bind (wpAny_dictEpoch (s := { s with heap := h2 }) hoa2 hda' ?_)
    rw [if_neg (by simp)]
    refine wpAny_pure ⟨h2, x + 1, rfl, rfl, hlt, ?_, hoa2, hs'.trans hs2⟩
    rw [List.take_add_one, hv]; exact hd2
  · rintro b s' ⟨h', i, rfl, hr, hi, hd', hoa', hs'⟩
    have hi2 : i = esa.size := by
      rcases Nat.lt_or_ge i esa.size with z | z
      · rw [show esa.size - i = (esa.size - (i + 1)) + 1 from by omega, List.range'_succ] at hr; cases hr
      · omega
    rw [hi2, hsz, List.take_length] at hd'
    exact wpAny_pure (h h' hd' hs')
theorem kwIn_go {A : Around} {s : Shared} {d : Addr} {f : Value} {vs : List (Str × Value)} {E : Value → Shared → Prop} {Q : List (Str × Value) → Shared → Prop} (hd : s.heap.DictOf (PySem.strKind c.prog c.w) d vs) (h : Q vs s) : wpAny c.M A (keywordsIn f d) Q E s := by
  obtain ⟨o, es, ep, ho, hc, hdd, hk, hp, hn⟩ := hd
  unfold keywordsIn
  refine wpAny_bind (wpAny_dictEntries ho hdd ?_)
  have hsz : es.size = vs.length := by rw [← hp.length]; simp
  rw [← Array.forIn_toList]
  rw [forIn_yield _ (fun b e => b ++ [((match e.key with | .str s _ => s | _ => Str.empty), e.val)]) es.toList _ (fun e he b => ?_)]
  · refine wpAny_bind (wpAny_pure (wpAny_pure ?_))
    have : ∀ (l : List DictEntry) (vs : List (Str × Value)) (b : List (Str × Value)), Pairs (PySem.strKind c.prog c.w) l vs → l.foldl (fun b e => b ++ [((match e.key with | .str s _ => s | _ => Str.empty), e.val)]) b = b ++ vs := fun l vs b hp => by
      induction hp generalizing b with
      | nil => simp
      | @cons e kv l vs h1 h2 _ ih =>
        obtain ⟨t, ht⟩ := Value.isStrOf_shape h1
        rw [List.foldl_cons, ih, ht, h2]; simp
    rw [this _ _ _ hp]; exact h
  · obtain ⟨i, hi, rfl⟩ := List.mem_iff_getElem.mp he
    obtain ⟨k', hk', _⟩ := hk (es.toList[i]) (by simp)
    obtain ⟨t, ht⟩ := Value.isStrOf_shape hk'
    rw [ht]
/- a bound method, made as an object -/
def BMeth (c : Cx) (mu : Mu) (ov : PV) (name : Str) (f : Value) : Prop :=
  ∀ A s v (Q : Value → Shared → Prop) E, St c mu s.heap → Rep s.heap ov v → Q (.ref s.heap.objs.size) { s with heap := s.heap.push (methodObj f v), toks := s.toks + 1 } → wpAny c.M A (getAttr v name true) Q E s
theorem BMeth.hd {K : Frag} {C x l f : Addr} {kvs : List Row} {name : Str} (hK : K.In c.base) (H : Hd c C mu x l kvs) (hg : plainGet K C name = true) (hh : hasDictIn K C = true)
    (ha : findIn K (.ref C) name = some (some (.ref f))) (hf : isFn K (.ref f) = true) (hgf : specialIn K (.ref f) "__get__" = some (some (.builtin "function.__get__"))) (ht : takesIn K (.ref f) = some false) (hc : copiedNames.contains name = false) (hl : ("_headers" : Str) ≠ name) : BMeth c mu (.ref x) name (.ref f) := fun A s v Q E S r h => by
  cases r
  obtain ⟨dx, tok, h1, h2⟩ := H.inst
  have hgl : getL name [(⟨PyData.keyHash c.w.params (Str.ofString "_headers"), .str (Str.ofString "_headers") tok, .ref l⟩ : DictEntry)] = some none := by
    have : ((Str.ofString "_headers") == name) = false := beq_eq_false_iff_ne.mpr hl
    simp [getL, Value.isStr, this]
    rfl
  have X := hK.keeps S.base
  exact get_bind X (inst_at h1 h2 S) (plainGet_of hg).1 (findObj_fn hh ha hgf ht hc (by show lookIn name (dictOf _ _) = _; rw [lookIn_dict, hgl])) (plainGet_of hg).2
    (wpAny_call (fn_get (s := { s with toks := s.toks + 1 }) X (beq_iff_eq.mp hf) (handed_on rfl h)))
theorem mergedKw_go {A : Around} {s : Shared} {f : Value} {x : Sem Value} {pos : Pos} {E : Value → Shared → Prop} {Q : Addr → Shared → Prop}
    (h : wpAny c.M A x (fun v s1 => ∃ a vs, v = .ref a ∧ s.heap.objs.size ≠ a ∧ a ≠ sysModules ∧ s1.heap.get? s.heap.objs.size = some (dictOf [] 0) ∧ s1.heap.DictOf (PySem.strKind c.prog c.w) a vs ∧ vs.length ≤ sizeLine ∧
      ∀ h', h'.DictOf (PySem.strKind c.prog c.w) s.heap.objs.size vs → Heap.SameBut s.heap.objs.size s1.heap h' → Q s.heap.objs.size { s1 with heap := h' }) E { s with heap := s.heap.push (dictOf [] 0) }) :
    wpAny c.M A (mergedKeywords f [(none, do let v ← x; standAt pos; pure v)]) Q E s := by
  unfold mergedKeywords
  refine wpAny_bind (wpAny_alloc (wpAny_bind (wpAny_holding ?_)))
  dsimp only
  rw [List.forIn_cons]
  refine wpAny_bind (wpAny_bind (wpAny_bind ?_))
  rw [if_pos (show ([] : List (Str × Sem Value)).isEmpty = true from rfl)]
  refine wpAny_pure ?_
  refine wpAny_bind (wpAny_bind (wpAny_mono h (fun v s1 h1 => wpAny_bind (wpAny_standAt (wpAny_pure ?_))) fun _ _ z => z))
  obtain ⟨a, vs, rfl, hne, haS, hd, ha, hz, hq⟩ := h1
  refine wpAny_bind (wpAny_onRaise (wpAny_holding (wpAny_tryCatch (wpAny_onRaise (merge_go hne haS (dict_new (t := 0) hd List.nodup_nil) ha hz fun h' hd' hs' => ?_)))))
  refine wpAny_pure ?_
  show wpAny c.M A (forIn [] ([] : List (Str × Sem Value)) _) _ _ _
  rw [List.forIn_nil]
  refine wpAny_pure ?_
  rw [if_pos (show ([] : List (Str × Sem Value)).isEmpty = true from rfl)]
  exact wpAny_pure (wpAny_pure (hq h' hd' hs'))
theorem evalArgs_star {f : Value} {args : List (Bool × Sem Value)} {x : Sem Value} {M : Model} {A : Around} {E : Value → Shared → Prop} {s : Shared} {Q : Args → Shared → Prop} (hs : args.any (·.1) = false)
    (h : wpAny M A (spliced args) (fun vs s1 => wpAny M A (mergedKeywords f [(none, x)]) (fun d s2 => wpAny M A (keywordsIn f d) (fun kw s3 => Q ⟨vs, kw⟩ s3) E s2) E s1) E s) : wpAny M A (evalArgs f true args [(none, x)]) Q E s := by
  have fin : ∀ vs s1, wpAny M A (mergedKeywords f [(none, x)]) (fun d s2 => wpAny M A (keywordsIn f d) (fun kw s3 => Q ⟨vs, kw⟩ s3) E s2) E s1 →
      wpAny M A (mergedKeywords f [(none, x)] >>= fun d => (pure vs : Sem (List Value)) >>= fun pos => holding (.ref d :: pos) (keywordsIn f d) >>= fun kw => pure (⟨pos, kw⟩ : Args)) Q E s1 := fun vs s1 h1 =>
    wpAny_bind (wpAny_mono h1 (fun d s2 h2 => wpAny_bind (wpAny_pure (wpAny_bind (wpAny_holding (wpAny_mono h2 (fun kw s3 h3 => wpAny_pure h3) fun _ _ z => z))))) fun _ _ z => z)
  cases args with
  | nil =>
    unfold evalArgs
    show wpAny M A (spliced [] >>= _) Q E s
    exact wpAny_bind (wpAny_mono h (fun vs s1 h1 => wpAny_holding (fin vs s1 h1)) fun _ _ z => z)
  | cons a r =>
    obtain ⟨b, t⟩ := a
    have hb : b = false := by simp only [List.any_cons, Bool.or_eq_false_iff] at hs; exact hs.1
    subst hb
    unfold evalArgs
    show wpAny M A (spliced ((false, t) :: r) >>= _) Q E s
    exact wpAny_bind (wpAny_mono h (fun vs s1 h1 => wpAny_holding (fin vs s1 h1)) fun _ _ z => z)
/- o.name(.., **e) -/
theorem methodKw_go {o e : PySem.Expr} {name : Str} {es : List PySem.Expr} {p apos pos : Pos} {env : Env} {A : Around} {s : Shared} {Q : Value → Shared → Prop} {E : Value → Shared → Prop} (he : env.scope = sc) (hA : AOk n A) (ht : 0 < s.toks) (S : St c mu s.heap) (F : Fm c mu s.heap env m)
    (h : EvE c n sc m mu o fun d mu0 => ∃ a fd body, BMeth c mu0 d name (.ref a) ∧ FnOk c a fd body ∧ EvA c n sc m mu0 es fun ds mu1 => EvE c n sc m mu1 e fun kd mu2 => ∃ D kw, kd = .ref D ∧ mu2 D = some (.dict kw) ∧ D ≠ sysModules ∧ kw.length ≤ sizeLine ∧
      ∀ s3 vs kvs, Step c noT mu s mu2 s3 → 0 < s3.toks → St c mu2 s3.heap → Reps s3.heap (d :: ds) vs → RepD s3.heap kw kvs → codeAny c.M A (.call (.ref a) ⟨vs, kvs⟩) (fun r s' => match r with | .ok (.ret v) => Q v s' | .ok _ => False | .error e => E e s') s3)
    (hb : attributeBase o name env (eval o env) = eval o env) (hst : noStar es = true) : wpAny c.M A (eval (.Call (.Attribute o name apos) es [⟨none, e, p⟩] pos) env) Q E s := by
  rw [arm_eval_Call, hb]
  refine wpAny_bind (EvE.bind h he hA ht S F fun v s0 d mu0 h0 x0 t0 S0 F0 r0 _ => ?_)
  obtain ⟨a, fd, body, hm, hf, h0⟩ := h0
  refine wpAny_bind (wpAny_standAt ?_)
  have hkw : backToKw pos (keywordEach [⟨none, e, p⟩] env) = [(none, do let v ← eval e env; standAt pos; pure v)] := rfl
  have hform : methodCallForm (es.length + 1) (backTo pos (starEach es env)) (backToKw pos (keywordEach [⟨none, e, p⟩] env)) = false := by
    rw [hkw]; unfold methodCallForm; simp
  unfold methodCall
  show wpAny c.M A (holding [v] (calleeOf (methodCallForm (es.length + 1) (backTo pos (starEach es env)) (backToKw pos (keywordEach [⟨none, e, p⟩] env))) o env v name) >>= _) Q E s0
  rw [hform]
  refine wpAny_bind (wpAny_holding ?_)
  show wpAny c.M A (getAttr v name true >>= fun x => pure (x, [])) _ _ s0
  refine wpAny_bind (hm A s0 v _ _ S0 r0 (wpAny_pure ?_))
  dsimp only
  refine wpAny_bind ?_
  show wpAny c.M A (methodCallPos (methodCallForm (es.length + 1) (backTo pos (starEach es env)) (backToKw pos (keywordEach [⟨none, e, p⟩] env))) o env apos pos) _ _ _
  rw [hform]
  show wpAny c.M A (pure pos) _ _ _
  refine wpAny_pure ?_
  -- behind the making of the method
  have x1 : Step c noT mu0 s0 mu0 { s0 with heap := s0.heap.push (methodObj (.ref a) v), toks := s0.toks + 1 } := Step.ext S0 fun b o eb => Heap.get?_push_of_some _ eb
  have gq : (s0.heap.push (methodObj (.ref a) v)).get? s0.heap.objs.size = some (methodObj (.ref a) v) := Heap.get?_push_size _ rfl
  have oq : mu0 s0.heap.objs.size = none := S0.off (Nat.le_refl _)
  generalize hs1 : ({ s0 with heap := s0.heap.push (methodObj (.ref a) v), toks := s0.toks + 1 } : Shared) = s1 at *
  have t1 : 0 < s1.toks := by rw [← hs1]; exact Nat.succ_pos _
  have gq1 : s1.heap.get? s0.heap.objs.size = some (methodObj (.ref a) v) := by rw [← hs1]; exact gq
  generalize hqq : s0.heap.objs.size = q at *
  have F1 := F0.step S0 x1
  have r1 := r0.mono (x1.tk0 S0)
  unfold callWith
  refine wpAny_bind (wpAny_holding ?_)
  rw [hkw]
  refine evalArgs_star (noStar_any env pos hst) ?_
  refine EvA.bind h0 he hA t1 x1.st F1 fun ws s2 ds mu1 h2 x2 t2 S2 F2 r2 k2 => ?_
  have gq2 : s2.heap.get? q = some (methodObj (.ref a) v) := x2.keep q _ gq1 oq id
  have oq2 : mu1 q = none := keepNone x2 gq1 oq
  refine mergedKw_go ?_
  have x3 : Step c noT mu1 s2 mu1 { s2 with heap := s2.heap.push (dictOf [] 0) } := Step.pushOff S2
  have gd3 : (s2.heap.push (dictOf [] 0)).get? s2.heap.objs.size = some (dictOf [] 0) := Heap.get?_push_size _ rfl
  have od3 : mu1 s2.heap.objs.size = none := S2.off (Nat.le_refl _)
  have gq3 : (s2.heap.push (dictOf [] 0)).get? q = some (methodObj (.ref a) v) := Heap.get?_push_of_some _ gq2
  have hdq : s2.heap.objs.size ≠ q := Nat.ne_of_gt (Heap.lt_size gq2)
  refine EvE.bind h2 he hA (s := { s2 with heap := s2.heap.push (dictOf [] 0) }) t2 x3.st (F2.step S2 x3) fun kv s4 kd mu2 h4 x4 t4 S4 F4 r4 k4 => ?_
  obtain ⟨D, kw, rfl, hD, hDS, hkz, hcall⟩ := h4
  cases r4
  obtain ⟨kvs, esD, nD, gD, dD, rD⟩ := S4.objs D _ hD
  have gd4 : s4.heap.get? s2.heap.objs.size = some (dictOf [] 0) := x4.keep _ _ gd3 od3 id
  have od4 : mu2 s2.heap.objs.size = none := keepNone x4 gd3 od3
  have gq4 : s4.heap.get? q = some (methodObj (.ref a) v) := x4.keep _ _ gq3 oq2 id
  have hne : s2.heap.objs.size ≠ D := fun z => by rw [z, hD] at od4; cases od4
  refine ⟨D, kvs, rfl, hne, hDS, gd4, dD, by rw [rD.length]; exact hkz, fun h5 hd5 hs5 => ?_⟩
  refine kwIn_go (s := { s4 with heap := h5 }) hd5 ?_
  have hal : ∃ o, h5.get? s2.heap.objs.size = some o := by obtain ⟨o, _, _, z, _⟩ := id hd5; exact ⟨o, z⟩
  have hbd : c.base.get? s2.heap.objs.size = none := S2.baseNone (Nat.le_refl _)
  have notd : ∀ o, s4.heap.get? s2.heap.objs.size = some o → ¬ IsT o := fun o z => by rw [gd4] at z; cases z; exact dict_notT
  have x5 : Step c (fun b => b = s2.heap.objs.size) mu2 s4 mu2 { s4 with heap := h5, toks := s4.toks } := Step.turn S4 od4 hbd notd hs5 rfl hal
  have x123 : Step c noT mu s mu1 s2 := (x0.trans x1).trans x2
  have x04 : Step c noT mu s mu2 s4 := (x123.trans x3).trans x4
  have sfresh : ∀ b, b = s2.heap.objs.size → s.heap.get? b = none ∨ mu b ≠ none := fun b hb => by
    subst hb
    cases z : s.heap.get? s2.heap.objs.size with
    | none => exact .inl rfl
    | some o =>
      cases w : mu s2.heap.objs.size with
      | some y => exact .inr (by simp)
      | none => have := x123.keep _ o z w id; rw [get_none (Nat.le_refl _)] at this; cases this
  have x05 : Step c noT mu s mu2 { s4 with heap := h5, toks := s4.toks } := {
    shape := by obtain ⟨h, tk, z⟩ := x04.shape; rw [z]; exact ⟨_, _, rfl⟩
    st := x5.st
    keep := fun b o z hm _ => x5.keep b o (x04.keep b o z hm id) (keepNone x04 z hm) fun w => by
      rcases sfresh b w with y | y
      · rw [z] at y; cases y
      · exact y hm
    alive := fun b o z hm => x5.alive b o (x04.keep b o z hm id) (keepNone x04 z hm)
    dom := x04.dom }
  have tk5 : TK s4.heap h5 := fun b o z w => hs5.extBut b o (fun y => by subst y; exact notd o z w) z
  have gq5 : h5.get? q = some (methodObj (.ref a) v) := (hs5.2 q (Ne.symm hdq)).trans gq4
  refine wpAny_bind (wpAny_standAt ?_)
  have hstar : ((backTo pos (starEach es env)).any (fun x => x.1) || ([(none, do let v ← eval e env; standAt pos; pure v)] : List (Option Str × Sem Value)).any fun x => x.1.isNone) = true := by simp
  dsimp only
  rw [hstar]
  have hkeep : ∀ (Q' : Keeper → Shared → Prop) E', Q' .boundFrame { s4 with heap := h5 } → wpAny c.M A (keeperOf (.ref q)) Q' E' { s4 with heap := h5 } := fun Q' E' z => by
    unfold keeperOf
    refine wpAny_bind (wpAny_load (s := { s4 with heap := h5 }) gq5 ?_)
    obtain ⟨fo, hfo, hfd⟩ := hf.obj
    show wpAny c.M A (load a >>= _) _ _ _
    refine wpAny_bind (wpAny_load (s := { s4 with heap := h5 }) (x5.st.base _ _ hfo) ?_)
    rw [hfd]; exact wpAny_pure z
  refine wpAny_bind (hkeep _ _ ?_)
  dsimp only
  refine wpAny_bind (wpAny_operating (wpAny_call (method_call (s := { s4 with heap := h5 }) gq5 ?_)))
  have k34 : TK s2.heap s4.heap := fun b o z w => k4 b o (Heap.get?_push_of_some _ z) w
  have rr : Reps h5 (d :: ds) (v :: ws) := .cons ((((r1.mono (x2.tk0 x1.st)).mono k34)).mono tk5) ((r2.mono k34).mono tk5)
  refine codeAny_mono (hcall { s4 with heap := h5 } (v :: ws) kvs x05 t4 x5.st rr (rD.mono tk5)) fun r s' z => ?_
  cases r with
  | error x => exact z
  | ok fl =>
    cases fl with
    | ret w => exact wpAny_bind (wpAny_holding (wpAny_point (wpAny_pure z)))
    | next => exact z
    | brk => exact z
    | cont => exact z
theorem EvA.imp {es : List PySem.Expr} {P Q : List PV → Mu → Prop} (h : EvA c n sc m mu es P) (k : ∀ d mu', P d mu' → Q d mu') : EvA c n sc m mu es Q := fun env A s pos he hA ht S F =>
  wpAny_mono (h env A s pos he hA ht S F) (fun _ _ ⟨d, mu', p, x, r⟩ => ⟨d, mu', k d mu' p, x, r⟩) fun _ _ z => z
/- the call gives a value -/
theorem EvE.methodKw {o e : PySem.Expr} {name : Str} {es : List PySem.Expr} {p apos pos : Pos} {P : PV → Mu → Prop}
    (h : EvE c n sc m mu o fun d mu0 => ∃ a fd body, BMeth c mu0 d name (.ref a) ∧ FnOk c a fd body ∧ EvA c n sc m mu0 es fun ds mu1 => EvE c n sc m mu1 e fun kd mu2 => ∃ D kw mu3, kd = .ref D ∧ mu2 D = some (.dict kw) ∧ D ≠ sysModules ∧ kw.length ≤ sizeLine ∧ Sub mu3 mu2 ∧ CallK c n mu3 (.ref a) (d :: ds) kw P)
    (hb : ∀ env, attributeBase o name env (eval o env) = eval o env := by intro _; rfl) (hst : noStar es = true := by rfl) : EvE c n sc m mu (.Call (.Attribute o name apos) es [⟨none, e, p⟩] pos) P := by
  intro env A s he hA ht S F
  refine methodKw_go he hA ht S F (h.imp fun d mu0 ⟨a, fd, body, h1, h2, h3⟩ => ⟨a, fd, body, h1, h2, h3.imp fun ds mu1 h4 => h4.imp fun kd mu2 ⟨D, kw, mu3, e1, e2, e3, e4, hs, h5⟩ => ⟨D, kw, e1, e2, e3, e4, fun s3 vs kvs x t S3 r rk => ?_⟩⟩) (hb env) hst
  refine codeAny_mono (h5 A s3 vs kvs hA t (S3.sub hs) r rk) fun r s' z => ?_
  cases r with
  | error x => exact z.elim
  | ok fl =>
    cases fl with
    | ret w =>
      obtain ⟨pv, mu', q1, q2, q3⟩ := z
      exact ⟨pv, mu', q1, x.trans (q2.sub hs), q3⟩
    | next => exact z
    | brk => exact z
    | cont => exact z
end
end Mine

open PySem PySem.W PySem.Calls PyProof.Rows
set_option Elab.async false
set_option linter.unusedVariables false
namespace Mine
section
variable {c : Cx} {n : Nat} {sc : Scope} {m : Lm} {mu : Mu}
end
/- # texts by numbers -/
/- # names -/
theorem dig_chars : ∀ i, i < 64 → (dig i).all (fun ch => decide (48 ≤ ch ∧ ch ≤ 57)) = true ∧ (dig i).length ≤ 2 := by decide +kernel
theorem dig_inj : ∀ i, i < 64 → ∀ j, j < 64 → dig i = dig j → i = j := by
  have : ∀ i, i < 64 → ((dig i).foldl (fun a d => 10 * a + (d - 48)) 0) = i := by decide +kernel
  intro i hi j hj h
  have h1 := this i hi
  have h2 := this j hj
  rw [h] at h1
  omega
theorem dig_num {i : Nat} (hi : i < 64) {ch : Nat} (h : ch ∈ dig i) : 48 ≤ ch ∧ ch ≤ 57 := by
  have := List.all_eq_true.mp (dig_chars i hi).1 ch h
  simpa using this
/- # rows -/
theorem fp_lenLe (p v : List Nat) : (fp p v true).length ≤ p.length + 3 + 2 * v.length := by
  unfold fp
  split
  · omega
  · have := escL_length v
    simp; omega
theorem partL_lenLe (p : Kw) {k v : Nat} (hk : p.1.length ≤ k) (hv : ∀ w, p.2 = some w → w.length ≤ v) : (partL p).length ≤ k + 3 + 2 * v := by
  obtain ⟨a, o⟩ := p
  cases o with
  | none => show (dashL a).length ≤ _; rw [dashL_length]; simp at hk; omega
  | some w =>
    have h1 := fp_lenLe (dashL a) w
    have h2 := hv w rfl
    rw [dashL_length] at h1
    show (fp (dashL a) w true).length ≤ _
    simp at hk
    omega
theorem joinL_lenLe (sep : List Nat) (xs : List (List Nat)) (b : Nat) (h : ∀ x ∈ xs, x.length ≤ b) : (joinL sep xs).length ≤ xs.length * (b + sep.length) := by
  have f : ∀ r : List (List Nat), (∀ x ∈ r, x.length ≤ b) → (r.flatMap fun y => sep ++ y).length ≤ r.length * (b + sep.length) := fun r => by
    induction r with
    | nil => intro _; simp
    | cons y r ih =>
      intro h
      have h1 := ih fun x hx => h x (by simp [hx])
      have h2 := h y (by simp)
      have h3 : (y :: r).length * (b + sep.length) = r.length * (b + sep.length) + (b + sep.length) := by simp [Nat.succ_mul]
      simp only [List.flatMap_cons, List.length_append] at h1 ⊢
      omega
  cases xs with
  | nil => simp [joinL]
  | cons x r =>
    have h1 := f r fun y hy => h y (by simp [hy])
    have h2 := h x (by simp)
    have h3 : (x :: r).length * (b + sep.length) = r.length * (b + sep.length) + (b + sep.length) := by simp [Nat.succ_mul]
    simp only [joinL, List.length_append] at h1 ⊢
    omega
theorem joinL_cons (sep x : List Nat) {ys : List (List Nat)} (h : ys ≠ []) : joinL sep (x :: ys) = x ++ sep ++ joinL sep ys := by
  cases ys with
  | nil => exact absurd rfl h
  | cons y r => simp [joinL]
theorem S_self : ("self" : Str) = S [115, 101, 108, 102] := by decide +kernel
theorem S_nm : ("_name" : Str) = S [95, 110, 97, 109, 101] := by decide +kernel
theorem S_vl : ("_value" : Str) = S [95, 118, 97, 108, 117, 101] := by decide +kernel
end Mine

open PySem PySem.W PySem.Calls PyProof.Rows
set_option Elab.async false
set_option linter.unusedVariables false
namespace Mine
section
variable {c : Cx} {n : Nat} {sc : Scope} {m : Lm} {mu : Mu}
/- the state of a zip of two lists -/
end
end Mine

open PySem PySem.W PySem.Calls PyProof.Rows
set_option Elab.async false
set_option linter.unusedVariables false
set_option maxRecDepth 100000
namespace Mine
section
variable {c : Cx} {n : Nat} {sc : Scope} {m : Lm} {mu : Mu}
theorem set_mapSeq {vs : List Value} {v : Value} {j k : Nat} : ∃ k', Obj.mapSeq (fun xs => xs.setIfInBounds j v) (listOf vs.toArray k) = listOf (vs.set j v).toArray k' := by
  have h : vs.toArray.setIfInBounds j v = (vs.set j v).toArray := by simp
  exact ⟨_, by rw [← h]; rfl⟩
end
end Mine

open PySem PySem.W PySem.Calls PyProof.Rows
open PySem.Sem (wp)
set_option Elab.async false
set_option linter.unusedVariables false
set_option maxRecDepth 100000
namespace Mine
/- # a context that stands on the claim's caller -/
def Clr (G : PySem.Ctx) : Prop := G.code.isCaller = true ∨ (G.below.any fun x => x.1.isCaller) = true
def wpC {α : Type} (M : Model) (A : Around) (t : Sem α) (Q : α → Shared → Prop) (E : Value → Shared → Prop) (s : Shared) : Prop :=
  ∀ Γ p, Γ.In A → Clr Γ → wp M Γ t (fun a _ s' => Q a s') (fun e _ s' => E e s') p s
def codeC (M : Model) (A : Around) (c : Code) (R : Result → Shared → Prop) (s : Shared) : Prop :=
  ∀ Γ p, Γ.code = c → Γ.Below A → (Γ.below.any fun x => x.1.isCaller) = true → wpCode M Γ R p s
theorem clr_caller : Clr ⟨.builtin "claim.caller" {}, none, none, [], none⟩ := .inl rfl
theorem thread_endsC {prog : Program} {w : World} {t : Sem Fin} {s : Shared} {R : Result → Shared → Prop} (hreg : s.asleep)
    (h : wpC (model prog w) callerA t (fun fin s' => ∃ f, fin = .done f ∧ (R (.ok f) s' ∧ leftWithCleanup s'.gens = false)) (fun e s' => R (.error e) s' ∧ leftWithCleanup s'.gens = false) s) :
    ∃ n r s' s'', runN (denote table) prog w n s ⟨t, .builtin "claim.caller" {}, default, []⟩ = .halted (outcomeOf r) s' ∧
      schedN (denote table) prog w n (.single s ⟨t, .builtin "claim.caller" {}, default, []⟩) = .halted (outcomeOf r) s' ∧ s'.forget = s''.forget ∧ R r s'' := by
  obtain ⟨n, r, s₁, s₂, hs, hn, hfo, hR⟩ := wp_halts_full (M := model prog w) (R := R) (p := default) hreg
    (Sem.wp_mono (model prog w) _ t (fun fin p' s' h' => by obtain ⟨f, rfl, hf⟩ := h'; exact hf) (fun _ _ _ h' => h') default s (h ⟨.builtin "claim.caller" {}, none, none, [], none⟩ default caller_in clr_caller))
  exact ⟨n, r, s₂, s₁, hn, hs, hfo, hR⟩
theorem wpC_mono {α : Type} {M : Model} {A : Around} {E : Value → Shared → Prop} {s : Shared} {t : Sem α} {Q Q' : α → Shared → Prop} {E' : Value → Shared → Prop} (h : wpC M A t Q E s)
    (hQ : ∀ a s, Q a s → Q' a s) (hE : ∀ e s, E e s → E' e s) : wpC M A t Q' E' s :=
  fun Γ p hΓ hc => Sem.wp_mono M Γ t (fun a _ s => hQ a s) (fun e _ s => hE e s) p s (h Γ p hΓ hc)
theorem wpC_bind {α β : Type} {M : Model} {A : Around} {E : Value → Shared → Prop} {s : Shared} {m : Sem α} {f : α → Sem β} {Q : β → Shared → Prop} (h : wpC M A m (fun a s' => wpC M A (f a) Q E s') E s) :
    wpC M A (m >>= f) Q E s := fun Γ p hΓ hc => by
  rw [Sem.wp_bind']
  exact Sem.wp_mono M Γ m (fun a p' s' h' => h' Γ p' hΓ hc) (fun _ _ _ h' => h') p s (h Γ p hΓ hc)
theorem wpC_any {α : Type} {M : Model} {A : Around} {E : Value → Shared → Prop} {s : Shared} {t : Sem α} {Q : α → Shared → Prop} (h : wpAny M A t Q E s) : wpC M A t Q E s := fun Γ p hΓ _ => h Γ p hΓ

/- # the head for a law that is walked on the claim's caller -/
theorem callFromC {c : ClaimW} {tree : List Value → Sem Fin} {w : World} {s : Shared} {free : Addr → Prop} {gens : Prop} {kept : Heap → Prop} (hz : s.asleep) (hgens : s.gens = #[])
    (hspec : ∀ args, c.pre args = true → WData.layableAll args = true →
      ∀ ord : List DictEntry → List DictEntry, (∀ l, (ord l).Perm l) →
      ∃ vs s₁, layAllW c.records (classAt s.heap) w.params ord args s = some (vs, s₁) ∧
        wpC (model c.prog w) callerA (tree vs) (fun fin s' => ∃ f, fin = .done f ∧ (c.Ends s args vs s₁ (.ok f) s' ∧ s'.os = s.os ∧ AllBare s'.gens ∧ kept s'.heap))
          (fun e s' => c.Ends s args vs s₁ (.error e) s' ∧ s'.os = s.os ∧ AllBare s'.gens ∧ kept s'.heap) s₁) :
    c.CallFrom (fun vs => ⟨tree vs, .builtin "claim.caller" {}, default, []⟩) w free gens kept s := by
  intro args hpre hlay ord hord
  obtain ⟨vs, s₁, hlaid, hcode⟩ := hspec args hpre hlay ord hord
  have hal := layAllW_rest _ _ _ hlaid
  obtain ⟨k, r, s', s'', hrun, hsched, hfo, hcase, hos, hkp⟩ := thread_endsC (prog := c.prog) (w := w) (t := tree vs) (s := s₁)
    (R := fun r s' => c.Ends s args vs s₁ r s' ∧ s'.os = s.os ∧ kept s'.heap)
    (Shared.asleep_of_life hal.2.2.2 hz)
    (wpC_mono hcode (fun fin s' ⟨f, e, h1, h2, h3, h4⟩ => ⟨f, e, ⟨h1, h2, h4⟩, leftWithCleanup_false_of_bare h3⟩) fun e s' ⟨h1, h2, h3, h4⟩ => ⟨⟨h1, h2, h4⟩, leftWithCleanup_false_of_bare h3⟩)
  obtain ⟨eh, _, _, eo, _⟩ := Shared.forget_eq hfo
  have hcase := hcase.congr eh
  rw [← eh] at hkp
  rw [← eo] at hos
  have hlife : s'.heap.life = s.heap.life := (runN_life _ _ _ hrun).trans hal.2.2.2
  refine ⟨vs, s₁, hlaid, k, _, s', hsched, ?_, (fun _ i x hx => by rw [hgens] at hx; simp at hx), hkp, by rw [hlife], Shared.rest_eq hos⟩
  rcases hcase with ⟨v, rfl, d1, d2, d3, d4, d5⟩ | ⟨e, ob, cls, rfl, d1, d2, d3, d4, d5⟩
  · exact .inl ⟨v, rfl, d1, d2, d3, fun b o y _ => d4 b o y, d5⟩
  · exact .inr ⟨e, ob, cls, rfl, d1, d2, d3, d4, fun b o y _ => d5 b o y⟩

abbrev WalkC (q : Program) (loose : List Str) (XP : (Str → Option Value) → Heap → Prop) (YP : World → Heap → Prop) (r : RowW) (d : DefRec) (kwd : List (Str × PySem.Expr)) : Prop :=
  ∀ (w : World) (s₀ s₁ : Shared) (mg mb : Str → Option Value), Ground q loose r.records XP w s₀ mg mb s₁.heap → YP w s₁.heap → ∀ (a : Addr) (o : Obj) (pm cd doc dV kV : Value), s₁.heap.get? a = some o →
    o.data = .func { docDef d.name d.params d.body d.scope pm cd doc with defaults := dV, kwdefaults := kV } → s₁.heap.CodeRec cd d.name → Dflts mg s₁.heap d.params kwd dV kV → mg d.name = some (.ref a) → s₁.gens = #[] →
    ∀ (args : List WData) (vals : List Value) (as : List Addr), r.claim.pre args = true → WData.layableAll args = true → ReadsAllW r.records (classAt s₀.heap) s₁.heap vals args as → WellAll w.params s₁.heap vals args → (∀ a ∈ as, (a == sysModules) = false) →
      wpC (model r.prog w) callerA (call (.ref a) vals) (fun v s' => GoodWG r.claim (classAt s₀.heap) (ExcName.means s₀.heap) args s₁ (.ok (.ret v)) s')
        (fun e s' => GoodWG r.claim (classAt s₀.heap) (ExcName.means s₀.heap) args s₁ (.error e) s') s₁

/- the head; its name lets the library's tactic for the top find it from within this namespace -/
theorem PySem.W.holds_open {r : OpenRow} {q : Program} {loose : List Str} {Xt : Shared → Bool} {XP : (Str → Option Value) → Heap → Prop} {α : Type} {Yf : Shared → α} {Ya : World → α} {YP : World → Heap → Prop} {d : DefRec} {kwd : List (Str × PySem.Expr)} {N : Nat}
    (left : LeftO r.prog q loose Xt Yf Ya N) (hY : ∀ w s, Yf s = Ya w → YP w s.heap) (hYk : ∀ w h h', YP w h → (∀ b o, h.get? b = some o → h'.get? b = some o) → YP w h')
    (hX : ∀ s, Xt s = true → XP (s.heap.nsMap mainGlobals) s.heap) (hXk : ∀ mg h h', XP mg h → (∀ b o, h.get? b = some o → h'.get? b = some o) → XP mg h')
    (hdef : defOf q r.name = some (d, kwd)) (hp : r.prog.theDef r.name = some (d.params, d.body, d.scope)) (hk : kwWritten? d.params.kwonlyargs d.params.kw_defaults = some kwd) (hRf : ∀ s, Xt s = true → RecFacts r.records s.heap) (hwr : (!r.writes || r.records.isEmpty) = true)
    (k1 : r.wellSaid = true) (ok : (chainsOk q && opensWell r.prog && (frees r.toRowW && r.within.isEmpty)) = true) (hb : r.prog.bare) (hw : r.toRowW.promised)
    (walk : WalkC q loose XP YP r.toRowW d kwd) : r.Holds := by
  refine ⟨k1, hw, ?_⟩
  obtain ⟨ok, k5⟩ := Bool.and_eq_true_iff.mp ok
  obtain ⟨hch, o1⟩ := Bool.and_eq_true_iff.mp ok
  obtain ⟨k5, k6⟩ := Bool.and_eq_true_iff.mp k5
  obtain ⟨hsame, hu, ha, hap, hm⟩ := frees_parts k5
  refine ⟨⟨hb, o1, by show r.toRowW.makers.map _ = []; rw [hm]; rfl⟩, hw.witness, fun w => ⟨(left.behind hX hch w).1, fun s' hs' => ?_⟩⟩
  obtain ⟨s₀, hf, hg0, s, hT, hz, hgens, hg, G00, y⟩ := (left.behind (XP := fun mg h => XP mg h ∧ RecFacts r.records h) (fun s hs => ⟨hX s hs, hRf s hs⟩) hch w).2 s' hs'
  have G0 : Ground q loose [] XP w s (s.heap.nsMap mainGlobals) (s.heap.nsMap builtinsNs) s.heap := ⟨G00.T, G00.B, G00.D, G00.TE, G00.TD, G00.W, G00.X.1, G00.cls, G00.has, G00.apart, G00.once, G00.K⟩
  have RF := G00.X.2
  refine ⟨s₀, hf, hg0, s, hT, fun n hn => ?_, RF.1, RF.2.1, ?_⟩
  · obtain rfl : n = r.name := by split at hn <;> simp_all
    exact pinned_of_view hg G0 hdef hp hk
  have hgens : s.gens = #[] := Array.eq_empty_of_size_eq_zero (beq_iff_eq.mp hgens)
  have G : Ground q loose r.records XP w s _ _ s.heap := RF.ground G0
  refine callFromC (c := r.toRowW.claim) (tree := fun vs => do match ← nsGet mainNs r.name with
      | some f => do ret (← call f vs)
      | none => unsupported "claim.caller:no-such-global") hz hgens fun args hpre hlay ord hord => ?_
  obtain ⟨⟨vs, s₁⟩, hlaid⟩ := Option.isSome_iff_exists.mp (layAllW_isSome (P := w.params) (ord := ord) G.has args r.args s (pre_splitW hpre).1)
  have keeps := layAllW_keeps _ _ _ hlaid
  have hal := layAllW_rest _ _ _ hlaid
  obtain ⟨as, hrd, hin, hold⟩ := reads_layAllW hord _ _ _ hlaid hlay s₁.heap (fun _ _ e => e)
  have L : Laid r.records w s s₁ args vs as := ⟨⟨ord, hord, hlaid⟩, hrd, hin, hold, keeps, hal.1.trans hgens, hal.2.2.1⟩
  have G₁ := G.keeps hXk keeps
  obtain ⟨a, o, pm, cd, doc, dV, kV, h1, h2, h3, h4, h5⟩ := G₁.fn hdef
  have h := walk w s s₁ _ _ G₁ (hYk _ _ _ (hY w s y) keeps) a o pm cd doc dV kV h2 h3 h4 h5 (defOf_name hdef ▸ h1) L.gens args vs as hpre hlay L.reads L.well (L.low G.low)
  have hi := ident_freeW hu ha hap
  have hwi : r.toRowW.claim.within = [] := List.isEmpty_iff.mp k6
  refine ⟨vs, s₁, hlaid, wpC_bind (wpC_any (wpAny_nsGet G₁.T.g ?_))⟩
  rw [h1]
  refine wpC_bind (wpC_mono h (fun v s' g => ?_) fun e s' g => ?_)
  · have z := g.laid (c := r.toRowW.claim) hsame hwi hi L
    exact wpC_any (wpAny_pure ⟨_, rfl, z.1, z.2.1, z.2.2, fun q => ⟨namesKept_of hT hg _ keeps g.2.1.old, noTable hwr q⟩⟩)
  · have z := g.laid (c := r.toRowW.claim) hsame hwi hi L
    exact ⟨z.1, z.2.1, z.2.2, fun q => ⟨namesKept_of hT hg _ keeps g.2.1.old, noTable hwr q⟩⟩
end Mine

open PySem PySem.W PySem.Calls PyProof.Rows
open PySem.Sem (wp)
set_option Elab.async false
set_option linter.unusedVariables false
namespace Mine
/- # walking on the claim's caller -/
section
variable {α β : Type} {M : Model} {A : Around} {E : Value → Shared → Prop} {s : Shared}
theorem Clr.any {Γ : PySem.Ctx} (h : Clr Γ) (p : Pos) : (((Γ.code, p) :: Γ.below).any fun x => x.1.isCaller) = true := by
  simpa [Clr, List.any_cons] using h
theorem wpC_call {f : Value} {pos : List Value} {kw : List (Str × Value)} {Q : Value → Shared → Prop}
    (hc : codeC M A (.call f ⟨pos, kw⟩) (fun r s' => match r with | .ok (.ret v) => Q v s' | .ok _ => False | .error e => E e s') s) : wpC M A (call f pos kw) Q E s :=
  fun Γ p hΓ hcl => by show wp M Γ (runValue _) _ _ _ _; rw [Sem.wp_runValue]; exact hc _ p rfl (hΓ.enter _ none p (by intro x; cases x)) (hcl.any p)
theorem wpC_onRaise {m : Sem α} {k : Value → Sem Unit} {Q : α → Shared → Prop}
    (h : wpC M A m Q (fun e s' => wpC M A (k e) (fun _ s'' => E e s'') E s') s) : wpC M A (m.onRaise k) Q E s := fun Γ p hΓ hcl => by
  rw [Sem.wp_onRaise]
  exact Sem.wp_mono M Γ m (fun _ _ _ h' => h') (fun e p' s' h' => h' Γ p' hΓ hcl) p s (h Γ p hΓ hcl)
theorem wpC_toks {t : Sem α} {Q : α → Shared → Prop} (h : wpC M A t Q E s) : wpC M A t (fun a s' => s.toks ≤ s'.toks ∧ Q a s') (fun e s' => s.toks ≤ s'.toks ∧ E e s') s :=
  fun Γ p hΓ hcl => Sem.wp_toks M Γ _ t _ _ p s (Nat.le_refl _) (h Γ p hΓ hcl)
/- an ordinary step, then the rest on the caller -/
theorem wpC_bindA {m : Sem α} {f : α → Sem β} {Q : β → Shared → Prop} (h : wpAny M A m (fun a s' => wpC M A (f a) Q E s') E s) : wpC M A (m >>= f) Q E s := wpC_bind (wpC_any h)
theorem codeC_of_tree {c : Code} {R : Result → Shared → Prop}
    (h : wpC M (A.under c) (M.den c) (fun fin s' => match fin with | .done f => R (.ok f) s' | .again c' => c'.quiet = true ∧ codeC M A c' R s')
      (fun e s' => R (.error e) s') s) : codeC M A c R s := fun Γ p hc hΓ hcl => by
  rw [wpCode_iff_wp, hc]
  refine Sem.wp_mono M Γ _ (fun fin p' s' h' => ?_) (fun _ _ _ h' => h') p s (h Γ p (hc ▸ hΓ.in) (.inr hcl))
  cases fin with
  | done f => exact h'
  | again c' => exact ⟨h'.1, h'.2 (Γ.goto c') p' rfl (hΓ.goto c') hcl⟩
end
section
variable {prog : Program} {w : World} {A : Around} {E : Value → Shared → Prop} {s : Shared}
end

/- ## triples -/
def Own1 (A : Around) (env : Env) : Prop := A.frames = some [env] ∧ env.frame = some env.locals
def ExSC (c : Cx) (n : Nat) (sc : Scope) (m : Lm) (mu : Mu) (ss : List Stmt) (P : FV → Lm → Mu → Prop) : Prop :=
  ∀ env A s, env.scope = sc → Own1 A env → AOk n A → 0 < s.toks → St c mu s.heap → Fm c mu s.heap env m → wpC c.M A (execs ss env) (PostS c env mu s P) NoE s
def Ex1C (c : Cx) (n : Nat) (sc : Scope) (m : Lm) (mu : Mu) (st : Stmt) (P : FV → Lm → Mu → Prop) : Prop :=
  ∀ env A s, env.scope = sc → Own1 A env → AOk n A → 0 < s.toks → St c mu s.heap → Fm c mu s.heap env m → wpC c.M A (exec st env) (PostS c env mu s P) NoE s
section
variable {c : Cx} {n : Nat} {sc : Scope} {m : Lm} {mu : Mu}
theorem ExSC.of {ss : List Stmt} {P : FV → Lm → Mu → Prop} (h : ExS c n sc m mu ss P) : ExSC c n sc m mu ss P := fun env A s he _ hA ht S F => wpC_any (h env A s he hA ht S F)
theorem Ex1C.of {st : Stmt} {P : FV → Lm → Mu → Prop} (h : Ex1 c n sc m mu st P) : Ex1C c n sc m mu st P := fun env A s he _ hA ht S F => wpC_any (h env A s he hA ht S F)
theorem ExSC.weak {m' : Lm} {ss : List Stmt} {P : FV → Lm → Mu → Prop} (hw : SubL m m') (h : ExSC c n sc m mu ss P) : ExSC c n sc m' mu ss P :=
  fun env A s he ho hA ht S F => h env A s he ho hA ht S (F.weak hw.look)
def SeqC (c : Cx) (n : Nat) (sc : Scope) (ss : List Stmt) (P : FV → Lm → Mu → Prop) (fl : FV) (m : Lm) (mu : Mu) : Prop := match fl with
  | .next => ExSC c n sc m mu ss P
  | fl => P fl m mu
theorem wpC_execs_cons {M : Model} {A : Around} {E : Value → Shared → Prop} {s : Shared} {env : Env} {st : Stmt} {rest : List Stmt} {Q : Flow → Shared → Prop}
    (h : wpC M A (exec st env) (fun f s' => match f with | .next => wpC M A (execs rest env) Q E s' | f => Q f s') E s) : wpC M A (execs (st :: rest) env) Q E s := fun Γ p hΓ hcl => by
  rw [execs_cons, Sem.wp_bind']
  refine Sem.wp_mono M Γ _ (fun f p' s' h' => ?_) (fun _ _ _ h' => h') _ _ (h Γ p hΓ hcl)
  cases f <;> first | exact h' Γ p' hΓ hcl | exact h'
theorem ExSC.seq {st : Stmt} {ss : List Stmt} {P : FV → Lm → Mu → Prop} (h : Ex1C c n sc m mu st (SeqC c n sc ss P)) : ExSC c n sc m mu (st :: ss) P := by
  intro env A s he ho hA ht S F
  refine wpC_execs_cons (wpC_mono (wpC_toks (h env A s he ho hA ht S F)) (fun f s1 p => ?_) fun _ _ x => x.2)
  obtain ⟨hle, fl, m1, mu1, hp, x1, F1, rf⟩ := p
  cases rf with
  | next => exact wpC_mono (hp env A s1 he ho hA (Nat.lt_of_lt_of_le ht hle) x1.st F1) (fun _ _ q => q.after x1) fun _ _ x => x
  | brk => exact ⟨.brk, m1, mu1, hp, x1, F1, .brk⟩
  | cont => exact ⟨.cont, m1, mu1, hp, x1, F1, .cont⟩
  | ret r => exact ⟨.ret _, m1, mu1, hp, x1, F1, .ret r⟩
theorem ExSC.mid {st : Stmt} {ss : List Stmt} {P : FV → Lm → Mu → Prop} (I : Lm → Mu → Prop) (h : Ex1C c n sc m mu st fun fl m' mu' => fl = .next ∧ I m' mu') (h2 : ∀ m' mu', I m' mu' → ExSC c n sc m' mu' ss P) : ExSC c n sc m mu (st :: ss) P :=
  ExSC.seq fun env A s he ho hA ht S F => wpC_mono (h env A s he ho hA ht S F) (fun _ _ ⟨fl, m', mu', ⟨e1, e2⟩, b⟩ => ⟨fl, m', mu', by subst e1; exact h2 m' mu' e2, b⟩) fun _ _ x => x
theorem execs_app (l1 l2 : List Stmt) (env : Env) : execs (l1 ++ l2) env = (execs l1 env >>= fun f => match f with | .next => execs l2 env | f => pure f) := by
  induction l1 with
  | nil => rfl
  | cons st l ih =>
    rw [List.cons_append, execs_cons, execs_cons, bind_assoc]
    congr 1
    funext f
    cases f <;> first | exact ih | rfl
/- the first k statements by the ordinary rules -/
theorem ExSC.split {ss : List Stmt} {P : FV → Lm → Mu → Prop} (k : Nat) (I : Lm → Mu → Prop) (h : ExS c n sc m mu (ss.take k) fun fl m' mu' => fl = .next ∧ I m' mu') (h2 : ∀ m' mu', I m' mu' → ExSC c n sc m' mu' (ss.drop k) P) : ExSC c n sc m mu ss P := by
  intro env A s he ho hA ht S F
  rw [← List.take_append_drop k ss, execs_app]
  refine wpC_bindA (wpAny_mono (wpAny_toks (h env A s he hA ht S F)) (fun f s1 p => ?_) fun _ _ x => x.2)
  obtain ⟨hle, fl, m1, mu1, ⟨rfl, hp⟩, x1, F1, rf⟩ := p
  cases rf
  exact wpC_mono (h2 m1 mu1 hp env A s1 he ho hA (Nat.lt_of_lt_of_le ht hle) x1.st F1) (fun _ _ q => q.after x1) fun _ _ x => x
end
end Mine

open PySem PySem.W PySem.Calls PyProof.Rows
open PySem.Sem (wp)
set_option Elab.async false
set_option linter.unusedVariables false
namespace Mine
section
variable {c : Cx} {n : Nat} {sc : Scope} {m : Lm} {mu : Mu}
end
end Mine

open PySem PySem.W PySem.Calls PyProof.Rows
open PySem.Sem (wp)
set_option Elab.async false
set_option linter.unusedVariables false
set_option maxRecDepth 100000
namespace Mine
section
variable {prog : Program} {w : World} {A : Around} {s : Shared} {R : Result → Shared → Prop}
theorem codeC_func {body : List Stmt} {env : Env}
    (h : wpC (model prog w) (A.deeper env) (execs body env) (fun f s' => R (.ok (.ret (match f with | .ret v => v | _ => .none))) s') NoE s) :
    codeC (model prog w) A (.func body env) R s := by
  refine codeC_of_tree ?_
  show wpC _ (A.deeper env) (do point; match ← (execs body env).onRaise (leaving env) with | .ret v => ret v | _ => ret .none) _ _ s
  refine wpC_bindA (wpAny_point (wpC_bind (wpC_onRaise (wpC_mono h (fun f s' h' => ?_) fun _ _ h' => h'.elim))))
  cases f <;> exact wpC_any (wpAny_pure h')
theorem codeC_call_function {a : Addr} {args : Args} {o : Obj} {fd : FuncData} {body : List Stmt} (hroom : A.depth < recursionLimit)
    (ho : s.heap.get? a = some o)
    (hd' : o.data = .func fd) (hco : fd.scope.isCoroutine = false) (hgen : fd.scope.isGenerator = false) (hbody : fd.body = .stmts body) (hcd : s.heap.CodeRec fd.code fd.qualname)
    (h : wpC (model prog w) A.in1 (bindArgs fd args) (fun binds s₁ =>
      wpAny (model prog w) A.in1 (newFunctionEnv fd.scope fd.globals fd.closure binds (fd.qualname ++ ".<locals>.") (some a) fd.code none fd.builtins)
        (fun env s₂ => s₂.heap.NoLimit ∧ codeC (model prog w) A (.func body env) R s₂) (fun e s' => R (.error e) s') s₁) (fun e s' => R (.error e) s') s) :
    codeC (model prog w) A (.call (.ref a) args) R s := by
  refine codeC_of_tree ?_
  show wpC _ A.in1 (callAny (.ref a) args) _ _ s
  simp only [callAny]
  refine wpC_bindA (wpAny_load ho ?_)
  obtain ⟨c, oc, vs, tq, hc, hoc, hdc, hq⟩ := hcd
  simp only [hd', callFunction, hco, hgen, hbody, hc]
  rw [hc] at h
  refine wpC_bindA (m := field (.ref c) 1) (wpAny_field hoc hdc hq (wpC_bindA (wpAny_pure ?_)))
  exact wpC_bind (wpC_mono h (fun binds s₁ h₁ => wpC_bindA (wpAny_mono h₁ (fun env s₂ h₂ => wpC_bindA (wpAny_enterFrame h₂.1 hroom
    (wpC_any (wpAny_pure (And.intro rfl h₂.2))))) fun _ _ h' => h')) fun _ _ h' => h')
end
theorem fn_bodyC {c : Cx} {n : Nat} {mu mu1 : Mu} {a : Addr} {fd : FuncData} {body : List Stmt} {binds : List (Str × PV)} {P : PV → Mu → Prop} (hf : FnOk c a fd body) {A : Around} {s s1 s2 : Shared} {bv : List (Str × Value)} (hA : AOk (n + 1) A)
    (x1 : Step c noT mu s mu1 s1) (rb : RepD s1.heap binds bv) (hnd : (binds.map (·.1)).Nodup) (hko : kindsOk fd.scope.names (binds.map (·.1)) = true) (hfr : A.frames = some []) (hx : ExSC c n fd.scope binds mu1 body fun fl _ mu2 => P (retOf fl) mu2)
    {env : Env} (he : env = newEnv fd.scope s1.heap.objs.size fd.globals (cellsFrom (s1.heap.objs.size + 1) fd.scope.names []) (fd.qualname ++ ".<locals>.") (some a) fd.code none fd.builtins)
    (I : InCallC s1 env.locals (bindL env.kindOf bv fun _ => none) env.cells (bindC env.kindOf bv fun _ => none) s2) (ht2 : 0 < s2.toks) :
    s2.heap.NoLimit ∧ codeC c.M A (.func body env) (fun r s' => match r with | .ok (.ret v) => Post c mu s P v s' | .ok _ => False | .error e => NoE e s') s2 := by
  have S1 := x1.st
  have hnames := rb.names
  have hkb : ∀ y ∈ bv, fd.scope.names.lookup y.1 = some .local ∨ fd.scope.names.lookup y.1 = some .cell := fun y hy => by
    have := List.all_eq_true.mp hko y.1 (hnames ▸ List.mem_map_of_mem hy)
    simpa using this
  have hsc : env.scope = fd.scope := by rw [he]; rfl
  have hL : env.locals = s1.heap.objs.size := by rw [he]; rfl
  have hcl : env.cells = cellsFrom (s1.heap.objs.size + 1) fd.scope.names [] := by rw [he]; rfl
  obtain ⟨h2, tk2, rfl⟩ := I.toInCall.same
  have keep := I.toInCall.keep
  have hsz : s1.heap.objs.size < h2.objs.size := Nat.lt_of_le_of_lt I.toInCall.fresh I.toInCall.ns.lt
  have tkp : TK s1.heap h2 := fun b o e _ => keep b o e
  have S2 : St c mu1 h2 := ⟨fun b o e => keep b o (S1.base b o e), fun b o e => (S1.objs b o e).mono (fun o' q => keep _ _ q) tkp, S1.new⟩
  have F2 : Fm c mu1 h2 env binds := {
    fn := by rw [hsc]; exact hf.kind
    gl := by rw [he]; exact hf.gl
    bu := by rw [he]; exact hf.bu
    loc := ⟨_, I.toInCall.ns, fun y pv e hk => by
      obtain ⟨v, hv, rv⟩ := rb.mem e
      exact ⟨v, bindL_at bv _ y v (hnames ▸ hnd) hv hk, rv.mono tkp⟩⟩
    cel := fun y pv e hk => by
      obtain ⟨v, hv, rv⟩ := rb.mem e
      have hne : env.kindOf y ≠ some .local := by rcases hk with q | q <;> rw [q] <;> decide
      have hcell : fd.scope.names.lookup y = some .cell := by
        have := hkb (y, v) (mem_of_lookup hv)
        rcases this with q | q
        · exact absurd (by unfold Env.kindOf; rw [hsc]; exact q) hne
        · exact q
      obtain ⟨ca, hca⟩ := Option.isSome_iff_exists.mp (cellsFrom_has (x := y) fd.scope.names (s1.heap.objs.size + 1) [] (.inl hcell))
      have hca' : env.cells.lookup y = some ca := by rw [hcl]; exact hca
      have hi := I.cell y ca hca'
      rw [bindC_at bv _ y v (hnames ▸ hnd) hv hne] at hi
      exact ⟨ca, v, hca', hi, rv.mono tkp⟩
    has := fun y hk => by
      have hcell : fd.scope.names.lookup y = some .cell := by unfold Env.kindOf at hk; rw [hsc] at hk; exact hk
      obtain ⟨ca, hca⟩ := Option.isSome_iff_exists.mp (cellsFrom_has (x := y) fd.scope.names (s1.heap.objs.size + 1) [] (.inl hcell))
      exact ⟨ca, by rw [hcl]; exact hca⟩
    cells := fun y ca e => ⟨_, I.cell y ca e⟩
    offL := S1.off (by rw [hL]; exact Nat.le_refl _)
    offC := fun y ca e => by
      have := I.above y ca (mem_of_lookup e)
      rw [hL] at this
      exact ⟨S1.off (Nat.le_of_lt this), by rw [hL]; exact Nat.ne_of_gt this, S1.baseNone (Nat.le_of_lt this)⟩
    apart := fun y z ca h1 h2 => name_of_addr I.apart (mem_of_lookup h1) (mem_of_lookup h2)
    notB := by rw [hL]; exact S1.baseNone (Nat.le_refl _) }
  have above : ∀ b, Tch env b → s1.heap.objs.size ≤ b := fun b hb => by
    rcases hb with q | ⟨_, y, q⟩
    · rw [q, hL]; exact Nat.le_refl _
    · have := I.above y b (mem_of_lookup q); rw [hL] at this; exact Nat.le_of_lt this
  refine ⟨c.nolim.keeps S2.base, codeC_func ?_⟩
  refine wpC_mono (hx env _ _ hsc ⟨by show A.frames.map (env :: ·) = _; rw [hfr]; rfl, by rw [he]; rfl⟩ (hA.deeper env) ht2 S2 F2) (fun f s3 p => ?_) fun _ _ e => e.elim
  · obtain ⟨fl, m3, mu3, hp, x3, F3, rf⟩ := p
    have x13 : Step c noT mu1 s1 mu3 s3 := {
      shape := by obtain ⟨h, tk, e⟩ := x3.shape; exact ⟨h, tk, e⟩
      st := x3.st
      keep := fun b o e hm _ => x3.keep b o (keep b o e) hm fun q => absurd (Heap.lt_size e) (Nat.not_lt.mpr (above b q))
      alive := fun b o e hm => x3.alive b o (keep b o e) hm
      dom := fun b hb => by
        rcases x3.dom b hb with q | q
        · exact .inl q
        · cases e : s1.heap.get? b with
          | none => exact .inr rfl
          | some o => have := keep b o e; rw [q] at this; cases this }
    have fin : ∀ v, Rep s3.heap (retOf fl) v → Post c mu s P v s3 := fun v rv => ⟨retOf fl, mu3, hp, x1.trans x13, rv⟩
    cases rf with
    | next => exact fin _ .none
    | brk => exact fin _ .none
    | cont => exact fin _ .none
    | ret r => exact fin _ r

/- the call of the law -/
theorem law_fnC {c : Cx} {n : Nat} {a l : Addr} {fd : FuncData} {body : List Stmt} {x : Str} {P : PV → Mu → Prop} (hf : FnOk c a fd body) (hb : ∀ v, bindArgs fd ⟨[v], []⟩ = pure [(x, v)]) (hx : fd.scope.names.lookup x = some .local)
    (h : ExSC c n fd.scope [(x, .ref l)] (fun _ => none) body fun fl _ mu2 => P (retOf fl) mu2) {A : Around} {s : Shared} (hA : AOk (n + 1) A) (hfr : A.frames = some []) (S : St c (fun _ => none) s.heap) :
    wpC c.M A (call (.ref a) [.ref l]) (Post c (fun _ => none) s P) NoE s := by
  refine wpC_call ?_
  obtain ⟨o, ho, hd⟩ := hf.obj
  refine codeC_call_function hA.room (S.base _ _ ho) hd hf.co hf.gen hf.body (hf.code.keeps S.base) ?_
  rw [hf.clos, hb]
  refine wpC_any (wpAny_pure ?_)
  refine newEnv_pos hf.kind hx (fun y hy => by cases hy) fun env he s2 I ht2 => ?_
  exact fn_bodyC hf hA (Step.refl S) (.cons (.ref l) .nil) (by simp) (by simp [kindsOk, hx]) hfr h he I ht2


/- a law that gives back True, on the caller -/
theorem law_closeC {c : Cx} {claim : ClaimW} {cl : Str → Option Addr} {mean : ExcName → Option Value} {args : List WData} {s : Shared} {fv : Value} {l : Addr} {A : Around} (hb : c.base = s.heap) (hg : s.gens = #[]) (hn : ∀ cls, claim.raises args cls = false) (hp : claim.post args (.bool true) args = true)
    (h : wpC c.M A (call fv [.ref l]) (Post c (fun _ => none) s fun d _ => d = .bool true) NoE s) :
    wpC c.M A ((fun f vs => call f vs) fv [.ref l]) (fun v s' => GoodWG claim cl mean args s (.ok (.ret v)) s') (fun e s' => GoodWG claim cl mean args s (.error e) s') s :=
  wpC_mono h (fun v s' p => law_good hb hg hn hp p) fun _ _ x => x.elim
end Mine

open PySem PySem.W PySem.Calls PyProof.Rows
open PySem.Sem (wp)
set_option Elab.async false
set_option linter.unusedVariables false
set_option maxRecDepth 100000
namespace Mine
/- # try, except -/
/- e is an exception object X that nothing else holds -/
def RaisedP (c : Cx) (mu : Mu) (s : Shared) (X : String) (P : Mu → Prop) (ex : Value) (s' : Shared) : Prop :=
  ∃ e mu', ex = .ref e ∧ P mu' ∧ Step c noT mu s mu' s' ∧ (∀ b o, s.heap.get? b = some o → mu b = none → b ≠ e) ∧ mu' e = none ∧ c.base.get? e = none ∧ ∃ ob vs, s'.heap.get? e = some ob ∧ ob.cls = .type X ∧ ob.data = .fields vs ∧ vs[1]? = some .none
section
variable {c : Cx} {n : Nat} {sc : Scope} {m : Lm} {mu : Mu}
end
end Mine

open PySem PySem.W PySem.Calls PyProof.Rows
open PySem.Sem (wp)
set_option Elab.async false
set_option linter.unusedVariables false
set_option maxRecDepth 100000
namespace Mine
/- # a call that the binder refuses -/
section
variable {c : Cx} {n : Nat} {sc : Scope} {m : Lm} {mu : Mu}
theorem Ex1.tryOk {body : List Stmt} {h0 : ExceptHandler} {hs : List ExceptHandler} {pos : Pos} {P : FV → Lm → Mu → Prop} (h : ExS c n sc m mu body P) : Ex1 c n sc m mu (.Try body (h0 :: hs) [] [] pos) P := by
  intro env A s he hA ht S F
  refine wpAny_Try_except (wpAny_mono (h env A s he hA ht S F) (fun f s1 p => ?_) fun _ _ x => x.elim)
  cases f with
  | next => exact wpAny_execs_nil p
  | brk => exact p
  | cont => exact p
  | ret v => exact p
/- ## the binder -/
end
end Mine

open PySem PySem.W PySem.Calls PyProof.Rows
set_option Elab.async false
set_option linter.unusedVariables false
set_option maxRecDepth 100000
namespace Mine
section
variable {c : Cx} {n : Nat} {sc : Scope} {m : Lm} {mu : Mu}
/- xs[-1] -/
theorem OpSub.lastN {slice : PySem.Expr} {l : Addr} {xs : List PV} {d : PV} {i : Int} {P : PV → Mu → Prop} (hl : ListAt c mu l (xs ++ [d])) (hi : i = -1) (h : P d mu)
    (hs : ∀ o i, ∃ ops, subscripted slice false o i = operate ops (getItem o i) := by intro _ _; exact ⟨_, rfl⟩) : OpSub c n mu slice (.ref l) (.int i) P :=
  OpSub.of (Ty.listAt hl) F.slot_list_getitem.lookup (fun A s va vi hA ht S ra ri => by
    cases ra; cases ri
    obtain ⟨vs, hli, rs⟩ := hl.at S
    obtain ⟨v, hv, rv⟩ := rs.get (k := xs.length) (d := d) (by simp)
    have hlen : vs.length = xs.length + 1 := by rw [rs.length]; simp
    subst hi
    refine wpAny_getItem_list_neg (x := v) hli (by decide) (by simp; omega) (by decide) ?_ (Post.pure0 S h rv)
    rw [List.size_toArray, hlen]
    have e : ((-1 : Int) + ((xs.length + 1 : Nat) : Int)).toNat = xs.length := by omega
    rw [e]; simpa using hv) hs
end
end Mine

open PySem PySem.W PySem.Calls PyProof.Rows
set_option Elab.async false
set_option linter.unusedVariables false
set_option maxRecDepth 100000
namespace Mine
open Builtin Builtin._codecs
theorem enc_road8 (x : Str) (t u : Tok) : «str.encode» ⟨[.str x t, .str (Str.ofString "utf-8") u], []⟩ = (do let a ← encodeNarrow "str.encode" utf8Codec none (.str x t) x; let v ← mkBytes a; ret v) := by
  have e : «str.encode» ⟨[.str x t, .str (Str.ofString "utf-8") u], []⟩ = (do let v ← encodeRoad "str.encode" (.str x t) x (Str.ofString "utf-8") none; ret v) := by
    first | rfl | (with_unfolding_all rfl)
  rw [e, encodeRoad_utf8]
  simp only [bind_assoc]
/- the octets of a text whose signs are all in the codec -/
def octs (c : TextCodec) (l : List Nat) : List UInt8 := l.flatMap c.bytesOf
theorem octs_fold (c : TextCodec) (l : List Nat) : ∀ acc : Array UInt8, l.foldl (fun acc y => acc ++ (c.bytesOf y).toArray) acc = acc ++ (octs c l).toArray := by
  induction l with
  | nil => intro acc; simp [octs]
  | cons a r ih => intro acc; rw [List.foldl_cons, ih]; simp [octs]
theorem encodeRoad_latin1 (id : String) (self : Value) (x : Str) (errors : Option Str) : encodeRoad id self x (Str.ofString "iso-8859-1") errors = (do mkBytes (← encodeNarrow id latin1Codec errors self x)) := by
  first | rfl | (unfold encodeRoad; rfl) | (unfold encodeRoad; simp only []; rfl) | decide
theorem enc_road1 (x : Str) (t u : Tok) : «str.encode» ⟨[.str x t, .str (Str.ofString "iso-8859-1") u], []⟩ = (do let a ← encodeNarrow "str.encode" latin1Codec none (.str x t) x; let v ← mkBytes a; ret v) := by
  have e : «str.encode» ⟨[.str x t, .str (Str.ofString "iso-8859-1") u], []⟩ = (do let v ← encodeRoad "str.encode" (.str x t) x (Str.ofString "iso-8859-1") none; ret v) := by
    first | rfl | (with_unfolding_all rfl)
  rw [e, encodeRoad_latin1]
  simp only [bind_assoc]
theorem find_bad {c : TextCodec} {l : List Nat} (hg : ∀ ch ∈ l, c.bad ch = false) : Array.findIdx? c.bad l.toArray = none := by
  rw [Array.findIdx?_eq_none_iff]
  intro x hx
  exact hg x (by simpa using hx)
theorem find_badL {c : TextCodec} {l : List Nat} (hg : ∀ ch ∈ l, c.bad ch = false) : List.findIdx? c.bad l = none := by
  rw [List.findIdx?_eq_none_iff]
  intro x hx
  exact hg x hx
theorem octs_foldL (c : TextCodec) (a : Nat) (r : List Nat) : List.foldl (fun acc y => acc ++ (c.bytesOf y).toArray) (c.bytesOf a).toArray r = (octs c (a :: r)).toArray := by
  rw [octs_fold]; simp [octs]
theorem two_turns {β : Type} {f : Nat → β → Sem (ForInStep β)} {b0 b1 : β} (h1 : ∀ x, f x b0 = pure (.yield b1)) (h2 : ∀ x, f x b1 = pure (.done b1)) (k : Nat) : forIn (List.range' 0 (k + 1)) b0 f = (pure b1 : Sem β) := by
  rw [List.range'_succ, List.forIn_cons, h1]
  show forIn (List.range' 1 k) b1 f = _
  cases k with
  | zero => rfl
  | succ k =>
    rw [List.range'_succ, List.forIn_cons, h2]; rfl
theorem enc_good {id : String} {c : TextCodec} {self : Value} {l : List Nat} (hg : ∀ ch ∈ l, c.bad ch = false) (hz : (octs c l).length ≤ sizeLine) : encodeNarrow id c none self (S l) = pure (octs c l).toArray := by
  unfold encodeNarrow
  simp only [Std.Legacy.Range.forIn_eq_forIn_range', Std.Legacy.Range.size, Nat.sub_zero, Nat.add_sub_cancel, Nat.div_one, S_length]
  cases l with
  | nil => rfl
  | cons a r =>
    have ha := hg a (by simp)
    have hfb := find_bad hg
    rw [List.length_cons, two_turns (b1 := (r.length + 1, (octs c (a :: r)).toArray, {}))]
    · rfl
    · intro x
      have e : (a :: r).toArray.extract 0 = (a :: r).toArray := by simp
      simp [ha, find_badL hg, octs_foldL]
    · intro x
      simp [Nat.not_lt.mpr hz]
theorem find_le {f : Nat → Bool} (l : List Nat) : (List.findIdx? f l).getD l.length ≤ l.length := by
  cases h : List.findIdx? f l with
  | none => exact Nat.le_refl _
  | some j => exact Nat.le_of_lt (List.findIdx?_eq_some_iff_findIdx_eq.mp h).1
theorem wp_turn {β : Type} {M : Model} {A : Around} {E : Value → Shared → Prop} {s : Shared} {Q : β → Shared → Prop} {f : Nat → β → Sem (ForInStep β)} {b : β} {k : Nat} {i : Nat} (h : ∀ Q', wpAny M A (f i b) Q' E s) : wpAny M A (forIn (List.range' i (k + 1)) b f) Q E s := by
  rw [List.range'_succ, List.forIn_cons]
  exact wpAny_bind (h _)
theorem wp_turn2 {β : Type} {M : Model} {A : Around} {E : Value → Shared → Prop} {s : Shared} {Q : β → Shared → Prop} {f : Nat → β → Sem (ForInStep β)} {b b' : β} {k : Nat} {i : Nat} (h1 : f i b = pure (.yield b')) (h : ∀ Q', wpAny M A (f (i + 1) b') Q' E s) : wpAny M A (forIn (List.range' i (k + 1 + 1)) b f) Q E s := by
  rw [List.range'_succ, List.forIn_cons, h1]
  exact wpAny_bind (wpAny_pure (wp_turn h))
theorem octs_len1 (l : List Nat) : (octs latin1Codec l).length = l.length := by
  induction l with
  | nil => rfl
  | cons a r ih => rw [octs, List.flatMap_cons, List.length_append, List.length_cons]; show 1 + (octs latin1Codec r).length = _; omega
theorem enc_bad {M : Model} {A : Around} {E : Value → Shared → Prop} {s : Shared} {Q : Array UInt8 → Shared → Prop} {id : String} {self : Value} {p q : List Nat} {b : Nat} (hg : ∀ ch ∈ p, latin1Codec.bad ch = false) (hb : latin1Codec.bad b = true) (hz : p.length ≤ sizeLine)
    (h : ∀ i stop, i ≤ (p ++ b :: q).length → stop ≤ (p ++ b :: q).length → ∀ (Q' : PUnit → Shared → Prop), wpAny M A (raiseEncodeFault {} "latin-1" self i stop "ordinal not in range(256)" : Sem PUnit) Q' E s) : wpAny M A (encodeNarrow id latin1Codec none self (S (p ++ b :: q))) Q E s := by
  have strict : (Str.ofString "strict").toString = "strict" := by decide +kernel
  have hname : latin1Codec.name = "latin-1" := rfl
  unfold encodeNarrow
  simp only [Std.Legacy.Range.forIn_eq_forIn_range', Std.Legacy.Range.size, Nat.sub_zero, Nat.add_sub_cancel, Nat.div_one, S_length]
  refine wpAny_bind ?_
  cases p with
  | nil =>
    rw [show ([] ++ b :: q : List Nat).length = q.length + 1 from rfl]
    refine wp_turn fun Q' => ?_
    simp [hb, strict, hname]
    refine wpAny_bind (wpAny_rule (wpAny_bind (h _ _ (Nat.zero_le _) ?_ _)))
    have := find_le (f := fun y => !latin1Codec.bad y) (b :: q)
    simpa using this
  | cons a r =>
    have ha := hg a (by simp)
    have hfi : List.findIdx? latin1Codec.bad (a :: (r ++ b :: q)) = some (r.length + 1) := by
      show List.findIdx? latin1Codec.bad (a :: r ++ b :: q) = _
      rw [List.findIdx?_append, find_badL hg]
      simp [List.findIdx?_cons, hb]
    have ht : List.take (r.length + (q.length + 1)) (r ++ b :: q) = r ++ b :: q := List.take_of_length_le (by simp)
    have hz' : ¬ sizeLine < (octs latin1Codec (a :: r)).length := by rw [octs_len1]; omega
    rw [show (a :: r ++ b :: q).length = r.length + q.length + 1 + 1 from by simp; omega]
    refine wp_turn2 (b' := (r.length + 1, (octs latin1Codec (a :: r)).toArray, {})) ?_ fun Q' => ?_
    · simp [ha, ht, hfi, octs_foldL]
    · simp [hz', hb, strict, hname]
      refine wpAny_bind (wpAny_rule (wpAny_bind (h _ _ ?_ ?_ _)))
      · simp
      · have := find_le (f := fun y => !latin1Codec.bad y) (b :: q)
        simp only [List.length_append, List.length_cons] at this ⊢
        omega
end Mine

open PySem PySem.W PySem.Calls PyProof.Rows
set_option Elab.async false
set_option linter.unusedVariables false
set_option maxRecDepth 100000
namespace Mine
theorem uee_new : ExcNewFacts "UnicodeEncodeError" "UnicodeEncodeError.__new__" where
  ends := by decide +kernel
  owner := by decide +kernel
  entry := entryFor_alias (id' := "BaseException.__new__") (by rw [fastTable_eq_tree]; kernel_rfl) (by first | rfl | decide +kernel) (by decide +kernel) (by rw [fastTable_eq_tree]; kernel_rfl)
  sub := by rw [isSubtype_type]; kernel_rfl
  notAttr := by rw [isSubtype_type]; kernel_rfl
  notName := by rw [isSubtype_type]; kernel_rfl
  made := by kernel_rfl
theorem uee_mro : mroOf (.type "UnicodeEncodeError") = pure [.type "UnicodeEncodeError", .type "UnicodeError", .type "ValueError", .type "Exception", .type "BaseException", .type "object"] := by rw [mroOf_type]; kernel_rfl
theorem uee_init : Slot "UnicodeEncodeError" "__init__" "UnicodeEncodeError.__init__" := .of (owner := "UnicodeEncodeError") (n := "__init__") (by rw [typeLookup_type, builtinLookup_eq_fast]; kernel_rfl) (by decide +kernel) (by decide +kernel) (by decide +kernel)
    (by first | exact .inl (by decide +kernel) | exact .inr (by decide +kernel)) (by rw [isSubtype_type]; kernel_rfl)
theorem uee_called : TypeCalled "UnicodeEncodeError" "UnicodeEncodeError.__new__" "UnicodeEncodeError.__init__" :=
  ⟨by decide +kernel, by kernel_rfl, ⟨_, _, uee_mro⟩, by kernel_rfl, by decide +kernel, uee_new.sub, uee_init⟩
theorem uee_typeCall (args : Args) : checkTypeCall "UnicodeEncodeError" args = pure () := by kernel_rfl
theorem uee_newCall (rest : List Value) : checkBuiltinCall "UnicodeEncodeError.__new__" ⟨.type "UnicodeEncodeError" :: rest, []⟩ = pure () := by kernel_rfl
theorem uee_entry : entryFor table "UnicodeEncodeError.__init__" = some Builtin.«UnicodeEncodeError.__init__» := entryFor_of_tree (by kernel_rfl)
end Mine

open PySem PySem.W PySem.Calls PyProof.Rows
set_option Elab.async false
set_option linter.unusedVariables false
set_option maxRecDepth 100000
namespace Mine
open Builtin Builtin._codecs Builtin.UnicodeEncodeError
section
variable {prog : Program} {w : World} {A : Around} {E : Value → Shared → Prop} {s : Shared}
theorem fit_members {a : Addr} {o : Obj} {vs : Array Value} {Q : Members → Shared → Prop} (ho : s.heap.get? a = some o) (hd : o.data = .fields vs) {mm : Members}
    (hm : ((vs.extract 6).toList = [] ∧ mm = {}) ∨ (vs.extract 6).toList = [mm.encoding, mm.object, rawInt mm.start, rawInt mm.stop, mm.reason]) (h : Q mm s) : wpAny (model prog w) A (members (.ref a)) Q E s := by
  unfold members
  refine wpAny_bind (wpAny_fieldsOf ho hd ?_)
  rcases hm with ⟨q, rfl⟩ | q
  · rw [q]; exact wpAny_pure h
  · rw [q]; exact wpAny_pure h
def memA : Option Members → Array Value
  | none => #[]
  | some m => #[m.encoding, m.object, rawInt m.start, rawInt m.stop, m.reason]
theorem memA_cut (t x1 x2 x3 x4 x5 : Value) (mm : Option Members) : (#[t, x1, x2, x3, x4, x5] ++ memA mm).extract 0 6 = #[t, x1, x2, x3, x4, x5] := by cases mm <;> rfl
theorem memA_lt (t x1 x2 x3 x4 x5 : Value) (mm : Option Members) : 0 < (#[t, x1, x2, x3, x4, x5] ++ memA mm).size := by cases mm <;> simp [memA]
theorem memA_set (t x x1 x2 x3 x4 x5 : Value) (mm : Option Members) : (#[t, x1, x2, x3, x4, x5] ++ memA mm).setIfInBounds 0 x = #[x, x1, x2, x3, x4, x5] ++ memA mm := by cases mm <;> rfl
/- an exception object on its way -/
structure Ue (s0 : Heap) (a : Addr) (mm : Option Members) (h : Heap) : Prop where
  keep : ∀ b o, s0.get? b = some o → h.get? b = some o
  new : s0.get? a = none
  at_ : ∃ o t x2 x3 x4 x5, h.get? a = some o ∧ o.cls = .type "UnicodeEncodeError" ∧ o.data = .fields (#[t, .none, x2, x3, x4, x5] ++ memA mm)
theorem Ue.members {s0 : Heap} {a : Addr} {mm : Option Members} {Q : Members → Shared → Prop} (U : Ue s0 a mm s.heap) (h : Q (mm.getD {}) s) : wpAny (model prog w) A (members (.ref a)) Q E s := by
  obtain ⟨o, t, x2, x3, x4, x5, ho, hc, hd⟩ := U.at_
  cases mm with
  | none => exact fit_members ho hd (.inl ⟨rfl, rfl⟩) h
  | some m => exact fit_members ho hd (.inr rfl) h
theorem Ue.setMembers {s0 : Heap} {a : Addr} {mm : Option Members} {m : Members} {Q : Unit → Shared → Prop} (U : Ue s0 a mm s.heap) (h : ∀ h', Ue s0 a (some m) h' → Q () { s with heap := h' }) : wpAny (model prog w) A (setMembers (.ref a) m) Q E s := by
  obtain ⟨o, t, x2, x3, x4, x5, ho, hc, hd⟩ := U.at_
  unfold UnicodeEncodeError.setMembers
  refine wpAny_updateFields ho hd (h _ ⟨fun b o' hb => ?_, U.new, ?_⟩) ?_
  · rw [Heap.get?_update_other _ _ (fun q : a = b => by rw [← q, U.new] at hb; cases hb)]
    exact U.keep b o' hb
  · refine ⟨_, t, x2, x3, x4, x5, Heap.get?_update_self _ ho (Obj.isFreed_of_fields (Obj.data_mapFields hd _)), by obtain ⟨c, d, dt, sl⟩ := o; obtain rfl : dt = _ := hd; exact hc, ?_⟩
    rw [Obj.data_mapFields hd, memA_cut]; rfl
  · rw [memA_cut]; show 11 ≤ 16777216 + 3; decide
theorem Ue.setArgs {s0 : Heap} {a : Addr} {mm : Option Members} {x : Value} {Q : Unit → Shared → Prop} (U : Ue s0 a mm s.heap) (h : ∀ h', Ue s0 a mm h' → Q () { s with heap := h' }) : wpAny (model prog w) A (setField (.ref a) 0 x) Q E s := by
  obtain ⟨o, t, x2, x3, x4, x5, ho, hc, hd⟩ := U.at_
  refine wpAny_setField ho hd (memA_lt ..) (h _ ⟨fun b o' hb => ?_, U.new, ?_⟩)
  · rw [Heap.get?_update_other _ _ (fun q : a = b => by rw [← q, U.new] at hb; cases hb)]
    exact U.keep b o' hb
  · refine ⟨_, x, x2, x3, x4, x5, Heap.get?_update_self _ ho (Obj.isFreed_of_fields (Obj.data_mapFields hd _)), by obtain ⟨c, d, dt, sl⟩ := o; obtain rfl : dt = _ := hd; exact hc, ?_⟩
    rw [Obj.data_mapFields hd, memA_set]
theorem Ue.push {s0 : Heap} {a : Addr} {mm : Option Members} {h : Heap} {o : Obj} (U : Ue s0 a mm h) : Ue s0 a mm (h.push o) := by
  obtain ⟨o', t, x2, x3, x4, x5, ho, hc, hd⟩ := U.at_
  exact ⟨fun b o' hb => Heap.get?_push_of_some _ (U.keep b o' hb), U.new, o', t, x2, x3, x4, x5, Heap.get?_push_of_some _ ho, hc, hd⟩
theorem str_arg {id : String} {i : Nat} {x : Str} {t : Tok} {Q : Unit → Shared → Prop} (h : Q () s) : wpAny (model prog w) A (UnicodeEncodeError.strArgument id i (.str x t)) Q E s := by
  unfold UnicodeEncodeError.strArgument
  exact wpAny_bind (wpAny_of_eq (a := some x) rfl (wpAny_pure h))
theorem size_arg {id : String} {i : Int} {t : Tok} {Q : Int → Shared → Prop} (h0 : 0 ≤ i) (h1 : i < 2 ^ 63) (h : Q i s) : wpAny (model prog w) A (sizeArgument id (.int i t)) Q E s := by
  unfold sizeArgument
  refine wpAny_bind (wpAny_of_eq (a := i) rfl ?_)
  rw [if_neg (by simp; omega)]
  exact wpAny_pure h
theorem uee_init_body {s0 : Heap} {a : Addr} {e ob r : Str} {i j : Int} {t1 t2 t3 t4 t5 : Tok} {Q : Fin → Shared → Prop} (U : Ue s0 a none s.heap) (hi : 0 ≤ i ∧ i < 2 ^ 63) (hj : 0 ≤ j ∧ j < 2 ^ 63)
    (h : ∀ h' mm, Ue s0 a (some mm) h' → Q (.done (.ret .none)) { s with heap := h' }) : wpAny (model prog w) A («UnicodeEncodeError.__init__» ⟨[.ref a, .str e t1, .str ob t2, .int i t3, .int j t4, .str r t5], []⟩) Q E s := by
  unfold Builtin.«UnicodeEncodeError.__init__» beginInit
  obtain ⟨o, t, x2, x3, x4, x5, ho, hc, hd⟩ := id U.at_
  refine wpAny_bind ?_
  simp only [List.isEmpty_nil, Bool.not_true, Bool.false_eq_true, if_false]
  refine wpAny_bind (wpAny_field ho hd (x := t) rfl ?_)
  refine wpAny_bind (wpAny_newTuple ?_ (by show 5 ≤ 16777216; decide))
  refine wpAny_bind (U.push.setArgs (s := { s with heap := s.heap.push _ }) fun h1 U1 => ?_)
  refine wpAny_bind (wpAny_letGo ?_)
  rw [if_pos (by decide)]
  refine wpAny_bind (Ue.members (s := { s with heap := h1 }) U1 (wpAny_bind (Ue.setMembers (s := { s with heap := h1 }) U1 fun h2 U2 => wpAny_bind (wpAny_letGo ?_))))
  refine wpAny_bind (Ue.members (s := { s with heap := h2 }) U2 (wpAny_bind (Ue.setMembers (s := { s with heap := h2 }) U2 fun h3 U3 => wpAny_bind (wpAny_letGo ?_))))
  refine wpAny_bind (Ue.members (s := { s with heap := h3 }) U3 (wpAny_bind (Ue.setMembers (s := { s with heap := h3 }) U3 fun h4 U4 => wpAny_bind (wpAny_letGo ?_))))
  rw [if_neg (by simp)]
  refine wpAny_pure ?_
  refine wpAny_bind (str_arg (wpAny_bind (str_arg (wpAny_bind ?_))))
  unfold initRange
  refine wpAny_bind (size_arg hi.1 hi.2 ?_)
  refine wpAny_bind (Ue.members (s := { s with heap := h4 }) U4 (wpAny_bind (Ue.setMembers (s := { s with heap := h4 }) U4 fun h5 U5 => ?_)))
  refine wpAny_bind (size_arg hj.1 hj.2 ?_)
  refine wpAny_bind (Ue.members (s := { s with heap := h5 }) U5 (Ue.setMembers (s := { s with heap := h5 }) U5 fun h6 U6 => ?_))
  refine wpAny_bind (str_arg (wpAny_bind (Ue.members (s := { s with heap := h6 }) U6 (wpAny_bind (Ue.setMembers (s := { s with heap := h6 }) U6 fun h7 U7 => ?_)))))
  exact wpAny_pure (h h7 _ U7)
theorem uee_args (a b c d e f : Value) : argsOk "UnicodeEncodeError.__init__" ⟨[a, b, c, d, e, f], []⟩ := by
  first
    | (refine ⟨_, by kernel_rfl, ?_⟩; intros; kernel_rfl)
    | (constructor <;> kernel_rfl)
    | kernel_rfl
theorem uee_call {e ob r : Str} {i j : Int} {t1 t2 t3 t4 t5 : Tok} {Q : Value → Shared → Prop} (hi : 0 ≤ i ∧ i < 2 ^ 63) (hj : 0 ≤ j ∧ j < 2 ^ 63)
    (h : ∀ h' a mm, Ue s.heap a (some mm) h' → Q (.ref a) { s with heap := h' }) : wpAny (model prog w) A (call (.type "UnicodeEncodeError") [.str e t1, .str ob t2, .int i t3, .int j t4, .str r t5]) Q E s := by
  refine callType_codes (Q₁ := fun obj s₁ => ∃ h' a, obj = .ref a ∧ s₁ = { s with heap := h' } ∧ Ue s.heap a none h') uee_called (uee_typeCall _) uee_entry ?_ ?_
  · refine codeAny_of_tree ?_
    show wpAny _ A.in1.in1 (do checkBuiltinCall "UnicodeEncodeError.__new__" ⟨.type "UnicodeEncodeError" :: [.str e t1, .str ob t2, .int i t3, .int j t4, .str r t5], []⟩; again (.builtin "UnicodeEncodeError.__new__" ⟨.type "UnicodeEncodeError" :: [.str e t1, .str ob t2, .int i t3, .int j t4, .str r t5], []⟩)) _ _ s
    refine wpAny_bind (wpAny_of_eq (uee_newCall _) (wpAny_pure ⟨plainId_quiet uee_called.plain _, ?_⟩))
    obtain ⟨hp, g, d, tk, os⟩ := s
    refine codeAny_exc_new uee_new ⟨_, _, rfl, rfl, fun b o hb => Heap.get?_push_of_some _ (Heap.get?_push_of_some _ hb), Heap.get?_none_of_le (Nat.le_succ _), _, _, _, _, _, _, Heap.get?_push_at (by simp only [Heap.size_push]) rfl, rfl, rfl⟩ (by show 5 ≤ 16777216; decide)
  · rintro obj s₁ ⟨h', a, rfl, rfl, U⟩
    obtain ⟨o, t, x2, x3, x4, x5, ho, hc, hd⟩ := id U.at_
    refine ⟨⟨o, ho, hc⟩, uee_args .., ?_⟩
    exact uee_init_body (s := { s with heap := h' }) U hi hj fun h2 mm U2 => ⟨rfl, h h2 a mm U2⟩
theorem raise_uee {x : Str} {t : Tok} {i j : Nat} {r : String} {Q : PUnit → Shared → Prop} (hh : A.handled = none) (hi : i < 2 ^ 63) (hj : j < 2 ^ 63) (hr : (Str.ofString r).length ≤ sizeLine)
    (h : ∀ h' tk e, Heap.NewExcOf s.heap h' e "UnicodeEncodeError" → E (.ref e) { s with heap := h', toks := tk }) : wpAny (model prog w) A (raiseEncodeFault {} "latin-1" (.str x t) i j r : Sem PUnit) Q E s := by
  unfold raiseEncodeFault
  refine wpAny_bind ?_
  show wpAny _ _ (do let a ← mkStr "latin-1"; let b ← pure (Value.str x t); let c ← mkInt i; let d ← mkInt j; let e ← mkStr (Str.ofString r); call (.type "UnicodeEncodeError") [a, b, c, d, e]) _ _ _
  refine wpAny_bind (wpAny_mkStr (wpAny_bind (wpAny_pure (wpAny_bind (wpAny_mkInt (wpAny_bind (wpAny_mkInt (wpAny_bind (wpAny_mkStr ?_ hr)))))))) (by decide +kernel))
  refine uee_call ⟨by omega, by omega⟩ ⟨by omega, by omega⟩ fun h' a mm U => ?_
  refine wpAny_raiseNew_none hh (h h' _ a ⟨U.keep, U.new, ?_⟩)
  obtain ⟨o, t, x2, x3, x4, x5, ho, hc, hd⟩ := U.at_
  exact ⟨o, _, ho, hc, hd, by cases mm <;> rfl⟩
end
end Mine

open PySem PySem.W PySem.Calls PyProof.Rows
set_option Elab.async false
set_option linter.unusedVariables false
set_option maxRecDepth 100000
namespace Mine
open Builtin Builtin._codecs
section
variable {c : Cx} {n : Nat} {sc : Scope} {m : Lm} {mu : Mu}
theorem CallV.enc8 {l : List Nat} {P : PV → Mu → Prop} (hg : ∀ ch ∈ l, utf8Codec.bad ch = false) (hz : (octs utf8Codec l).length ≤ sizeLine) (h : P (.bytes (octs utf8Codec l).toArray) mu) : CallV c n mu (.builtin "str.encode") [.str (S l), .str (Str.ofString "utf-8")] [] P := fun A s vs kvs hA ht S r rk => by
  cases r with | cons r0 r =>
  cases r with | cons r1 r =>
  cases r; cases rk
  cases r0; cases r1
  refine wpAny_call_entry F.slot_str_encode rfl F.entry_str_encode ?_ (F.args_str_encode_2 _ _)
  rw [enc_road8, enc_good hg hz]
  exact wpAny_bind (wpAny_pure (wpAny_bind (wpAny_mkBytes (wpAny_pure ⟨_, rfl, Post.pure (s := s) S h (.bytes _ _)⟩) (by simpa using hz))))
theorem CallV.enc1 {l : List Nat} {P : PV → Mu → Prop} (hg : ∀ ch ∈ l, latin1Codec.bad ch = false) (hz : (octs latin1Codec l).length ≤ sizeLine) (h : P (.bytes (octs latin1Codec l).toArray) mu) : CallV c n mu (.builtin "str.encode") [.str (S l), .str (Str.ofString "iso-8859-1")] [] P := fun A s vs kvs hA ht S r rk => by
  cases r with | cons r0 r =>
  cases r with | cons r1 r =>
  cases r; cases rk
  cases r0; cases r1
  refine wpAny_call_entry F.slot_str_encode rfl F.entry_str_encode ?_ (F.args_str_encode_2 _ _)
  rw [enc_road1, enc_good hg hz]
  exact wpAny_bind (wpAny_pure (wpAny_bind (wpAny_mkBytes (wpAny_pure ⟨_, rfl, Post.pure (s := s) S h (.bytes _ _)⟩) (by simpa using hz))))
/- a built-in call that raises -/
def CallR (c : Cx) (n : Nat) (mu : Mu) (f : Value) (args : List PV) (X : String) : Prop :=
  ∀ A s vs, AOk n A → 0 < s.toks → St c mu s.heap → Reps s.heap args vs → wpAny c.M A (call f vs) (fun _ _ => False) (fun ex s' => ∃ h' tk e, ex = .ref e ∧ s' = { s with heap := h', toks := tk } ∧ Heap.NewExcOf s.heap h' e X) s
theorem first_bad {f : Nat → Bool} : ∀ {l : List Nat}, (∃ ch ∈ l, f ch = true) → ∃ p b q, l = p ++ b :: q ∧ (∀ ch ∈ p, f ch = false) ∧ f b = true
  | [], h => by obtain ⟨_, h, _⟩ := h; cases h
  | a :: r, h => by
    cases ha : f a with
    | true => exact ⟨[], a, r, rfl, by simp, ha⟩
    | false =>
      obtain ⟨p, b, q, e, h1, h2⟩ := first_bad (l := r) (by
        obtain ⟨ch, hc, hf⟩ := h
        rcases List.mem_cons.mp hc with z | z
        · subst z; rw [ha] at hf; cases hf
        · exact ⟨ch, z, hf⟩)
      refine ⟨a :: p, b, q, by rw [e]; rfl, fun ch hc => ?_, h2⟩
      rcases List.mem_cons.mp hc with z | z
      · subst z; exact ha
      · exact h1 ch z
theorem CallR.enc1 {l : List Nat} (hb : ∃ ch ∈ l, latin1Codec.bad ch = true) (hz : l.length ≤ sizeLine) : CallR c n mu (.builtin "str.encode") [.str (S l), .str (Str.ofString "iso-8859-1")] "UnicodeEncodeError" := fun A s vs hA ht S r => by
  cases r with | cons r0 r =>
  cases r with | cons r1 r =>
  cases r
  cases r0; cases r1
  obtain ⟨p, b, q, rfl, h1, h2⟩ := first_bad hb
  refine wpAny_call_entry F.slot_str_encode rfl F.entry_str_encode ?_ (F.args_str_encode_2 _ _)
  rw [enc_road1]
  have sl : sizeLine = 16777216 := rfl
  refine wpAny_bind (enc_bad h1 h2 (by simp at hz; omega) fun i stop hi hj Q' => raise_uee hA.hd (by omega) (by omega) (by decide +kernel) fun h' tk e hx => ⟨h', tk, e, rfl, rfl, hx⟩)
/- ## iteration over bytes -/
theorem IterOf.bytes {l : List UInt8} : IterOf c n anyT mu (.bytes l.toArray) (l.map fun ch => .int (ch.toNat : Int)) (fun _ => True) mu := by
  refine ⟨sub_refl mu, fun A s v hA ht S r => ?_⟩
  cases r with
  | bytes _ t =>
  have hP : ∀ (i : Nat) v d (h : Heap), (∃ (ch : UInt8) (u : Tok), l.toArray[i]? = some ch ∧ v = .int (ch.toNat : Int) u) → (l.map fun ch => PV.int (ch.toNat : Int))[i]? = some d → Rep h d v := fun i v d h hp hd => by
    obtain ⟨ch, u, e, rfl⟩ := hp
    have e' : l[i]? = some ch := by simpa using e
    rw [List.getElem?_map, e'] at hd
    cases hd
    exact .int _ _
  refine KBw.pyIter_bytes ⟨_, [s.heap.objs.size], _, _, _, rfl, rfl, fun b o _ e' => Heap.get?_push_of_some _ e', fresh_priv S, iter_walk (T := "bytes_iterator") (fun A' hA' => KBw.walks hA' _ l.toArray t) (by simp) hP ?_ (by decide) (by decide), ⟨_, Heap.get?_push_size _ rfl, rfl, rfl⟩⟩
  rintro i h ⟨o, e, hc, _⟩; exact ⟨o, e, hc⟩
theorem CallV.ord {ch : Nat} {P : PV → Mu → Prop} (h : P (.int (ch : Int)) mu) : CallV c n mu (.builtin "ord") [.str ⟨#[ch]⟩] [] P := fun A s vs kvs hA ht S r rk => by
  cases r with | cons r0 r =>
  cases r; cases rk; cases r0
  exact PySem.P.ord_of_char (Post.pure S h (.int _ _))
theorem OpC.neY {a b : Array UInt8} {P : PV → Mu → Prop} (h : P (.bool (a.toList != b.toList)) mu) : OpC c n mu .NotEq (.bytes a) (.bytes b) P := fun A s va vb hA ht S ra rb => by
  cases ra; cases rb
  exact ne_bytes (Post.pure0 S h (.bool _))
/- ## the form of a header's row -/
set_option maxHeartbeats 4000000 in
theorem mod_run (x y : Str) (t u1 u2 : Tok) (b : Addr) (hx : x.length ≤ 1000000) (hy : y.length ≤ 1000000) :
    Meets (Builtin.«str.__mod__» ⟨[.str (Str.ofString "%s: %s") t, .ref b], []⟩) (fun _ R s => IsTup s.heap b #[.str x u1, .str y u2] ∧ ∀ t' k, R (.ok (.ret (.str (x ++ ⟨#[58, 32]⟩ ++ y) t'))) { s with toks := k }) := by
  have e : (Str.ofString "%s: %s") = ⟨#[37, 115, 58, 32, 37, 115]⟩ := by decide +kernel
  rw [e]
  kpt_run
theorem OpB.modT {x y : Str} {P : PV → Mu → Prop} (hx : x.length ≤ 1000000) (hy : y.length ≤ 1000000) (h : P (.str (x ++ ⟨#[58, 32]⟩ ++ y)) mu) : OpB c n mu .Mod (.str (Str.ofString "%s: %s")) (.tuple [.str x, .str y]) P := fun A s va vb hA ht S ra rb => by
  cases ra with | str _ t =>
  cases rb with
  | @tuple b vs k _ e rs =>
  cases rs with | cons r0 rs =>
  cases rs with | cons r1 rs =>
  cases rs
  cases r0 with | str _ u1 =>
  cases r1 with | str _ u2 =>
  have htp : IsTup s.heap b #[.str x u1, .str y u2] := ⟨_, e, rfl, _, rfl⟩
  have hT : s.TypeIs (.ref b) "tuple" := ⟨_, e, rfl⟩
  exact KPt.bin_left (T := "str") (U := "tuple") (op := .Mod) (by decide) (typeIs_str s _ t) hT PySem.F.fills_str_mod KPt.fills_tuple PySem.F.slot_str_mod
    (call_meets PySem.F.slot_str_mod (typeIs_str s _ t) PySem.F.entry_str_mod (PySem.F.args_str_mod_2 _ _) (mod_run x y t u1 u2 b hx hy) ⟨htp, fun t' k => ⟨(fun e => nomatch e), Post.pure (s := s) S h (.str _ _)⟩⟩)
/- l[-1] op= value -/
theorem Ex1.augLast {o i value : PySem.Expr} {tpos pos : Pos} {op : Operator} {P : FV → Lm → Mu → Prop}
    (h : EvE c n sc m mu o fun dv mu1 => EvE c n sc m mu1 i fun iv mu2 => ∃ l xs d, dv = .ref l ∧ iv = .int (-1) ∧ mu2 l = some (.list (xs ++ [d])) ∧ xs.length ≤ 100000 ∧ EvE c n sc m mu2 value fun e mu3 => OpI c n mu3 op d e fun r mu4 => mu4 l = some (.list (xs ++ [d])) ∧ P .next m (upd mu4 l (.list (xs ++ [r]))))
    (hi : ∀ ov iv new, augStore i ov iv new = (do holding [new, ov, iv] (setItem ov iv new); release [new, ov, iv] []; pure .next) := by intros; rfl) : Ex1 c n sc m mu (.AugAssign (.Subscript o i tpos) op value pos) P := by
  intro env A s he hA ht S F
  refine wpAny_AugAssign_SubscriptAny ?_ hi
  refine EvE.bind h he hA ht S F fun v0 s1 d1 mu1 h1 x1 t1 S1 F1 r1 k1 => ?_
  refine EvE.bind h1 he hA t1 S1 F1 fun v2 s2 d2 mu2 h2 x2 t2 S2 F2 r2 k2 => ?_
  obtain ⟨l, xs, d, rfl, rfl, hl, hz, hv⟩ := h2
  cases r1
  cases r2 with | int _ u =>
  obtain ⟨vs, q, e, rs⟩ := S2.objs l _ hl
  obtain ⟨vd, hvd, rd⟩ := rs.get (k := xs.length) (d := d) (by simp)
  have hlen : vs.length = xs.length + 1 := by rw [rs.length]; simp
  have e1 : ((-1 : Int) + ((vs.toArray.size : Nat) : Int)).toNat = xs.length := by rw [List.size_toArray, hlen]; omega
  refine wpAny_getItem_list_neg (x := vd) ⟨_, e, rfl, _, rfl⟩ (by decide) (by rw [List.size_toArray, hlen]; omega) (by decide) (by rw [e1]; simpa using hvd) ?_
  refine EvE.bind hv he hA t2 S2 F2 fun v3 s3 d3 mu3 h3 x3 t3 S3 F3 r3 k3 => ?_
  refine post_bind (h3 A s3 vd v3 hA t3 S3 (rd.mono k3) r3) t3 S3 fun v4 s4 r mu4 h4 x4 t4 S4 r4 k4 => ?_
  obtain ⟨hl4, hP⟩ := h4
  have F4 := F3.step S3 x4
  obtain ⟨vs4, q4, e4, rs4⟩ := S4.objs l _ hl4
  have hlen4 : vs4.length = xs.length + 1 := by rw [rs4.length]; simp
  have hli : s4.heap.IsList l vs4.toArray := ⟨_, e4, rfl, _, rfl⟩
  unfold setItem
  refine wpAny_holding ?_
  refine wpAny_bind (wpAny_sequenceKey hli.typeIs (by decide) ?_)
  refine wpAny_bind (wpAny_callSpecial?_slot (name := Str.ofString "__setitem__") hli.typeIs slot_list_setitem
    (wpAny_call_entry slot_list_setitem hli.typeIs entry_list_setitem ?_ (args_list_setitem _ _ _)))
  show wpAny _ _ (Builtin.List.listSubscript? (.int (-1) u) >>= _) _ _ s4
  refine wpAny_bind (wpAny_listSubscript_int (fitsIndex_neg (by decide) (by decide)) ?_)
  show wpAny _ _ ((Builtin.List.listItems (.ref l) >>= fun xs => pure ((seqIndex? (Int.negSucc 0) xs.size).bind fun i => xs[i]?.map (i, ·))) >>= _) _ _ s4
  refine wpAny_bind (wpAny_bind ?_)
  show wpAny _ _ (seqItems? (.ref l) >>= _) _ _ s4
  refine wpAny_bind (wpAny_seqItems e4 rfl (wpAny_pure (wpAny_pure ?_)))
  have hsi : seqIndex? (Int.negSucc 0) vs4.toArray.size = some xs.length := by
    unfold seqIndex?
    rw [List.size_toArray, hlen4]
    have h0 : (Int.negSucc 0 : Int) < 0 := by decide
    simp only [h0, if_true]
    have e : (Int.negSucc 0 + ((xs.length + 1 : Nat) : Int)) = (xs.length : Int) := by omega
    rw [e]; simp; omega
  have hx' : vs4.toArray[xs.length]? = some (vs4.toArray[xs.length]'(by rw [List.size_toArray]; omega)) := Array.getElem?_eq_getElem _
  rw [hsi]
  simp only [Option.bind_some]
  rw [hx']
  simp only [Option.map_some]
  show wpAny _ _ (setSeqItemAt l xs.length v4 >>= _) _ _ s4
  obtain ⟨k', ek⟩ := set_mapSeq (vs := vs4) (v := v4) (j := xs.length) (k := q4)
  have e5 : (s4.heap.update l (Obj.mapSeq fun ys => ys.setIfInBounds xs.length v4)).get? l = some (listOf (vs4.set xs.length v4).toArray k') := by
    rw [← ek]; exact Heap.get?_update_self _ e4 (by rw [ek]; rfl)
  have hs' : Heap.SameBut l s4.heap (s4.heap.update l (Obj.mapSeq fun ys => ys.setIfInBounds xs.length v4)) := Heap.SameBut.update ..
  have tk : TK s4.heap (s4.heap.update l (Obj.mapSeq fun ys => ys.setIfInBounds xs.length v4)) := fun b o eb hto => hs'.extBut b o (fun q => by subst q; rw [e4] at eb; cases eb; exact list_notT hto) eb
  have rset : ∀ (h : Heap) (ds : List PV) (ws : List Value) (d v : _) (j : Nat), Reps h ds ws → Rep h d v → Reps h (ds.set j d) (ws.set j v) := fun h ds => by
    induction ds with
    | nil => intro ws d v j r _; cases r; exact .nil
    | cons a r ih =>
      intro ws d v j rr rd
      cases rr with | cons r0 rr =>
      cases j with
      | zero => exact .cons rd rr
      | succ j => exact .cons r0 (ih _ d v j rr rd)
  have hset : (xs ++ [d]).set xs.length r = xs ++ [r] := by simp
  have x5 : Step c noT mu4 s4 (upd mu4 l (.list (xs ++ [r]))) { s4 with heap := s4.heap.update l (Obj.mapSeq fun ys => ys.setIfInBounds xs.length v4), toks := s4.toks } :=
    Step.set S4 (by rw [hl4]; simp) hs' ⟨_, k', e5, by rw [← hset]; exact rset _ _ _ _ _ _ (rs4.mono tk) (r4.mono tk)⟩
  refine wpAny_bind (wpAny_setSeqItemAt e4 rfl ?_)
  refine wpAny_pure ⟨.none, rfl, wpAny_pure ?_⟩
  exact ⟨.next, m, _, hP, ((((x1.trans x2).trans x3).trans x4).trans x5).toT, F4.step S4 x5, .next⟩
end
end Mine

open PySem PySem.W PySem.Calls PyProof.Rows
open PySem.Sem (wp)
set_option Elab.async false
set_option linter.unusedVariables false
set_option maxRecDepth 100000
namespace Mine
/- the heap without one object -/
def hideA (h : Heap) (P : Addr) : Heap := { h with objs := h.objs.modify P fun o => { o with data := .freed } }
theorem hideA_ne {h : Heap} {P b : Addr} (hb : b ≠ P) : (hideA h P).get? b = h.get? b := by
  unfold hideA Heap.get?
  simp only [Array.getElem?_modify]
  rw [if_neg (Ne.symm hb)]
theorem hideA_self {h : Heap} {P : Addr} : (hideA h P).get? P = none := by
  unfold hideA Heap.get?
  simp only [Array.getElem?_modify, if_true]
  cases h.objs[P]? <;> rfl
theorem hideA_some {h : Heap} {P b : Addr} {o : Obj} (e : (hideA h P).get? b = some o) : b ≠ P ∧ h.get? b = some o := by
  by_cases hb : b = P
  · subst hb; rw [hideA_self] at e; cases e
  · rw [hideA_ne hb] at e; exact ⟨hb, e⟩
/- # exceptions that leave a frame -/
def RaA (c : Cx) (n : Nat) (sc : Scope) (m : Lm) (mu : Mu) (e : PySem.Expr) (X : String) (P : Mu → Prop) : Prop :=
  ∀ env A s, env.scope = sc → AOk n A → 0 < s.toks → St c mu s.heap → Fm c mu s.heap env m → wpAny c.M A (eval e env) (fun _ _ => False) (RaisedP c mu s X P) s
def RaS (c : Cx) (n : Nat) (sc : Scope) (m : Lm) (mu : Mu) (ss : List Stmt) (X : String) (P : Mu → Prop) : Prop :=
  ∀ env A s, env.scope = sc → AOk n A → 0 < s.toks → St c mu s.heap → Fm c mu s.heap env m → wpAny c.M A (execs ss env) (fun _ _ => False) (RaisedP c mu s X P) s
section
variable {c : Cx} {n : Nat} {sc : Scope} {m : Lm} {mu : Mu}
/- a new exception object, raised behind some steps -/
theorem raised_of {mu2 : Mu} {s s2 s3 : Shared} {X : String} {P : Mu → Prop} {ex : Value} {h' : Heap} {tk : Nat} {e : Addr} (x : Step c noT mu s mu2 s2) (S2 : St c mu2 s2.heap) (q1 : ex = .ref e) (q2 : s3 = { s2 with heap := h', toks := tk }) (hx : Heap.NewExcOf s2.heap h' e X) (hp : P mu2) : RaisedP c mu s X P ex s3 := by
  subst q1 q2
  have xe : Step c noT mu2 s2 mu2 { s2 with heap := h', toks := tk } := Step.ext S2 hx.keeps
  have hne : mu2 e = none := by
    cases q : mu2 e with
    | none => rfl
    | some y => obtain ⟨o, w, _⟩ := (S2.objs e y q).noTup; rw [hx.new] at w; cases w
  refine ⟨e, mu2, rfl, hp, x.trans xe, fun b o w hm q => ?_, hne, ?_, ?_⟩
  · have := x.keep b o w hm id
    rw [q, hx.new] at this; cases this
  · cases q : c.base.get? e with
    | none => rfl
    | some o => have := S2.base e o q; rw [hx.new] at this; cases this
  · obtain ⟨ob, vs, g1, g2, g3, g4⟩ := hx.there
    exact ⟨ob, vs, g1, g2, g3, g4⟩
/- the call of a value with its arguments -/
theorem callWith_goE {f : Value} {first : List PV} {vfirst : List Value} {es : List PySem.Expr} {ks : List Keyword} {env : Env} {A : Around} {s : Shared} {E : Value → Shared → Prop} {pos pos' : Pos}
    (h : EvA c n sc m mu es fun ds mu1 => EvK c n sc m mu1 ks fun kw mu2 => Keepr c mu2 f ∧ ∀ s2 vs kvs, Step c noT mu s mu2 s2 → 0 < s2.toks → St c mu2 s2.heap → Fm c mu2 s2.heap env m → Reps s2.heap (first ++ ds) vs → RepD s2.heap kw kvs → wpAny c.M A (PySem.call f vs kvs) (fun _ _ => False) E s2)
    (hst : noStar es = true) (hks : allNamed ks = true)
    (he : env.scope = sc) (hA : AOk n A) (ht : 0 < s.toks) (S : St c mu s.heap) (F : Fm c mu s.heap env m) (rf : Reps s.heap first vfirst) :
    wpAny c.M A (callWith pos f vfirst (backTo pos' (starEach es env)) (backToKw pos' (keywordEach ks env))) (fun _ _ => False) E s := by
  unfold callWith
  refine wpAny_bind (wpAny_holding (evalArgs_go (noStar_any env pos' hst) (allNamed_all env pos' hks) ?_))
  refine EvA.bind h he hA ht S F fun vs s1 ds mu1 h1 x1 t1 S1 F1 r1 k1 => ?_
  refine wpAny_mono (wpAny_toks (h1 env A s1 pos' he hA t1 S1 F1)) (fun kvs s2 p => ?_) fun _ _ x => x.2.elim
  obtain ⟨hle, kw, mu2, ⟨hkp, hcl⟩, x2, r2⟩ := p
  have k2 := x2.tk0 S1
  refine wpAny_bind (wpAny_standAt (wpAny_bind (hkp A s2 _ _ x2.st fun k => ?_)))
  have hc := hcl s2 (vfirst ++ vs) _ (x1.trans x2) (Nat.lt_of_lt_of_le t1 hle) x2.st (F1.step S1 x2) (((rf.mono k1).mono k2).append (r1.mono k2)) r2
  have tail : ∀ {t : Sem Value}, wpAny c.M A t (fun _ _ => False) E s2 → wpAny c.M A (t >>= fun r => holding [r] point >>= fun _ => pure r) (fun _ _ => False) E s2 :=
    fun ht => wpAny_bind (wpAny_mono ht (fun r s3 p => p.elim) fun _ _ x => x)
  have hm : ∀ mark, wpAny c.M A (callMarked mark f (vfirst ++ vs) (((backToKw pos' (keywordEach ks env)).filterMap (·.1)).zip kvs)) (fun _ _ => False) E s2 := fun mark => by unfold callMarked; exact wpAny_keep hc
  have ho : ∀ l, wpAny c.M A (operate l (call f (vfirst ++ vs) (((backToKw pos' (keywordEach ks env)).filterMap (·.1)).zip kvs))) (fun _ _ => False) E s2 := fun l => wpAny_operating hc
  dsimp only
  generalize ((backTo pos' (starEach es env)).any (fun x => x.1) || (backToKw pos' (keywordEach ks env)).any fun x => x.1.isNone) = st
  cases k <;> cases st <;> dsimp only <;> first | exact tail hc | exact tail (hm _) | exact tail (ho _) | (split <;> first | exact tail hc | exact tail (hm _))

/- o.name(..) -/
theorem RaA.method {o : PySem.Expr} {name : Str} {es : List PySem.Expr} {ks : List Keyword} {apos pos : Pos} {X : String} {P : Mu → Prop}
    (h : EvE c n sc m mu o fun d mu0 => ∃ f, Meth c mu0 d name f ∧ EvA c n sc m mu0 es fun ds mu1 => EvK c n sc m mu1 ks fun kw mu2 => Keepr c mu2 f ∧ kw = [] ∧ CallR c n mu2 f (d :: ds) X ∧ P mu2)
    (hb : ∀ env, attributeBase o name env (eval o env) = eval o env := by intro _; rfl) (hst : noStar es = true := by rfl) (hks : allNamed ks = true := by rfl)
    (hlen : (es.length + ks.length + (if ks.isEmpty then 0 else 1) < 30) := by decide) (hline : (apos.endLine == pos.line) = true := by rfl) : RaA c n sc m mu (.Call (.Attribute o name apos) es ks pos) X P := by
  intro env A s he hA ht S F
  rw [arm_eval_Call, hb]
  refine wpAny_bind (EvE.bind h he hA ht S F fun v s0 d mu0 h0 x0 t0 S0 F0 r0 _ => ?_)
  obtain ⟨f, hm, h0⟩ := h0
  refine wpAny_bind (wpAny_standAt ?_)
  have hform : methodCallForm (es.length + ks.length) (backTo pos (starEach es env)) (backToKw pos (keywordEach ks env)) = true := by
    have h1 := noStar_any env pos hst
    have h2 := allNamed_all env pos hks
    unfold methodCallForm
    simp only [Bool.and_eq_true, decide_eq_true_eq]
    refine ⟨⟨?_, h2⟩, ?_⟩
    · rw [List.all_eq_true]; intro x hx
      rw [List.any_eq_false] at h1
      simpa using h1 x hx
    · have : (backToKw pos (keywordEach ks env)).isEmpty = ks.isEmpty := by
        cases ks with
        | nil => rfl
        | cons k r => cases k; rfl
      rw [this]; exact hlen
  have hpos : methodCallPos true o env apos pos = pure pos := by unfold methodCallPos; simp [hline]
  unfold methodCall
  rw [hform]
  refine wpAny_bind (wpAny_holding ?_)
  show wpAny c.M A (getMethod v name _) _ _ s0
  refine hm A s0 v _ _ _ S0 r0 ?_
  refine wpAny_bind (wpAny_of_eq hpos ?_)
  refine callWith_goE (first := [d]) (EvA.imp h0 fun ds mu1 h1 env' A' s' pos' he' hA' ht' S' F' => wpAny_mono (h1 env' A' s' pos' he' hA' ht' S' F') (fun _ _ ⟨kw, mu2, ⟨hk, e, hc, hp⟩, x, r⟩ => ⟨kw, mu2, ⟨hk, ?_⟩, x, r⟩) fun _ _ z => z) hst hks he hA t0 S0 F0 (.cons r0 .nil)
  intro s2 vs kvs x2 t2 S2 _ rv rk
  subst e
  cases rk
  exact wpAny_mono (hc A s2 vs hA t2 S2 rv) (fun _ _ z => z) fun ex s3 ⟨h', tk, e, q1, q2, hx⟩ => raised_of (x0.trans x2) S2 q1 q2 hx hp

theorem RaS.ret {e : PySem.Expr} {pos : Pos} {X : String} {P : Mu → Prop} (h : RaA c n sc m mu e X P) : RaS c n sc m mu [.Return (some e) pos] X P := fun env A s he hA ht S F =>
  wpAny_execs_cons (wpAny_Return_some (wpAny_mono (h env A s he hA ht S F) (fun _ _ z => z.elim) fun _ _ z => z))
end
end Mine

open PySem PySem.W PySem.Calls PyProof.Rows
open PySem.Sem (wp)
set_option Elab.async false
set_option linter.unusedVariables false
set_option maxRecDepth 100000
namespace Mine
/- an exception object X with a traceback out of flight, seen from the frame env -/
def RaisedG (c : Cx) (env : Env) (m : Lm) (mu : Mu) (s : Shared) (X : String) (P : Mu → Prop) (ex : Value) (s' : Shared) : Prop :=
  ∃ e T mu', ex = .ref e ∧ P mu' ∧ Step c (Tch env) mu s mu' s' ∧ Fm c mu' s'.heap env m ∧ (∀ b o, s.heap.get? b = some o → mu b = none → b ≠ e ∧ b ≠ T) ∧ (mu' e = none ∧ mu' T = none ∧ c.base.get? e = none ∧ c.base.get? T = none) ∧
    ∃ a0, s'.heap.TracedW (hideA (hideA (hideA s'.heap env.locals) e) T) e (.type X) a0
/- the frame behind some changes of others, and of its own slots -/
theorem Fm.turned {c : Cx} {mu : Mu} {m : Lm} {h h' : Heap} {env : Env} {X : Addr → Prop} {oL oL' : Obj} (F : Fm c mu h env m) (hL : h.get? env.locals = some oL) (hL' : h'.get? env.locals = some oL') (hd : oL'.data = oL.data) (he : ∀ x ca, env.cells.lookup x = some ca → ¬ X ca)
    (hk : ∀ b o, b ≠ env.locals → ¬ X b → h.get? b = some o → h'.get? b = some o) (tk : TK h h') : Fm c mu h' env m := by
  obtain ⟨mc, hn, hv⟩ := F.loc
  exact { F with
    loc := ⟨mc, by obtain ⟨o, es, ep, ho, h1, h2, h3⟩ := hn; rw [hL] at ho; cases ho; exact ⟨oL', es, ep, hL', hd.trans h1, h2, h3⟩, fun y pv ey hky => let ⟨v, a, b⟩ := hv y pv ey hky; ⟨v, a, b.mono tk⟩⟩
    cel := fun y pv ey hky => let ⟨v, u, a, ⟨o, b, d⟩, r⟩ := F.cel y pv ey hky; ⟨v, u, a, ⟨o, hk v o (F.offC y v a).2.1 (he y v a) b, d⟩, r.mono tk⟩
    cells := fun y ca ey => let ⟨v, ⟨o, b, d⟩⟩ := F.cells y ca ey; ⟨v, ⟨o, hk ca o (F.offC y ca ey).2.1 (he y ca ey) b, d⟩⟩ }
theorem fn_bodyR {c : Cx} {n : Nat} {mu mu1 : Mu} {a : Addr} {fd : FuncData} {body : List Stmt} {binds : List (Str × PV)} {X : String} {P : Mu → Prop} (hf : FnOk c a fd body) {A : Around} {s s1 s2 : Shared} {bv : List (Str × Value)} (hA : AOk (n + 1) A)
    (x1 : Step c noT mu s mu1 s1) (rb : RepD s1.heap binds bv) (hnd : (binds.map (·.1)).Nodup) (hko : kindsOk fd.scope.names (binds.map (·.1)) = true) (hx : RaS c n fd.scope binds mu1 body X P) {env0 : Env} {m : Lm} (hfr : A.frames = some [env0]) (hf0 : env0.frame = some env0.locals) (S : St c mu s.heap) (F0 : Fm c mu s.heap env0 m)
    {env : Env} (he : env = newEnv fd.scope s1.heap.objs.size fd.globals (cellsFrom (s1.heap.objs.size + 1) fd.scope.names []) (fd.qualname ++ ".<locals>.") (some a) fd.code none fd.builtins)
    (I : InCallC s1 env.locals (bindL env.kindOf bv fun _ => none) env.cells (bindC env.kindOf bv fun _ => none) s2) (ht2 : 0 < s2.toks) :
    s2.heap.NoLimit ∧ codeAny c.M A (.func body env) (fun r s' => match r with | .ok _ => False | .error e => RaisedG c env0 m mu s X P e s') s2 := by
  have S1 := x1.st
  have hnames := rb.names
  have hkb : ∀ y ∈ bv, fd.scope.names.lookup y.1 = some .local ∨ fd.scope.names.lookup y.1 = some .cell := fun y hy => by
    have := List.all_eq_true.mp hko y.1 (hnames ▸ List.mem_map_of_mem hy)
    simpa using this
  have hsc : env.scope = fd.scope := by rw [he]; rfl
  have hL : env.locals = s1.heap.objs.size := by rw [he]; rfl
  have hcl : env.cells = cellsFrom (s1.heap.objs.size + 1) fd.scope.names [] := by rw [he]; rfl
  obtain ⟨h2, tk2, rfl⟩ := I.toInCall.same
  have keep := I.toInCall.keep
  have hsz : s1.heap.objs.size < h2.objs.size := Nat.lt_of_le_of_lt I.toInCall.fresh I.toInCall.ns.lt
  have tkp : TK s1.heap h2 := fun b o e _ => keep b o e
  have S2 : St c mu1 h2 := ⟨fun b o e => keep b o (S1.base b o e), fun b o e => (S1.objs b o e).mono (fun o' q => keep _ _ q) tkp, S1.new⟩
  have F2 : Fm c mu1 h2 env binds := {
    fn := by rw [hsc]; exact hf.kind
    gl := by rw [he]; exact hf.gl
    bu := by rw [he]; exact hf.bu
    loc := ⟨_, I.toInCall.ns, fun y pv e hk => by
      obtain ⟨v, hv, rv⟩ := rb.mem e
      exact ⟨v, bindL_at bv _ y v (hnames ▸ hnd) hv hk, rv.mono tkp⟩⟩
    cel := fun y pv e hk => by
      obtain ⟨v, hv, rv⟩ := rb.mem e
      have hne : env.kindOf y ≠ some .local := by rcases hk with q | q <;> rw [q] <;> decide
      have hcell : fd.scope.names.lookup y = some .cell := by
        have := hkb (y, v) (mem_of_lookup hv)
        rcases this with q | q
        · exact absurd (by unfold Env.kindOf; rw [hsc]; exact q) hne
        · exact q
      obtain ⟨ca, hca⟩ := Option.isSome_iff_exists.mp (cellsFrom_has (x := y) fd.scope.names (s1.heap.objs.size + 1) [] (.inl hcell))
      have hca' : env.cells.lookup y = some ca := by rw [hcl]; exact hca
      have hi := I.cell y ca hca'
      rw [bindC_at bv _ y v (hnames ▸ hnd) hv hne] at hi
      exact ⟨ca, v, hca', hi, rv.mono tkp⟩
    has := fun y hk => by
      have hcell : fd.scope.names.lookup y = some .cell := by unfold Env.kindOf at hk; rw [hsc] at hk; exact hk
      obtain ⟨ca, hca⟩ := Option.isSome_iff_exists.mp (cellsFrom_has (x := y) fd.scope.names (s1.heap.objs.size + 1) [] (.inl hcell))
      exact ⟨ca, by rw [hcl]; exact hca⟩
    cells := fun y ca e => ⟨_, I.cell y ca e⟩
    offL := S1.off (by rw [hL]; exact Nat.le_refl _)
    offC := fun y ca e => by
      have := I.above y ca (mem_of_lookup e)
      rw [hL] at this
      exact ⟨S1.off (Nat.le_of_lt this), by rw [hL]; exact Nat.ne_of_gt this, S1.baseNone (Nat.le_of_lt this)⟩
    apart := fun y z ca h1 h2 => name_of_addr I.apart (mem_of_lookup h1) (mem_of_lookup h2)
    notB := by rw [hL]; exact S1.baseNone (Nat.le_refl _) }
  have hfl : env.frame = some env.locals := by rw [he]; rfl
  refine ⟨c.nolim.keeps S2.base, codeAny_func ?_⟩
  have x12 : Step c noT mu1 s1 mu1 { s1 with heap := h2, toks := tk2 } := Step.ext S1 keep
  have F02 : Fm c mu1 h2 env0 m := (F0.step S x1).step S1 x12
  refine wpAny_mono (hx env _ _ hsc (hA.deeper env) ht2 S2 F2) (fun _ _ z => z.elim) fun ex s3 p => ?_
  obtain ⟨e, mu3, rfl, hP, x3, hnew, hme, hbe, ob, vs, ge, hcls, hdd, h1⟩ := p
  have S3 := x3.st
  have F3 := F2.step S2 x3
  have F03 := F02.step S2 x3
  have x03 : Step c noT mu s mu3 s3 := (x1.trans x12).trans x3
  obtain ⟨mcb, hnb, _⟩ := id F3.loc
  obtain ⟨mcl, hnl, _⟩ := id F03.loc
  have ex2 : ∀ {a : Addr} {mm : Str → Option Value}, h2.Ns a mm → ∃ o, h2.get? a = some o := fun ⟨o, _, _, z, _⟩ => ⟨o, z⟩
  have neb : env.locals ≠ e := by
    obtain ⟨_, hn, _⟩ := F2.loc
    obtain ⟨o, z⟩ := ex2 hn
    exact hnew _ o z F2.offL
  have nel : env0.locals ≠ e := by
    obtain ⟨_, hn, _⟩ := F02.loc
    obtain ⟨o, z⟩ := ex2 hn
    exact hnew _ o z F02.offL
  have hsz1 : 1 < vs.size := (Array.getElem?_eq_some_iff.mp h1).1
  obtain ⟨a0, h0⟩ : ∃ a0, vs[0]? = some a0 := ⟨vs[0]'(by omega), Array.getElem?_eq_getElem _⟩
  let base := hideA (hideA (hideA s3.heap env.locals) env0.locals) e
  have hstay : base.StaysIn s3.heap := fun b o z => (hideA_some (hideA_some (hideA_some z).2).2).2
  have hb1 : base.get? env.locals = none := by
    cases q : base.get? env.locals with
    | none => rfl
    | some o => exact absurd rfl (hideA_some (hideA_some (hideA_some q).2).2).1
  have hb2 : base.get? env0.locals = none := by
    cases q : base.get? env0.locals with
    | none => rfl
    | some o => exact absurd rfl (hideA_some (hideA_some q).2).1
  have hb3 : base.get? e = none := hideA_self
  have hl : s3.heap.FunFrames base [env, env0] := Heap.FunFrames.cons (by rw [F3.fn]; decide) hfl hnb hb1 (Heap.FunFrames.cons (by rw [F03.fn]; decide) hf0 hnl hb2 trivial)
  have hbig : (A.deeper env).frames = some [env, env0] := Around.frames_deeper hfr
  refine wpAny_leaving_firstW (base := base) (a0 := a0) hbig hl hfl ge hstay hb3 hdd h1 h0 fun h' hL' => ?_
  obtain ⟨k1, k2, k3, k4⟩ := hL'
  rw [hcls] at k3
  have keepX : ∀ b o, b ≠ env.locals → b ≠ env0.locals → b ≠ e → s3.heap.get? b = some o → h'.get? b = some o := fun b o n1 n2 n3 z => k1 b o (by
    show (hideA (hideA (hideA s3.heap env.locals) env0.locals) e).get? b = some o
    rw [hideA_ne n3, hideA_ne n2, hideA_ne n1]; exact z)
  have nsdata : ∀ {a : Addr} {mm : Str → Option Value}, s3.heap.Ns a mm → ∃ o, s3.heap.get? a = some o ∧ (∀ vs, o.data ≠ .fields vs) ∧ ∃ sl, h'.get? a = some { o with slots := sl } := fun ⟨o, es, ep, z, d, _⟩ => by
    have hnf : ∀ vs, o.data ≠ .fields vs := fun vs q => by rw [d] at q; cases q
    exact ⟨o, z, hnf, k4 _ o z hnf⟩
  obtain ⟨ob1, gb, nfb, slb, gb'⟩ := nsdata hnb
  obtain ⟨ol1, gl, nfl, sll, gl'⟩ := nsdata hnl
  obtain ⟨oe, vs', T, oT, ts, t1, t2, t3, t4, t5, t6, t7, t8, t9⟩ := id k3
  have nTb : T ≠ env.locals := fun q => by rw [q, gb'] at t7; cases t7; exact nfb _ t8
  have nTl : T ≠ env0.locals := fun q => by rw [q, gl'] at t7; cases t7; exact nfl _ t8
  have hT3 : s3.heap.get? T = none := by
    cases q : s3.heap.get? T with
    | none => rfl
    | some o =>
      have : base.get? T = some o := by
        show (hideA (hideA (hideA s3.heap env.locals) env0.locals) e).get? T = some o
        rw [hideA_ne t6, hideA_ne nTl, hideA_ne nTb]; exact q
      rw [t5] at this; cases this
  have nTe : ∀ o, s3.heap.get? e = some o → ¬ IsT o := fun o z w => by
    rw [ge] at z; cases z
    obtain ⟨_, xs, j, q⟩ := w
    rw [hdd] at q; cases q
  have tk3 : TK s3.heap h' := fun b o z w => keepX b o (fun q => by subst q; exact ns_notT hnb o z w) (fun q => by subst q; exact ns_notT hnl o z w) (fun q => by subst q; exact nTe o z w) z
  have S4 : St c mu3 h' := S3.priv (priv := [env.locals, env0.locals, e]) (fun b hb => by
    rcases List.mem_cons.mp hb with q | hb
    · subst q; exact ⟨F3.offL, F3.notB⟩
    · rcases List.mem_cons.mp hb with q | hb
      · subst q; exact ⟨F03.offL, F03.notB⟩
      · rw [List.mem_singleton.mp hb]; exact ⟨hme, hbe⟩) (fun b o hb z => keepX b o (fun q => hb (by simp [q])) (fun q => hb (by simp [q])) (fun q => hb (by simp [q])) z) tk3
  have old : ∀ b o, s.heap.get? b = some o → mu b = none → b ≠ env.locals ∧ b ≠ e ∧ b ≠ T ∧ s3.heap.get? b = some o := fun b o z hm => by
    have z1 := x1.keep b o z hm id
    have z2 := keep b o z1
    have z3 := x03.keep b o z hm id
    refine ⟨fun q => ?_, hnew b o z2 (keepNone x1 z hm), fun q => ?_, z3⟩
    · rw [q, hL] at z1; exact absurd (Heap.lt_size z1) (Nat.lt_irrefl _)
    · rw [q, hT3] at z3; cases z3
  have F4 : Fm c mu3 h' env0 m := F03.turned (X := fun b => b = env.locals ∨ b = e) gl gl' rfl (fun x ca z q => by
    obtain ⟨v, o, w, _⟩ := F0.cells x ca z
    have := old ca o w (F0.offC x ca z).1
    rcases q with q | q
    · exact this.1 q
    · exact this.2.1 q) (fun b o n1 n2 z => keepX b o (fun q => n2 (.inl q)) n1 (fun q => n2 (.inr q)) z) tk3
  have hmT : mu3 T = none := by
    cases q : mu3 T with
    | none => rfl
    | some y => obtain ⟨o, w, _⟩ := (S3.objs T y q).noTup; rw [hT3] at w; cases w
  have hbT : c.base.get? T = none := by
    cases q : c.base.get? T with
    | none => rfl
    | some o => have := S3.base T o q; rw [hT3] at this; cases this
  refine ⟨e, T, mu3, rfl, hP, {
      shape := by obtain ⟨h, tk', z⟩ := x03.shape; rw [z]; exact ⟨_, _, rfl⟩
      st := S4
      keep := fun b o z hm hTb => by
        obtain ⟨q1, q2, _, q4⟩ := old b o z hm
        exact keepX b o q1 (fun q => hTb (.inl q)) q2 q4
      alive := fun b o z hm => by
        obtain ⟨q1, q2, _, q4⟩ := old b o z hm
        by_cases q : b = env0.locals
        · subst q; exact ⟨_, gl'⟩
        · exact ⟨o, keepX b o q1 q q2 q4⟩
      dom := x03.dom }, F4, fun b o z hm => ?_, ⟨hme, hmT, hbe, hbT⟩, a0, ?_⟩
  · obtain ⟨_, q2, q3, _⟩ := old b o z hm
    exact ⟨q2, q3⟩
  · exact ⟨oe, vs', T, oT, ts, t1, t2, t3, t4, hideA_self, t6, t7, t8, t9⟩
end Mine

open PySem PySem.W PySem.Calls PyProof.Rows
open PySem.Sem (wp)
set_option Elab.async false
set_option linter.unusedVariables false
set_option maxRecDepth 100000
namespace Mine
theorem RaisedG.after {c : Cx} {env : Env} {m : Lm} {mu mu1 : Mu} {s s1 s2 : Shared} {X : String} {P : Mu → Prop} {ex : Value} (x : Step c noT mu s mu1 s1) (p : RaisedG c env m mu1 s1 X P ex s2) : RaisedG c env m mu s X P ex s2 := by
  obtain ⟨e, T, mu', rfl, hP, x1, F1, hn, hb, ht⟩ := p
  exact ⟨e, T, mu', rfl, hP, (x.toT).trans x1, F1, fun b o z hm => hn b o (x.keep b o z hm id) (keepNone x z hm), hb, ht⟩
/- a call that raises through a frame, seen from the caller's frame -/
def CallX (c : Cx) (n : Nat) (env : Env) (m : Lm) (mu : Mu) (f : Value) (args : List PV) (X : String) (P : Mu → Prop) : Prop :=
  ∀ A s vs, A.frames = some [env] → env.frame = some env.locals → AOk n A → 0 < s.toks → St c mu s.heap → Fm c mu s.heap env m → Reps s.heap args vs → wpAny c.M A (call f vs) (fun _ _ => False) (RaisedG c env m mu s X P) s
def RaG (c : Cx) (n : Nat) (sc : Scope) (m : Lm) (mu : Mu) (e : PySem.Expr) (X : String) (P : Mu → Prop) : Prop :=
  ∀ env A s, env.scope = sc → Own1 A env → AOk n A → 0 < s.toks → St c mu s.heap → Fm c mu s.heap env m → wpAny c.M A (eval e env) (fun _ _ => False) (RaisedG c env m mu s X P) s
section
variable {c : Cx} {n : Nat} {sc : Scope} {m : Lm} {mu : Mu}
theorem CallX.fn {env : Env} {a : Addr} {fd : FuncData} {body : List Stmt} {args : List PV} {X : String} {P : Mu → Prop} (hf : FnOk c a fd body)
    (h : Binds c mu fd args [] fun binds mu1 => (binds.map (·.1)).Nodup ∧ kindsOk fd.scope.names (binds.map (·.1)) = true ∧ RaS c n fd.scope binds mu1 body X P) :
    CallX c (n + 1) env m mu (.ref a) args X P := by
  intro A s vs hfr hf0 hA ht S F r
  refine wpAny_call ?_
  obtain ⟨o, ho, hd⟩ := hf.obj
  refine codeAny_mono (codeAny_call_function (R := fun r s' => match r with | .ok _ => False | .error e => RaisedG c env m mu s X P e s') hA.room (S.base _ _ ho) hd hf.co hf.gen hf.body (hf.code.keeps S.base) ?_) fun r s' z => by
    cases r with
    | ok f => exact z.elim
    | error e => exact z
  rw [hf.clos]
  refine wpAny_mono (wpAny_toks (h A.in1 s vs [] (hA.in1.le (Nat.zero_le _)) S r .nil)) (fun bv s1 p => ?_) fun _ _ x => x.2.elim
  obtain ⟨hle, binds, mu1, ⟨hnd, hko, hx⟩, x1, rb⟩ := p
  refine wpAny_with_toks (n := 1) (Nat.lt_of_lt_of_le ht hle) (wpAny_newFunctionEnv_cells hf.kind (fun y hy => ?_) fun env' he s2 I ht2 => ?_)
  · have := List.all_eq_true.mp hko y.1 (rb.names ▸ List.mem_map_of_mem hy)
    have q : fd.scope.names.lookup y.1 = some .local ∨ fd.scope.names.lookup y.1 = some .cell := by simpa using this
    exact q.imp id fun q => ⟨q, cellsFrom_has _ _ _ (.inl q)⟩
  · exact fn_bodyR hf hA x1 rb hnd hko hx hfr hf0 S F he I ht2
/- ## bytes(obj) -/
theorem bytes_new_go {K : Frag} {x C f : Addr} {ox : Obj} {od : Option Obj} {A : Around} {s : Shared} {Q : Value → Shared → Prop} {E : Value → Shared → Prop} (X : K.In s.heap) (I : InstAt s.heap x ox C od) (hs : findIn K (.ref C) "__bytes__" = some (some (.ref f))) (hf : isFn K (.ref f) = true)
    (h : wpAny c.M A.in1.in1 (call (.ref f) [.ref x]) (fun r s' => ∃ b t, r = .bytes b t ∧ Q r s') E s) : wpAny c.M A (call (.type "bytes") [.ref x]) Q E s := by
  refine callType_codes (T := "bytes") (Q₁ := fun r s₁ => ∃ b t, r = .bytes b t ∧ Q r s₁) PySem.F.bm_called (PySem.F.bm_typeCall _) PySem.F.entry_object_init ?_ ?_
  · refine codeAny_of_tree ?_
    show wpAny _ A.in1.in1 (do checkBuiltinCall "bytes.__new__" ⟨[.type "bytes", .ref x], []⟩; again (.builtin "bytes.__new__" ⟨[.type "bytes", .ref x], []⟩)) _ _ s
    refine wpAny_bind (wpAny_of_eq (PySem.F.bm_newCall _) (wpAny_pure ⟨plainId_quiet PySem.F.bm_plain _, codeAny_builtin PySem.F.bm_entry ?_⟩))
    rw [Around.under_plainId PySem.F.bm_plain _]
    unfold Builtin.«bytes.__new__»
    refine wpAny_bind (wpAny_of_eq (a := true) rfl ?_)
    refine bm_if_false rfl ?_
    refine wpAny_bind (wpAny_of_eq PySem.F.bm_sub ?_)
    refine bm_if_false rfl ?_
    refine wpAny_bind (wpAny_of_eq (PySem.F.bm_bind _) ?_)
    refine wpAny_bind (wpAny_of_eq (a := ()) rfl ?_)
    refine wpAny_bind (wpAny_of_eq (a := ()) rfl ?_)
    refine bm_if_false rfl ?_
    refine wpAny_bind (wpAny_bind (I.type.here ((looks_findIn X hs).here ?_)))
    dsimp only
    refine wpAny_bind (wpAny_rule ?_)
    refine wpAny_bind (special_fn X I hs (beq_iff_eq.mp hf) (wpAny_mono h (fun r s' z => ?_) fun _ _ z => z))
    obtain ⟨b, t, rfl, hq⟩ := z
    dsimp only
    refine wpAny_bind (wpAny_isInstance (typeIs_bytes _ _ _) PySem.F.bm_sub ?_)
    refine bm_if_false rfl ?_
    show wpAny _ _ (if (Value.type "bytes" == Value.type "bytes") = true then _ else _) _ _ _
    refine bm_if_true (by decide) ?_
    first
      | exact wpAny_pure ⟨b, t, rfl, hq⟩
      | exact wpAny_bind (wpAny_pure (wpAny_pure ⟨b, t, rfl, hq⟩))
  · rintro obj s₁ ⟨b, t, rfl, hq⟩
    exact ⟨typeIs_bytes _ _ _, PySem.F.args_object_init_2 _ _, object_init_meets PySem.F.bm_called.init.lookup PySem.F.bm_called.made (by decide) c.prog c.w A.in1 _ s₁ ⟨typeIs_bytes _ _ _, rfl, hq⟩⟩
theorem CallV.bytesObj {K : Frag} {x C f : Addr} {P : PV → Mu → Prop} (hi : InstK c mu K x C f "__bytes__") (h : CallV c n mu (.ref f) [.ref x] [] fun r mu1 => ∃ b, r = .bytes b ∧ P r mu1) : CallV c (n + 2) mu (.type "bytes") [.ref x] [] P := fun A s vs kvs hA ht S r rk => by
  cases r with | cons r0 r =>
  cases r; cases rk; cases r0
  obtain ⟨ox, od, I⟩ := hi.at S
  have X := hi.hK.keeps S.base
  refine bytes_new_go X I hi.find hi.fn (wpAny_mono (h A.in1.in1 s [.ref x] [] hA.in1.in1 ht S (.cons (.ref x) .nil) .nil) (fun v s' p => ?_) fun _ _ z => z.elim)
  obtain ⟨d, mu1, ⟨b, rfl, hP⟩, x1, r1⟩ := p
  cases r1 with | bytes _ t => exact ⟨b, t, rfl, _, mu1, hP, x1, .bytes _ _⟩
theorem CallX.bytesObj {env : Env} {K : Frag} {x C f : Addr} {X : String} {P : Mu → Prop} (hi : InstK c mu K x C f "__bytes__") (h : CallX c n env m mu (.ref f) [.ref x] X P) : CallX c (n + 2) env m mu (.type "bytes") [.ref x] X P := fun A s vs hfr hf0 hA ht S F r => by
  cases r with | cons r0 r =>
  cases r; cases r0
  obtain ⟨ox, od, I⟩ := hi.at S
  have XX := hi.hK.keeps S.base
  exact bytes_new_go XX I hi.find hi.fn (wpAny_mono (h A.in1.in1 s [.ref x] hfr hf0 hA.in1.in1 ht S F (.cons (.ref x) .nil)) (fun v s' p => p.elim) fun _ _ z => z)
theorem CallV.strObj {K : Frag} {x C f : Addr} {P : PV → Mu → Prop} (hi : InstK c mu K x C f "__str__") (h : CallV c n mu (.ref f) [.ref x] [] fun r mu1 => ∃ y, r = .str y ∧ P r mu1) : CallV c (n + 2) mu (.type "str") [.ref x] [] P := fun A s vs kvs hA ht S r rk => by
  cases r with | cons r0 r =>
  cases r; cases rk; cases r0
  obtain ⟨ox, od, I⟩ := hi.at S
  have X := hi.hK.keeps S.base
  refine kso_call hA.in1.in1.units X I hi.find hi.fn (wpAny_mono (h A.in1.in1 s [.ref x] [] hA.in1.in1 ht S (.cons (.ref x) .nil) .nil) (fun v s' p => ?_) fun _ _ z => z.elim)
  obtain ⟨d, mu1, ⟨b, rfl, hP⟩, x1, r1⟩ := p
  cases r1 with | str _ t => exact ⟨_, mu1, hP, x1, .str _ _⟩
/- f(..), f a built-in type, raising -/
theorem RaG.callTy {x : Str} {p pos : Pos} {id : String} {es : List PySem.Expr} {X : String} {P : Mu → Prop} (hk : sc.names.lookup x = some .globalImplicit) (hg : c.mg x = none) (hn : x ≠ ("__name__" : Str)) (hv : bootBuiltins x = some (.type id))
    (h : EvA c n sc m mu es fun ds mu1 => ∀ env, CallX c n env m mu1 (.type id) ds X P) (hd : (x == ("__debug__" : Str)) = false := by decide) (hst : noStar es = true := by rfl)
    (hev : ∀ env, eval (.Call (.Name x p) es [] pos) env = (do callWith pos (← eval (.Name x p) env) [] (backTo pos (starEach es env)) (backToKw pos (keywordEach [] env))) := by intro _; rfl) : RaG c n sc m mu (.Call (.Name x p) es [] pos) X P := by
  intro env A s he ho hA ht S F
  rw [hev]
  refine wpAny_bind (EvE.bind (EvE.builtin (P := fun d mu0 => d = .ty id ∧ mu0 = mu) hk hg hn hv (fun _ => .ty id) ⟨rfl, rfl⟩ hd) he hA ht S F fun v s0 d mu0 h0 x0 t0 S0 F0 r0 _ => ?_)
  obtain ⟨rfl, rfl⟩ := h0
  cases r0
  refine callWith_goE (first := []) (EvA.imp h fun ds mu1 h1 => EvK.nil ⟨Keepr.type, fun s2 vs kvs x2 t2 S2 F2 rv rk => ?_⟩) hst rfl he hA t0 S0 F0 .nil
  cases rk
  exact wpAny_mono (h1 env A s2 vs ho.1 ho.2 hA t2 S2 F2 rv) (fun _ _ z => z) fun ex s3 z => z.after (x0.trans x2)
end
end Mine

open PySem PySem.W PySem.Calls PyProof.Rows
open PySem.Sem (wp)
set_option Elab.async false
set_option linter.unusedVariables false
set_option maxRecDepth 100000
namespace Mine
section
variable {c : Cx} {n : Nat} {sc : Scope} {m : Lm} {mu : Mu}
/- try: e; except T: x = True -- where a call in e raises -/
theorem Ex1C.tryRaisedG {e : PySem.Expr} {epos hpos pos tp xp cp ap : Pos} {T x : Str} {X : String} {k : Nat} {P : FV → Lm → Mu → Prop}
    (h : RaG c n sc m mu e X fun mu1 => P .next (setL m x (.bool true)) mu1)
    (hs : ∀ env, swapsWith e none epos.line env = pure false) (hkT : sc.names.lookup T = some .globalImplicit) (hg : c.mg T = none) (hn : T ≠ ("__name__" : Str)) {TT : String} (hv : bootBuiltins T = some (.type TT)) (hd : (T == ("__debug__" : Str)) = false)
    (hexc : isSubtype (.type TT) (.type "BaseException") = pure true) (hnt : isSubtype (.type ((Manifest.find? TT).elim "type" fun y => y.metatype)) (.type "tuple") = pure false) (hsub : isSubtype (.type X) (.type TT) = pure true)
    (hx : kindB true sc x = true) :
    Ex1C c n sc m mu (.Try [.Expr e epos] [.ExceptHandler (some (.Name T tp)) none [.Assign [.Name x xp] (.Constant (.bool true) k cp) ap] hpos] [] [] pos) P := by
  intro env A s he ho hA ht S F
  refine wpC_any ?_
  have hi : interactive env = false := by unfold interactive; rw [F.fn]; rfl
  refine wpAny_Try_except (wpAny_execs_cons ?_)
  rw [exec_Expr env e epos hi (hs env)]
  refine wpAny_bind (wpAny_standAt (wpAny_bind (wpAny_mono (h env A s he ho hA ht S F) (fun _ _ q => q.elim) fun ex s1 q => ?_)))
  obtain ⟨e, Tb, mu1, rfl, hP, x1, F1, hnew, ⟨hme, hmT, hbe, hbT⟩, a0, tr⟩ := q
  have S1 := x1.st
  obtain ⟨mc, hns, _⟩ := id F1.loc
  obtain ⟨oL, esL, epL, hL, hLd, hLk, hLf⟩ := id hns
  obtain ⟨mc0, hns0, _⟩ := id F.loc
  have hLn : env.locals ≠ e ∧ env.locals ≠ Tb := by obtain ⟨o, _, _, z, _⟩ := hns0; exact hnew _ o z F.offL
  have hnfL : ∀ vs, oL.data ≠ .fields vs := fun vs q => by rw [hLd] at q; cases q
  obtain ⟨oe, vs, T2, oT, ts, t1, t2, t3, t4, t5, t6, t7, t8, t9⟩ := id tr
  -- the traceback is Tb
  have hT2 : T2 = Tb := Decidable.of_not_not fun q => by
    have nL : T2 ≠ env.locals := fun z => by rw [z, hL] at t7; cases t7; exact hnfL _ t8
    rw [hideA_ne q, hideA_ne t6, hideA_ne nL, t7] at t5
    cases t5
  subst hT2
  let base := hideA (hideA (hideA s1.heap env.locals) e) T2
  have hstay : base.StaysIn s1.heap := fun b o z => (hideA_some (hideA_some (hideA_some z).2).2).2
  have hb1 : base.get? env.locals = none := by
    cases q : base.get? env.locals with
    | none => rfl
    | some o => exact absurd rfl (hideA_some (hideA_some (hideA_some q).2).2).1
  have hb2 : base.get? e = none := by
    cases q : base.get? e with
    | none => rfl
    | some o => exact absurd rfl (hideA_some (hideA_some q).2).1
  have toB : ∀ b o, b ≠ env.locals → b ≠ e → b ≠ T2 → s1.heap.get? b = some o → base.get? b = some o := fun b o n1 n2 n3 z => by
    show (hideA (hideA (hideA s1.heap env.locals) e) T2).get? b = some o
    rw [hideA_ne n3, hideA_ne n2, hideA_ne n1]; exact z
  have hl : s1.heap.FunFrames base [env] := Heap.FunFrames.cons (by rw [F1.fn]; decide) ho.2 hns hb1 trivial
  have nTe : ∀ o, s1.heap.get? e = some o → ¬ IsT o := fun o z w => by
    rw [t1] at z; cases z
    obtain ⟨_, xs, j, q⟩ := w
    rw [t3] at q; cases q
  have nTT : ∀ o, s1.heap.get? T2 = some o → ¬ IsT o := fun o z w => by
    rw [t7] at z; cases z
    obtain ⟨_, xs, j, q⟩ := w
    rw [t8] at q; cases q
  have fin : ∀ h3 : Heap, base.StaysIn h3 → (∃ o', h3.get? env.locals = some o' ∧ o'.data = oL.data) →
      St c mu1 h3 ∧ Fm c mu1 h3 env m ∧ ∀ tk, Step c (Tch env) mu s mu1 { s1 with heap := h3, toks := tk } := fun h3 kb hL3 => by
    obtain ⟨oL3, hL3, hLd3⟩ := hL3
    have k3 : ∀ b o, b ≠ env.locals → b ≠ e → b ≠ T2 → s1.heap.get? b = some o → h3.get? b = some o := fun b o n1 n2 n3 z => kb b o (toB b o n1 n2 n3 z)
    have tk3 : TK s1.heap h3 := fun b o z w => k3 b o (fun q => by subst q; exact ns_notT hns o z w) (fun q => by subst q; exact nTe o z w) (fun q => by subst q; exact nTT o z w) z
    have S3 : St c mu1 h3 := S1.priv (priv := [env.locals, e, T2]) (fun b hb => by
      rcases List.mem_cons.mp hb with q | hb
      · subst q; exact ⟨F1.offL, F1.notB⟩
      · rcases List.mem_cons.mp hb with q | hb
        · subst q; exact ⟨hme, hbe⟩
        · rw [List.mem_singleton.mp hb]; exact ⟨hmT, hbT⟩) (fun b o hb z => k3 b o (fun q => hb (by simp [q])) (fun q => hb (by simp [q])) (fun q => hb (by simp [q])) z) tk3
    refine ⟨S3, F1.turned (X := fun b => b = e ∨ b = T2) hL hL3 hLd3 (fun x ca z q => ?_) (fun b o n1 n2 z => k3 b o n1 (fun q => n2 (.inl q)) (fun q => n2 (.inr q)) z) tk3, fun tk => {
      shape := by obtain ⟨h, tk', z⟩ := x1.shape; rw [z]; exact ⟨_, _, rfl⟩
      st := S3
      keep := fun b o z hm hT => by
        have hn := hnew b o z hm
        exact k3 b o (fun q => hT (.inl q)) hn.1 hn.2 (x1.keep b o z hm hT)
      alive := fun b o z hm => by
        by_cases q : b = env.locals
        · subst q; exact ⟨_, hL3⟩
        · have hn := hnew b o z hm
          obtain ⟨o1, z1⟩ := x1.alive b o z hm
          exact ⟨o1, k3 b o1 q hn.1 hn.2 z1⟩
      dom := x1.dom }⟩
    obtain ⟨v, o, w, _⟩ := F.cells x ca z
    have hn := hnew ca o w (F.offC x ca z).1
    rcases q with q | q
    · exact hn.1 q
    · exact hn.2 q
  refine wpAny_noteFrame_onW (base := base) (outer := []) ho.1 hl ho.2 tr hstay hb2 fun h2 N2 => ?_
  obtain ⟨n1, n2, n3, n4⟩ := N2
  obtain ⟨sl2, gL2⟩ := n4 _ oL hL hnfL
  refine wpAny_setFlight_noneW (base := base) (l := [env]) n1 n2 n3 fun h3 k3 l3 tr3 u3 => ?_
  have gL3 := u3 _ _ gL2 hnfL
  obtain ⟨S3, F3, _⟩ := fin h3 k3 ⟨_, gL3, rfl⟩
  refine wpAny_handleBy_builtin (X := X) (T := TT) (b := true) hexc hnt hsub ?_
  have hkT' : env.kindOf T = some .globalImplicit := by unfold Env.kindOf; rw [he]; exact hkT
  refine Name_function_global F.fn hkT' (loadGlobal_builtin (mg := c.mg) (mb := c.mb) (by rw [F.gl]; exact c.g.keeps S3.base) hg (by rw [F.bu]; exact c.b.keeps S3.base) ((c.bi T hn).trans hv) ?_) hd
  refine ⟨rfl, tr3.at.there, ?_⟩
  rw [if_pos rfl]
  refine wpAny_setFlight_noneW (base := base) (l := [env]) (s := { s1 with heap := h3 }) k3 l3 tr3.at fun h4 k4 l4 tr4 u4 => ?_
  have gL4 := u4 _ _ gL3 hnfL
  obtain ⟨S4, F4, x4⟩ := fin h4 k4 ⟨_, gL4, rfl⟩
  refine wpAny_execs_cons (wpAny_Assign_Name (wpAny_pure ?_))
  refine wpAny_mono (store (K := true) (s := { s1 with heap := h4 }) (d := .bool true) (kind_of he hx) S4 F4 (.bool true)) (fun _ s5 ⟨x5, F5⟩ => ?_) fun _ _ q => q.elim
  exact wpAny_execs_nil ⟨.next, _, mu1, hP, (x4 s1.toks).trans x5, F5, .next⟩
end
end Mine

open PySem PySem.W PySem.Calls PyProof.Rows
set_option Elab.async false
set_option linter.unusedVariables false
set_option maxRecDepth 100000
namespace Mine
open Builtin Builtin._codecs
/- # law 09, plain -/
def txPV (v : List Nat) : PV := .str (S v)
/- a sign of the law -/
def okC (ch : Nat) : Prop := sgV ch ∧ ¬ (55296 ≤ ch ∧ ch ≤ 57343)
/- the octets of a text, as signs -/
def oct1 (ch : Nat) : List Nat := (Str.utf8Of ch).map UInt8.toNat
def oct (l : List Nat) : List Nat := l.flatMap oct1
theorem oct_nil : oct [] = [] := rfl
theorem oct_cons (a : Nat) (r : List Nat) : oct (a :: r) = oct1 a ++ oct r := by simp [oct]
theorem oct_append (a b : List Nat) : oct (a ++ b) = oct a ++ oct b := by simp [oct]
theorem oct1_low {ch : Nat} (h : ch < 128) : oct1 ch = [ch] := by
  unfold oct1 Str.utf8Of
  rw [if_pos (by omega)]
  simp only [List.map_cons, List.map_nil]
  have : ch.toUInt8.toNat = ch := by simp [Nat.toUInt8]; omega
  rw [this]
theorem oct_low {l : List Nat} (h : ∀ ch ∈ l, ch < 128) : oct l = l := by
  induction l with
  | nil => rfl
  | cons a r ih => rw [oct_cons, ih fun ch hc => h ch (by simp [hc]), oct1_low (h a (by simp))]; rfl
theorem oct1_high {ch : Nat} (h : 128 ≤ ch) (h2 : ch < 1114112) : ∀ b ∈ oct1 ch, 128 ≤ b ∧ b < 256 := by
  have u : ∀ x : Nat, x < 256 → x.toUInt8.toNat = x := fun x hx => by simp [Nat.toUInt8]; omega
  unfold oct1 Str.utf8Of
  rw [if_neg (by omega)]
  intro b hb
  split at hb
  · simp only [List.map_cons, List.map_nil, List.mem_cons, List.not_mem_nil, or_false] at hb
    rcases hb with q | q
    · rw [u _ (by omega)] at q; omega
    · rw [u _ (by omega)] at q; omega
  · split at hb
    · simp only [List.map_cons, List.map_nil, List.mem_cons, List.not_mem_nil, or_false] at hb
      rcases hb with q | q | q
      · rw [u _ (by omega)] at q; omega
      · rw [u _ (by omega)] at q; omega
      · rw [u _ (by omega)] at q; omega
    · simp only [List.map_cons, List.map_nil, List.mem_cons, List.not_mem_nil, or_false] at hb
      rcases hb with q | q | q | q
      · rw [u _ (by omega)] at q; omega
      · rw [u _ (by omega)] at q; omega
      · rw [u _ (by omega)] at q; omega
      · rw [u _ (by omega)] at q; omega
theorem oct1_ne (ch : Nat) : oct1 ch ≠ [] := by
  unfold oct1 Str.utf8Of
  split
  · simp
  · split
    · simp
    · split <;> simp
theorem oct1_len (ch : Nat) : (oct1 ch).length ≤ 4 := by
  unfold oct1 Str.utf8Of
  split
  · simp
  · split
    · simp
    · split <;> simp
theorem oct_len (l : List Nat) : (oct l).length ≤ 4 * l.length := by
  induction l with
  | nil => simp [oct]
  | cons a r ih =>
    have := oct1_len a
    rw [oct_cons, List.length_append, List.length_cons]; omega
theorem oct_eq_nil {l : List Nat} : oct l = [] ↔ l = [] := by
  constructor
  · intro h
    cases l with
    | nil => rfl
    | cons a r =>
      rw [oct_cons] at h
      exact absurd (List.append_eq_nil_iff.mp h).1 (oct1_ne a)
  · rintro rfl; rfl
/- each octet is plain Ascii of the text, or high -/
theorem mem_oct {l : List Nat} (h : ∀ ch ∈ l, ch < 1114112) {b : Nat} (hb : b ∈ oct l) : (b ∈ l ∧ b < 128) ∨ (128 ≤ b ∧ b < 256) := by
  obtain ⟨ch, hc, q⟩ := List.mem_flatMap.mp hb
  by_cases h1 : ch < 128
  · rw [oct1_low h1] at q
    rw [List.mem_singleton.mp q]; exact .inl ⟨hc, h1⟩
  · exact .inr (oct1_high (by omega) (h ch hc) b q)
theorem oct_256 {l : List Nat} (h : ∀ ch ∈ l, ch < 1114112) : ∀ b ∈ oct l, b < 256 := fun b hb => by
  rcases mem_oct h hb with q | q <;> omega
theorem oct_sg {l : List Nat} (h : ∀ ch ∈ l, sgV ch) : ∀ b ∈ oct l, sgV b := fun b hb => by
  rcases mem_oct (fun ch hc => (h ch hc).2) hb with q | q
  · exact h b q.1
  · refine ⟨?_, by omega⟩
    unfold isCtlV
    simp only [Bool.or_eq_false_iff, Bool.and_eq_false_iff, decide_eq_false_iff_not]
    omega
theorem esc_high {l : List Nat} (h : ∀ ch ∈ l, 128 ≤ ch) : escL l = l := by
  induction l with
  | nil => rfl
  | cons a r ih =>
    have := h a (by simp)
    rw [escL_cons, ih fun ch hc => h ch (by simp [hc]), if_neg (by omega)]; rfl
theorem oct_esc {l : List Nat} (h : ∀ ch ∈ l, ch < 1114112) : escL (oct l) = oct (escL l) := by
  induction l with
  | nil => rfl
  | cons a r ih =>
    have ih := ih fun ch hc => h ch (by simp [hc])
    rw [oct_cons, escL_append, escL_cons, oct_append, ih]
    congr 1
    by_cases h1 : a < 128
    · rw [oct1_low h1]
      by_cases h2 : a = 34 ∨ a = 92
      · rw [if_pos h2, escL_cons, if_pos h2, escL_nil, List.append_nil, oct_low]
        intro ch hc
        simp at hc; omega
      · rw [if_neg h2, escL_cons, if_neg h2, escL_nil, List.append_nil, oct_low]
        intro ch hc
        simp at hc; omega
    · rw [esc_high fun b hb => (oct1_high (by omega) (h a (by simp)) b hb).1, if_neg (by omega)]
      simp [oct]
theorem oct_joinL {sep : List Nat} (hs : ∀ ch ∈ sep, ch < 128) (xs : List (List Nat)) : oct (joinL sep xs) = joinL sep (xs.map oct) := by
  cases xs with
  | nil => rfl
  | cons x r =>
    simp only [joinL, List.map_cons, oct_append]
    congr 1
    induction r with
    | nil => rfl
    | cons y r ih => rw [List.flatMap_cons, oct_append, oct_append, ih, oct_low hs, List.map_cons, List.flatMap_cons]
theorem oct_part {k v : List Nat} (hk : ∀ ch ∈ k, ch < 128) (hv : ∀ ch ∈ v, ch < 1114112) : partL (k, some (oct v)) = oct (partL (k, some v)) := by
  have hd : ∀ ch ∈ dashL k, ch < 128 := fun ch hc => by
    rcases mem_dashL hc with q | q
    · omega
    · exact hk ch q
  show fp (dashL k) (oct v) true = oct (fp (dashL k) v true)
  unfold fp
  by_cases h : v = []
  · subst h; rw [oct_nil, if_pos rfl, oct_low hd]
  · rw [if_neg (fun q => h (oct_eq_nil.mp q)), if_neg h]
    simp only [Bool.true_or, if_true, oct_append, oct_low hd, oct_esc hv]
    rw [oct_low (l := [61, 34]) (by simp), oct_low (l := [34]) (by simp)]

/- ## rows of texts -/
/- the parameters of a row, each text by f -/
def pn (j : Nat) : List Nat := 112 :: dig j
def kw09 (f : List Nat → List Nat) (r : List (List Nat)) : List Kw := (List.range (r.length - 1)).map fun i => (pn (i + 1), some (f (r.getD (i + 1) [])))
def row09 (f : List Nat → List Nat) (i : Nat) (r : List (List Nat)) : Row := (72 :: dig i, rowL (some (f (r.getD 0 []))) (kw09 f r))
/- what the law writes for a row -/
def par09 (r : List (List Nat)) (k : Nat) : List Nat := [59, 32, 112] ++ dig (k + 1) ++ (if r.getD (k + 1) [] = [] then [] else [61, 34] ++ escL (r.getD (k + 1) []) ++ [34])
def want09 (i : Nat) (r : List (List Nat)) (k : Nat) : List Nat := [72] ++ dig i ++ [58, 32] ++ r.getD 0 [] ++ (List.range k).flatMap (par09 r)
/- a row whose texts are right -/
structure Row9 (r : List (List Nat)) : Prop where
  ne : r ≠ []
  len : r.length ≤ 64
  tx : ∀ t ∈ r, t.length ≤ 64 ∧ ∀ ch ∈ t, okC ch
theorem getD_mem {r : List (List Nat)} {i : Nat} : r.getD i [] ∈ r ∨ r.getD i [] = [] := by
  rw [List.getD_eq_getElem?_getD]
  cases h : r[i]? with
  | none => exact .inr rfl
  | some t => exact .inl (List.mem_of_getElem? h)
theorem Row9.at {r : List (List Nat)} (h : Row9 r) (i : Nat) : (r.getD i []).length ≤ 64 ∧ ∀ ch ∈ r.getD i [], okC ch := by
  rcases getD_mem (r := r) (i := i) with q | q
  · exact h.tx _ q
  · rw [q]; exact ⟨by simp, by simp⟩
theorem dig_low {i : Nat} (hi : i < 64) : ∀ ch ∈ dig i, ch < 128 := fun ch hc => by have := dig_num hi hc; omega
theorem pn_low {j : Nat} (hj : j < 64) : ∀ ch ∈ pn j, ch < 128 := fun ch hc => by
  rcases List.mem_cons.mp hc with q | q
  · omega
  · exact dig_low hj ch q
theorem pn_ok : ∀ j, j < 64 → okN (pn j) = true ∧ (pn j).length ≤ 3 := by decide +kernel
theorem hn_ok : ∀ j, j < 64 → okN (72 :: dig j) = true ∧ (72 :: dig j).length ≤ 3 := by decide +kernel
theorem pn_dash {j : Nat} (hj : j < 64) : dashL (pn j) = pn j := by
  have h : ∀ l : List Nat, (∀ ch ∈ l, ch ≠ 95) → dashL l = l := fun l => by
    induction l with
    | nil => intro _; rfl
    | cons a r ih =>
      intro hl
      have ha := hl a (by simp)
      unfold dashL replL at ih ⊢
      rw [List.flatMap_cons, ih fun ch hc => hl ch (by simp [hc]), if_neg ha]; rfl
  refine h _ fun ch hc => ?_
  rcases List.mem_cons.mp hc with q | q
  · omega
  · have := dig_num hj q; omega
theorem pn_inj {i j : Nat} (hi : i < 64) (hj : j < 64) (h : pn i = pn j) : i = j := dig_inj i hi j hj (List.cons.inj h).2
theorem kw09_names {f : List Nat → List Nat} {r : List (List Nat)} (h : r.length ≤ 64) : ((kw09 f r).map (·.1)).Nodup := by
  unfold kw09
  rw [List.map_map]
  show ((List.range (r.length - 1)).map fun i => pn (i + 1)).Nodup
  rw [List.nodup_iff_pairwise_ne, List.pairwise_map]
  refine List.Pairwise.imp_of_mem (fun {a b} ha hb hab q => ?_) List.nodup_range
  have h1 := List.mem_range.mp ha
  have h2 := List.mem_range.mp hb
  have := pn_inj (by omega) (by omega) q
  omega
def fOk (f : List Nat → List Nat) : Prop := ∀ t : List Nat, t.length ≤ 64 → (∀ ch ∈ t, okC ch) → (f t).length ≤ 256 ∧ ∀ ch ∈ f t, sgV ch
theorem fOk_id : fOk id := fun t h1 h2 => ⟨by show t.length ≤ 256; omega, fun ch hc => (h2 ch hc).1⟩
theorem fOk_oct : fOk oct := fun t h1 h2 => ⟨by have := oct_len t; omega, oct_sg fun ch hc => (h2 ch hc).1⟩
theorem kw09_ok {f : List Nat → List Nat} (hf : fOk f) {r : List (List Nat)} (h : Row9 r) {p : Kw} (hp : p ∈ kw09 f r) : okK p = true ∧ p.1.length ≤ 3 ∧ (∀ v, p.2 = some v → v.length ≤ 256) ∧ ∃ j, j < 64 ∧ p.1 = pn j := by
  obtain ⟨i, hi, rfl⟩ := List.mem_map.mp hp
  have hi := List.mem_range.mp hi
  have hl := h.len
  have h1 := pn_ok (i + 1) (by omega)
  have h2 := h.at (i + 1)
  have h3 := hf _ h2.1 h2.2
  refine ⟨?_, h1.2, fun v hv => by cases hv; exact h3.1, i + 1, by omega, rfl⟩
  unfold okK
  rw [h1.1, Bool.true_and]
  exact okV_of h3.2 (by have := h3.1; omega)
theorem row09_len {f : List Nat → List Nat} (hf : fOk f) {r : List (List Nat)} (h : Row9 r) (i : Nat) : (row09 f i r).2.length ≤ 40000 := by
  have h0 := h.at 0
  have hk : (kw09 f r).length ≤ 63 := by have := h.len; simp [kw09]; omega
  have h1 := joinL_lenLe [59, 32] ([f (r.getD 0 [])] ++ (kw09 f r).map partL) 600 (fun x hx => by
    rcases List.mem_append.mp hx with q | q
    · rw [List.mem_singleton.mp q]; have := (hf _ h0.1 h0.2).1; omega
    · obtain ⟨p, hp, rfl⟩ := List.mem_map.mp q
      obtain ⟨_, a, b, _⟩ := kw09_ok hf h hp
      have := partL_lenLe p a b
      omega)
  have h2 : ([f (r.getD 0 [])] ++ (kw09 f r).map partL).length ≤ 64 := by simp; omega
  have h3 : ([f (r.getD 0 [])] ++ (kw09 f r).map partL).length * (600 + ([59, 32] : List Nat).length) ≤ 64 * 602 := Nat.mul_le_mul h2 (Nat.le_refl _)
  show (joinL [59, 32] ([f (r.getD 0 [])] ++ (kw09 f r).map partL)).length ≤ 40000
  omega
theorem row09_ok {f : List Nat → List Nat} (hf : fOk f) {r : List (List Nat)} (h : Row9 r) {i : Nat} (hi : i < 64) : okR (row09 f i r) = true := by
  have h0 := h.at 0
  unfold okR
  rw [show okN (row09 f i r).1 = true from (hn_ok i hi).1, Bool.true_and]
  have h1 := hf _ h0.1 h0.2
  exact rowL_ok (own := some (f (r.getD 0 []))) (show okO (some (f (r.getD 0 []))) = true from okV_of h1.2 (by have := h1.1; omega)) (fun p hp => (kw09_ok hf h hp).1) (Nat.le_trans (row09_len hf h i) (by decide))
/- the octets of a row are the row of the octets -/
theorem row09_oct {r : List (List Nat)} (h : Row9 r) (i : Nat) : row09 oct i r = ((row09 id i r).1, oct (row09 id i r).2) := by
  refine Prod.ext rfl ?_
  show joinL [59, 32] ([oct (r.getD 0 [])] ++ (kw09 oct r).map partL) = oct (joinL [59, 32] ([r.getD 0 []] ++ (kw09 id r).map partL))
  rw [oct_joinL (by simp), List.map_append]
  congr 2
  unfold kw09
  rw [List.map_map, List.map_map, List.map_map]
  refine List.map_congr_left fun k hk => ?_
  have hk := List.mem_range.mp hk
  have hl := h.len
  have h2 := h.at (k + 1)
  exact oct_part (pn_low (by omega)) fun ch hc => (h2.2 ch hc).1.2
/- what the law writes is the row -/
theorem want09_row {r : List (List Nat)} (h : Row9 r) (i : Nat) : want09 i r (r.length - 1) = (row09 id i r).1 ++ [58, 32] ++ (row09 id i r).2 := by
  have e : (List.range (r.length - 1)).flatMap (par09 r) = ((kw09 id r).map partL).flatMap fun y => [59, 32] ++ y := by
    unfold kw09
    rw [List.map_map]
    simp only [List.flatMap_def, List.map_map]
    congr 1
    refine List.map_congr_left fun k hk => ?_
    have hk := List.mem_range.mp hk
    have hl := h.len
    show par09 r k = [59, 32] ++ fp (dashL (pn (k + 1))) (r.getD (k + 1) []) true
    rw [pn_dash (by omega)]
    unfold par09 fp pn
    split <;> simp
  show [72] ++ dig i ++ [58, 32] ++ r.getD 0 [] ++ _ = (72 :: dig i) ++ [58, 32] ++ joinL [59, 32] ([r.getD 0 []] ++ (kw09 id r).map partL)
  rw [e]
  simp [joinL]
theorem par09_len {r : List (List Nat)} (h : Row9 r) {k : Nat} (hk : k < 63) : (par09 r k).length ≤ 200 := by
  have h1 := h.at (k + 1)
  have h2 := escL_length (r.getD (k + 1) [])
  have h3 := (dig_chars (k + 1) (by omega)).2
  unfold par09
  generalize r.getD (k + 1) [] = v at h1 h2
  have h4 := h1.1
  split <;> simp only [List.length_append, List.length_cons, List.length_nil] <;> omega
theorem flat09_len {r : List (List Nat)} (h : Row9 r) {k : Nat} (hk : k ≤ 63) : ((List.range k).flatMap (par09 r)).length ≤ 200 * k := by
  induction k with
  | zero => simp
  | succ k ih =>
    have h1 := ih (by omega)
    have h2 := par09_len h (k := k) (by omega)
    rw [List.range_succ, List.flatMap_append, List.length_append, List.flatMap_cons, List.flatMap_nil, List.append_nil]
    omega
theorem want09_len {r : List (List Nat)} (h : Row9 r) {i k : Nat} (hi : i < 64) (hk : k ≤ 63) : (want09 i r k).length ≤ 13000 := by
  have h1 := flat09_len h hk
  have h2 := (dig_chars i hi).2
  have h3 := h.at 0
  unfold want09
  simp only [List.length_append, List.length_cons, List.length_nil]
  omega
/- # lists of lists -/
/- CL holds the lists as, the calls cs -/
structure NestG (mu : Mu) (CL : Addr) (as : List Addr) (cs : List (List (List Nat))) : Prop where
  cl : mu CL = some (.list (as.map .ref))
  len : as.length = cs.length
  at_ : ∀ (j : Nat) a ks, as[j]? = some a → cs[j]? = some ks → mu a = some (.list (ks.map txPV))
  nd : as.Nodup
  ne : ∀ a ∈ as, a ≠ CL
theorem NestG.sub {mu mu' : Mu} {CL : Addr} {as : List Addr} {cs : List (List (List Nat))} (h : NestG mu CL as cs) (s : Sub mu mu') : NestG mu' CL as cs :=
  ⟨s _ _ h.cl, h.len, fun j a ks h1 h2 => s _ _ (h.at_ j a ks h1 h2), h.nd, h.ne⟩
theorem NestG.has {mu : Mu} {CL : Addr} {as : List Addr} {cs : List (List (List Nat))} (h : NestG mu CL as cs) {a : Addr} (ha : a ∈ as) : mu a ≠ none := by
  obtain ⟨j, hj, rfl⟩ := List.mem_iff_getElem.mp ha
  rw [h.at_ j _ (cs[j]'(by rw [← h.len]; exact hj)) (List.getElem?_eq_getElem hj) (List.getElem?_eq_getElem _)]
  simp
theorem NestG.push {mu : Mu} {CL D : Addr} {as : List Addr} {cs : List (List (List Nat))} (h : NestG mu CL as cs) (hD : mu D = none) (k0 : List (List Nat)) : NestG (upd (upd mu D (.list (k0.map txPV))) CL (.list ((as ++ [D]).map .ref))) CL (as ++ [D]) (cs ++ [k0]) := by
  have hDC : D ≠ CL := fun q => by rw [q, h.cl] at hD; cases hD
  have hDa : ∀ a ∈ as, a ≠ D := fun a ha q => h.has ha (q ▸ hD)
  refine ⟨by simp, by simp [h.len], fun j a ks h1 h2 => ?_, ?_, fun a ha => ?_⟩
  · by_cases hj : j < as.length
    · rw [List.getElem?_append_left hj] at h1
      rw [List.getElem?_append_left (by rw [← h.len]; exact hj)] at h2
      have ha := List.mem_of_getElem? h1
      rw [Mine.upd_ne _ _ (h.ne a ha), Mine.upd_ne _ _ (hDa a ha)]
      exact h.at_ j a ks h1 h2
    · rw [List.getElem?_append_right (by omega)] at h1
      rw [List.getElem?_append_right (by rw [← h.len]; omega)] at h2
      have hj0 : j - as.length = 0 := by
        have := (List.getElem?_eq_some_iff.mp h1).1; simpa using this
      rw [hj0] at h1
      rw [← h.len, hj0] at h2
      simp at h1 h2
      subst h1 h2
      rw [Mine.upd_ne _ _ hDC]; simp
  · rw [List.nodup_append]
    exact ⟨h.nd, by simp, fun a ha b hb => by rw [List.mem_singleton.mp hb]; exact hDa a ha⟩
  · rcases List.mem_append.mp ha with q | q
    · exact h.ne a q
    · rw [List.mem_singleton.mp q]; exact hDC
theorem NestG.last {mu : Mu} {CL a : Addr} {as : List Addr} {cs : List (List (List Nat))} {ks : List (List Nat)} (h : NestG mu CL (as ++ [a]) (cs ++ [ks])) : mu a = some (.list (ks.map txPV)) := by
  have hl : as.length = cs.length := by have := h.len; simpa using this
  exact h.at_ as.length a ks (by simp) (by rw [hl]; simp)
theorem NestG.setLast {mu : Mu} {CL a : Addr} {as : List Addr} {cs : List (List (List Nat))} {ks : List (List Nat)} (h : NestG mu CL (as ++ [a]) (cs ++ [ks])) (ks' : List (List Nat)) : NestG (upd mu a (.list (ks'.map txPV))) CL (as ++ [a]) (cs ++ [ks']) := by
  have hl : as.length = cs.length := by have := h.len; simpa using this
  have hne := h.ne a (by simp)
  refine ⟨(Mine.upd_ne _ _ hne.symm).trans h.cl, by simp [hl], fun j b ks2 h1 h2 => ?_, h.nd, h.ne⟩
  have hnd := h.nd
  rw [List.nodup_append] at hnd
  by_cases hj : j < as.length
  · rw [List.getElem?_append_left hj] at h1
    rw [List.getElem?_append_left (by rw [← hl]; exact hj)] at h2
    have hb := List.mem_of_getElem? h1
    rw [Mine.upd_ne _ _ (hnd.2.2 b hb a (by simp))]
    exact h.at_ j b ks2 (by rw [List.getElem?_append_left hj]; exact h1) (by rw [List.getElem?_append_left (by rw [← hl]; exact hj)]; exact h2)
  · rw [List.getElem?_append_right (by omega)] at h1
    rw [List.getElem?_append_right (by omega)] at h2
    have hj0 : j - as.length = 0 := by
      have := (List.getElem?_eq_some_iff.mp h1).1; simpa using this
    rw [hj0] at h1
    rw [← hl, hj0] at h2
    simp at h1 h2
    subst h1 h2
    simp
/- ## the signs of the law's text -/
theorem want09_sg {r : List (List Nat)} (h : Row9 r) {i k : Nat} (hi : i < 64) (hk : k ≤ 63) {ch : Nat} (hc : ch ∈ want09 i r k) : okC ch ∨ ch < 128 := by
  unfold want09 at hc
  simp only [List.mem_append] at hc
  rcases hc with (((q | q) | q) | q) | q
  · simp at q; omega
  · exact .inr (dig_low hi ch q)
  · simp at q; omega
  · exact .inl ((h.at 0).2 ch q)
  · obtain ⟨j, hj, q⟩ := List.mem_flatMap.mp q
    have hj := List.mem_range.mp hj
    unfold par09 at q
    simp only [List.mem_append] at q
    rcases q with (q | q) | q
    · simp at q; omega
    · exact .inr (dig_low (by omega) ch q)
    · split at q
      · cases q
      · simp only [List.mem_append] at q
        rcases q with (q | q) | q
        · simp at q; omega
        · rcases mem_escL q with z | z
          · omega
          · exact .inl ((h.at (j + 1)).2 ch z)
        · simp at q; omega
theorem octs8 (l : List Nat) : (octs utf8Codec l).map UInt8.toNat = oct l := by
  induction l with
  | nil => rfl
  | cons a r ih => rw [oct_cons, ← ih]; simp [octs, utf8Codec, oct1]
theorem octs8_len (l : List Nat) : (octs utf8Codec l).length = (oct l).length := by rw [← octs8, List.length_map]
theorem octs1 (l : List Nat) : octs latin1Codec (oct l) = octs utf8Codec l := by
  have h : ∀ l : List UInt8, octs latin1Codec (l.map UInt8.toNat) = l := fun l => by
    induction l with
    | nil => rfl
    | cons a r ih =>
      rw [List.map_cons, octs, List.flatMap_cons, show (r.map UInt8.toNat).flatMap latin1Codec.bytesOf = octs latin1Codec (r.map UInt8.toNat) from rfl, ih]
      show [a.toNat.toUInt8] ++ r = a :: r
      simp [Nat.toUInt8]
  rw [← octs8, h]
theorem bad8 {ch : Nat} (h : okC ch ∨ ch < 128) : utf8Codec.bad ch = false := by
  show (decide (0xD800 ≤ ch) && decide (ch ≤ 0xDFFF)) = false
  rcases h with h | h
  · have := h.2
    simp only [Bool.and_eq_false_iff, decide_eq_false_iff_not]; omega
  · simp only [Bool.and_eq_false_iff, decide_eq_false_iff_not]; omega
end Mine

open PySem PySem.W PyProof.Rows
set_option Elab.async false
set_option maxRecDepth 100000
set_option maxHeartbeats 8000000
namespace Mine
open_top hd09 for PySem.Challenge.rw_dn0262_09
end Mine

open PySem PySem.W PySem.Calls PyProof.Rows
set_option maxRecDepth 100000
set_option maxHeartbeats 4000000
namespace Mine
local macro_rules | `(tactic| walk_at "s") => `(tactic| with_reducible first
  | refine EvE.int ?_
  | refine EvE.str ?_
  | refine EvE.nil ?_
  | refine EvE.boolc ?_
  | refine EvE.loc (by with_unfolding_all rfl) (by with_unfolding_all rfl) ?_ (by with_unfolding_all decide)
  | refine EvE.cell (by with_unfolding_all rfl) (by with_unfolding_all rfl) ?_ (by with_unfolding_all decide)
  | refine EvE.binop ?_
  | refine EvE.unop ?_
  | refine EvE.sliceL2 ?_
  | refine EvE.sub ?_
  | refine EvP.none ?_
  | refine EvE.cmp ?_ (by with_unfolding_all rfl)
  | refine EvE.joined ?_
  | refine EvE.callBi (by with_unfolding_all rfl) (mg_none_of (by assumption) (Cx.g _) (by with_unfolding_all rfl)) (by with_unfolding_all decide) boot_len ?_ (by with_unfolding_all decide) (by with_unfolding_all rfl)
  | refine EvE.callBi (by with_unfolding_all rfl) (mg_none_of (by assumption) (Cx.g _) (by with_unfolding_all rfl)) (by with_unfolding_all decide) boot_chr ?_ (by with_unfolding_all decide) (by with_unfolding_all rfl)
  | refine EvE.callTy (by with_unfolding_all rfl) (mg_none_of (by assumption) (Cx.g _) (by with_unfolding_all rfl)) (by with_unfolding_all decide) boot_range ?_ (by with_unfolding_all decide) (by with_unfolding_all rfl)
  | refine EvE.callTy (by with_unfolding_all rfl) (mg_none_of (by assumption) (Cx.g _) (by with_unfolding_all rfl)) (by with_unfolding_all decide) PyProof.Rows.boot_type ?_ (by with_unfolding_all decide) (by with_unfolding_all rfl)
  | refine EvE.callTy (by with_unfolding_all rfl) (mg_none_of (by assumption) (Cx.g _) (by with_unfolding_all rfl)) (by with_unfolding_all decide) PyProof.Rows.boot_str ?_ (by with_unfolding_all decide) (by with_unfolding_all rfl)
  | refine EvE.callTy (by with_unfolding_all rfl) (mg_none_of (by assumption) (Cx.g _) (by with_unfolding_all rfl)) (by with_unfolding_all decide) PyProof.Rows.boot_list ?_ (by with_unfolding_all decide) (by with_unfolding_all rfl)
  | refine EvE.callTy (by with_unfolding_all rfl) (mg_none_of (by assumption) (Cx.g _) (by with_unfolding_all rfl)) (by with_unfolding_all decide) PyProof.Rows.boot_enumerate ?_ (by with_unfolding_all decide) (by with_unfolding_all rfl)
  | refine EvE.callBi (by with_unfolding_all rfl) (mg_none_of (by assumption) (Cx.g _) (by with_unfolding_all rfl)) (by with_unfolding_all decide) PyProof.Rows.boot_max ?_ (by with_unfolding_all decide) (by with_unfolding_all rfl)
  | refine OpC.isTy ?_
  | refine OpC.isNotTy ?_
  | refine EvE.callFn (by with_unfolding_all rfl) (mg_of (by assumption) (Cx.g _) (by with_unfolding_all rfl)) ?_ (by with_unfolding_all decide) (by with_unfolding_all rfl) (by with_unfolding_all rfl)
  | refine EvE.tuple ?_
  | refine EvE.list ?_
  | refine OpB.addI ?_
  | refine OpB.modI (by with_unfolding_all decide) ?_
  | refine OpB.divI (by with_unfolding_all decide) (by with_unfolding_all decide) ?_
  | refine OpI.subI ?_
  | refine OpC.eqI ?_
  | refine OpC.leI ?_
  | refine OpC.gtI ?_
  | refine OpC.geI ?_
  | refine OpC.eqS ?_
  | refine OpC.neS ?_
  | refine OpC.isNone (by with_unfolding_all (intro _ hq; cases hq)) ?_
  | refine OpC.isNotNone (by with_unfolding_all (intro _ hq; cases hq)) ?_
  | refine OpU.negI ?_
  | refine OpT.bool ?_
  | refine OpT.int ?_
  | refine Tst.cmp ?_ (by with_unfolding_all rfl)
  | refine Tst.cmp2 ?_ (by with_unfolding_all rfl)
  | refine Tst.boolop ?_
  | refine TstL.and_nil ?_
  | refine TstL.or_nil ?_
  | refine TstL.and_cons ?_
  | refine TstL.or_cons ?_
  | refine Tst.of ?_ (by with_unfolding_all (intro _ _; rfl))
  | refine EvA.nil ?_
  | refine EvA.cons ?_ (by with_unfolding_all (intro _; rfl))
  | refine EvK.nil ?_
  | refine EvK.cons ?_
  | refine AsgT.name (by with_unfolding_all rfl) ?_
  | refine AsgT.tuple ?_ (by with_unfolding_all rfl) (by with_unfolding_all (intro _; exact ⟨rfl, rfl⟩))
  | refine AsgL.nil ?_
  | refine AsgL.cons ?_ (by with_unfolding_all (intro _; rfl))
  | refine ExS.nil ?_
  | refine SeqP.next ?_
  | refine SeqP.ret ?_
  | refine ExS.asg ?_ (by with_unfolding_all (intro _ _; rfl)) (by with_unfolding_all (intro _; rfl)) (by with_unfolding_all (intro _; rfl))
  | refine ExS.ret ?_
  | refine ExS.expr ?_ (by with_unfolding_all (intro _; rfl))
  | refine ExS.aug (by with_unfolding_all rfl) (by with_unfolding_all rfl) ?_)
local macro_rules | `(tactic| walk_at "e") => `(tactic| with_reducible first
  | refine EvE.ifexp ?_
  | refine ExS.if ?_
  | walk_at "s")
open PySem PySem.W PySem.Calls PyProof.Rows
set_option Elab.async false
set_option linter.unusedVariables false
set_option maxRecDepth 100000
set_option maxHeartbeats 4000000

abbrev K09 (c : Cx) : Prop := (hd09.heap_39 c.w.params).In c.base
abbrev T09 (c : Cx) (mu : Mu) (x l : Addr) (kvs : List Row) : Prop := Hd c 184 mu x l kvs
theorem hk09 (P : Params) : HK (hd09.heap_39 P) 184 := ⟨by with_unfolding_all rfl, by with_unfolding_all rfl, by with_unfolding_all rfl⟩

theorem conv09_ct {c : Cx} {n : Nat} {mu : Mu} (hK : K09 c) {self : PV} {v : List Nat} {b : Bool} {P : PV → Mu → Prop} (hv : v.length ≤ 1000000) (hok : v.any (if b then isCtl else isCtlV) = false) (h : P (.str (S v)) mu) : Keepr c mu (.ref 83) ∧ CallV c (n + 1) mu (.ref 83) [self, .str (S v)] [("name", .bool b)] P := by
  have hf : FnOk c 83 _ _ := ⟨⟨_, hK 83 _ rfl, rfl⟩, rfl, rfl, rfl, rfl, ⟨_, _, _, _, rfl, hK 82 _ rfl, rfl, rfl⟩, rfl, rfl, rfl⟩
  refine ⟨Keepr.fn hf, CallV.fn hf (Binds.k21 (fun v w u => rfl) ⟨by simp only [List.map_cons, List.map_nil]; decide, by rfl, ?_⟩)⟩; clear hf
  dsimp only
  repeat' walk_at "e"
  refine CallV.typeStr ?_
  refine EvE.builtin (by with_unfolding_all rfl) (mg_none_of hK (Cx.g _) (by with_unfolding_all rfl)) (by with_unfolding_all decide) PyProof.Rows.boot_str (fun _ => .ty _) ?_ (by with_unfolding_all decide)
  repeat' walk_at "e"
  refine ifd (fun _ => ?_) (fun q => absurd rfl q)
  repeat' walk_at "e"
  cases b with
  | true =>
    refine ifT ?_
    refine EvE.glob (by with_unfolding_all rfl) (mg_of hK (Cx.g _) (by with_unfolding_all rfl)) (fun _ => .ref 48) ?_ (by with_unfolding_all decide)
    repeat' walk_at "e"
    refine EvE.methB (EvE.loc (by with_unfolding_all rfl) (by with_unfolding_all rfl) ⟨_, Meth.pattern (hK 48 _ rfl), ?_⟩ (by with_unfolding_all decide))
    repeat' walk_at "e"
    refine CallV.search (code := ctlCode) (f := isCtl) (hK 48 _ rfl) rfl rfl rfl (hK 47 _ rfl) (by decide +kernel) ctl_set (by rw [S_length]; omega) (fun h3 => OpT.none ?_) (fun h3 a o h0 hc hd => ?_)
    · refine ifF ?_
      repeat' walk_at "e"
      exact h
    · rw [List.any_toArray] at h3
      simp only [if_true] at hok
      rw [hok] at h3; cases h3
  | false =>
    refine ifF ?_
    refine EvE.glob (by with_unfolding_all rfl) (mg_of hK (Cx.g _) (by with_unfolding_all rfl)) (fun _ => .ref 53) ?_ (by with_unfolding_all decide)
    repeat' walk_at "e"
    refine EvE.methB (EvE.loc (by with_unfolding_all rfl) (by with_unfolding_all rfl) ⟨_, Meth.pattern (hK 53 _ rfl), ?_⟩ (by with_unfolding_all decide))
    repeat' walk_at "e"
    refine CallV.search (code := ctlVCode) (f := isCtlV) (hK 53 _ rfl) rfl rfl rfl (hK 52 _ rfl) (by decide +kernel) ctlV_set (by rw [S_length]; omega) (fun h3 => OpT.none ?_) (fun h3 a o h0 hc hd => ?_)
    · refine ifF ?_
      repeat' walk_at "e"
      exact h
    · rw [List.any_toArray] at h3
      simp only [Bool.false_eq_true, if_false] at hok
      rw [hok] at h3; cases h3
/- self._convert_string_type(e, name=b) -/
theorem conv09_ev {c : Cx} {n : Nat} {sc : Scope} {m : Lm} {mu : Mu} (hK : K09 c) {x l : Addr} {kvs : List Row} (H : T09 c mu x l kvs) {e : PySem.Expr} {p1 p2 p3 p4 pos : Pos} {k : Nat} {b : Bool} {P : PV → Mu → Prop} (hl : m.lookup (Str.ofString "self") = some (.ref x)) (hk : sc.names.lookup (Str.ofString "self") = some .local)
    (h : EvE c (n + 1) sc m mu e fun d mu1 => mu1 = mu ∧ ∃ v, d = .str (S v) ∧ v.length ≤ 1000000 ∧ v.any (if b then isCtl else isCtlV) = false ∧ P (.str (S v)) mu) (hse : ∀ env, starEach [e] env = (false, eval e env) :: starEach [] env := by intro _; rfl) (hst : noStar [e] = true := by rfl) (hline : (p2.endLine == pos.line) = true := by rfl) :
    EvE c (n + 1) sc m mu (.Call (.Attribute (.Name (Str.ofString "self") p1) (Str.ofString "_convert_string_type") p2) [e] [⟨some (Str.ofString "name"), .Constant (.bool b) k p3, p4⟩] pos) P := by
  refine EvE.method (EvE.loc hl hk ⟨_, Meth.hd hK H (by with_unfolding_all rfl) (f := 83) (by with_unfolding_all rfl) (by with_unfolding_all rfl) (by decide), ?_⟩ (by decide)) (by intro _; rfl) hst (by rfl) (by simp) hline
  refine EvA.cons (h.imp fun d mu1 ⟨e1, v, e2, h1, h2, h3⟩ => EvA.nil (EvK.cons (EvE.boolc (EvK.nil ?_)))) hse
  subst e1; subst e2
  exact conv09_ct hK h1 h2 h3

open PySem PySem.W PySem.Calls PyProof.Rows
set_option Elab.async false
set_option linter.unusedVariables false
set_option maxRecDepth 100000
set_option maxHeartbeats 4000000

theorem items09_ct {c : Cx} {n : Nat} {mu : Mu} (hK : K09 c) {x l : Addr} {kvs : List Row} (H : T09 c mu x l kvs) {P : PV → Mu → Prop}
    (h : ∀ D, mu D = none → P (.ref D) (upd mu D (.list (kvs.map pairPV)))) : Keepr c mu (.ref 148) ∧ CallV c (n + 1) mu (.ref 148) [.ref x] [] P := by
  have hf : FnOk c 148 _ _ := ⟨⟨_, hK 148 _ rfl, rfl⟩, rfl, rfl, rfl, rfl, ⟨_, _, _, _, rfl, hK 147 _ rfl, rfl, rfl⟩, rfl, rfl, rfl⟩
  refine ⟨Keepr.fn hf, CallV.fn hf (Binds.p1 (fun v => rfl) ⟨by simp only [List.map_cons, List.map_nil]; decide, by rfl, ?_⟩)⟩; clear hf
  dsimp only
  have hlen := H.len
  refine ExS.ret ?_
  refine EvE.sliceL2 (EvE.hdr hK (hk09 _) (EvE.loc (by with_unfolding_all rfl) (by with_unfolding_all rfl) ⟨x, l, kvs, rfl, H, ?_⟩ (by with_unfolding_all decide)) (by with_unfolding_all (intro _; rfl)) (by with_unfolding_all (intro _ _; rfl)))
  refine EvP.none (EvP.none ⟨l, _, rfl, .inl H.list, .inl rfl, by rw [List.length_map]; show _ ≤ 2 ^ 24; omega, fun D hD => ?_⟩)
  rw [pk_all]
  exact h D hD
open PySem PySem.W PySem.Calls PyProof.Rows
set_option Elab.async false
set_option linter.unusedVariables false
set_option maxRecDepth 100000
set_option maxHeartbeats 4000000

open PySem PySem.W PySem.Calls PyProof.Rows
set_option Elab.async false
set_option linter.unusedVariables false
set_option maxRecDepth 100000
set_option maxHeartbeats 4000000

theorem initTail09 {c : Cx} {n : Nat} {mu : Mu} (hK : K09 c) {x dx l : Addr} {kvs : List Row} {P : PV → Mu → Prop} (hx : mu x = some (.inst 184 dx)) (hd : mu dx = some (.obj (dictOf [] 0))) (hl : mu l = some (.list (kvs.map pairPV))) (hok : kvs.all okR = true) (hlen : kvs.length ≤ 10000)
    (h : ∀ tok, P .none (upd mu dx (hdDict c tok l))) {fd : FuncData} {body : List Stmt} (hf : FnOk c 76 fd body) : ExS c (n + 1) fd.scope ([(("self" : Str), PV.ref x), (("headers" : Str), .ref l)] : List (Str × PV)) mu (body.drop 1) fun fl _ mu2 => P (retOf fl) mu2 := by
  obtain ⟨⟨o, ho, hdd⟩, h2, h3, h4, h5, h6, h7, h8, h9⟩ := hf
  rw [hK 76 _ rfl] at ho
  cases ho
  cases hdd
  cases h5
  clear h2 h3 h4 h6 h7 h8 h9
  dsimp only [List.drop]
  repeat' walk_at "e"
  refine CallV.typeList hl ?_
  refine EvE.builtin (by with_unfolding_all rfl) (mg_none_of hK (Cx.g _) (by with_unfolding_all rfl)) (by with_unfolding_all decide) PyProof.Rows.boot_list (fun _ => .ty _) ?_ (by with_unfolding_all decide)
  repeat' walk_at "e"
  refine ifd (fun q => absurd rfl q) (fun _ => ?_)
  repeat' walk_at "e"
  refine AsgT.attrRef hK ?_
  repeat' walk_at "e"
  refine ⟨x, 184, dx, [], 0, rfl, hx, hd, by with_unfolding_all rfl, by with_unfolding_all rfl, by with_unfolding_all rfl, by with_unfolding_all rfl, by rfl, fun tok => ⟨by simp [putL], ?_⟩⟩
  obtain ⟨mi, hmi⟩ : ∃ mi, upd mu dx (hdDict c tok l) = mi := ⟨_, rfl⟩
  change ExS c (n + 1) _ _ (upd mu dx (hdDict c tok l)) _ _
  have hxd : x ≠ dx := fun q => by rw [q, hd] at hx; cases hx
  have hld : l ≠ dx := fun q => by rw [q, hd] at hl; cases hl
  have H : T09 c mi x l kvs := ⟨⟨dx, tok, by rw [← hmi, upd_ne _ _ hxd]; exact hx, by rw [← hmi]; simp⟩, by rw [← hmi, upd_ne _ _ hld]; exact hl, hok, hlen⟩
  have hfin := h tok
  rw [hmi] at hfin ⊢
  repeat' walk_at "e"
  refine ifT ?_
  refine ExS.join (m1 := []) (mu1 := mi) (Ex1.for (okT := anyT) trivial ?_) ?_
  · refine EvE.loc (by with_unfolding_all rfl) (by with_unfolding_all rfl) ⟨_, _, _, IterOf.list H.list, ?_⟩ (by with_unfolding_all decide)
    refine LoopE.ind (fun _ => [("self", .ref x)]) H.list ⟨rfl, trivial⟩ (fun i y hy => ?_) ?_
    · rw [List.getElem?_map] at hy
      obtain ⟨z, hz, rfl⟩ := Option.map_eq_some_iff.mp hy
      have hzo := H.row (List.mem_of_getElem? hz)
      unfold pairPV
      repeat' walk_at "e"
      refine conv09_ev hK H (by with_unfolding_all rfl) (by with_unfolding_all rfl) ?_ (by with_unfolding_all (intro _; rfl)) (by with_unfolding_all rfl) (by with_unfolding_all rfl)
      repeat' walk_at "e"
      refine ⟨rfl, z.1, rfl, by have := okN.len (okR.nm hzo); omega, okN.ctl (okR.nm hzo), rfl, ?_⟩
      repeat' walk_at "e"
      refine conv09_ev hK H (by with_unfolding_all rfl) (by with_unfolding_all rfl) ?_ (by with_unfolding_all (intro _; rfl)) (by with_unfolding_all rfl) (by with_unfolding_all rfl)
      repeat' walk_at "e"
      refine ⟨rfl, z.2, rfl, by have := okV.len (okR.vl hzo); omega, okV.ctl (okR.vl hzo), rfl, ?_⟩
      repeat' walk_at "e"
      exact ⟨.inl rfl, rfl, rfl, trivial⟩
    · repeat' walk_at "e"
      exact ⟨rfl, rfl, trivial⟩
  repeat' walk_at "e"
  exact hfin
theorem init009_ct {c : Cx} {n : Nat} {mu : Mu} (hK : K09 c) {x dx : Addr} {P : PV → Mu → Prop} (hx : mu x = some (.inst 184 dx)) (hd : mu dx = some (.obj (dictOf [] 0)))
    (h : ∀ l tok, mu l = none → P .none (upd (upd mu l (.list [])) dx (hdDict c tok l))) : CallK c (n + 2) mu (.ref 76) [.ref x] [] P := by
  have hf : FnOk c 76 _ _ := ⟨⟨_, hK 76 _ rfl, rfl⟩, rfl, rfl, rfl, rfl, ⟨_, _, _, _, rfl, hK 75 _ rfl, rfl, rfl⟩, rfl, rfl, rfl⟩
  refine CallK.fn hf (Binds.dflt (xs := [("self", .ref x), ("headers", .none)]) (hK 69 _ rfl) rfl (fun hp vs r => ?_) ⟨by simp only [List.map_cons, List.map_nil]; decide, by rfl, ?_⟩)
  · cases r with | cons r0 r =>
    cases r
    exact ⟨_, _, rfl, rfl, .cons r0 (.cons .none .nil)⟩
  have ht := fun l (hl0 : mu l = none) => initTail09 (n := n) (mu := upd mu l (.list [])) (l := l) (kvs := []) hK (x := x) (dx := dx) (by rw [upd_ne _ _ (fun q => by rw [q, hl0] at hx; cases hx)]; exact hx) (by rw [upd_ne _ _ (fun q => by rw [q, hl0] at hd; cases hd)]; exact hd) (by simp) rfl (by simp) (fun tok => h l tok hl0) hf
  clear hf
  dsimp only
  repeat' walk_at "e"
  refine ifF ?_
  refine EvE.list (EvA.nil ⟨by show 0 ≤ 2 ^ 24; decide, fun l hl0 => AsgT.name (by with_unfolding_all rfl) ?_⟩)
  exact ht l hl0
theorem keep09 {c : Cx} {mu : Mu} (hK : K09 c) : Keepr c mu (.ref 184) := Keepr.cls hK (hK 184 _ rfl) rfl (by with_unfolding_all rfl)
theorem make009_ct {c : Cx} {n : Nat} {mu : Mu} (hK : K09 c) {P : PV → Mu → Prop}
    (h : ∀ x l mu', mu x = none → mu l = none → x ≠ l → Sub mu mu' → T09 c mu' x l [] → P (.ref x) mu') : Keepr c mu (.ref 184) ∧ CallV c (n + 3) mu (.ref 184) [] [] P := by
  refine ⟨keep09 hK, CallV.make hK (by with_unfolding_all rfl) (by with_unfolding_all rfl) (by with_unfolding_all rfl) fun x dx hx hdx hne => ?_⟩
  refine init009_ct hK (dx := dx) (by simp) (by rw [upd_ne _ _ (Ne.symm hne)]; simp) fun l tok hl => ?_
  have hlx : l ≠ x := fun q => by rw [q] at hl; simp at hl
  rw [upd_ne _ _ hlx] at hl
  have hld : l ≠ dx := fun q => by rw [q] at hl; simp at hl
  rw [upd_ne _ _ hld] at hl
  refine ⟨rfl, h x l _ hx hl (Ne.symm hlx) (fun a o ea => ?_) ?_⟩
  · have h1 : a ≠ dx := fun q => by rw [q, hdx] at ea; cases ea
    have h2 : a ≠ x := fun q => by rw [q, hx] at ea; cases ea
    have h3 : a ≠ l := fun q => by rw [q, hl] at ea; cases ea
    rw [upd_ne _ _ h1, upd_ne _ _ h3, upd_ne _ _ h2, upd_ne _ _ h1]; exact ea
  · refine ⟨⟨dx, tok, ?_, by simp⟩, ?_, rfl, by simp⟩
    · rw [upd_ne _ _ hne, upd_ne _ _ (Ne.symm hlx)]; simp
    · rw [upd_ne _ _ hld]; simp

open PySem PySem.W PySem.Calls PyProof.Rows
set_option Elab.async false
set_option linter.unusedVariables false
set_option maxRecDepth 100000
set_option maxHeartbeats 4000000

/- _formatparam(p, v) -/
theorem fpq09_ct {c : Cx} {n : Nat} {mu : Mu} (hK : K09 c) {p v : List Nat} {P : PV → Mu → Prop} (hp : p.length ≤ 100000) (hv : v.length ≤ 1000000) (h : P (.str (S (fp p v true))) mu) : Keepr c mu (.ref 61) ∧ CallV c (n + 1) mu (.ref 61) [.str (S p), .str (S v)] [] P := by
  have hf : FnOk c 61 _ _ := ⟨⟨_, hK 61 _ rfl, rfl⟩, rfl, rfl, rfl, rfl, ⟨_, _, _, _, rfl, hK 60 _ rfl, rfl, rfl⟩, rfl, rfl, rfl⟩
  refine ⟨Keepr.fn hf, CallV.fn hf (Binds.dflt (xs := [("param", .str (S p)), ("value", .str (S v)), ("quote", .int 1)]) (hK 54 _ rfl) rfl (fun hp vs r => ?_) ⟨by simp only [List.map_cons, List.map_nil]; decide, by rfl, ?_⟩)⟩
  · cases r with | cons r0 r =>
    cases r with | cons r1 r =>
    cases r
    exact ⟨_, _, rfl, rfl, .cons r0 (.cons r1 (.cons (.int _ _) .nil))⟩
  clear hf
  dsimp only
  repeat' walk_at "e"
  refine ifT ?_
  repeat' walk_at "e"
  refine CallV.lenS (by rw [S_length]; omega) ?_
  repeat' walk_at "e"
  rw [S_length]
  refine ifd (fun h1 => ?_) (fun h1 => ?_)
  · have hne : v ≠ [] := fun e => by rw [e] at h1; simp at h1
    repeat' walk_at "e"
    refine ifT ?_
    repeat' walk_at "e"
    refine ifT ?_
    repeat' walk_at "e"
    refine ifT ?_
    refine ExS.asg (EvE.replaceC (by decide +kernel) (EvE.replaceC (by decide +kernel) ?_))
    have b1 : (Str.ofString "\\") = ⟨#[92]⟩ := by decide +kernel
    have b2 : (Str.ofString "\\\\") = S [92, 92] := by decide +kernel
    have b3 : (Str.ofString "\"") = ⟨#[34]⟩ := by decide +kernel
    have b4 : (Str.ofString "\\\"") = S [92, 34] := by decide +kernel
    have b5 : (Str.ofString "=\"") = S [61, 34] := by decide +kernel
    have b6 : Str.empty = S [] := rfl
    have l1 := replL_length 92 [92, 92] 2 (by decide) (by decide) v
    have l2 := escL_length v
    repeat' walk_at "e"
    refine ⟨_, rfl, ?_, ?_⟩
    · rw [b2, S_length, S_length]; show _ + _ * 2 ≤ _; omega
    rw [b1, b2, replace_list, S_cps]
    refine ⟨_, rfl, ?_, ?_⟩
    · rw [b4, S_length, S_length]; show _ + _ * 2 ≤ _; omega
    rw [b3, b4, replace_list, S_cps, esc_two]
    repeat' walk_at "e"
    refine EvJ.fmt ?_
    repeat' walk_at "e"
    refine ⟨_, rfl, ?_, EvJ.lit ?_ (EvJ.fmt ?_)⟩
    · rw [b6, S_length, S_length]; show _ ≤ 2 ^ 24; simp; omega
    · rw [b6, b5, S_append, S_length, S_length]; show _ ≤ 2 ^ 24; simp; omega
    repeat' walk_at "e"
    refine ⟨_, rfl, ?_, EvJ.lit ?_ (EvJ.nil ?_ ?_)⟩
    · rw [b6, b5, S_append, S_append, S_length, S_length]; show _ ≤ 2 ^ 24; simp; omega
    · rw [b6, b5, S_append, S_append, S_append, S_length]; show _ ≤ 2 ^ 24; simp [Str.length]; omega
    · rw [b6, b5, S_append, S_append, S_append, S_append, S_length]; show _ ≤ 2 ^ 24; simp; omega
    repeat' walk_at "e"
    rw [b6, b5, S_append, S_append, S_append, S_append]
    have e : fp p v true = [] ++ p ++ [61, 34] ++ escL v ++ [34] := by
      unfold fp; rw [if_neg hne]; simp
    rw [← e]; exact h
  · have hne : v = [] := by
      cases v with
      | nil => rfl
      | cons a r => simp at h1
    subst hne
    repeat' walk_at "e"
    refine ifF ?_
    repeat' walk_at "e"
    exact h
theorem kw_names {kvs : List (Str × Value)} {ks : List Kw} (h : kvs.map (·.1) = (kwPV ks).map (·.1)) {p : Str × Value} (hp : p ∈ kvs) : ∃ q ∈ ks, p.1 = S q.1 := by
  have h1 : p.1 ∈ kvs.map (·.1) := List.mem_map_of_mem hp
  rw [h] at h1
  unfold kwPV at h1
  rw [List.map_map] at h1
  obtain ⟨q, hq, e⟩ := List.mem_map.mp h1
  exact ⟨q, hq, e.symm⟩
/- names that add_header's own parameters have -/
def ownK (k : List Nat) : Bool := decide (S k = ("self" : Str)) || decide (S k = ("_name" : Str)) || decide (S k = ("_value" : Str))
theorem kw_nodup {ks : List Kw} (h : (ks.map (·.1)).Nodup) : ((kwPV ks).map (·.1)).Nodup := by
  unfold kwPV
  rw [List.map_map]
  have e : ks.map ((fun x => x.1) ∘ fun (p : Kw) => (S p.1, optPV p.2)) = (ks.map (·.1)).map S := by rw [List.map_map]; rfl
  rw [e]
  exact List.Pairwise.map S (fun a b hab q => hab (S_inj.mp q)) h
theorem kwPV_get {ks : List Kw} {i : Nat} {y : PV} (h : (itemsL (kwPV ks))[i]? = some y) : ∃ p, ks[i]? = some p ∧ y = .tuple [.str (S p.1), optPV p.2] := by
  unfold itemsL kwPV at h
  rw [List.map_map, List.getElem?_map] at h
  obtain ⟨p, hp, rfl⟩ := Option.map_eq_some_iff.mp h
  exact ⟨p, hp, rfl⟩
theorem addK09_ct {c : Cx} {n : Nat} {mu : Mu} (hK : K09 c) {x l : Addr} {kvs : List Row} (H : T09 c mu x l kvs) {name : List Nat} {own : Option (List Nat)} {ks : List Kw} {P : PV → Mu → Prop} (hn : okN name = true) (ho : okO own = true) (hks : ∀ p ∈ ks, okK p = true)
    (hnd : (ks.map (·.1)).Nodup) (hown : ∀ p ∈ ks, ownK p.1 = false) (hlen : (rowL own ks).length ≤ 100000) (hkl : ks.length ≤ 1000) (hk : kvs.length < 10000)
    (h : P .none (upd mu l (.list ((kvs ++ [(name, rowL own ks)]).map pairPV)))) : CallK c (n + 2) mu (.ref 181) [.ref x, .str (S name), optPV own] (kwPV ks) P := by
  have hf : FnOk c 181 _ _ := ⟨⟨_, hK 181 _ rfl, rfl⟩, rfl, rfl, rfl, rfl, ⟨_, _, _, _, rfl, hK 180 _ rfl, rfl, rfl⟩, rfl, rfl, rfl⟩
  have sl : sizeLine = 16777216 := rfl
  refine CallK.fn hf (Binds.more (x := "self") (y := "_name") (z := "_value") (nm := "_params") (fun v w u kv hkv => ?_) (kw_nodup hnd) fun D hD hDS => ⟨by simp only [List.map_cons, List.map_nil]; decide, by rfl, ?_⟩)
  · refine bind_more ?_ ?_ kv (fun p hp => ?_) ?_ ?_ ?_ ?_ v w u
    · exact ⟨_, _, _, _, rfl, rfl, rfl, rfl, rfl⟩
    · rfl
    · obtain ⟨q, hq, e⟩ := kw_names hkv hp
      have := hown q hq
      unfold ownK at this
      simp only [Bool.or_eq_false_iff, decide_eq_false_iff_not] at this
      rw [e]; exact ⟨this.1.1, this.1.2, this.2⟩
    · have := congrArg List.length hkv
      simp [kwPV] at this
      omega
    · decide
    · decide
    · decide
  clear hf
  dsimp only
  have H1 : T09 c (upd mu D (.dict (kwPV ks))) x l kvs := H.fresh hD
  refine ExS.asg (EvE.list (EvA.nil ⟨by simp, fun PA hPA => AsgT.name (by with_unfolding_all rfl) ?_⟩)) (by with_unfolding_all (intro _ _; rfl)) (by with_unfolding_all (intro _; rfl)) (by with_unfolding_all (intro _; rfl))
  have hPD : PA ≠ D := fun q => by rw [q] at hPA; simp at hPA
  have hP0 : mu PA = none := by rw [upd_ne _ _ hPD] at hPA; exact hPA
  have HP : ∀ ys : List PV, T09 c (upd (upd mu D (.dict (kwPV ks))) PA (.list ys)) x l kvs := fun ys => H1.fresh hPA
  have HQ : ∀ ys : List PV, T09 c (upd mu PA (.list ys)) x l kvs := fun ys => H.fresh hP0
  refine ExS.mid (fun m' mu' => SubL [("self", .ref x), ("_name", .str (S name)), ("_params", .ref D), ("parts", .ref PA)] m' ∧ mu' = upd (upd mu D (.dict (kwPV ks))) PA (.list (own.toList.map fun v => .str (S v)))) (Ex1.if ?_) ?_
  · cases own with
    | none =>
      repeat' walk_at "e"
      refine ifF ?_
      repeat' walk_at "e"
      exact ⟨rfl, ⟨rfl, rfl, rfl, rfl, trivial⟩, rfl⟩
    | some v =>
      have hv : okV v = true := ho
      repeat' walk_at "e"
      refine ifT ?_
      refine ExS.asg ?_ (by with_unfolding_all (intro _ _; rfl)) (by with_unfolding_all (intro _; rfl)) (by with_unfolding_all (intro _; rfl))
      refine conv09_ev hK (HP _) (by with_unfolding_all rfl) (by with_unfolding_all rfl) ?_ (by with_unfolding_all (intro _; rfl)) (by with_unfolding_all rfl) (by with_unfolding_all rfl)
      repeat' walk_at "e"
      refine ⟨rfl, v, rfl, by have := okV.len hv; omega, okV.ctl hv, ?_⟩
      repeat' walk_at "e"
      refine EvE.appendC (EvE.loc (by with_unfolding_all rfl) (by with_unfolding_all rfl) ⟨PA, _, rfl, upd_same .., ?_⟩ (by with_unfolding_all decide)) (by with_unfolding_all (intro _; rfl)) (by with_unfolding_all (intro _; rfl)) (by with_unfolding_all rfl) (by with_unfolding_all rfl)
      repeat' walk_at "e"
      refine ⟨[], by simp, by simp, rfl, ?_⟩
      repeat' walk_at "e"
      rw [upd_upd]
      exact ⟨rfl, ⟨rfl, rfl, rfl, rfl, trivial⟩, rfl⟩
  rintro m' mu' ⟨hs, rfl⟩
  refine ExS.weakL hs ?_
  clear hs
  refine ExS.for (okT := tupT) tupT.mk ?_
  refine EvE.methB (EvE.loc (by with_unfolding_all rfl) (by with_unfolding_all rfl) ⟨_, Meth.dict (kw := kwPV ks) (by rw [upd_ne _ _ (Ne.symm hPD)]; simp) PySem.F.slot_dict_items PySem.F.type_dict_items, EvA.nil ?_⟩ (by with_unfolding_all decide)) (by with_unfolding_all (intro _; rfl)) (by with_unfolding_all rfl)
  refine CallV.items (kw := kwPV ks) (by rw [upd_ne _ _ (Ne.symm hPD)]; simp) hDS fun V hV => ?_
  rw [upd_comm _ _ _ (Ne.symm hPD)] at hV ⊢
  refine ⟨_, _, _, IterOf.items (by rw [upd_ne _ _ (Ne.symm hPD)]; exact hD) hV, ?_⟩
  refine LoopE.inv (fun i m' mu' => SubL [("self", .ref x), ("_name", .str (S name)), ("parts", .ref PA)] m' ∧ mu' = upd mu PA (.list ((own.toList ++ (ks.take i).map partL).map fun v => .str (S v)))) (fun _ _ _ _ => trivial) ⟨⟨rfl, rfl, rfl, trivial⟩, by simp⟩ ?_ ?_
  · rintro i y m' mu' hy ⟨hs, rfl⟩
    obtain ⟨p, hp, rfl⟩ := kwPV_get hy
    have hpo := hks p (List.mem_of_getElem? hp)
    have hpl := part_len (own := own) (List.mem_of_getElem? hp)
    have hkl2 := partL_key p
    have hstep : (own.toList ++ (ks.take i).map partL).map (fun v => PV.str (S v)) ++ [.str (S (partL p))] = (own.toList ++ (ks.take (i + 1)).map partL).map fun v => .str (S v) := by
      rw [List.take_add_one, hp]; simp
    have hil : i < ks.length := (List.getElem?_eq_some_iff.mp hp).1
    have hll : ((own.toList ++ (ks.take i).map partL).map fun v => PV.str (S v)).length ≤ 2000 := by
      have : own.toList.length ≤ 1 := by cases own <;> simp
      simp; omega
    have c1 : (Str.ofString "_") = ⟨#[95]⟩ := by decide +kernel
    have c2 : (Str.ofString "-") = S [45] := by decide +kernel
    refine AsgT.weak hs ?_
    refine AsgT.tuple ?_ (by with_unfolding_all rfl) (by with_unfolding_all (intro _; exact ⟨rfl, rfl⟩))
    repeat' walk_at "e"
    refine conv09_ev hK (HQ _) (by with_unfolding_all rfl) (by with_unfolding_all rfl) ?_ (by with_unfolding_all (intro _; rfl)) (by with_unfolding_all rfl) (by with_unfolding_all rfl)
    repeat' walk_at "e"
    refine ⟨rfl, p.1, rfl, by have := okN.len (okK.nm hpo); omega, okN.ctl (okK.nm hpo), ?_⟩
    repeat' walk_at "e"
    obtain ⟨k, o⟩ := p
    have hkl3 : k.length ≤ 100000 := by have : k.length ≤ (partL (k, o)).length := hkl2; omega
    cases o with
    | none =>
      repeat' walk_at "e"
      refine ifT ?_
      refine ExS.expr ?_ (by with_unfolding_all (intro _; rfl))
      refine EvE.appendC (EvE.loc (by with_unfolding_all rfl) (by with_unfolding_all rfl) ⟨PA, _, rfl, upd_same .., ?_⟩ (by with_unfolding_all decide)) (by with_unfolding_all (intro _; rfl)) (by with_unfolding_all (intro _; rfl)) (by with_unfolding_all rfl) (by with_unfolding_all rfl)
      refine EvE.replaceC (by decide +kernel) ?_
      repeat' walk_at "e"
      refine ⟨_, rfl, ?_, ?_⟩
      · rw [c2, S_length, S_length]; show k.length + (k.length + 1) * 1 ≤ _; omega
      rw [c1, c2, replace_list, S_cps]
      refine ⟨_, upd_same .., by omega, rfl, ?_⟩
      repeat' walk_at "e"
      rw [upd_upd]
      exact ⟨⟨rfl, rfl, rfl, trivial⟩, by rw [← hstep]; rfl⟩
    | some v =>
      have hv := okK.vl hpo rfl
      have hvl : v.length ≤ 100000 := okV.len hv
      repeat' walk_at "e"
      refine ifF ?_
      refine ExS.asg ?_ (by with_unfolding_all (intro _ _; rfl)) (by with_unfolding_all (intro _; rfl)) (by with_unfolding_all (intro _; rfl))
      refine conv09_ev hK (HQ _) (by with_unfolding_all rfl) (by with_unfolding_all rfl) ?_ (by with_unfolding_all (intro _; rfl)) (by with_unfolding_all rfl) (by with_unfolding_all rfl)
      repeat' walk_at "e"
      refine ⟨rfl, v, rfl, by omega, okV.ctl hv, ?_⟩
      refine AsgT.name (by with_unfolding_all rfl) ?_
      refine ExS.expr ?_ (by with_unfolding_all (intro _; rfl))
      refine EvE.appendC (EvE.loc (by with_unfolding_all rfl) (by with_unfolding_all rfl) ⟨PA, _, rfl, upd_same .., ?_⟩ (by with_unfolding_all decide)) (by with_unfolding_all (intro _; rfl)) (by with_unfolding_all (intro _; rfl)) (by with_unfolding_all rfl) (by with_unfolding_all rfl)
      refine EvE.callFn (by with_unfolding_all rfl) (mg_of hK (Cx.g _) (by with_unfolding_all rfl)) ?_ (by with_unfolding_all decide) (by with_unfolding_all rfl) (by with_unfolding_all rfl)
      refine EvA.cons (EvE.replaceC (by decide +kernel) ?_) (by with_unfolding_all (intro _; rfl))
      repeat' walk_at "e"
      refine ⟨_, rfl, ?_, ?_⟩
      · rw [c2, S_length, S_length]; show k.length + (k.length + 1) * 1 ≤ _; omega
      rw [c1, c2, replace_list, S_cps]
      repeat' walk_at "e"
      refine fpq09_ct hK (by rw [show replL 95 [45] k = dashL k from rfl, dashL_length]; omega) (by omega) ?_
      refine ⟨_, upd_same .., by omega, rfl, ?_⟩
      repeat' walk_at "e"
      rw [upd_upd]
      exact ⟨⟨rfl, rfl, rfl, trivial⟩, by rw [← hstep]; rfl⟩
  rintro m' mu' ⟨hs, rfl⟩
  rw [show (itemsL (kwPV ks)).length = ks.length from by simp [itemsL, kwPV], List.take_length]
  refine ExS.nil (SeqP.next (ExS.weakL hs ?_))
  have hHl : upd mu PA (.list ((own.toList ++ ks.map partL).map fun v => .str (S v))) l = some (.list (kvs.map pairPV)) := (HQ _).list
  have hHlen := H.len
  refine ExS.expr ?_ (by with_unfolding_all (intro _; rfl))
  refine EvE.appendC (EvE.hdr hK (hk09 _) (EvE.loc (by with_unfolding_all rfl) (by with_unfolding_all rfl) ⟨x, l, _, rfl, HQ _, ?_⟩ (by with_unfolding_all decide)) (by with_unfolding_all (intro _; rfl)) (by with_unfolding_all (intro _ _; rfl))) (by with_unfolding_all (intro _; rfl)) (by with_unfolding_all (intro _; rfl)) (by with_unfolding_all rfl) (by with_unfolding_all rfl)
  refine ⟨l, _, rfl, hHl, ?_⟩
  refine EvE.tuple (EvA.cons ?_ (by with_unfolding_all (intro _; rfl)))
  refine conv09_ev hK (HQ _) (by with_unfolding_all rfl) (by with_unfolding_all rfl) ?_ (by with_unfolding_all (intro _; rfl)) (by with_unfolding_all rfl) (by with_unfolding_all rfl)
  repeat' walk_at "e"
  refine ⟨rfl, name, rfl, by have := okN.len hn; omega, okN.ctl hn, ?_⟩
  refine EvA.cons ?_ (by with_unfolding_all (intro _; rfl))
  refine EvE.methB (EvE.str ⟨_, Meth.str PySem.F.slot_str_join (by kernel_rfl), ?_⟩) (by with_unfolding_all (intro _; rfl)) (by with_unfolding_all rfl)
  repeat' walk_at "e"
  have c3 : (Str.ofString "; ") = S [59, 32] := by decide +kernel
  rw [c3]
  refine CallV.joinL (xs := (own.toList ++ ks.map partL).map S) (by rw [List.map_map]; exact upd_same ..) (joinOk_row (by show (rowL own ks).length + 2 ≤ _; omega)) ?_
  rw [join_S]
  repeat' walk_at "e"
  refine ⟨by show 2 ≤ 2 ^ 24; decide, _, hHl, by rw [List.length_map]; omega, rfl, ?_⟩
  refine ExS.forget (mu := upd mu l (.list ((kvs ++ [(name, rowL own ks)]).map pairPV))) ?_ (ExS.nil h)
  have hPl : l ≠ PA := fun q => by rw [← q, H.list] at hP0; cases hP0
  rw [List.map_append, upd_comm _ _ _ (Ne.symm hPl)]
  exact sub_upd (by rw [upd_ne _ _ (Ne.symm hPl)]; exact hP0)
theorem fn09_add {c : Cx} (hK : K09 c) : ∃ fd body, FnOk c 181 fd body := ⟨_, _, ⟨⟨_, hK 181 _ rfl, rfl⟩, rfl, rfl, rfl, rfl, ⟨_, _, _, _, rfl, hK 180 _ rfl, rfl, rfl⟩, rfl, rfl, rfl⟩⟩
open PySem PySem.W PySem.Calls PyProof.Rows
set_option Elab.async false
set_option linter.unusedVariables false
set_option maxRecDepth 100000
set_option maxHeartbeats 4000000
/- a header's row, and all rows, as text -/
def rowT (r : Row) : List Nat := r.1 ++ [58, 32] ++ r.2
def textR (rows : List Row) : List Nat := joinL [13, 10] (rows.map rowT ++ [[], []])
def rowTG : PV → PV
  | .tuple [.str k, .str v] => .str (k ++ ⟨#[58, 32]⟩ ++ v)
  | _ => .none
theorem rowTG_all (kvs : List Row) : [] ++ ((kvs.map pairPV).filter fun _ => true).map rowTG = ((kvs.map rowT).map S).map .str := by
  rw [List.filter_eq_self.mpr (fun _ _ => rfl), List.nil_append, List.map_map, List.map_map, List.map_map]
  refine List.map_congr_left fun r _ => ?_
  show PV.str (S r.1 ++ S [58, 32] ++ S r.2) = PV.str (S (rowT r))
  rw [S_append, S_append]; rfl

theorem str09_ct {c : Cx} {n : Nat} {mu : Mu} (hK : K09 c) {x l : Addr} {kvs : List Row} (H : T09 c mu x l kvs) {P : PV → Mu → Prop} (hlen : kvs.length ≤ 100) (hz : ∀ r ∈ kvs, (rowT r).length ≤ 100000)
    (h : P (.str (S (textR kvs))) mu) : CallV c (n + 1) mu (.ref 160) [.ref x] [] P := by
  have hf : FnOk c 160 _ _ := ⟨⟨_, hK 160 _ rfl, rfl⟩, rfl, rfl, rfl, rfl, ⟨_, _, _, _, rfl, hK 159 _ rfl, rfl, rfl⟩, rfl, rfl, rfl⟩
  have sl : sizeLine = 16777216 := rfl
  refine CallV.fn hf (Binds.p1 (fun v => rfl) ⟨by simp only [List.map_cons, List.map_nil]; decide, by rfl, ?_⟩); clear hf
  dsimp only
  refine ExS.ret (EvE.methB (EvE.str ⟨_, Meth.str PySem.F.slot_str_join (by kernel_rfl), ?_⟩) (by with_unfolding_all (intro _; rfl)) (by with_unfolding_all rfl))
  refine EvA.cons (EvE.binop ?_) (by with_unfolding_all (intro _; rfl))
  refine EvE.listcomp (okT := anyT) trivial (by with_unfolding_all rfl) ?_
  refine EvE.hdr hK (hk09 _) (EvE.loc (by with_unfolding_all rfl) (by with_unfolding_all rfl) ⟨x, l, kvs, rfl, H, ?_⟩ (by with_unfolding_all decide)) (by with_unfolding_all (intro _; rfl)) (by with_unfolding_all (intro _ _; rfl))
  refine ⟨_, _, _, IterOf.list H.list, ?_⟩
  refine CompE.all (m0 := []) (fun _ => true) rowTG H.list _ _ _ (by simp [sl]; omega) trivial (fun y hy => ?_) ?_
  · obtain ⟨r, hr, rfl⟩ := List.mem_map.mp hy
    have hro := List.all_eq_true.mp H.ok r hr
    unfold pairPV
    repeat' walk_at "e"
    refine ⟨rfl, trivial, IfsE.nil ⟨rfl, rfl, fun _ => ?_⟩⟩
    repeat' walk_at "e"
    exact OpB.modT (by have := okN.len (okR.nm hro); rw [S_length]; omega) (by have := okV.len (okR.vl hro); rw [S_length]; omega) ⟨rfl, rfl⟩
  intro D hD
  rw [rowTG_all]
  repeat' walk_at "e"
  refine ⟨by simp [sl], fun D2 hD2 => ?_⟩
  refine OpB.addTmp hD hD2 (by simp [sl]; omega) fun D3 hD3 => ?_
  rw [show ((kvs.map rowT).map S).map PV.str ++ [PV.str (Str.ofString ""), PV.str (Str.ofString "")] = ((kvs.map rowT ++ [[], []]).map S).map .str from by simp; rfl]
  repeat' walk_at "e"
  refine CallV.joinTmp hD3 (joinOk_le (k := 100010) ?_ ?_) ?_
  · intro y hy
    obtain ⟨z, hz', rfl⟩ := List.mem_map.mp hy
    have e2 : (Str.ofString "\r\n").length = 2 := by decide +kernel
    rw [S_length, e2]
    rcases List.mem_append.mp hz' with q | q
    · obtain ⟨r, hr, rfl⟩ := List.mem_map.mp q
      have := hz r hr; omega
    · simp at q; subst q; simp
  · simp; omega
  rw [show Str.ofString "\r\n" = S [13, 10] from by decide +kernel, join_S]
  exact h
theorem instStr09 {c : Cx} {mu : Mu} (hK : K09 c) {x l : Addr} {kvs : List Row} (H : T09 c mu x l kvs) : InstK c mu (hd09.heap_39 c.w.params) x 184 160 "__str__" := InstK.hd hK H (by with_unfolding_all rfl) (by with_unfolding_all rfl)
theorem instBytes09 {c : Cx} {mu : Mu} (hK : K09 c) {x l : Addr} {kvs : List Row} (H : T09 c mu x l kvs) : InstK c mu (hd09.heap_39 c.w.params) x 184 167 "__bytes__" := InstK.hd hK H (by with_unfolding_all rfl) (by with_unfolding_all rfl)
theorem bytes09_ct {c : Cx} {n : Nat} {mu : Mu} (hK : K09 c) {x l : Addr} {kvs : List Row} (H : T09 c mu x l kvs) {P : PV → Mu → Prop} (hlen : kvs.length ≤ 100) (hz : ∀ r ∈ kvs, (rowT r).length ≤ 100000)
    (hg : ∀ ch ∈ textR kvs, ch < 256) (hw : (textR kvs).length ≤ 16000000) (h : P (.bytes (octs Builtin._codecs.latin1Codec (textR kvs)).toArray) mu) : CallV c (n + 4) mu (.ref 167) [.ref x] [] P := by
  have hf : FnOk c 167 _ _ := ⟨⟨_, hK 167 _ rfl, rfl⟩, rfl, rfl, rfl, rfl, ⟨_, _, _, _, rfl, hK 166 _ rfl, rfl, rfl⟩, rfl, rfl, rfl⟩
  refine CallV.fn hf (Binds.p1 (fun v => rfl) ⟨by simp only [List.map_cons, List.map_nil]; decide, by rfl, ?_⟩); clear hf
  dsimp only
  refine ExS.ret (EvE.methB ?_ (by with_unfolding_all (intro _; rfl)) (by with_unfolding_all rfl))
  repeat' walk_at "e"
  refine CallV.strObj (instStr09 hK H) (str09_ct (n := n) hK H hlen hz ⟨_, rfl, _, Meth.str PySem.F.slot_str_encode PySem.F.type_str_encode, ?_⟩)
  repeat' walk_at "e"
  refine CallV.enc1 (fun ch hc => ?_) ?_ h
  · have := hg ch hc
    show decide (ch ≥ 256) = false
    simp; omega
  · have : ∀ l : List Nat, (octs Builtin._codecs.latin1Codec l).length = l.length := fun l => by
      induction l with
      | nil => rfl
      | cons a r ih => rw [octs, List.flatMap_cons, List.length_append, List.length_cons]; show 1 + (octs Builtin._codecs.latin1Codec r).length = _; omega
    rw [this]; show _ ≤ 16777216; omega
theorem bytesX09_ct {c : Cx} {n : Nat} {mu : Mu} (hK : K09 c) {x l : Addr} {kvs : List Row} (H : T09 c mu x l kvs) {env : Env} {m : Lm} {P : Mu → Prop} (hlen : kvs.length ≤ 100) (hz : ∀ r ∈ kvs, (rowT r).length ≤ 100000)
    (hb : ∃ ch ∈ textR kvs, 256 ≤ ch) (hw : (textR kvs).length ≤ 16000000) (h : P mu) : CallX c (n + 4) env m mu (.ref 167) [.ref x] "UnicodeEncodeError" P := by
  have hf : FnOk c 167 _ _ := ⟨⟨_, hK 167 _ rfl, rfl⟩, rfl, rfl, rfl, rfl, ⟨_, _, _, _, rfl, hK 166 _ rfl, rfl, rfl⟩, rfl, rfl, rfl⟩
  refine CallX.fn hf (Binds.p1 (fun v => rfl) ⟨by simp only [List.map_cons, List.map_nil]; decide, by rfl, ?_⟩); clear hf
  dsimp only
  refine RaS.ret (RaA.method ?_ (by with_unfolding_all (intro _; rfl)) (by with_unfolding_all rfl) (by with_unfolding_all rfl) (by decide) (by with_unfolding_all rfl))
  repeat' walk_at "e"
  refine CallV.strObj (instStr09 hK H) (str09_ct (n := n) hK H hlen hz ⟨_, rfl, .builtin "str.encode", Meth.str PySem.F.slot_str_encode PySem.F.type_str_encode, ?_⟩)
  repeat' walk_at "e"
  refine ⟨Keepr.builtin, rfl, CallR.enc1 ?_ (by show _ ≤ 16777216; omega), h⟩
  obtain ⟨ch, h1, h2⟩ := hb
  exact ⟨ch, h1, by show decide (ch ≥ 256) = true; simpa using h2⟩

open PySem PySem.W PySem.Calls PyProof.Rows
set_option Elab.async false
set_option linter.unusedVariables false
set_option maxRecDepth 100000
set_option maxHeartbeats 4000000
theorem okC_mk {ch : Nat} (h1 : ch = 9 ∨ 32 ≤ ch) (h2 : ch ≠ 127) (h3 : ch < 1114112) (h4 : ¬ (55296 ≤ ch ∧ ch ≤ 57343)) : okC ch := by
  refine ⟨⟨?_, h3⟩, h4⟩
  unfold isCtlV
  simp only [Bool.or_eq_false_iff, Bool.and_eq_false_iff, decide_eq_false_iff_not]
  omega

theorem sign09_ct {c : Cx} {n : Nat} {mu : Mu} (hK : K09 c) {i : Int} {P : PV → Mu → Prop} (h : ∀ ch, okC ch → P (.str (S [ch])) mu) : Keepr c mu (.ref 195) ∧ CallV c (n + 1) mu (.ref 195) [.int i] [] P := by
  have hf : FnOk c 195 _ _ := ⟨⟨_, hK 195 _ rfl, rfl⟩, rfl, rfl, rfl, rfl, ⟨_, _, _, _, rfl, hK 194 _ rfl, rfl, rfl⟩, rfl, rfl, rfl⟩
  have sl : sizeLine = 16777216 := rfl
  refine ⟨Keepr.fn hf, CallV.fn hf (Binds.p1 (fun v => rfl) ⟨by simp only [List.map_cons, List.map_nil]; decide, by rfl, ?_⟩)⟩; clear hf
  dsimp only
  repeat' walk_at "e"
  refine ifd (fun q => ?_) (fun q => ?_)
  · repeat' walk_at "e"
    refine ⟨by simp [sl], fun D hD => ?_⟩
    obtain ⟨j, hj, hj8⟩ := fmod_nat (i.fdiv 2) 8 (by decide)
    rw [show ((8 : Nat) : Int) = 8 from rfl] at hj
    repeat' walk_at "e"
    rw [hj]
    obtain ⟨d, hd, hdo⟩ : ∃ d : Nat, ([PV.int 34, .int 92, .int 59, .int 32, .int 9, .int 233, .int 8364, .int 128])[((j : Nat) : Int).toNat]? = some (.int (d : Int)) ∧ okC d := by
      rw [Int.toNat_natCast]
      match j, hj8 with
      | 0, _ => exact ⟨34, rfl, okC_mk (by omega) (by omega) (by omega) (by omega)⟩
      | 1, _ => exact ⟨92, rfl, okC_mk (by omega) (by omega) (by omega) (by omega)⟩
      | 2, _ => exact ⟨59, rfl, okC_mk (by omega) (by omega) (by omega) (by omega)⟩
      | 3, _ => exact ⟨32, rfl, okC_mk (by omega) (by omega) (by omega) (by omega)⟩
      | 4, _ => exact ⟨9, rfl, okC_mk (by omega) (by omega) (by omega) (by omega)⟩
      | 5, _ => exact ⟨233, rfl, okC_mk (by omega) (by omega) (by omega) (by omega)⟩
      | 6, _ => exact ⟨8364, rfl, okC_mk (by omega) (by omega) (by omega) (by omega)⟩
      | 7, _ => exact ⟨128, rfl, okC_mk (by omega) (by omega) (by omega) (by omega)⟩
    refine OpSub.tmpN hD (by omega) (by omega) hd ?_ (by with_unfolding_all (intro _ _; exact ⟨_, rfl⟩))
    repeat' walk_at "e"
    refine CallV.chr ⟨by omega, by have := hdo.1.2; omega⟩ ?_
    rw [Int.toNat_natCast]
    exact h d hdo
  · repeat' walk_at "s"
    obtain ⟨k, hk, hk2⟩ := fmod_nat (i.fdiv 2) 1114080 (by decide)
    rw [show ((1114080 : Nat) : Int) = 1114080 from rfl] at hk
    rw [hk]
    refine ExS.mid (fun m' mu' => mu' = mu ∧ ∃ d : Nat, SubL [("code", .int (d : Int))] m' ∧ 32 ≤ d ∧ d < 1114112 ∧ d ≠ 127) (Ex1.if ?_) ?_
    · repeat' walk_at "e"
      refine ifd (fun z => ?_) (fun z => ?_)
      · repeat' walk_at "e"
        exact ⟨rfl, rfl, 126, ⟨rfl, trivial⟩, by omega, by omega, by omega⟩
      · repeat' walk_at "e"
        exact ⟨rfl, rfl, 32 + k, ⟨rfl, trivial⟩, by omega, by omega, by omega⟩
    rintro m' mu' ⟨rfl, d, hs, h1, h2, h3⟩
    refine ExS.weakL hs ?_
    clear hs
    refine ExS.mid (fun m' mu2 => mu2 = mu' ∧ ∃ d : Nat, SubL [("code", .int (d : Int))] m' ∧ 32 ≤ d ∧ d < 1114112 ∧ ¬ (55296 ≤ d ∧ d ≤ 57343)) (Ex1.if ?_) ?_
    · repeat' walk_at "e"
      refine ifd (fun z => ?_) (fun z => ?_)
      · repeat' walk_at "e"
        refine ifd (fun z2 => ?_) (fun z2 => ?_)
        · repeat' walk_at "e"
          refine ⟨rfl, rfl, d - 55200, ⟨?_, trivial⟩, by omega, by omega, by omega⟩
          have e : (d : Int) - 55200 = ((d - 55200 : Nat) : Int) := by omega
          rw [e]; rfl
        · repeat' walk_at "e"
          exact ⟨rfl, rfl, d, ⟨rfl, trivial⟩, by omega, by omega, by omega⟩
      · refine ifF ?_
        repeat' walk_at "e"
        exact ⟨rfl, rfl, d, ⟨rfl, trivial⟩, by omega, by omega, by omega⟩
    clear h1 h2 h3
    rintro m2 mu2 ⟨rfl, d, hs, h1, h2, h3⟩
    refine ExS.weakL hs ?_
    clear hs
    refine ExS.mid (fun m' mu3 => mu3 = mu2 ∧ ∃ d : Nat, SubL [("code", .int (d : Int))] m' ∧ okC d) (Ex1.if ?_) ?_
    · repeat' walk_at "e"
      refine ifd (fun z => ?_) (fun z => ?_)
      · repeat' walk_at "e"
        exact ⟨rfl, rfl, 126, ⟨rfl, trivial⟩, okC_mk (by omega) (by omega) (by omega) (by omega)⟩
      · repeat' walk_at "e"
        exact ⟨rfl, rfl, d, ⟨rfl, trivial⟩, okC_mk (by omega) (by omega) (by omega) (by omega)⟩
    clear h1 h2 h3
    rintro m3 mu3 ⟨rfl, d, hs, hdo⟩
    refine ExS.weakL hs ?_
    repeat' walk_at "e"
    refine CallV.chr ⟨by omega, by have := hdo.1.2; omega⟩ ?_
    rw [Int.toNat_natCast]
    exact h d hdo
def chrG : PV → PV
  | .int i => .str ⟨#[i.toNat]⟩
  | _ => .none
theorem chrG_all (l : List UInt8) : [] ++ ((l.map fun ch => PV.int (ch.toNat : Int)).filter fun _ => true).map chrG = ((l.map UInt8.toNat).map fun b => S [b]).map .str := by
  rw [List.filter_eq_self.mpr (fun _ _ => rfl), List.nil_append, List.map_map, List.map_map, List.map_map]
  refine List.map_congr_left fun r _ => ?_
  simp [chrG]
theorem oct09_ct {c : Cx} {n : Nat} {mu : Mu} (hK : K09 c) {t : List Nat} {P : PV → Mu → Prop} (ht : ∀ ch ∈ t, okC ch ∨ ch < 128) (hl : t.length ≤ 100000) (h : P (.str (S (oct t))) mu) : Keepr c mu (.ref 200) ∧ CallV c (n + 1) mu (.ref 200) [.str (S t)] [] P := by
  have hf : FnOk c 200 _ _ := ⟨⟨_, hK 200 _ rfl, rfl⟩, rfl, rfl, rfl, rfl, ⟨_, _, _, _, rfl, hK 199 _ rfl, rfl, rfl⟩, rfl, rfl, rfl⟩
  have sl : sizeLine = 16777216 := rfl
  have hol := oct_len t
  refine ⟨Keepr.fn hf, CallV.fn hf (Binds.p1 (fun v => rfl) ⟨by simp only [List.map_cons, List.map_nil]; decide, by rfl, ?_⟩)⟩; clear hf
  dsimp only
  refine ExS.ret (EvE.methB (EvE.str ⟨_, Meth.str PySem.F.slot_str_join (by kernel_rfl), ?_⟩) (by with_unfolding_all (intro _; rfl)) (by with_unfolding_all rfl))
  refine EvA.cons ?_ (by with_unfolding_all (intro _; rfl))
  refine EvE.listcomp (okT := anyT) trivial (by with_unfolding_all rfl) ?_
  refine EvE.methB (EvE.loc (by with_unfolding_all rfl) (by with_unfolding_all rfl) ⟨_, Meth.str PySem.F.slot_str_encode PySem.F.type_str_encode, ?_⟩ (by with_unfolding_all decide)) (by with_unfolding_all (intro _; rfl)) (by with_unfolding_all rfl)
  repeat' walk_at "e"
  refine CallV.enc8 (fun ch hc => bad8 (ht ch hc)) (by rw [octs8_len, sl]; omega) ⟨_, _, _, IterOf.bytes, ?_⟩
  have hlen : (octs Builtin._codecs.utf8Codec t).length ≤ 400000 := by rw [octs8_len]; omega
  refine CompE.all (m0 := []) (fun _ => true) chrG trivial _ _ _ (by simp [sl]; omega) trivial (fun y hy => ?_) ?_
  · obtain ⟨b, hb, rfl⟩ := List.mem_map.mp hy
    have hb2 := b.toNat_lt
    repeat' walk_at "e"
    refine ⟨rfl, trivial, IfsE.nil ⟨rfl, rfl, fun _ => ?_⟩⟩
    repeat' walk_at "e"
    exact CallV.chr ⟨by omega, by omega⟩ ⟨rfl, rfl⟩
  intro D hD
  rw [chrG_all, octs8]
  repeat' walk_at "e"
  refine CallV.joinTmp hD (joinOk_le (k := 1) ?_ (by simp; omega)) ?_
  · intro x hx
    obtain ⟨y, hy, rfl⟩ := List.mem_map.mp hx
    exact Nat.le_refl 1
  rw [show Str.ofString "" = S [] from rfl, show ((oct t).map fun b => S [b]) = ((oct t).map fun b => [b]).map S from by rw [List.map_map]; rfl, join_empty, show ((oct t).map fun b => [b]).flatten = oct t from by rw [← List.flatMap_def]; simp]
  exact h

open PySem PySem.W PySem.Calls PyProof.Rows
set_option Elab.async false
set_option linter.unusedVariables false
set_option maxRecDepth 100000
/- # the texts of all rows -/
theorem joinL_tail (sep : List Nat) (xs : List (List Nat)) : joinL sep (xs ++ [[], []]) = (xs.flatMap fun x => x ++ sep) ++ sep := by
  induction xs with
  | nil => simp [joinL]
  | cons x r ih => rw [List.cons_append, joinL_cons _ _ (by simp), ih, List.flatMap_cons]; simp
theorem textR_flat (kvs : List Row) : textR kvs = (kvs.flatMap fun r => rowT r ++ [13, 10]) ++ [13, 10] := by
  unfold textR
  rw [joinL_tail, List.flatMap_def, List.flatMap_def, List.map_map]; rfl
def rowsR (f : List Nat → List Nat) (rs : List (List (List Nat))) (k : Nat) : List Row := (List.range k).map fun i => row09 f i (rs.getD i [])
def wantR (rs : List (List (List Nat))) (k : Nat) : List Nat := (List.range k).flatMap fun i => want09 i (rs.getD i []) ((rs.getD i []).length - 1) ++ [13, 10]
theorem rowsR_succ (f : List Nat → List Nat) (rs : List (List (List Nat))) (k : Nat) : rowsR f rs (k + 1) = rowsR f rs k ++ [row09 f k (rs.getD k [])] := by
  unfold rowsR; rw [List.range_succ, List.map_append]; rfl
theorem wantR_succ (rs : List (List (List Nat))) (k : Nat) : wantR rs (k + 1) = wantR rs k ++ want09 k (rs.getD k []) ((rs.getD k []).length - 1) ++ [13, 10] := by
  unfold wantR; rw [List.range_succ, List.flatMap_append]; simp
theorem rowsR_len (f : List Nat → List Nat) (rs : List (List (List Nat))) (k : Nat) : (rowsR f rs k).length = k := by simp [rowsR]
/- the law's rows -/
structure Rows9 (rs : List (List (List Nat))) : Prop where
  len : rs.length ≤ 64
  row : ∀ r ∈ rs, Row9 r
theorem Rows9.at {rs : List (List (List Nat))} (h : Rows9 rs) {i : Nat} (hi : i < rs.length) : Row9 (rs.getD i []) := by
  rw [List.getD_eq_getElem?_getD, List.getElem?_eq_getElem hi]
  exact h.row _ (List.getElem_mem hi)
theorem rowsR_ok {f : List Nat → List Nat} (hf : fOk f) {rs : List (List (List Nat))} (h : Rows9 rs) {k : Nat} (hk : k ≤ rs.length) : (rowsR f rs k).all okR = true := by
  rw [List.all_eq_true]
  intro r hr
  obtain ⟨i, hi, rfl⟩ := List.mem_map.mp hr
  have hi := List.mem_range.mp hi
  have := h.len
  exact row09_ok hf (h.at (by omega)) (by omega)
theorem rowsR_z {f : List Nat → List Nat} (hf : fOk f) {rs : List (List (List Nat))} (h : Rows9 rs) {k : Nat} (hk : k ≤ rs.length) : ∀ r ∈ rowsR f rs k, (rowT r).length ≤ 100000 := fun r hr => by
  obtain ⟨i, hi, rfl⟩ := List.mem_map.mp hr
  have hi := List.mem_range.mp hi
  have hl := h.len
  have h1 := row09_len hf (h.at (i := i) (by omega)) i
  have h2 := (hn_ok i (by omega)).2
  show ((72 :: dig i) ++ [58, 32] ++ (row09 f i (rs.getD i [])).2).length ≤ 100000
  simp only [List.length_append, List.length_cons, List.length_nil] at h2 ⊢
  omega
theorem textR_id {rs : List (List (List Nat))} (h : Rows9 rs) {k : Nat} (hk : k ≤ rs.length) : textR (rowsR id rs k) = wantR rs k ++ [13, 10] := by
  rw [textR_flat]
  congr 1
  unfold rowsR wantR
  rw [List.flatMap_def, List.flatMap_def, List.map_map]
  congr 1
  refine List.map_congr_left fun i hi => ?_
  have hi := List.mem_range.mp hi
  show rowT (row09 id i (rs.getD i [])) ++ [13, 10] = _
  rw [want09_row (h.at (by omega)) i]; rfl
theorem textR_oct {rs : List (List (List Nat))} (h : Rows9 rs) {k : Nat} (hk : k ≤ rs.length) : textR (rowsR oct rs k) = oct (textR (rowsR id rs k)) := by
  have hl := h.len
  unfold textR
  rw [oct_joinL (by simp), List.map_append]
  congr 2
  unfold rowsR
  rw [List.map_map, List.map_map, List.map_map]
  refine List.map_congr_left fun i hi => ?_
  have hi := List.mem_range.mp hi
  show rowT (row09 oct i (rs.getD i [])) = oct (rowT (row09 id i (rs.getD i [])))
  rw [row09_oct (h.at (by omega)) i]
  show (72 :: dig i) ++ [58, 32] ++ oct _ = oct ((72 :: dig i) ++ [58, 32] ++ _)
  rw [oct_append, oct_low (l := (72 :: dig i) ++ [58, 32])]
  intro ch hc
  simp only [List.mem_append, List.mem_cons] at hc
  rcases hc with (q | q) | q
  · omega
  · exact dig_low (by omega) ch q
  · simp at q; omega
theorem wantR_sg {rs : List (List (List Nat))} (h : Rows9 rs) {k : Nat} (hk : k ≤ rs.length) {ch : Nat} (hc : ch ∈ wantR rs k ++ [13, 10]) : okC ch ∨ ch < 128 := by
  rcases List.mem_append.mp hc with q | q
  · obtain ⟨i, hi, q⟩ := List.mem_flatMap.mp q
    have hi := List.mem_range.mp hi
    have hl := h.len
    have hr := h.at (i := i) (by omega)
    rcases List.mem_append.mp q with z | z
    · exact want09_sg hr (by omega) (by have := hr.len; omega) z
    · simp at z; omega
  · simp at q; omega
theorem wantR_len {rs : List (List (List Nat))} (h : Rows9 rs) {k : Nat} (hk : k ≤ rs.length) : (wantR rs k).length ≤ 13002 * k := by
  induction k with
  | zero => simp [wantR]
  | succ k ih =>
    have h1 := ih (by omega)
    have hl := h.len
    have hr := h.at (i := k) (by omega)
    have h2 := want09_len hr (i := k) (k := (rs.getD k []).length - 1) (by omega) (by have := hr.len; omega)
    rw [wantR_succ]
    simp only [List.length_append, List.length_cons, List.length_nil]
    omega
theorem want09_zero (i : Nat) (r : List (List Nat)) : want09 i r 0 = [72] ++ dig i ++ [58, 32] ++ r.getD 0 [] := by simp [want09]
theorem want09_succ (i : Nat) (r : List (List Nat)) (k : Nat) : want09 i r (k + 1) = want09 i r k ++ par09 r k := by
  unfold want09; rw [List.range_succ, List.flatMap_append]; simp
def parG (f : List Nat → List Nat) (r : List (List Nat)) : PV → Str × PV
  | .int j => (S (pn j.toNat), .str (S (f (r.getD j.toNat []))))
  | _ => (S [], .none)
theorem parG_all (f : List Nat → List Nat) (r : List (List Nat)) : [] ++ ((((List.range (r.length - 1)).map fun (i : Nat) => PV.int (1 + (i : Int)))).filter fun _ => true).map (parG f r) = kwPV (kw09 f r) := by
  rw [List.filter_eq_self.mpr (fun _ _ => rfl), List.nil_append]
  unfold kwPV kw09
  rw [List.map_map, List.map_map]
  refine List.map_congr_left fun k _ => ?_
  have e : (1 + (k : Int)).toNat = k + 1 := by omega
  simp only [Function.comp, parG, e]
  rfl
theorem ownK_pn (j : Nat) : ownK (pn j) = false := by
  unfold ownK pn
  rw [S_self, S_nm, S_vl]
  simp [S_inj]
theorem txPV_get {r : List (List Nat)} {k : Nat} (hk : k < r.length) : (r.map txPV)[((k : Nat) : Int).toNat]? = some (.str (S (r.getD k []))) := by
  rw [Int.toNat_natCast, List.getElem?_map, List.getD_eq_getElem?_getD, List.getElem?_eq_getElem hk]; rfl
/- the ledger without a list -/
def dropM (mu : Mu) (R : Addr) : Mu := fun b => if b = R then none else mu b
theorem dropM_self (mu : Mu) (R : Addr) : dropM mu R R = none := by simp [dropM]
theorem dropM_ne {mu : Mu} {R b : Addr} (h : b ≠ R) : dropM mu R b = mu b := by simp [dropM, h]
theorem dropM_upd {mu : Mu} {R : Addr} {o : AO} (h : mu R = some o) : mu = upd (dropM mu R) R o := by
  funext b
  by_cases hb : b = R
  · subst hb; rw [upd_same, h]
  · rw [upd_ne _ _ hb, dropM_ne hb]
theorem Hd.dropM {c : Cx} {C x l R : Addr} {kvs : List Row} {mu : Mu} {ys : List PV} (H : Hd c C mu x l kvs) (hR : mu R = some (.list ys)) (hne : l ≠ R) : Hd c C (Mine.dropM mu R) x l kvs := by
  obtain ⟨dx, tok, h1, h2⟩ := H.inst
  refine ⟨⟨dx, tok, ?_, ?_⟩, (dropM_ne hne).trans H.list, H.ok, H.len⟩
  · rw [dropM_ne (fun q => by rw [q, hR] at h1; cases h1)]; exact h1
  · rw [dropM_ne (fun q => by rw [q, hR] at h2; cases h2)]; exact h2
def escG : PV → PV
  | .str x => if x = S [34] ∨ x = S [92] then .str (S [92] ++ x) else .str x
  | _ => .none
theorem escG_all (k : List Nat) : [] ++ ((((S k).cps.toList.map fun ch => PV.str ⟨#[ch]⟩)).filter fun _ => true).map escG = ((k.map fun ch => if ch = 34 ∨ ch = 92 then [92, ch] else [ch]).map S).map .str := by
  rw [List.filter_eq_self.mpr (fun _ _ => rfl), List.nil_append, S_cps, List.map_map, List.map_map, List.map_map]
  refine List.map_congr_left fun ch _ => ?_
  have e : (Str.mk #[ch] = S [34] ∨ Str.mk #[ch] = S [92]) ↔ (ch = 34 ∨ ch = 92) := by
    rw [show Str.mk #[ch] = S [ch] from rfl, S_inj, S_inj]; simp
  show (if Str.mk #[ch] = S [34] ∨ Str.mk #[ch] = S [92] then PV.str (S [92] ++ Str.mk #[ch]) else PV.str (Str.mk #[ch])) = PV.str (S (if ch = 34 ∨ ch = 92 then [92, ch] else [ch]))
  by_cases h : ch = 34 ∨ ch = 92
  · rw [if_pos (e.mpr h), if_pos h, show Str.mk #[ch] = S [ch] from rfl, S_append]; rfl
  · rw [if_neg (fun q => h (e.mp q)), if_neg h]
theorem esc_flat (k : List Nat) : (k.map fun ch => if ch = 34 ∨ ch = 92 then [92, ch] else [ch]).flatten = escL k := by
  unfold escL; rw [List.flatMap_def]
theorem row09_sg {rs : List (List (List Nat))} (h : Rows9 rs) {k : Nat} (hk : k ≤ rs.length) {r : Row} (hr : r ∈ rowsR id rs k) : (∀ ch ∈ r.2, okC ch ∨ ch < 128) ∧ r.2.length ≤ 40000 := by
  obtain ⟨i, hi, rfl⟩ := List.mem_map.mp hr
  have hi := List.mem_range.mp hi
  have hl := h.len
  have hrow := h.at (i := i) (by omega)
  refine ⟨fun ch hc => ?_, row09_len fOk_id hrow i⟩
  refine want09_sg hrow (i := i) (k := (rs.getD i []).length - 1) (by omega) (by have := hrow.len; omega) ?_
  rw [want09_row hrow i]
  exact List.mem_append_right _ hc
def octG : PV → PV
  | .tuple [k, .str v] => .tuple [k, .str (S (oct v.cps.toList))]
  | _ => .none
theorem octG_all {rs : List (List (List Nat))} (h : Rows9 rs) {k : Nat} (hk : k ≤ rs.length) : [] ++ (((rowsR id rs k).map pairPV).filter fun _ => true).map octG = (rowsR oct rs k).map pairPV := by
  rw [List.filter_eq_self.mpr (fun _ _ => rfl), List.nil_append]
  unfold rowsR
  rw [List.map_map, List.map_map, List.map_map]
  refine List.map_congr_left fun i hi => ?_
  have hi := List.mem_range.mp hi
  show octG (pairPV (row09 id i (rs.getD i []))) = pairPV (row09 oct i (rs.getD i []))
  rw [row09_oct (h.at (by omega)) i]
  show PV.tuple [_, .str (S (oct (S _).cps.toList))] = _
  rw [S_cps]; rfl
def bigG : PV → Bool
  | .str x => x.cps.toList.any fun ch => decide (255 < ch)
  | _ => false
theorem bigG_all (W : List Nat) : [] ++ ((W.map fun ch => PV.str ⟨#[ch]⟩).filter bigG).map (fun d => d) = ((W.filter fun ch => decide (255 < ch)).map fun ch => [ch]).map fun v => .str (S v) := by
  rw [List.nil_append, List.map_id']
  induction W with
  | nil => rfl
  | cons a r ih =>
    rw [List.map_cons, List.filter_cons, List.filter_cons]
    have e : bigG (.str ⟨#[a]⟩) = decide (255 < a) := by simp [bigG]
    rw [e]
    cases decide (255 < a) with
    | true => simp only [if_true, List.map_cons, ih]
    | false => simp only [Bool.false_eq_true, if_false, ih]
theorem big_eqv (W : List Nat) : (!PyData.eqv (txtD ((W.filter fun ch => decide (255 < ch)).map fun ch => [ch])) (.list [])) = W.any fun ch => decide (255 < ch) := by
  induction W with
  | nil => rfl
  | cons a r ih =>
    rw [List.filter_cons, List.any_cons]
    cases decide (255 < a) with
    | true => rfl
    | false => simpa using ih
theorem boot_bytes09 : bootBuiltins (Str.ofString "bytes") = some (.type "bytes") := by decide +kernel
theorem boot_ord09 : bootBuiltins (Str.ofString "ord") = some (.builtin "ord") := by decide +kernel
theorem boot_Uee09 : bootBuiltins (Str.ofString "UnicodeEncodeError") = some (.type "UnicodeEncodeError") := by decide +kernel
theorem isExc_Uee09 : isSubtype (.type "UnicodeEncodeError") (.type "BaseException") = pure true := by rw [isSubtype_type]; kernel_rfl
theorem notTuple_Uee09 : isSubtype (.type ((Manifest.find? "UnicodeEncodeError").elim "type" fun x => x.metatype)) (.type "tuple") = pure false := by
  rw [show ((Manifest.find? "UnicodeEncodeError").elim "type" fun x => x.metatype) = "type" from by kernel_rfl, isSubtype_type]; kernel_rfl
/- a row on its way -/
def R9 (r : List (List Nat)) (i : Nat) : Prop := r ≠ [] ∧ r.length ≤ i + 1 ∧ ∀ t ∈ r, t.length ≤ i ∧ ∀ ch ∈ t, okC ch
theorem R9.mono {r : List (List Nat)} {i j : Nat} (h : R9 r i) (hij : i ≤ j) : R9 r j := ⟨h.1, by have := h.2.1; omega, fun t ht => ⟨by have := (h.2.2 t ht).1; omega, (h.2.2 t ht).2⟩⟩
theorem R9.row {r : List (List Nat)} {i : Nat} (h : R9 r i) (hi : i ≤ 63) : Row9 r := ⟨h.1, by have := h.2.1; omega, fun t ht => ⟨by have := (h.2.2 t ht).1; omega, (h.2.2 t ht).2⟩⟩
theorem R9.sign {ks : List (List Nat)} {t : List Nat} {i ch : Nat} (h : R9 (ks ++ [t]) i) (hc : okC ch) : R9 (ks ++ [t ++ [ch]]) (i + 1) := by
  refine ⟨by simp, by have := h.2.1; simp at this ⊢; omega, fun u hu => ?_⟩
  rcases List.mem_append.mp hu with q | q
  · have := h.2.2 u (by simp [q]); exact ⟨by omega, this.2⟩
  · rw [List.mem_singleton.mp q]
    have := h.2.2 t (by simp)
    refine ⟨by simp; omega, fun x hx => ?_⟩
    rcases List.mem_append.mp hx with z | z
    · exact this.2 x z
    · rw [List.mem_singleton.mp z]; exact hc
theorem R9.more {ks : List (List Nat)} {i : Nat} (h : R9 ks i) : R9 (ks ++ [[]]) (i + 1) := by
  refine ⟨by simp, by have := h.2.1; simp; omega, fun u hu => ?_⟩
  rcases List.mem_append.mp hu with q | q
  · have := h.2.2 u q; exact ⟨by omega, this.2⟩
  · rw [List.mem_singleton.mp q]; exact ⟨by simp, by simp⟩
theorem R9.one (i : Nat) : R9 [[]] i := ⟨by simp, by simp, fun u hu => by rw [List.mem_singleton.mp hu]; exact ⟨by simp, by simp⟩⟩
/- what is known of the law's objects -/
structure F09 (c : Cx) (mu : Mu) (xp lp xt lt : Addr) (as : List Addr) (cs : List (List (List Nat))) (ra rb : List Row) : Prop where
  p : Hd c 184 mu xp lp ra
  t : Hd c 184 mu xt lt rb
  r : ∀ (j : Nat) a ks, as[j]? = some a → cs[j]? = some ks → mu a = some (.list (ks.map txPV))
  pt : lp ≠ lt
  pa : lp ∉ as
  ta : lt ∉ as
theorem F09.setP {c : Cx} {mu : Mu} {xp lp xt lt : Addr} {as : List Addr} {cs : List (List (List Nat))} {ra rb ra' : List Row} (h : F09 c mu xp lp xt lt as cs ra rb) (ho : ra'.all okR = true) (hl : ra'.length ≤ 10000) : F09 c (upd mu lp (.list (ra'.map pairPV))) xp lp xt lt as cs ra' rb :=
  ⟨h.p.set ho hl, h.t.other h.pt (.inr ⟨_, h.p.list⟩), fun j a ks h1 h2 => (upd_ne _ _ (fun q : a = lp => h.pa (by rw [← q]; exact List.mem_of_getElem? h1))).trans (h.r j a ks h1 h2), h.pt, h.pa, h.ta⟩
theorem F09.setT {c : Cx} {mu : Mu} {xp lp xt lt : Addr} {as : List Addr} {cs : List (List (List Nat))} {ra rb rb' : List Row} (h : F09 c mu xp lp xt lt as cs ra rb) (ho : rb'.all okR = true) (hl : rb'.length ≤ 10000) : F09 c (upd mu lt (.list (rb'.map pairPV))) xp lp xt lt as cs ra rb' :=
  ⟨h.p.other h.pt.symm (.inr ⟨_, h.t.list⟩), h.t.set ho hl, fun j a ks h1 h2 => (upd_ne _ _ (fun q : a = lt => h.ta (by rw [← q]; exact List.mem_of_getElem? h1))).trans (h.r j a ks h1 h2), h.pt, h.pa, h.ta⟩
set_option maxHeartbeats 8000000

theorem law09_fn {c : Cx} {n : Nat} (hK : K09 c) {l : Addr} {ns : List Int} (hl : BaseList c l (ns.map .int)) (hn : ns.length ≤ 63) {A : Around} {s : Shared} (hA : AOk (n + 12) A) (hfr : A.frames = some []) (S0 : St c (fun _ => none) s.heap) :
    wpC c.M A (call (.ref 205) [.ref l]) (Post c (fun _ => none) s fun d _ => d = .bool true) NoE s := by
  have hf : FnOk c 205 _ _ := ⟨⟨_, hK 205 _ rfl, rfl⟩, rfl, rfl, rfl, rfl, ⟨_, _, _, _, rfl, hK 204 _ rfl, rfl, rfl⟩, rfl, rfl, rfl⟩
  refine law_fnC hf (fun v => rfl) (by rfl) ?_ hA hfr S0; clear hf
  dsimp only
  generalize (fun _ => none : Mu) = mu
  have sl : sizeLine = 16777216 := rfl
  with_reducible refine ExSC.split 8 (fun m' mu' => ∃ xp lp xt lt rs, Rows9 rs ∧ SubL [("plain", .ref xp), ("turned", .ref xt), ("want", .str (S (wantR rs rs.length ++ [13, 10]))), ("refused", .bool false)] m' ∧ Hd c 184 mu' xp lp (rowsR id rs rs.length) ∧ Hd c 184 mu' xt lt (rowsR oct rs rs.length)) ?_ ?_ <;> dsimp only [List.take, List.drop]
  · repeat' walk_at "e"
    refine ⟨by simp [sl], fun a0 ha0 => ?_⟩
    repeat' walk_at "e"
    refine ⟨by simp [sl], fun RL hRL => ?_⟩
    rw [show ([PV.str (Str.ofString "")] : List PV) = ([[]] : List (List Nat)).map txPV from rfl]
    have N0 : NestG (upd (upd mu a0 (.list (([[]] : List (List Nat)).map txPV))) RL (.list [.ref a0])) RL [a0] [[[]]] := by
      have hne : a0 ≠ RL := fun q => by rw [← q] at hRL; simp at hRL
      refine ⟨by simp, rfl, fun j a ks h1 h2 => ?_, by simp, fun a ha => by rw [List.mem_singleton.mp ha]; exact hne⟩
      match j with
      | 0 => simp at h1 h2; subst h1 h2; rw [upd_ne _ _ hne]; simp
      | j + 1 => simp at h1
    generalize upd (upd mu a0 (.list (([[]] : List (List Nat)).map txPV))) RL (.list [.ref a0]) = mu1 at N0
    clear hRL ha0
    refine AsgT.name (by with_unfolding_all rfl) ?_
    refine ExS.for (okT := anyT) trivial (EvE.loc (by with_unfolding_all rfl) (by with_unfolding_all rfl) ⟨_, _, _, IterOf.base hl, ?_⟩ (by with_unfolding_all decide))
    refine LoopE.inv (fun i m' mu' => SubL [("rows", .ref RL)] m' ∧ ∃ as a cs ks t, NestG mu' RL (as ++ [a]) (cs ++ [ks ++ [t]]) ∧ (∀ r ∈ cs ++ [ks ++ [t]], R9 r i) ∧ cs.length ≤ i) (fun _ _ _ _ => trivial) ⟨⟨rfl, trivial⟩, [], a0, [], [], [], N0, by simp; exact R9.one 0, by simp⟩ ?_ ?_
    · clear N0
      rintro i x m' mu' hx ⟨hs, as, a, cs, ks, t, N, hR, hlen⟩
      rw [List.getElem?_map] at hx
      obtain ⟨z, hz, rfl⟩ := Option.map_eq_some_iff.mp hx
      have hil : i < 63 := by have := (List.getElem?_eq_some_iff.mp hz).1; omega
      have hNl := N.len
      have hal : as.length = cs.length := by simpa using hNl
      have kC : mu' RL = some (.list (as.map .ref ++ [.ref a])) := by have := N.cl; rw [List.map_append] at this; exact this
      have kN : mu' a = some (.list (ks.map txPV ++ [txPV t])) := by have := N.last; rw [List.map_append] at this; exact this
      have hRl := hR (ks ++ [t]) (by simp)
      have htl := (hRl.2.2 t (by simp)).1
      have hkl := hRl.2.1
      refine AsgT.weak hs ?_
      refine AsgT.name (by with_unfolding_all rfl) ?_
      clear hs
      repeat' walk_at "e"
      refine ifd (fun q => ?_) (fun q => ?_)
      · refine ExS.seq (Ex1.augLast (EvE.sub ?_) (by with_unfolding_all (intros; rfl)))
        repeat' walk_at "e"
        refine OpSub.lastN (.inl kC) (by rfl) ?_ (by with_unfolding_all (intro _ _; exact ⟨_, rfl⟩))
        repeat' walk_at "e"
        refine ⟨a, ks.map txPV, txPV t, rfl, rfl, kN, by simp at hkl ⊢; omega, ?_⟩
        repeat' walk_at "e"
        refine sign09_ct hK fun ch hch => ?_
        refine OpI.addS (by rw [S_length, S_length, sl]; simp; omega) ⟨kN, ?_⟩
        rw [S_append, show ks.map txPV ++ [PV.str (S (t ++ [ch]))] = (ks ++ [t ++ [ch]]).map txPV from by simp [txPV]]
        refine SeqP.next ?_
        repeat' walk_at "e"
        refine ⟨⟨rfl, trivial⟩, as, a, cs, ks, t ++ [ch], N.setLast _, fun r hr => ?_, by omega⟩
        rcases List.mem_append.mp hr with w | w
        · exact (hR r (by simp [w])).mono (by omega)
        · rw [List.mem_singleton.mp w]; exact hRl.sign hch
      · repeat' walk_at "e"
        refine ifd (fun q2 => ?_) (fun q2 => ?_)
        · refine ExS.expr ?_ (by with_unfolding_all (intro _; rfl))
          refine EvE.appendC (EvE.loc (by with_unfolding_all rfl) (by with_unfolding_all rfl) ⟨RL, _, rfl, N.cl, ?_⟩ (by with_unfolding_all decide)) (by with_unfolding_all (intro _; rfl)) (by with_unfolding_all (intro _; rfl)) (by with_unfolding_all rfl) (by with_unfolding_all rfl)
          repeat' walk_at "e"
          refine ⟨by simp [sl], fun D hD => ⟨_, sub_upd hD _ _ N.cl, by simp [sl]; omega, rfl, ?_⟩⟩
          rw [show (as ++ [a]).map PV.ref ++ [.ref D] = (as ++ [a] ++ [D]).map .ref from by simp, show ([PV.str (Str.ofString "")] : List PV) = ([[]] : List (List Nat)).map txPV from rfl]
          have N1 := N.push hD [[]]
          repeat' walk_at "e"
          refine ⟨⟨rfl, trivial⟩, as ++ [a], D, cs ++ [ks ++ [t]], [], [], N1, fun r hr => ?_, by simp; omega⟩
          rcases List.mem_append.mp hr with w | w
          · exact (hR r w).mono (by omega)
          · rw [List.mem_singleton.mp w]; exact R9.one _
        · refine ExS.expr ?_ (by with_unfolding_all (intro _; rfl))
          refine EvE.appendC (EvE.sub ?_) (by with_unfolding_all (intro _; rfl)) (by with_unfolding_all (intro _; rfl)) (by with_unfolding_all rfl) (by with_unfolding_all rfl)
          repeat' walk_at "e"
          refine OpSub.lastN (.inl kC) (by rfl) ?_ (by with_unfolding_all (intro _ _; exact ⟨_, rfl⟩))
          refine ⟨a, _, rfl, kN, ?_⟩
          repeat' walk_at "e"
          refine ⟨_, kN, by simp at hkl; simp [sl]; omega, rfl, ?_⟩
          rw [show ks.map txPV ++ [txPV t] ++ [PV.str (Str.ofString "")] = (ks ++ [t] ++ [[]]).map txPV from by simp [txPV]; rfl]
          repeat' walk_at "e"
          refine ⟨⟨rfl, trivial⟩, as, a, cs, ks ++ [t], [], N.setLast _, fun r hr => ?_, by omega⟩
          rcases List.mem_append.mp hr with w | w
          · exact (hR r (by simp [w])).mono (by omega)
          · rw [List.mem_singleton.mp w]; exact hRl.more
    · clear N0
      rintro m' mu' ⟨hs, as, a, cs, ks, t, N, hR, hlen⟩
      rw [List.length_map] at hR hlen
      refine ExS.nil (SeqP.next (ExS.weakL hs ?_))
      clear hs
      have hrs : Rows9 (cs ++ [ks ++ [t]]) := ⟨by simp; omega, fun r hr => (hR r hr).row (by omega)⟩
      generalize cs ++ [ks ++ [t]] = rs at N hrs
      generalize as ++ [a] = as at N
      clear hR hlen
      refine ExS.asg ?_ (by with_unfolding_all (intro _ _; rfl)) (by with_unfolding_all (intro _; rfl)) (by with_unfolding_all (intro _; rfl))
      repeat' walk_at "e"
      refine make009_ct hK fun xp lp mu1 _ hlp _ s1 Hp => ?_
      have N1 := N.sub s1
      have pR : lp ≠ RL := (ne_sn N.cl hlp).symm
      have pa : lp ∉ as := fun q => N.has q hlp
      refine AsgT.name (by with_unfolding_all rfl) ?_
      refine ExS.asg ?_ (by with_unfolding_all (intro _ _; rfl)) (by with_unfolding_all (intro _; rfl)) (by with_unfolding_all (intro _; rfl))
      repeat' walk_at "e"
      refine make009_ct hK fun xt lt mu2 _ hlt _ s2 Ht => ?_
      have N2 := N1.sub s2
      have tR : lt ≠ RL := (ne_sn N1.cl hlt).symm
      have ta : lt ∉ as := fun q => N1.has q hlt
      have pt : lp ≠ lt := ne_sn Hp.list hlt
      have Hp2 := Hp.sub s2
      clear Hp s1 s2 N N1 hlp hlt
      refine AsgT.name (by with_unfolding_all rfl) ?_
      have F0 : F09 c (dropM mu2 RL) xp lp xt lt as rs (rowsR id rs 0) (rowsR oct rs 0) := ⟨Hp2.dropM N2.cl pR, Ht.dropM N2.cl tR, fun j a ks h1 h2 => by rw [dropM_ne (N2.ne a (List.mem_of_getElem? h1))]; exact N2.at_ j a ks h1 h2, pt, pa, ta⟩
      have hasl := N2.len
      rw [dropM_upd N2.cl]
      have hmR := dropM_self mu2 RL
      generalize dropM mu2 RL = mu3 at F0 hmR
      clear N2 Hp2 Ht
      refine ExS.asg (EvE.str (AsgT.name (by with_unfolding_all rfl) ?_)) (by with_unfolding_all (intro _ _; rfl)) (by with_unfolding_all (intro _; rfl)) (by with_unfolding_all (intro _; rfl))
      refine ExS.for (okT := tupT) tupT.mk ?_
      repeat' walk_at "e"
      refine CallV.enum (xs := as.map .ref) (by simp) fun e it oi he hi hei hoi => ⟨_, _, _, IterOf.enum hmR hi he hei hoi, ?_⟩
      refine LoopE.inv (fun i m' mu' => SubL [("plain", .ref xp), ("turned", .ref xt), ("want", .str (S (wantR rs i)))] m' ∧ F09 c mu' xp lp xt lt as rs (rowsR id rs i) (rowsR oct rs i)) (fun _ _ _ _ => trivial) ⟨⟨rfl, rfl, rfl, trivial⟩, F0⟩ ?_ ?_
      · clear F0 he hi hei hoi
        rintro i x m' mu' hx ⟨hs, F⟩
        obtain ⟨d, hd, rfl⟩ := enumL_get hx
        rw [List.getElem?_map] at hd
        obtain ⟨a, ha, rfl⟩ := Option.map_eq_some_iff.mp hd
        have hil : i < rs.length := by rw [← hasl]; exact (List.getElem?_eq_some_iff.mp ha).1
        have hi64 : i < 64 := by have := hrs.len; omega
        have hrow := hrs.at hil
        have kA := F.r i a _ ha (List.getElem?_eq_getElem hil)
        have eD : rs[i] = rs.getD i [] := by rw [List.getD_eq_getElem?_getD, List.getElem?_eq_getElem hil]; rfl
        rw [eD] at kA
        have hRp := rowsR_succ id rs i
        have hRt := rowsR_succ oct rs i
        have hW := wantR_succ rs i
        have hWl := wantR_len hrs (k := i) (by omega)
        generalize hr : rs.getD i [] = r at kA hrow hRp hRt hW
        have hrl := hrow.len
        have hr0 : 0 < r.length := List.length_pos_iff.mpr hrow.ne
        have dl := (dig_chars i hi64).2
        refine AsgT.weak hs ?_
        clear hs
        refine AsgT.tuple ?_ (by with_unfolding_all rfl) (by with_unfolding_all (intro _; exact ⟨rfl, rfl⟩))
        repeat' walk_at "s"
        obtain ⟨fd, body, hfn⟩ := fn09_add hK
        have cH : Str.ofString "H" = S [72] := by decide +kernel
        have cp : Str.ofString "p" = S [112] := by decide +kernel
        have g0 : ∀ k, k < r.length → (r.map txPV)[((k : Nat) : Int).toNat]? = some (.str (S (r.getD k []))) := fun k hk => txPV_get hk
        have hrange : rangeL 1 ((((r.map txPV).length : Nat)) : Int) 1 = (List.range (r.length - 1)).map fun (i : Nat) => PV.int (1 + (i : Int)) := by
          have e : (((r.map txPV).length : Nat) : Int) = 1 + ((r.length - 1 : Nat) : Int) := by simp; omega
          rw [e]; exact rangeL_up
        have owOk : ∀ {f : List Nat → List Nat}, fOk f → okO (some (f (r.getD 0 []))) = true := fun {f} hf => by
          have h1 := hf _ (hrow.at 0).1 (hrow.at 0).2
          exact okV_of h1.2 (by have := h1.1; omega)
        have hls := hrs.len
        refine EvE.methodKw ?_ (by with_unfolding_all (intro _; rfl)) (by with_unfolding_all rfl)
        refine EvE.loc (by with_unfolding_all rfl) (by with_unfolding_all rfl) ⟨181, fd, body, BMeth.hd hK F.p (by with_unfolding_all rfl) (by with_unfolding_all rfl) (by with_unfolding_all rfl) (by with_unfolding_all rfl) (by with_unfolding_all rfl) (by with_unfolding_all rfl) (by decide) (by decide), hfn, ?_⟩ (by with_unfolding_all decide)
        repeat' walk_at "e"
        refine CallV.strInt (by omega) ?_
        rw [cH]
        refine OpB.addS (by rw [S_length, S_length, sl]; simp; omega) ?_
        rw [S_append, show [72] ++ dig i = 72 :: dig i from rfl]
        repeat' walk_at "e"
        refine OpSub.listN (.inl kA) (by omega) (by omega) (g0 0 hr0) ?_ (by with_unfolding_all (intro _ _; exact ⟨_, rfl⟩))
        repeat' walk_at "e"
        refine EvE.dictcomp (okT := anyT) trivial (by with_unfolding_all rfl) ?_ (by with_unfolding_all (intro _ _; rfl))
        repeat' walk_at "e"
        refine CallV.lenL kA (by simp; omega) ?_
        repeat' walk_at "e"
        refine CallV.range2 fun rr hrr => ⟨_, _, _, IterOf.range hrr (small_up (by omega) (by simp; omega)), ?_⟩
        rw [hrange]
        refine CompD.all (m0 := [("row", .ref a)]) (fun _ => true) (parG id r) trivial _ _ _ (by simp [sl]; omega) ⟨rfl, trivial⟩ ?_ (fun y hy => ?_) ?_
        · rw [parG_all]; exact kw_nodup (kw09_names hrl)
        · obtain ⟨k, hk, rfl⟩ := List.mem_map.mp hy
          have hk := List.mem_range.mp hk
          have ek : (1 + (k : Int)) = ((k + 1 : Nat) : Int) := by omega
          rw [ek]
          repeat' walk_at "e"
          refine ⟨rfl, ⟨rfl, trivial⟩, IfsE.nil ⟨rfl, rfl, fun _ => ?_⟩⟩
          repeat' walk_at "e"
          refine CallV.strInt (by omega) ?_
          rw [cp]
          refine OpB.addS (by rw [S_length, S_length, sl]; have := (dig_chars (k + 1) (by omega)).2; simp; omega) ?_
          rw [S_append]
          refine ⟨rfl, rfl, ?_⟩
          repeat' walk_at "e"
          refine OpSub.listN (.inl kA) (by omega) (by omega) (g0 (k + 1) (by omega)) ?_ (by with_unfolding_all (intro _ _; exact ⟨_, rfl⟩))
          exact ⟨rfl, rfl⟩
        clear hrr
        intro DD hDD hDS
        rw [parG_all]
        refine ⟨DD, kwPV (kw09 id r), _, rfl, upd_same .., hDS, by simp [kwPV, kw09, sl]; omega, sub_upd hDD, ?_⟩
        refine addK09_ct (n := n + 9) (own := some (id (r.getD 0 []))) hK F.p (hn_ok i hi64).1 (owOk fOk_id) (fun p hp => (kw09_ok fOk_id hrow hp).1) (kw09_names hrl) (fun p hp => by obtain ⟨_, _, _, j, _, e⟩ := kw09_ok fOk_id hrow hp; rw [e]; exact ownK_pn j) (Nat.le_trans (row09_len fOk_id hrow i) (by decide)) (by simp [kw09]; omega) (by rw [rowsR_len]; omega) ⟨rfl, ?_⟩
        rw [show rowsR id rs i ++ [(72 :: dig i, rowL (some (id (r.getD 0 []))) (kw09 id r))] = rowsR id rs (i + 1) from hRp.symm]
        have F1 := F.setP (rowsR_ok fOk_id hrs (k := i + 1) (by omega)) (by rw [rowsR_len]; omega)
        replace kA := F1.r i a _ ha (List.getElem?_eq_getElem hil)
        rw [eD, hr] at kA
        generalize upd mu' lp _ = mu1 at F1 kA
        clear F
        have F := F1
        clear F1
        refine ExS.expr ?_ (by with_unfolding_all (intro _; rfl))
        refine EvE.methodKw ?_ (by with_unfolding_all (intro _; rfl)) (by with_unfolding_all rfl)
        refine EvE.loc (by with_unfolding_all rfl) (by with_unfolding_all rfl) ⟨181, fd, body, BMeth.hd hK F.t (by with_unfolding_all rfl) (by with_unfolding_all rfl) (by with_unfolding_all rfl) (by with_unfolding_all rfl) (by with_unfolding_all rfl) (by with_unfolding_all rfl) (by decide) (by decide), hfn, ?_⟩ (by with_unfolding_all decide)
        repeat' walk_at "e"
        refine CallV.strInt (by omega) ?_
        refine OpB.addS (by rw [S_length, S_length, sl]; simp; omega) ?_
        rw [S_append, show [72] ++ dig i = 72 :: dig i from rfl]
        repeat' walk_at "e"
        refine OpSub.listN (.inl kA) (by omega) (by omega) (g0 0 hr0) ?_ (by with_unfolding_all (intro _ _; exact ⟨_, rfl⟩))
        repeat' walk_at "e"
        refine oct09_ct hK (fun ch hc => .inl ((hrow.at 0).2 ch hc)) (by have := (hrow.at 0).1; omega) ?_
        repeat' walk_at "e"
        refine EvE.dictcomp (okT := anyT) trivial (by with_unfolding_all rfl) ?_ (by with_unfolding_all (intro _ _; rfl))
        repeat' walk_at "e"
        refine CallV.lenL kA (by simp; omega) ?_
        repeat' walk_at "e"
        refine CallV.range2 fun rr hrr => ⟨_, _, _, IterOf.range hrr (small_up (by omega) (by simp; omega)), ?_⟩
        rw [hrange]
        refine CompD.all (m0 := [("row", .ref a)]) (fun _ => true) (parG oct r) trivial _ _ _ (by simp [sl]; omega) ⟨rfl, trivial⟩ ?_ (fun y hy => ?_) ?_
        · rw [parG_all]; exact kw_nodup (kw09_names hrl)
        · obtain ⟨k, hk, rfl⟩ := List.mem_map.mp hy
          have hk := List.mem_range.mp hk
          have ek : (1 + (k : Int)) = ((k + 1 : Nat) : Int) := by omega
          rw [ek]
          repeat' walk_at "e"
          refine ⟨rfl, ⟨rfl, trivial⟩, IfsE.nil ⟨rfl, rfl, fun _ => ?_⟩⟩
          repeat' walk_at "e"
          refine CallV.strInt (by omega) ?_
          rw [cp]
          refine OpB.addS (by rw [S_length, S_length, sl]; have := (dig_chars (k + 1) (by omega)).2; simp; omega) ?_
          rw [S_append]
          refine ⟨rfl, rfl, ?_⟩
          repeat' walk_at "e"
          refine OpSub.listN (.inl kA) (by omega) (by omega) (g0 (k + 1) (by omega)) ?_ (by with_unfolding_all (intro _ _; exact ⟨_, rfl⟩))
          repeat' walk_at "e"
          refine oct09_ct hK (fun ch hc => .inl ((hrow.at (k + 1)).2 ch hc)) (by have := (hrow.at (k + 1)).1; omega) ?_
          exact ⟨rfl, rfl⟩
        clear hrr
        intro DD hDD hDS
        rw [parG_all]
        refine ⟨DD, kwPV (kw09 oct r), _, rfl, upd_same .., hDS, by simp [kwPV, kw09, sl]; omega, sub_upd hDD, ?_⟩
        refine addK09_ct (n := n + 9) (own := some (oct (r.getD 0 []))) hK F.t (hn_ok i hi64).1 (owOk fOk_oct) (fun p hp => (kw09_ok fOk_oct hrow hp).1) (kw09_names hrl) (fun p hp => by obtain ⟨_, _, _, j, _, e⟩ := kw09_ok fOk_oct hrow hp; rw [e]; exact ownK_pn j) (Nat.le_trans (row09_len fOk_oct hrow i) (by decide)) (by simp [kw09]; omega) (by rw [rowsR_len]; omega) ⟨rfl, ?_⟩
        rw [show rowsR oct rs i ++ [(72 :: dig i, rowL (some (oct (r.getD 0 []))) (kw09 oct r))] = rowsR oct rs (i + 1) from hRt.symm]
        have F1 := F.setT (rowsR_ok fOk_oct hrs (k := i + 1) (by omega)) (by rw [rowsR_len]; omega)
        replace kA := F1.r i a _ ha (List.getElem?_eq_getElem hil)
        rw [eD, hr] at kA
        generalize upd mu1 lt _ = mu2 at F1 kA
        clear F
        have F := F1
        clear F1
        -- want
        have h0l := (hrow.at 0).1
        repeat' walk_at "e"
        refine CallV.strInt (by omega) ?_
        refine OpB.addS (by rw [S_length, S_length, sl]; simp only [List.length_append, List.length_cons, List.length_nil]; omega) ?_
        rw [S_append]
        repeat' walk_at "e"
        rw [show Str.ofString ": " = S [58, 32] from by decide +kernel]
        refine OpB.addS (by rw [S_length, S_length, sl]; simp only [List.length_append, List.length_cons, List.length_nil]; omega) ?_
        rw [S_append]
        repeat' walk_at "e"
        refine OpSub.listN (.inl kA) (by omega) (by omega) (g0 0 hr0) ?_ (by with_unfolding_all (intro _ _; exact ⟨_, rfl⟩))
        refine OpB.addS (by rw [S_length, S_length, sl]; simp only [List.length_append, List.length_cons, List.length_nil]; omega) ?_
        rw [S_append, ← want09_zero i r]
        have hw0 := want09_len hrow (i := i) (k := 0) hi64 (by omega)
        refine OpI.addS (by rw [S_length, S_length, sl]; omega) ?_
        rw [S_append]
        refine ExS.for (okT := anyT) trivial ?_
        repeat' walk_at "e"
        refine CallV.lenL kA (by simp; omega) ?_
        repeat' walk_at "e"
        refine CallV.range2 fun rr hrr => ⟨_, _, _, IterOf.range hrr (small_up (by omega) (by simp; omega)), ?_⟩
        rw [hrange]
        refine LoopE.inv (fun k m' mu' => mu' = mu2 ∧ SubL [("plain", .ref xp), ("turned", .ref xt), ("row", .ref a), ("want", .str (S (wantR rs i ++ want09 i r k)))] m') (fun _ _ _ _ => trivial) ⟨rfl, rfl, rfl, rfl, rfl, trivial⟩ ?_ ?_
        · clear hrr
          rintro k y m' mu' hy ⟨rfl, hs⟩
          rw [List.getElem?_map] at hy
          obtain ⟨k', hk', rfl⟩ := Option.map_eq_some_iff.mp hy
          have hk2 : k' = k ∧ k < r.length - 1 := by
            obtain ⟨q1, q2⟩ := List.getElem?_eq_some_iff.mp hk'
            rw [List.length_range] at q1
            rw [List.getElem_range] at q2
            exact ⟨q2.symm, q1⟩
          obtain ⟨rfl, hk⟩ := hk2
          have ek : (1 + (k' : Int)) = ((k' + 1 : Nat) : Int) := by omega
          rw [ek]
          have hwk := want09_len hrow (i := i) (k := k') hi64 (by omega)
          have hpk := par09_len hrow (k := k') (by omega)
          rw [want09_succ, ← List.append_assoc]
          have hTl : (wantR rs i ++ want09 i r k').length ≤ 900000 := by rw [List.length_append]; omega
          generalize wantR rs i ++ want09 i r k' = T at hTl hs
          have hvl := hrow.at (k' + 1)
          have dk := (dig_chars (k' + 1) (by omega)).2
          have hel := escL_length (r.getD (k' + 1) [])
          have hpar : par09 r k' = [59, 32, 112] ++ dig (k' + 1) ++ (if r.getD (k' + 1) [] = [] then [] else [61, 34] ++ escL (r.getD (k' + 1) []) ++ [34]) := rfl
          have g1 := g0 (k' + 1) (by omega)
          generalize r.getD (k' + 1) [] = v at hvl hel hpar g1
          rw [hpar]
          refine AsgT.weak hs ?_
          clear hs
          refine AsgT.name (by with_unfolding_all rfl) ?_
          repeat' walk_at "s"
          refine CallV.strInt (by omega) ?_
          rw [show Str.ofString "; p" = S [59, 32, 112] from by decide +kernel]
          refine OpB.addS (by rw [S_length, S_length, sl]; simp; omega) ?_
          rw [S_append]
          refine OpI.addS (by rw [S_length, S_length, sl]; simp; omega) ?_
          rw [S_append]
          refine ExS.if ?_
          repeat' walk_at "e"
          refine OpSub.listN (.inl kA) (by omega) (by omega) g1 ?_ (by with_unfolding_all (intro _ _; exact ⟨_, rfl⟩))
          repeat' walk_at "e"
          refine ifd (fun q => ?_) (fun q => ?_)
          · have q' : v ≠ [] := fun e => q (by rw [e]; rfl)
            rw [if_neg q']
            repeat' walk_at "e"
            refine EvE.methB (EvE.str ⟨_, Meth.str PySem.F.slot_str_join (by kernel_rfl), ?_⟩) (by with_unfolding_all (intro _; rfl)) (by with_unfolding_all rfl)
            refine EvA.cons (EvE.listcomp (okT := anyT) trivial (by with_unfolding_all rfl) (EvE.sub ?_) (by with_unfolding_all (intro _ _; rfl))) (by with_unfolding_all (intro _; rfl))
            repeat' walk_at "e"
            refine OpSub.listN (.inl kA) (by omega) (by omega) g1 ⟨_, _, _, IterOf.str, ?_⟩ (by with_unfolding_all (intro _ _; exact ⟨_, rfl⟩))
            have c34 : ("\"" : Str) = S [34] := by decide +kernel
            have c92 : Str.mk #[(92 : Int).toNat] = S [92] := rfl
            refine CompE.all (m0 := []) (fun _ => true) escG trivial _ _ _ (by simp; omega) trivial (fun x hx => ?_) ?_
            · obtain ⟨ch, _, rfl⟩ := List.mem_map.mp hx
              repeat' walk_at "e"
              refine ⟨rfl, trivial, IfsE.nil ⟨rfl, rfl, fun _ => ?_⟩⟩
              have eg : escG (PV.str (Str.mk #[ch])) = if Str.mk #[ch] = S [34] ∨ Str.mk #[ch] = S [92] then PV.str (S [92] ++ Str.mk #[ch]) else PV.str (Str.mk #[ch]) := rfl
              have body : ∀ (b : Bool), (b = true ↔ (Str.mk #[ch] = S [34] ∨ Str.mk #[ch] = S [92])) → (if b = true then PV.str (S [92] ++ Str.mk #[ch]) else PV.str (Str.mk #[ch])) = escG (PV.str (Str.mk #[ch])) := fun b hb => by
                rw [eg]; by_cases hh : b = true
                · rw [if_pos hh, if_pos (hb.mp hh)]
                · rw [if_neg hh, if_neg (fun z => hh (hb.mpr z))]
              refine EvE.ifexp (Tst.det (b := decide (Str.mk #[ch] = S [34] ∨ Str.mk #[ch] = S [92])) ?_ ?_)
              · repeat' walk_at "e"
                rw [c34]
                refine ifd (fun z => ⟨by simp [z], rfl⟩) (fun z => ?_)
                repeat' walk_at "e"
                refine CallV.chr (by decide) ?_
                rw [c92]
                repeat' walk_at "e"
                refine ifb (fun w => ?_) (fun w => ?_)
                · have := of_decide_eq_true w
                  exact ⟨by simp [this], rfl⟩
                · have w' := of_decide_eq_false w
                  repeat' walk_at "e"
                  exact ⟨by simp [z, w'], rfl⟩
              · refine ifd (fun z => ?_) (fun z => ?_)
                · repeat' walk_at "e"
                  refine CallV.chr (by decide) ?_
                  rw [c92]
                  repeat' walk_at "e"
                  refine OpB.addS (by show 1 + 1 ≤ 2 ^ 24; decide) ⟨?_, rfl⟩
                  rw [eg, if_pos z]
                · repeat' walk_at "e"
                  exact ⟨by rw [eg, if_neg z], rfl⟩
            intro D hD
            refine EvA.nil ?_
            rw [escG_all, show Str.ofString "" = S [] from rfl]
            refine CallV.joinTmp hD (joinOk_le (k := 2) ?_ (by simp; omega)) ?_
            · intro x hx
              obtain ⟨y, hy, rfl⟩ := List.mem_map.mp hx
              obtain ⟨ch, _, rfl⟩ := List.mem_map.mp hy
              split <;> simp [Str.length]
            rw [join_empty, esc_flat]
            rw [show Str.ofString "=\"" = S [61, 34] from by decide +kernel]
            refine OpB.addS (by rw [S_length, S_length, sl]; simp only [List.length_cons, List.length_nil]; omega) ?_
            rw [S_append]
            repeat' walk_at "e"
            rw [show Str.ofString "\"" = S [34] from by decide +kernel]
            refine OpB.addS (by rw [S_length, S_length, sl]; simp only [List.length_append, List.length_cons, List.length_nil]; omega) ?_
            rw [S_append]
            refine OpI.addS (by rw [S_length, S_length, sl]; simp only [List.length_append, List.length_cons, List.length_nil]; omega) ?_
            rw [S_append]
            repeat' walk_at "e"
            exact ⟨rfl, rfl, rfl, rfl, congrArg (fun z => some (PV.str (S z))) (List.append_assoc T _ _), trivial⟩
          · have q' : v = [] := Decidable.of_not_not fun e => q (fun z => e (S_inj.mp (z.trans rfl)))
            rw [if_pos q', List.append_nil]
            repeat' walk_at "e"
            exact ⟨rfl, rfl, rfl, rfl, rfl, trivial⟩
        · clear hrr
          rintro m' mu' ⟨rfl, hs⟩
          rw [show ((List.range (r.length - 1)).map fun (i : Nat) => PV.int (1 + (i : Int))).length = r.length - 1 from by simp] at hs
          have hwk := want09_len hrow (i := i) (k := r.length - 1) hi64 (by omega)
          refine ExS.nil (SeqP.next (ExS.weakL hs ?_))
          clear hs
          repeat' walk_at "e"
          rw [show Str.ofString "\r\n" = S [13, 10] from by decide +kernel]
          refine OpI.addS (by rw [S_length, S_length, sl]; simp only [List.length_append, List.length_cons, List.length_nil]; omega) ?_
          rw [S_append, ← hW]
          repeat' walk_at "e"
          exact ⟨⟨rfl, rfl, rfl, trivial⟩, F⟩
      · clear F0 he hi hei hoi
        rintro m' mu' ⟨hs, F⟩
        rw [show (enumL (as.map PV.ref)).length = rs.length from by simp [enumL_length, hasl]] at hs F
        have hWl := wantR_len hrs (k := rs.length) (by omega)
        have hls := hrs.len
        refine ExS.nil (SeqP.next (ExS.weakL hs ?_))
        clear hs
        repeat' walk_at "e"
        rw [show Str.ofString "\r\n" = S [13, 10] from by decide +kernel]
        refine OpI.addS (by rw [S_length, S_length, sl]; simp only [List.length_append, List.length_cons, List.length_nil]; omega) ?_
        rw [S_append]
        repeat' walk_at "e"
        exact ⟨rfl, xp, lp, xt, lt, rs, hrs, ⟨rfl, rfl, rfl, rfl, trivial⟩, F.p, F.t⟩
  · rintro m' mu' ⟨xp, lp, xt, lt, rs, hR, hs, Hp, Ht⟩
    refine ExSC.weak hs ?_
    clear hs
    have hls := hR.len
    have hTp := textR_id hR (k := rs.length) (by omega)
    have hTo := textR_oct hR (k := rs.length) (by omega)
    rw [hTp] at hTo
    have hWl : (wantR rs rs.length ++ [13, 10]).length ≤ 900000 := by
      have := wantR_len hR (k := rs.length) (by omega)
      rw [List.length_append]; show _ + 2 ≤ _; omega
    have hWs : ∀ ch ∈ wantR rs rs.length ++ [13, 10], okC ch ∨ ch < 128 := fun ch hc => wantR_sg hR (by omega) hc
    generalize wantR rs rs.length ++ [13, 10] = W at hTp hTo hWl hWs
    have hWu : ∀ ch ∈ W, ch < 1114112 := fun ch hc => by
      rcases hWs ch hc with q | q
      · exact q.1.2
      · omega
    have hol := oct_len W
    have zp := rowsR_z fOk_id hR (k := rs.length) (by omega)
    have zo := rowsR_z fOk_oct hR (k := rs.length) (by omega)
    have lp' : (rowsR id rs rs.length).length ≤ 100 := by rw [rowsR_len]; omega
    have lo' : (rowsR oct rs rs.length).length ≤ 100 := by rw [rowsR_len]; omega
    refine ExSC.mid (fun m' mu2 => SubL [("plain", .ref xp), ("turned", .ref xt), ("want", .str (S W)), ("refused", .bool (W.any fun ch => decide (255 < ch)))] m' ∧ Hd c 184 mu2 xp lp (rowsR id rs rs.length) ∧ Hd c 184 mu2 xt lt (rowsR oct rs rs.length)) ?_ ?_
    · cases hb : W.any fun ch => decide (255 < ch) with
      | true =>
        refine Ex1C.tryRaisedG (RaG.callTy (by with_unfolding_all rfl) (mg_none_of (by assumption) (Cx.g _) (by with_unfolding_all rfl)) (by decide) boot_bytes09 ?_ (by with_unfolding_all decide) (by with_unfolding_all rfl) (by with_unfolding_all (intro _; rfl))) (by with_unfolding_all (intro _; rfl)) (by with_unfolding_all rfl) (mg_none_of (by assumption) (Cx.g _) (by with_unfolding_all rfl)) (by decide) boot_Uee09 (by decide) isExc_Uee09 notTuple_Uee09 uee_new.sub (by with_unfolding_all rfl)
        repeat' walk_at "e"
        intro env
        refine CallX.bytesObj (instBytes09 hK Hp) (bytesX09_ct (n := n + 5) hK Hp lp' zp ?_ (by rw [hTp]; omega) ⟨rfl, ⟨rfl, rfl, rfl, rfl, trivial⟩, Hp, Ht⟩)
        rw [hTp]
        obtain ⟨ch, h1, h2⟩ := List.any_eq_true.mp hb
        exact ⟨ch, h1, by have := of_decide_eq_true h2; omega⟩
      | false =>
        refine Ex1C.of (Ex1.tryOk (ExS.expr (EvE.callTy (by with_unfolding_all rfl) (mg_none_of (by assumption) (Cx.g _) (by with_unfolding_all rfl)) (by decide) boot_bytes09 ?_ (by with_unfolding_all decide) (by with_unfolding_all rfl)) (by with_unfolding_all (intro _; rfl))))
        repeat' walk_at "e"
        refine CallV.bytesObj (instBytes09 hK Hp) (bytes09_ct (n := n + 5) hK Hp lp' zp ?_ (by rw [hTp]; omega) ⟨_, rfl, rfl, ?_⟩)
        · rw [hTp]
          intro ch hc
          have := List.any_eq_false.mp hb ch hc
          simp at this; omega
        · repeat' walk_at "e"
          exact ⟨rfl, ⟨rfl, rfl, rfl, rfl, trivial⟩, Hp, Ht⟩
    clear Hp Ht
    rintro m2 mu2 ⟨hs, Hp, Ht⟩
    refine ExSC.of (ExS.weakL hs ?_)
    clear hs
    -- refused
    refine ExS.if (Tst.cmp ?_ (by with_unfolding_all rfl))
    repeat' walk_at "s"
    refine EvE.listcomp (okT := anyT) trivial (by with_unfolding_all rfl) (EvE.loc (by with_unfolding_all rfl) (by with_unfolding_all rfl) ⟨_, _, _, IterOf.str, ?_⟩ (by with_unfolding_all decide)) (by with_unfolding_all (intro _ _; rfl))
    rw [S_cps]
    refine CompE.all (m0 := []) bigG (fun d => d) trivial _ _ _ (by simp [sl]; omega) trivial (fun y hy => ?_) ?_
    · obtain ⟨ch, hc, rfl⟩ := List.mem_map.mp hy
      have e : bigG (.str ⟨#[ch]⟩) = decide (255 < ch) := by simp [bigG]
      repeat' walk_at "e"
      refine ⟨rfl, trivial, IfsE.one ?_⟩
      refine Tst.cmp ?_ (by with_unfolding_all rfl)
      refine EvE.callBi (by with_unfolding_all rfl) (mg_none_of (by assumption) (Cx.g _) (by with_unfolding_all rfl)) (by with_unfolding_all decide) boot_ord09 ?_ (by with_unfolding_all decide) (by with_unfolding_all rfl)
      repeat' walk_at "e"
      refine CallV.ord ?_
      repeat' walk_at "e"
      refine ⟨by rw [e]; simp; omega, rfl, fun _ => ?_⟩
      repeat' walk_at "e"
      exact ⟨rfl, rfl⟩
    intro D hD
    rw [bigG_all]
    have sD := sub_upd (o := .list (((W.filter fun ch => decide (255 < ch)).map fun ch => [ch]).map fun v => .str (S v))) hD
    refine EvE.list (EvA.nil ⟨by simp, fun D2 hD2 => ?_⟩)
    have sD2 := sub_upd (o := .list []) hD2
    refine OpC.neG (D := txtD ((W.filter fun ch => decide (255 < ch)).map fun ch => [ch])) (D' := .list []) (txtD_is (.inl (sD2 _ _ (upd_same ..)))) ⟨D2, [], rfl, .inl (upd_same ..), rfl⟩ (txtD_lay fun v hv ch hc => ?_) rfl (by omega) (by have := txtD_depth ((W.filter fun ch => decide (255 < ch)).map fun ch => [ch]); omega) ?_
    · obtain ⟨x, hx, rfl⟩ := List.mem_map.mp hv
      rw [List.mem_singleton.mp hc]
      exact hWu x (List.mem_filter.mp hx).1
    rw [big_eqv]
    refine OpC.neD (D := .bool (W.any fun ch => decide (255 < ch))) rfl rfl rfl (by omega) (by simp [PyData.depth]) ?_
    repeat' walk_at "e"
    refine ifF ?_
    refine ExS.nil (SeqP.next ?_)
    refine ExS.forget (mu := mu2) (sD.trans sD2) ?_
    clear sD sD2 hD hD2 D D2
    -- the texts
    refine ExS.if (Tst.boolop (TstL.or_cons (Tst.cmp ?_ (by with_unfolding_all rfl))))
    repeat' walk_at "s"
    refine CallV.strObj (instStr09 hK Hp) (str09_ct (n := n + 8) hK Hp lp' zp ⟨_, rfl, ?_⟩)
    rw [hTp]
    repeat' walk_at "e"
    refine ifd (fun z => absurd rfl z) (fun _ => ?_)
    refine TstL.or_cons (Tst.cmp ?_ (by with_unfolding_all rfl))
    refine EvE.callTy (by with_unfolding_all rfl) (mg_none_of (by assumption) (Cx.g _) (by with_unfolding_all rfl)) (by decide) boot_bytes09 ?_ (by with_unfolding_all decide) (by with_unfolding_all rfl)
    repeat' walk_at "e"
    refine CallV.bytesObj (instBytes09 hK Ht) (bytes09_ct (n := n + 5) hK Ht lo' zo ?_ (by rw [hTo]; omega) ⟨_, rfl, ?_⟩)
    · rw [hTo]; exact oct_256 hWu
    rw [hTo]
    refine EvE.methB (EvE.loc (by with_unfolding_all rfl) (by with_unfolding_all rfl) ⟨_, Meth.str PySem.F.slot_str_encode PySem.F.type_str_encode, ?_⟩ (by with_unfolding_all decide)) (by with_unfolding_all (intro _; rfl)) (by with_unfolding_all rfl)
    repeat' walk_at "e"
    refine CallV.enc8 (fun ch hc => bad8 (hWs ch hc)) (by rw [octs8_len, sl]; omega) ?_
    refine OpC.neY ?_
    rw [octs1]
    repeat' walk_at "e"
    refine ifb (fun z => absurd z (by simp)) (fun _ => ?_)
    repeat' walk_at "e"
    refine ifF ?_
    refine ExS.nil (SeqP.next ?_)
    -- the rows
    refine ExS.ret (EvE.cmp ?_ (by with_unfolding_all rfl))
    refine EvE.method (EvE.loc (by with_unfolding_all rfl) (by with_unfolding_all rfl) ⟨_, Meth.hd hK Ht (by with_unfolding_all rfl) (f := 148) (by with_unfolding_all rfl) (by with_unfolding_all rfl) (by decide), ?_⟩ (by with_unfolding_all decide))
    refine EvA.nil (EvK.nil (items09_ct hK Ht fun D1 hD1 => ?_))
    have s1 := sub_upd (o := .list ((rowsR oct rs rs.length).map pairPV)) hD1
    have Hp1 := Hp.sub s1
    refine EvE.listcomp (okT := anyT) trivial (by with_unfolding_all rfl) ?_ (by with_unfolding_all (intro _ _; rfl))
    refine EvE.method (EvE.loc (by with_unfolding_all rfl) (by with_unfolding_all rfl) ⟨_, Meth.hd hK Hp1 (by with_unfolding_all rfl) (f := 148) (by with_unfolding_all rfl) (by with_unfolding_all rfl) (by decide), ?_⟩ (by with_unfolding_all decide))
    refine EvA.nil (EvK.nil (items09_ct hK Hp1 fun D2 hD2 => ⟨_, _, _, IterOf.listTmp hD2, ?_⟩))
    refine CompE.all (m0 := []) (fun _ => true) octG trivial _ _ _ (by simp [sl]; omega) trivial (fun y hy => ?_) ?_
    · obtain ⟨r, hr, rfl⟩ := List.mem_map.mp hy
      obtain ⟨hsg, hll⟩ := row09_sg hR (by omega) hr
      unfold pairPV
      repeat' walk_at "e"
      refine ⟨rfl, trivial, IfsE.nil ⟨rfl, rfl, fun _ => ?_⟩⟩
      repeat' walk_at "e"
      refine oct09_ct hK hsg (by omega) ?_
      repeat' walk_at "e"
      refine ⟨by show 2 ≤ 2 ^ 24; decide, ?_, rfl⟩
      show _ = PV.tuple [_, .str (S (oct (S r.2).cps.toList))]
      rw [S_cps]
    intro D3 hD3
    rw [octG_all hR (by omega)]
    have s3 := sub_upd (o := .list ((rowsR oct rs rs.length).map pairPV)) hD3
    refine OpC.eqD (D := rowsD (rowsR oct rs rs.length)) (rowsD_is (.inl (s3 _ _ (upd_same ..)))) (rowsD_is (.inl (upd_same ..))) (rowsD_lay (rowsR_ok fOk_oct hR (by omega))) (by omega) (by have := rowsD_depth (rowsR oct rs rs.length); omega) ?_
    rfl

end Mine
open PySem PySem.W PySem.Calls PyProof.Rows
set_option Elab.async false
set_option linter.unusedVariables false
set_option maxRecDepth 100000
set_option maxHeartbeats 8000000
open Mine
theorem PySem.Challenge.cw_dn0262_09_holds : PySem.Challenge.rw_dn0262_09.Holds :=
  hd09 (by
  k_fill
  intro w s₀ s₁ mg mb G Y fa o pm cd doc dV kV ho hd hcd hD hmg hg args vals as hpre hlay hrd hwl hlo
  have KX := kIn_of Y
  refine Ground.open G ?_
  intro T B D TE TW
  try (refine guard_noD D (by decide +kernel) ?_; clear D)
  have hlw : mg (Str.ofString "law") = some (.ref fa) := hmg
  clear hd hcd hD ho hmg
  wrow_args hpre hlay hrd hwl hlo
  rename_i ns _ _ _ _ _ _ _ l vs _ hL _ _ _ hI _ hc1 _
  have hfa := mg_of KX T.g (n := Str.ofString "law") (v := .ref 205) (by with_unfolding_all rfl)
  rw [hlw] at hfa
  cases hfa
  let c : Cx := { prog := PySem.Challenge.rw_dn0262_09.row.prog, w := w, base := s₁.heap, mg := mg, mb := mb, nolim := T.nolimit, g := T.g, b := T.b, bi := T.builtins }
  refine law_closeC (c := c) rfl hg (fun _ => rfl) ?_ ?_
  · first | (with_unfolding_all rfl) | kernel_rfl
  exact law09_fn (c := c) (n := 20) KX (l := l) (ns := ns) ⟨vs, hL, ints_rep hI⟩ (by omega) ⟨rfl, by decide, by decide⟩ rfl (St.empty fun _ _ e => e))

