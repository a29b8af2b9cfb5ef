import PyProof.Rows.All
import Wide.All
import OpenK.AllK
import Wide.FinOn
import Lean
import PySem.Challenge.RW_br0026_03
set_option Elab.async false
set_option maxRecDepth 100000
set_option autoImplicit false
set_option linter.unusedVariables false
set_option linter.unusedSimpArgs false
set_option exponentiation.threshold 4000
section
namespace Mine
open PySem PySem.W PySem.Calls PyProof.Rows Builtin

inductive D where
  | raw (v : Value)
  | int (i : Int)
  | str (x : Str)
  | bytes (b : Array UInt8)
  | tup (l : List D)
  | list (l : List D)
  | inst (C : Addr) (fs : List (Str × D))
  | range (a b : Int)

abbrev tupObj (vs : List Value) (n : Nat) : Obj := { cls := .type "tuple", data := .seq vs.toArray n }
abbrev ownObj (vs : List Value) (n : Nat) : Obj := { cls := .type "list", data := .seq vs.toArray n }
abbrev Meta := Nat × Option Addr × Array (Option Value)
abbrev listObj (vs : List Value) (m : Meta) : Obj := { cls := .type "list", dict := m.2.1, data := .seq vs.toArray m.1, slots := m.2.2 }

mutual
def Rep (X : Addr → Prop) (h : Heap) : D → Value → Prop
  | .raw u, v => v = u
  | .int i, v => ∃ t, v = .int i t
  | .str x, v => ∃ t, v = .str x t
  | .bytes b, v => ∃ t, v = .bytes b t
  | .tup l, v => ∃ a vs n, v = .ref a ∧ ¬ X a ∧ h.get? a = some (tupObj vs n) ∧ RepL X h l vs
  | .list l, v => ∃ a vs n, v = .ref a ∧ ¬ X a ∧ h.get? a = some (listObj vs n) ∧ RepL X h l vs
  | .inst C fs, v => ∃ a dd es n, v = .ref a ∧ ¬ X a ∧ ¬ X dd ∧ h.get? a = some (instObj C dd) ∧ h.get? dd = some (dictOf es n) ∧ RepF X h fs es
  | .range x y, v => ∃ a t u w, v = .ref a ∧ ¬ X a ∧ IsRange h a x y 1 t u w
def RepL (X : Addr → Prop) (h : Heap) : List D → List Value → Prop
  | [], vs => vs = []
  | d :: ds, vs => ∃ v vs', vs = v :: vs' ∧ Rep X h d v ∧ RepL X h ds vs'
def RepF (X : Addr → Prop) (h : Heap) : List (Str × D) → List DictEntry → Prop
  | [], es => es = []
  | f :: fs, es => ∃ e es' t, es = e :: es' ∧ e.key = .str f.1 t ∧ Rep X h f.2 e.val ∧ RepF X h fs es'
end

/-- objects that X or P holds may change; all others stand -/
def Stay (Z : Addr → Prop) (h h' : Heap) : Prop := ∀ b o, ¬ Z b → h.get? b = some o → h'.get? b = some o

theorem Stay.refl (Z : Addr → Prop) (h : Heap) : Stay Z h h := fun _ _ _ e => e
theorem Stay.trans {Z : Addr → Prop} {h h' h'' : Heap} (x : Stay Z h h') (y : Stay Z h' h'') : Stay Z h h'' := fun b o z e => y b o z (x b o z e)
theorem Stay.mono {Z Z' : Addr → Prop} {h h' : Heap} (x : Stay Z h h') (z : ∀ a, Z a → Z' a) : Stay Z' h h' := fun b o n e => x b o (fun q => n (z b q)) e



mutual
theorem Rep.anti {X Y : Addr → Prop} {h : Heap} (xy : ∀ a, Y a → X a) : ∀ {d : D} {v : Value}, Rep X h d v → Rep Y h d v
  | .raw _, _, r => r
  | .int _, _, r => r
  | .str _, _, r => r
  | .bytes _, _, r => r
  | .tup l, v, r => by
    obtain ⟨a, vs, n, e, x, g, rl⟩ := r
    exact ⟨a, vs, n, e, fun y => x (xy _ y), g, RepL.anti xy rl⟩
  | .list l, v, r => by
    obtain ⟨a, vs, n, e, x, g, rl⟩ := r
    exact ⟨a, vs, n, e, fun y => x (xy _ y), g, RepL.anti xy rl⟩
  | .inst C fs, v, r => by
    obtain ⟨a, dd, es, n, e, x, x', g, g', rl⟩ := r
    exact ⟨a, dd, es, n, e, fun y => x (xy _ y), fun y => x' (xy _ y), g, g', RepF.anti xy rl⟩
  | .range _ _, v, r => by
    obtain ⟨a, t, u, w, e, x, g⟩ := r
    exact ⟨a, t, u, w, e, fun y => x (xy _ y), g⟩
theorem RepL.anti {X Y : Addr → Prop} {h : Heap} (xy : ∀ a, Y a → X a) : ∀ {l : List D} {vs : List Value}, RepL X h l vs → RepL Y h l vs
  | [], _, r => r
  | d :: ds, vs, r => by
    obtain ⟨v, vs', e, r1, r2⟩ := r
    exact ⟨v, vs', e, Rep.anti xy r1, RepL.anti xy r2⟩
theorem RepF.anti {X Y : Addr → Prop} {h : Heap} (xy : ∀ a, Y a → X a) : ∀ {l : List (Str × D)} {es : List DictEntry}, RepF X h l es → RepF Y h l es
  | [], _, r => r
  | (k, d) :: ds, es, r => by
    obtain ⟨e, es', t, q, q2, r1, r2⟩ := r
    exact ⟨e, es', t, q, q2, Rep.anti xy r1, RepF.anti xy r2⟩
end

mutual
theorem Rep.stay {X : Addr → Prop} {h h' : Heap} (xy : Stay X h h') : ∀ {d : D} {v : Value}, Rep X h d v → Rep X h' d v
  | .raw _, _, r => r
  | .int _, _, r => r
  | .str _, _, r => r
  | .bytes _, _, r => r
  | .tup l, v, r => by
    obtain ⟨a, vs, n, e, x, g, rl⟩ := r
    exact ⟨a, vs, n, e, x, xy _ _ x g, RepL.stay xy rl⟩
  | .list l, v, r => by
    obtain ⟨a, vs, n, e, x, g, rl⟩ := r
    exact ⟨a, vs, n, e, x, xy _ _ x g, RepL.stay xy rl⟩
  | .inst C fs, v, r => by
    obtain ⟨a, dd, es, n, e, x, x', g, g', rl⟩ := r
    exact ⟨a, dd, es, n, e, x, x', xy _ _ x g, xy _ _ x' g', RepF.stay xy rl⟩
  | .range _ _, v, r => by
    obtain ⟨a, t, u, w, e, x, g⟩ := r
    exact ⟨a, t, u, w, e, x, xy _ _ x g⟩
theorem RepL.stay {X : Addr → Prop} {h h' : Heap} (xy : Stay X h h') : ∀ {l : List D} {vs : List Value}, RepL X h l vs → RepL X h' l vs
  | [], _, r => r
  | d :: ds, vs, r => by
    obtain ⟨v, vs', e, r1, r2⟩ := r
    exact ⟨v, vs', e, Rep.stay xy r1, RepL.stay xy r2⟩
theorem RepF.stay {X : Addr → Prop} {h h' : Heap} (xy : Stay X h h') : ∀ {l : List (Str × D)} {es : List DictEntry}, RepF X h l es → RepF X h' l es
  | [], _, r => r
  | (k, d) :: ds, es, r => by
    obtain ⟨e, es', t, q, q2, r1, r2⟩ := r
    exact ⟨e, es', t, q, q2, Rep.stay xy r1, RepF.stay xy r2⟩
end

mutual
/-- what no object of the heap stands at, and what does not fit, may be shunned too -/
theorem Rep.shun {X Y : Addr → Prop} {h : Heap} (xy : ∀ a, Y a → X a ∨ h.get? a = none) : ∀ {d : D} {v : Value}, Rep X h d v → Rep Y h d v
  | .raw _, _, r => r
  | .int _, _, r => r
  | .str _, _, r => r
  | .bytes _, _, r => r
  | .tup l, v, r => by
    obtain ⟨a, vs, n, e, x, g, rl⟩ := r
    exact ⟨a, vs, n, e, fun y => (xy _ y).elim x (fun q => by rw [q] at g; cases g), g, RepL.shun xy rl⟩
  | .list l, v, r => by
    obtain ⟨a, vs, n, e, x, g, rl⟩ := r
    exact ⟨a, vs, n, e, fun y => (xy _ y).elim x (fun q => by rw [q] at g; cases g), g, RepL.shun xy rl⟩
  | .inst C fs, v, r => by
    obtain ⟨a, dd, es, n, e, x, x', g, g', rl⟩ := r
    exact ⟨a, dd, es, n, e, fun y => (xy _ y).elim x (fun q => by rw [q] at g; cases g), fun y => (xy _ y).elim x' (fun q => by rw [q] at g'; cases g'), g, g', RepF.shun xy rl⟩
  | .range _ _, v, r => by
    obtain ⟨a, t, u, w, e, x, g⟩ := r
    exact ⟨a, t, u, w, e, fun y => (xy _ y).elim x (fun q => by rw [show h.get? a = some _ from g] at q; cases q), g⟩
theorem RepL.shun {X Y : Addr → Prop} {h : Heap} (xy : ∀ a, Y a → X a ∨ h.get? a = none) : ∀ {l : List D} {vs : List Value}, RepL X h l vs → RepL Y h l vs
  | [], _, r => r
  | d :: ds, vs, r => by
    obtain ⟨v, vs', e, r1, r2⟩ := r
    exact ⟨v, vs', e, Rep.shun xy r1, RepL.shun xy r2⟩
theorem RepF.shun {X Y : Addr → Prop} {h : Heap} (xy : ∀ a, Y a → X a ∨ h.get? a = none) : ∀ {l : List (Str × D)} {es : List DictEntry}, RepF X h l es → RepF Y h l es
  | [], _, r => r
  | (k, d) :: ds, es, r => by
    obtain ⟨e, es', t, q, q2, r1, r2⟩ := r
    exact ⟨e, es', t, q, q2, Rep.shun xy r1, RepF.shun xy r2⟩
end
/-- an object that no datum is made of -/
def Side (h : Heap) (z : Addr) : Prop := ∃ o vs, h.get? z = some o ∧ o.data = .fields vs ∧ o.cls ≠ .type "range" ∧ ∀ a, o.cls ≠ .ref a
theorem Side.no {h : Heap} {z a : Addr} {o : Obj} (x : Side h z) (g : h.get? a = some o) (k : (∀ vs, o.data ≠ .fields vs) ∨ o.cls = .type "range" ∨ ∃ b, o.cls = .ref b) : a ≠ z := fun e => by
  obtain ⟨o', vs, g', d, c1, c2⟩ := x
  rw [e, g'] at g
  cases g
  rcases k with k | k | ⟨b, k⟩
  · exact k _ d
  · exact c1 k
  · exact c2 b k
mutual
theorem Rep.mix {X Z : Addr → Prop} {h h' : Heap} (hz : ∀ z, Z z → X z ∨ Side h z) (k : Stay Z h h') : ∀ {d : D} {v : Value}, Rep X h d v → Rep X h' d v
  | .raw _, _, r => r
  | .int _, _, r => r
  | .str _, _, r => r
  | .bytes _, _, r => r
  | .tup l, v, r => by
    obtain ⟨a, vs, n, e, x, g, rl⟩ := r
    exact ⟨a, vs, n, e, x, k _ _ (fun z => (hz _ z).elim x fun q => q.no g (.inl fun _ q => by cases q) rfl) g, RepL.mix hz k rl⟩
  | .list l, v, r => by
    obtain ⟨a, vs, n, e, x, g, rl⟩ := r
    exact ⟨a, vs, n, e, x, k _ _ (fun z => (hz _ z).elim x fun q => q.no g (.inl fun _ q => by cases q) rfl) g, RepL.mix hz k rl⟩
  | .inst C fs, v, r => by
    obtain ⟨a, dd, es, n, e, x, x', g, g', rl⟩ := r
    exact ⟨a, dd, es, n, e, x, x', k _ _ (fun z => (hz _ z).elim x fun q => q.no g (.inr (.inr ⟨_, rfl⟩)) rfl) g, k _ _ (fun z => (hz _ z).elim x' fun q => q.no g' (.inl fun _ q => by cases q) rfl) g', RepF.mix hz k rl⟩
  | .range _ _, v, r => by
    obtain ⟨a, t, u, w, e, x, g⟩ := r
    exact ⟨a, t, u, w, e, x, k _ _ (fun z => (hz _ z).elim x fun q => q.no g (.inr (.inl rfl)) rfl) g⟩
theorem RepL.mix {X Z : Addr → Prop} {h h' : Heap} (hz : ∀ z, Z z → X z ∨ Side h z) (k : Stay Z h h') : ∀ {l : List D} {vs : List Value}, RepL X h l vs → RepL X h' l vs
  | [], _, r => r
  | d :: ds, vs, r => by
    obtain ⟨v, vs', e, r1, r2⟩ := r
    exact ⟨v, vs', e, Rep.mix hz k r1, RepL.mix hz k r2⟩
theorem RepF.mix {X Z : Addr → Prop} {h h' : Heap} (hz : ∀ z, Z z → X z ∨ Side h z) (k : Stay Z h h') : ∀ {l : List (Str × D)} {es : List DictEntry}, RepF X h l es → RepF X h' l es
  | [], _, r => r
  | (k', d) :: ds, es, r => by
    obtain ⟨e, es', t, q, q2, r1, r2⟩ := r
    exact ⟨e, es', t, q, q2, Rep.mix hz k r1, RepF.mix hz k r2⟩
end
theorem Rep.side {X Z : Addr → Prop} {h h' : Heap} (hz : ∀ z, Z z → Side h z) (k : Stay Z h h') {d : D} {v : Value} (r : Rep X h d v) : Rep X h' d v := r.mix (fun z q => .inr (hz z q)) k
theorem RepL.side {X Z : Addr → Prop} {h h' : Heap} (hz : ∀ z, Z z → Side h z) (k : Stay Z h h') {l : List D} {vs : List Value} (r : RepL X h l vs) : RepL X h' l vs := r.mix (fun z q => .inr (hz z q)) k
theorem RepF.side {X Z : Addr → Prop} {h h' : Heap} (hz : ∀ z, Z z → Side h z) (k : Stay Z h h') {l : List (Str × D)} {es : List DictEntry} (r : RepF X h l es) : RepF X h' l es := r.mix (fun z q => .inr (hz z q)) k
theorem RepL.length {X : Addr → Prop} {h : Heap} : ∀ {l : List D} {vs : List Value}, RepL X h l vs → vs.length = l.length
  | [], vs, r => by have e : vs = [] := r; rw [e]; rfl
  | d :: ds, vs, r => by
    obtain ⟨v, vs', e, r1, r2⟩ := r
    rw [e, List.length_cons, List.length_cons, RepL.length r2]
theorem RepL.get {X : Addr → Prop} {h : Heap} : ∀ {l : List D} {vs : List Value} {i : Nat} {d : D}, RepL X h l vs → l[i]? = some d → ∃ v, vs[i]? = some v ∧ Rep X h d v
  | [], _, i, d, r, e => by simp at e
  | d :: ds, vs, 0, d', r, e => by
    obtain ⟨v, vs', q, r1, r2⟩ := r
    cases e
    exact ⟨v, by rw [q]; rfl, r1⟩
  | d :: ds, vs, i + 1, d', r, e => by
    obtain ⟨v, vs', q, r1, r2⟩ := r
    obtain ⟨v', a, b⟩ := RepL.get (i := i) r2 (by simpa using e)
    exact ⟨v', by rw [q]; simpa using a, b⟩
theorem RepL.append {X : Addr → Prop} {h : Heap} : ∀ {l l' : List D} {vs vs' : List Value}, RepL X h l vs → RepL X h l' vs' → RepL X h (l ++ l') (vs ++ vs')
  | [], _, _, _, r, r' => by rw [show _ = _ from r]; exact r'
  | d :: ds, _, vs, _, r, r' => by
    obtain ⟨v, us, q, r1, r2⟩ := r
    exact ⟨v, us ++ _, by rw [q]; rfl, r1, RepL.append r2 r'⟩
end Mine
end
section
namespace Mine
open PySem PySem.W PySem.Calls PyProof.Rows Builtin

structure Cx where
  prog : Program
  w : World
  K : Frag
  P : Addr
  cP : Addr
  h₁ : Heap
  os₁ : OsState
  GI : Array GenState → Drawn → Prop

structure Inv (c : Cx) (s : Shared) : Prop where
  stay : Stay (· = c.P) c.h₁ s.heap
  old : OldK c.h₁ s.heap
  tab : ∃ ps, s.heap.IsCode c.cP c.P ps ∧ s.heap.TableAt c.cP c.P ps
  os : s.os = c.os₁
  gens : c.GI s.gens s.drawn
  lo : c.P < c.h₁.objs.size ∧ c.cP < c.h₁.objs.size
  big : c.h₁.objs.size ≤ s.heap.objs.size

/-- what holds of the starting heap -/
structure Cx.Ok (c : Cx) : Prop where
  kin : c.K.In c.h₁
  noP : ∀ a o, c.K.lookup a = some o → a ≠ c.P
  nb : ∃ mb, c.h₁.Ns builtinsNs mb ∧ ∀ x : Str, x ≠ "__name__" → mb x = bootBuiltins x
  limit : c.h₁.NoLimit
  pS : c.P ≠ cStatics
  pB : c.P ≠ builtinsNs
  pG : c.P ≠ mainGlobals
  cls : ∃ o, c.h₁.get? c.P = some o ∧ o.cls = .none
  tab₁ : ∃ ps, c.h₁.TableAt c.cP c.P ps

section
variable {c : Cx} {s s' : Shared}
theorem Inv.kin (O : c.Ok) (I : Inv c s) : c.K.In s.heap := fun a o e => I.stay a o (O.noP a o e) (O.kin a o e)
theorem Inv.nolimit (O : c.Ok) (I : Inv c s) : s.heap.NoLimit := by
  obtain ⟨mc, ⟨o, es, ep, ho, r⟩, z⟩ := O.limit
  exact ⟨mc, ⟨o, es, ep, I.stay _ _ (Ne.symm O.pS) ho, r⟩, z⟩
theorem Inv.nsb (O : c.Ok) (I : Inv c s) : ∃ mb, s.heap.Ns builtinsNs mb ∧ ∀ x : Str, x ≠ "__name__" → mb x = bootBuiltins x := by
  obtain ⟨mb, ⟨o, es, ep, ho, r⟩, z⟩ := O.nb
  exact ⟨mb, ⟨o, es, ep, I.stay _ _ (Ne.symm O.pB) ho, r⟩, z⟩
/-- a step that leaves all old objects as they were -/
theorem Inv.ext (I : Inv c s) (k : ∀ b o, s.heap.get? b = some o → s'.heap.get? b = some o) (hz : s.heap.objs.size ≤ s'.heap.objs.size) (ho : s'.os = s.os) (hg : s'.gens = s.gens ∧ s'.drawn = s.drawn) : Inv c s' := by
  refine ⟨I.stay.trans fun b o _ e => k b o e, I.old.step_keeps k, ?_, ho.trans I.os, by rw [hg.1, hg.2]; exact I.gens, I.lo, Nat.le_trans I.big hz⟩
  obtain ⟨ps, a, b⟩ := I.tab
  exact ⟨ps, a.keeps k, b.keeps k⟩
/-- a step that turns one object alone, none of the start's -/
theorem Inv.turn {z : Addr} {h' : Heap} {t : Nat} (I : Inv c s) (lo : c.h₁.objs.size ≤ z) (hs : Heap.SameBut z s.heap h') : Inv c { s with heap := h', toks := t } := by
  have n1 : c.P ≠ z := Nat.ne_of_lt (Nat.lt_of_lt_of_le I.lo.1 lo)
  have n2 : c.cP ≠ z := Nat.ne_of_lt (Nat.lt_of_lt_of_le I.lo.2 lo)
  refine ⟨fun b o nb g => (hs.2 b (Nat.ne_of_lt (Nat.lt_of_lt_of_le (Heap.lt_size g) lo))).trans (I.stay b o nb g), I.old.step_same lo hs, ?_, I.os, I.gens, I.lo, by show _ ≤ h'.objs.size; rw [hs.1]; exact I.big⟩
  obtain ⟨ps, a, b⟩ := I.tab
  exact ⟨ps, a.sameBut hs n2 n1, b.sameBut hs n2 n1⟩
theorem Inv.toks (I : Inv c s) (t : Nat) : Inv c { s with toks := t } := I.ext (fun _ _ e => e) (Nat.le_refl _) rfl ⟨rfl, rfl⟩
end

theorem Inv.atP {c : Cx} {s : Shared} (I : Inv c s) : ∃ ps, s.heap.get? c.P = some { cls := .none, data := .fields ps } := let ⟨ps, _, b⟩ := I.tab; ⟨ps, b.2⟩

abbrev Wp (c : Cx) {α : Type} (A : Around) (t : Sem α) (Q : α → Shared → Prop) (s : Shared) : Prop := wpAny (model c.prog c.w) A t Q (fun _ _ => False) s
theorem Wp.mono {c : Cx} {α : Type} {A : Around} {t : Sem α} {Q Q' : α → Shared → Prop} {s : Shared} (h : Wp c A t Q s) (hQ : ∀ a s, Q a s → Q' a s) : Wp c A t Q' s := wpAny_mono h hQ fun _ _ e => e

def Good (n : Nat) (A : Around) : Prop := A.handled = none ∧ A.depth + 4 * n ≤ 960 ∧ A.units + 16 * n ≤ 9800

structure FC where
  scope : Scope
  code : Value
  qual : Str
  wr : Str → Bool := fun _ => true
  ini : Bool := false

structure EnvOk (fc : FC) (env : Env) : Prop where
  scope : env.scope = fc.scope
  globals : env.globals = mainGlobals
  builtins : env.builtins = builtinsNs
  code : env.code = fc.code
  qual : env.qual = fc.qual

def FC.ok (fc : FC) : Bool := fc.scope.kind == .function && decide (fc.scope.names.map (·.1)).Nodup

inductive LV where
  | dat (d : D)
  | own (a : Addr) (l : List D)
  | self (a dd : Addr) (C : Addr) (fs : List (Str × D))

def LRep (W : Addr → Prop) (X : Addr → Prop) (h : Heap) : LV → Value → Prop
  | .dat d, v => Rep X h d v
  | .own a l, v => v = .ref a ∧ X a ∧ W a ∧ ∃ vs n, h.get? a = some (ownObj vs n) ∧ RepL X h l vs
  | .self a dd C fs, v => v = .ref a ∧ X a ∧ X dd ∧ h.get? a = some (instObj C dd) ∧ ∃ es n, h.get? dd = some (dictOf es n) ∧ RepF X h fs es

abbrev Rho := List (Option LV)

/-- one's own lists are apart, and a self's dict is not the frame's -/
def Apart (L : Addr) : Rho → Prop
  | [] => True
  | some (.own a _) :: r => (∀ lv ∈ r, ∀ b l, lv = some (LV.own b l) → a ≠ b) ∧ Apart L r
  | some (.self _ dd _ _) :: r => dd ≠ L ∧ Apart L r
  | _ :: r => Apart L r

structure Bound (W : Addr → Prop) (X : Addr → Prop) (env : Env) (m : Str → Option Value) (h : Heap) (x : Str) (k : NameKind) (lv : LV) : Prop where
  kind : k = .local ∨ k = .cell
  val : ∃ v, LRep W X h lv v ∧ (k = .local → m x = some v) ∧ (k = .cell → ∃ a, env.cells.lookup x = some a ∧ X a ∧ h.IsCell a (some v))

structure Sat (c : Cx) (W Xc X : Addr → Prop) (fc : FC) (env : Env) (ρ : Rho) (s : Shared) : Prop where
  inv : Inv c s
  ev : EnvOk fc env
  fok : fc.ok = true
  xP : Xc c.P
  xc : ∀ a, Xc a → X a
  xex : ∀ a, X a → ∃ o, s.heap.get? a = some o
  xlo : ∀ a, X a → a = c.P ∨ c.h₁.objs.size ≤ a
  wx : ∀ a, W a → X a
  wL : W env.locals
  base : ∀ a, W a → c.h₁.objs.size ≤ a
  ns : ∃ m, s.heap.Ns env.locals m ∧ (∀ (i : Nat) (x : Str) (k : NameKind) (lv : LV), fc.scope.names[i]? = some (x, k) → ρ[i]? = some (some lv) → Bound W X env m s.heap x k lv)
  cells : ∀ x a, env.cells.lookup x = some a → X a ∧ ∃ v, s.heap.IsCell a v
  celled : ∀ (i : Nat) (x : Str), fc.scope.names[i]? = some (x, .cell) → ∃ a, env.cells.lookup x = some a
  capart : ∀ x y a, env.cells.lookup x = some a → env.cells.lookup y = some a → x = y
  cellN : ∀ x a, fc.wr x = true → env.cells.lookup x = some a → W a
  owns : ∀ (i : Nat) (a : Addr) (l : List D), ρ[i]? = some (some (LV.own a l)) → ¬ Xc a ∧ X a ∧ W a
  apart : Apart env.locals ρ
  selfW : fc.ini = true → ∀ (i : Nat) (a dd C : Addr) (fs : List (Str × D)), ρ[i]? = some (some (LV.self a dd C fs)) → W dd

theorem LRep.keep {c : Cx} {W X : Addr → Prop} {h h' : Heap} (xP : X c.P) (hP : ∃ ps, h.get? c.P = some { cls := .none, data := .fields ps }) (k : Stay (· = c.P) h h') {lv : LV} {v : Value} (r : LRep W X h lv v) : LRep W X h' lv v := by
  have k' : Stay X h h' := k.mono fun a e => e ▸ xP
  obtain ⟨ps, hP⟩ := hP
  cases lv with
  | dat d => exact Rep.stay k' r
  | own a l =>
    obtain ⟨e, x, n, vs, m, g, rl⟩ := r
    exact ⟨e, x, n, vs, m, k a _ (fun q => by rw [q, hP] at g; cases g) g, RepL.stay k' rl⟩
  | self a dd C fs =>
    obtain ⟨e, x, n, g, es, m, g', rl⟩ := r
    exact ⟨e, x, n, k a _ (fun q => by rw [q, hP] at g; cases g) g, es, m, k dd _ (fun q => by rw [q, hP] at g'; cases g') g', RepF.stay k' rl⟩

theorem xex_st {c : Cx} {X : Addr → Prop} {s s' : Shared} (I : Inv c s') (k : Stay (· = c.P) s.heap s'.heap) (x : ∀ a, X a → ∃ o, s.heap.get? a = some o) : ∀ a, X a → ∃ o, s'.heap.get? a = some o := fun a xa => by
  by_cases e : a = c.P
  · subst e; exact let ⟨ps, q⟩ := I.atP; ⟨_, q⟩
  · obtain ⟨o, g⟩ := x a xa; exact ⟨o, k a o e g⟩
/-- the addresses that data shun are taken, and the one table's is among them -/
structure Xok (c : Cx) (X : Addr → Prop) (s : Shared) : Prop where
  P : X c.P
  ex : ∀ a, X a → ∃ o, s.heap.get? a = some o
  lo : ∀ a, X a → a = c.P ∨ c.h₁.objs.size ≤ a
  top : ∃ a, X a ∧ c.h₁.objs.size ≤ a
theorem Xok.st {c : Cx} {X : Addr → Prop} {s s' : Shared} (x : Xok c X s) (I : Inv c s') (k : Stay (· = c.P) s.heap s'.heap) : Xok c X s' := ⟨x.P, xex_st I k x.ex, x.lo, x.top⟩
theorem Xok.new {c : Cx} {X : Addr → Prop} {s : Shared} (x : Xok c X s) {a : Addr} (h : s.heap.objs.size ≤ a) : ¬ X a := fun q => let ⟨_, g⟩ := x.ex a q; absurd (Heap.lt_size g) (Nat.not_lt.mpr h)

theorem Sat.keep {c : Cx} {W Xc X : Addr → Prop} {fc : FC} {env : Env} {ρ : Rho} {s s' : Shared} (S : Sat c W Xc X fc env ρ s) (I : Inv c s') (k : Stay (· = c.P) s.heap s'.heap) : Sat c W Xc X fc env ρ s' := by
  have hP := S.inv.atP
  have neP : ∀ {a o}, s.heap.get? a = some o → (∀ vs, o.data ≠ .fields vs) → a ≠ c.P := by
    intro a o g ne e
    obtain ⟨ps, hP⟩ := hP
    rw [e, hP] at g
    cases g
    exact ne _ rfl
  have kc : ∀ {a v}, s.heap.IsCell a v → s'.heap.IsCell a v := fun {a v} ⟨o, ho, hd⟩ => ⟨o, k a o (neP ho fun vs q => by rw [hd] at q; cases q) ho, hd⟩
  obtain ⟨m, ⟨o, es, ep, ho, hd, r⟩, B⟩ := S.ns
  refine ⟨I, S.ev, S.fok, S.xP, S.xc, xex_st I k S.xex, S.xlo, S.wx, S.wL, S.base, ⟨m, ⟨o, es, ep, k _ o (neP ho fun vs q => by rw [hd] at q; cases q) ho, hd, r⟩, fun i x kd lv h1 h2 => ?_⟩, fun x a e => ?_, S.celled, S.capart, S.cellN, S.owns, S.apart, S.selfW⟩
  · obtain ⟨kk, v, lr, b1, b2⟩ := B i x kd lv h1 h2
    exact ⟨kk, v, LRep.keep (S.xc _ S.xP) hP k lr, b1, fun e => let ⟨a, q1, q2, q3⟩ := b2 e; ⟨a, q1, q2, kc q3⟩⟩
  · obtain ⟨q1, v, q2⟩ := S.cells x a e
    exact ⟨q1, v, kc q2⟩

/-- the rules' judgement: e is evaluated to a datum of which Pq holds; all that stood, stands -/
def Got (c : Cx) (X : Addr → Prop) (s : Shared) (Pq : D → Prop) (v : Value) (s' : Shared) : Prop :=
  Inv c s' ∧ Stay (· = c.P) s.heap s'.heap ∧ ∃ d, Pq d ∧ Rep X s'.heap d v
def Ev (c : Cx) (n : Nat) (fc : FC) (ρ : Rho) (e : Expr) (Pq : D → Prop) : Prop :=
  ∀ W Xc X env A s, Good n A → Sat c W Xc X fc env ρ s → Wp c A (eval e env) (Got c X s Pq) s

section
variable {c : Cx} {n : Nat} {fc : FC} {ρ : Rho} {Pq : D → Prop}

theorem Got.next {X : Addr → Prop} {s s' s'' : Shared} {v : Value} (k : Stay (· = c.P) s.heap s'.heap) (g : Got c X s' Pq v s'') : Got c X s Pq v s'' := ⟨g.1, k.trans g.2.1, g.2.2⟩

theorem Ev.use {e : Expr} {W Xc X : Addr → Prop} {env : Env} {A : Around} {s : Shared} {Q : Value → Shared → Prop} (h : Ev c n fc ρ e Pq) (G : Good n A) (S : Sat c W Xc X fc env ρ s)
    (k : ∀ v s' d, Sat c W Xc X fc env ρ s' → Stay (· = c.P) s.heap s'.heap → Pq d → Rep X s'.heap d v → Q v s') : Wp c A (eval e env) Q s :=
  Wp.mono (h W Xc X env A s G S) fun v s' ⟨I, st, d, p, r⟩ => k v s' d (S.keep I st) st p r

theorem Ev.mono {e : Expr} {Pq' : D → Prop} (h : Ev c n fc ρ e Pq) (k : ∀ d, Pq d → Pq' d) : Ev c n fc ρ e Pq' :=
  fun W Xc X env A s G S => Wp.mono (h W Xc X env A s G S) fun v s' ⟨I, st, d, p, r⟩ => ⟨I, st, d, k d p, r⟩

theorem got_now {X : Addr → Prop} {s : Shared} {v : Value} {d : D} (I : Inv c s) (p : Pq d) (r : Rep X s.heap d v) : Got c X s Pq v s := ⟨I, Stay.refl _ _, d, p, r⟩
theorem got_tok {X : Addr → Prop} {s : Shared} {v : Value} {d : D} {t : Nat} (I : Inv c s) (p : Pq d) (r : Rep X s.heap d v) : Got c X s Pq v { s with toks := t } := ⟨I.toks t, Stay.refl _ _, d, p, r⟩

theorem ev_int {i : Int} {k pos} (h : Pq (.int i)) : Ev c n fc ρ (.Constant (.int i) k pos) Pq := fun _ _ _ _ _ _ _ S => wpAny_Constant_int (got_tok S.inv h ⟨_, rfl⟩)
theorem ev_str {x : Str} {k pos} (h : Pq (.str x)) : Ev c n fc ρ (.Constant (.str x) k pos) Pq := fun _ _ _ _ _ _ _ S => wpAny_mkText (got_tok S.inv h ⟨_, rfl⟩)
theorem ev_none {k pos} (h : Pq (.raw .none)) : Ev c n fc ρ (.Constant .none k pos) Pq := fun _ _ _ _ _ _ _ S => wpAny_pure (got_now S.inv h rfl)
theorem ev_bool {b : Bool} {k pos} (h : Pq (.raw (.bool b))) : Ev c n fc ρ (.Constant (.bool b) k pos) Pq := fun _ _ _ _ _ _ _ S => wpAny_pure (got_now S.inv h rfl)

theorem Sat.xok {W Xc X : Addr → Prop} {env : Env} {s : Shared} (S : Sat c W Xc X fc env ρ s) : Xok c X s := ⟨S.xc _ S.xP, S.xex, S.xlo, env.locals, S.wx _ S.wL, S.base _ S.wL⟩
theorem nodup_lookup : ∀ {l : List (Str × NameKind)} {i : Nat} {x : Str} {k : NameKind}, (l.map (·.1)).Nodup → l[i]? = some (x, k) → l.lookup x = some k
  | [], i, x, k, _, e => by simp at e
  | (y, ky) :: r, 0, x, k, _, e => by cases e; simp [List.lookup]
  | (y, ky) :: r, i + 1, x, k, nd, e => by
    have nd' := List.nodup_cons.mp nd
    have e' : r[i]? = some (x, k) := by simpa using e
    have ne : (x == y) = false := by
      cases q : x == y with
      | false => rfl
      | true =>
        have : x = y := beq_iff_eq.mp q
        subst this
        exact absurd (List.mem_map_of_mem (f := (·.1)) (List.mem_of_getElem? e')) nd'.1
    rw [List.lookup_cons, ne]
    exact nodup_lookup nd'.2 e'
theorem Sat.kind {W Xc X : Addr → Prop} {env : Env} {s : Shared} {i : Nat} {x : Str} {k : NameKind} (S : Sat c W Xc X fc env ρ s) (e : fc.scope.names[i]? = some (x, k)) : env.kindOf x = some k := by
  unfold Env.kindOf
  rw [S.ev.scope]
  have := S.fok
  unfold FC.ok at this
  exact nodup_lookup (of_decide_eq_true (Bool.and_eq_true_iff.mp this).2) e
theorem Sat.fn {W Xc X : Addr → Prop} {env : Env} {s : Shared} (S : Sat c W Xc X fc env ρ s) : env.scope.kind = .function := by
  have := S.fok
  unfold FC.ok at this
  rw [S.ev.scope]
  exact beq_iff_eq.mp (Bool.and_eq_true_iff.mp this).1

/-- the place of a name in its block's table -/
def placeIn (x : Str) : List (Str × NameKind) → Nat → Option Nat
  | [], _ => none
  | (y, _) :: r, i => if x == y then some i else placeIn x r (i + 1)

theorem placeIn_at {x : Str} : ∀ {l : List (Str × NameKind)} {j i : Nat}, placeIn x l j = some i → j ≤ i ∧ ∃ k, l[i - j]? = some (x, k)
  | [], j, i, h => by cases h
  | (y, k) :: r, j, i, h => by
    unfold placeIn at h
    split at h
    · rename_i q
      cases h
      rw [beq_iff_eq.mp q]
      exact ⟨Nat.le_refl _, k, by simp⟩
    · obtain ⟨a, k', b⟩ := placeIn_at h
      refine ⟨by omega, k', ?_⟩
      rw [show i - j = (i - (j + 1)) + 1 from by omega]
      simpa using b
theorem placeIn_get {x : Str} {l : List (Str × NameKind)} {i : Nat} (h : placeIn x l 0 = some i) : ∃ k, l[i]? = some (x, k) := by
  obtain ⟨_, k, b⟩ := placeIn_at h
  exact ⟨k, by simpa using b⟩
theorem Sat.load {W Xc X : Addr → Prop} {env : Env} {A : Around} {s : Shared} {i : Nat} {x : Str} {k : NameKind} {lv : LV} {Q : Value → Shared → Prop} (S : Sat c W Xc X fc env ρ s) (e : fc.scope.names[i]? = some (x, k)) (r : ρ[i]? = some (some lv))
    (q : ∀ v, LRep W X s.heap lv v → Q v s) : Wp c A (loadName env x) Q s := by
  obtain ⟨m, hn, B⟩ := S.ns
  obtain ⟨kk, v, lr, b1, b2⟩ := B i x k lv e r
  rcases kk with rfl | rfl
  · exact wpAny_loadName_local S.fn (S.kind e) hn (b1 rfl) (q v lr)
  · obtain ⟨a, q1, _, q3⟩ := b2 rfl
    exact wpAny_loadName_cell S.fn (S.kind e) q1 q3 (q v lr)

theorem ev_name {x : Str} {k : NameKind} {pos : Pos} {d : D} (i : Nat) (e : fc.scope.names[i]? = some (x, k)) (r : ρ[i]? = some (some (.dat d))) (hd : (x == ("__debug__" : Str)) = false) (h : Pq d) :
    Ev c n fc ρ (.Name x pos) Pq := fun _ _ _ _ _ _ _ S => wpAny_Name (S.load e r fun v lr => got_now S.inv h lr) hd

theorem ev_nm {x : Str} {pos : Pos} {d : D} {i : Nat} (e : placeIn x fc.scope.names 0 = some i) (r : ρ[i]? = some (some (.dat d))) (hd : (x == ("__debug__" : Str)) = false) (h : Pq d) :
    Ev c n fc ρ (.Name x pos) Pq := let ⟨k, e⟩ := placeIn_get e; ev_name i e r hd h

theorem W_global {M : Model} {A : Around} {E : Value → Shared → Prop} {s : Shared} {K : Frag} {x : Str} {v : Value} {env : Env} {Q : Value → Shared → Prop} (X : K.In s.heap) (e : nsIn K mainGlobals x = some (some v)) (h : Q v s)
    (hk : env.scope.kind = .function) (hg : env.globals = mainGlobals) (hx : env.kindOf x = some .globalImplicit) : wpAny M A (loadName env x) Q E s := by
  rw [loadName_read hk hx]
  unfold loadGlobal
  rw [hg]
  exact wpAny_bind ((looks_nsIn X e).here (wpAny_pure h))
theorem W_builtin {M : Model} {A : Around} {E : Value → Shared → Prop} {s : Shared} {K : Frag} {x : Str} {v : Value} {env : Env} {mb : Str → Option Value} {Q : Value → Shared → Prop} (X : K.In s.heap) (e : nsIn K mainGlobals x = some none) (hb : s.heap.Ns builtinsNs mb)
    (hv : mb x = some v) (h : Q v s) (hk : env.scope.kind = .function) (hg : env.globals = mainGlobals) (hbu : env.builtins = builtinsNs) (hx : env.kindOf x = some .globalImplicit) : wpAny M A (loadName env x) Q E s := by
  rw [loadName_read hk hx]
  unfold loadGlobal
  rw [hg, hbu]
  refine wpAny_bind ((looks_nsIn X e).here ?_)
  exact wpAny_bind (wpAny_nsGet hb (by rw [hv]; exact wpAny_pure h))

theorem ev_global {x : Str} {pos : Pos} {v : Value} (O : c.Ok) (i : Nat) (e : fc.scope.names[i]? = some (x, .globalImplicit)) (g : nsIn c.K mainGlobals x = some (some v)) (hd : (x == ("__debug__" : Str)) = false) {d : D} (hr : ∀ X s, Inv c s → Xok c X s → Rep X s.heap d v) (h : Pq d) :
    Ev c n fc ρ (.Name x pos) Pq := fun _ _ _ _ _ _ _ S => wpAny_Name (W_global (S.inv.kin O) g (got_now S.inv h (hr _ _ S.inv S.xok)) S.fn S.ev.globals (S.kind e)) hd
theorem ev_builtin {x : Str} {pos : Pos} {v : Value} (O : c.Ok) (i : Nat) (e : fc.scope.names[i]? = some (x, .globalImplicit)) (g : nsIn c.K mainGlobals x = some none) (b : bootBuiltins x = some v) (hn : x ≠ "__name__") (hd : (x == ("__debug__" : Str)) = false) (h : Pq (.raw v)) :
    Ev c n fc ρ (.Name x pos) Pq := fun _ _ _ _ _ _ _ S => by
  obtain ⟨mb, nb, hb⟩ := S.inv.nsb O
  exact wpAny_Name (W_builtin (S.inv.kin O) g nb ((hb x hn).trans b) (got_now S.inv h rfl) S.fn S.ev.globals S.ev.builtins (S.kind e)) hd
end
end Mine
end
section
namespace Mine
open PySem PySem.W PySem.Calls PyProof.Rows Builtin

inductive Out where
  | next (ρ : Rho)
  | brk (ρ : Rho)
  | cont (ρ : Rho)
  | ret (d : D)

/-- no object stands there -/
def Gone (h : Heap) (a : Addr) : Prop := h.get? a = none
/-- the places that are written may grow by new ones alone; what is shunned and not written stays shunned -/
structure Grow (W X W' X' N : Addr → Prop) : Prop where
  w : ∀ a, W' a → W a ∨ N a
  x : ∀ a, X a → ¬ W a → X' a
  y : ∀ a, X' a → X a ∨ N a
theorem Grow.refl (W X N : Addr → Prop) : Grow W X W X N := ⟨fun _ e => .inl e, fun _ e _ => e, fun _ e => .inl e⟩
def Ended (c : Cx) (W Xc X : Addr → Prop) (fc : FC) (env : Env) (N : Addr → Prop) (fl : Flow) (o : Out) (s' : Shared) : Prop := match o with
  | .next ρ => fl = .next ∧ ∃ W' X', Grow W X W' X' N ∧ Sat c W' Xc X' fc env ρ s'
  | .brk ρ => fl = .brk ∧ ∃ W' X', Grow W X W' X' N ∧ Sat c W' Xc X' fc env ρ s'
  | .cont ρ => fl = .cont ∧ ∃ W' X', Grow W X W' X' N ∧ Sat c W' Xc X' fc env ρ s'
  | .ret d => ∃ v, fl = .ret v ∧ Inv c s' ∧ Rep Xc s'.heap d v

/-- what is not written, stands, but for the one table -/
def Low (W : Addr → Prop) (P : Addr) (h h' : Heap) : Prop := Stay (fun b => W b ∨ b = P) h h'
theorem Low.of_stay {W : Addr → Prop} {P : Addr} {h h' : Heap} (k : Stay (· = P) h h') : Low W P h h' := k.mono fun _ e => .inr e
theorem Low.refl (W : Addr → Prop) (P : Addr) (h : Heap) : Low W P h h := Stay.refl _ _
theorem Low.trans {W : Addr → Prop} {P : Addr} {h h' h'' : Heap} (a : Low W P h h') (b : Low W P h' h'') : Low W P h h'' := Stay.trans a b
theorem Low.grow {W X W' X' : Addr → Prop} {P : Addr} {h h' h'' : Heap} (a : Low W P h h') (g : Grow W X W' X' (Gone h)) (b : Low W' P h' h'') : Low W P h h'' := fun x o n e =>
  b x o (fun q => n (q.elim (fun q => (g.w x q).elim .inl fun z => by rw [show h.get? x = none from z] at e; cases e) .inr)) (a x o n e)
theorem Grow.trans {W X W' X' W'' X'' N N' : Addr → Prop} (old : ∀ x, N' x → W x ∨ N x) (a : Grow W X W' X' N) (xN : ∀ a, X a → ¬ N a) (wx : ∀ a, W a → X a) (b : Grow W' X' W'' X'' N') : Grow W X W'' X'' N := by
  refine ⟨fun x q => ?_, fun x q n => b.x x (a.x x q n) fun z => ?_, fun x q => ?_⟩
  · exact (b.w x q).elim (a.w x) (old x)
  · exact (a.w x z).elim n (xN x q)
  · exact (b.y x q).elim (a.y x) fun z => (old x z).imp (wx x) id
theorem old_of {W Z : Addr → Prop} {h h' : Heap} (lw : Stay Z h h') (hZ : ∀ z, Z z → W z ∨ ∃ o, h'.get? z = some o) : ∀ x, Gone h' x → W x ∨ Gone h x := fun x z => by
  have z : h'.get? x = none := z
  by_cases q : Z x
  · rcases hZ x q with w | ⟨o, g⟩
    · exact .inl w
    · rw [z] at g; cases g
  · right
    show h.get? x = none
    cases e : h.get? x with
    | none => rfl
    | some o => rw [lw x o q e] at z; cases z
theorem old_low {W : Addr → Prop} {P : Addr} {h h' : Heap} (lw : Low W P h h') (hP : ∃ o, h'.get? P = some o) : ∀ x, Gone h' x → W x ∨ Gone h x := old_of lw fun z q => q.elim .inl fun e => .inr (by rw [e]; exact hP)
theorem old_stay {W : Addr → Prop} {P : Addr} {h h' : Heap} (lw : Stay (· = P) h h') (hP : ∃ o, h'.get? P = some o) : ∀ x, Gone h' x → W x ∨ Gone h x := old_of lw fun z q => .inr (by rw [show z = P from q]; exact hP)
theorem not_gone {X : Addr → Prop} {h : Heap} (xe : ∀ a, X a → ∃ o, h.get? a = some o) : ∀ a, X a → ¬ Gone h a := fun a q g => by obtain ⟨o, e⟩ := xe a q; rw [show h.get? a = none from g] at e; cases e

def ExPost (c : Cx) (W Xc X : Addr → Prop) (fc : FC) (env : Env) (s : Shared) (R : Out → Prop) (fl : Flow) (s' : Shared) : Prop :=
  Low W c.P s.heap s'.heap ∧ ∃ o, R o ∧ Ended c W Xc X fc env (Gone s.heap) fl o s'
def Ex (c : Cx) (n : Nat) (fc : FC) (ρ : Rho) (ss : List Stmt) (R : Out → Prop) : Prop :=
  ∀ W Xc X env A s, Good n A → Sat c W Xc X fc env ρ s → Wp c A (execs ss env) (ExPost c W Xc X fc env s R) s
def Ex1 (c : Cx) (n : Nat) (fc : FC) (ρ : Rho) (st : Stmt) (R : Out → Prop) : Prop :=
  ∀ W Xc X env A s, Good n A → Sat c W Xc X fc env ρ s → Wp c A (exec st env) (ExPost c W Xc X fc env s R) s
/-- a test -/
def Tst (c : Cx) (n : Nat) (fc : FC) (ρ : Rho) (e : Expr) (Pb : Bool → Prop) : Prop :=
  ∀ W Xc X env A s, Good n A → Sat c W Xc X fc env ρ s → Wp c A (isTrue e env (eval e env)) (fun b s' => Inv c s' ∧ Stay (· = c.P) s.heap s'.heap ∧ Pb b) s

section
variable {c : Cx} {n : Nat} {fc : FC} {ρ : Rho} {R : Out → Prop}

theorem Good.mark {A : Around} (G : Good n A) : Good n (A.mark none) := ⟨by simp [Around.mark, G.1], G.2.1, G.2.2⟩
theorem Good.le {A : Around} {k : Nat} (G : Good n A) (h : k ≤ n) : Good k A := ⟨G.1, by have := G.2.1; omega, by have := G.2.2; omega⟩
theorem Good.depth {A : Around} (G : Good n A) : A.depth < recursionLimit := by have := G.2.1; unfold recursionLimit; omega
theorem Good.units {A : Around} (G : Good n A) : A.units + 64 < cLine := by have := G.2.2; unfold cLine; omega
theorem Good.under0 {A : Around} {k : Code} (G : Good n A) (hw : k.weight = 0) (hu : k.cUnits = 0) : Good n (A.under k) := by rw [Around.under_of_weight hw hu]; exact G
theorem Wp.onRaise {α : Type} {A : Around} {m : Sem α} {k : Value → Sem Unit} {Q : α → Shared → Prop} {E : Value → Shared → Prop} {s : Shared} (h : Wp c A m Q s) : wpAny (model c.prog c.w) A (m.onRaise k) Q E s :=
  wpAny_onRaise (wpAny_mono h (fun _ _ x => x) fun _ _ x => x.elim)
theorem Wp.any {α : Type} {A : Around} {m : Sem α} {Q : α → Shared → Prop} {E : Value → Shared → Prop} {s : Shared} (h : Wp c A m Q s) : wpAny (model c.prog c.w) A m Q E s := wpAny_mono h (fun _ _ x => x) fun _ _ x => x.elim

theorem Sat.notP {W Xc X : Addr → Prop} {env : Env} {s : Shared} (S : Sat c W Xc X fc env ρ s) : ∀ a, W a → a ≠ c.P := fun a w e => absurd S.inv.lo.1 (Nat.not_lt.mpr (e ▸ S.base a w))
theorem Ended.grow {W Xc X W' X' N N' : Addr → Prop} {env : Env} {s'' : Shared} {fl : Flow} {o : Out} (old : ∀ x, N' x → W x ∨ N x) (gr : Grow W X W' X' N) (xN : ∀ a, X a → ¬ N a) (wx : ∀ a, W a → X a)
    (e : Ended c W' Xc X' fc env N' fl o s'') : Ended c W Xc X fc env N fl o s'' := by
  have tr : ∀ {W'' X''}, Grow W' X' W'' X'' N' → Grow W X W'' X'' N := fun g => Grow.trans old gr xN wx g
  cases o with
  | next ρ' => obtain ⟨q, W'', X'', g, S''⟩ := e; exact ⟨q, W'', X'', tr g, S''⟩
  | brk ρ' => obtain ⟨q, W'', X'', g, S''⟩ := e; exact ⟨q, W'', X'', tr g, S''⟩
  | cont ρ' => obtain ⟨q, W'', X'', g, S''⟩ := e; exact ⟨q, W'', X'', tr g, S''⟩
  | ret d => exact e
theorem Inv.someP {s : Shared} (I : Inv c s) : ∃ o, s.heap.get? c.P = some o := let ⟨_, q⟩ := I.atP; ⟨_, q⟩
theorem Sat.notGone {W Xc X : Addr → Prop} {env : Env} {s : Shared} (S : Sat c W Xc X fc env ρ s) : ∀ a, X a → ¬ Gone s.heap a := not_gone S.xex
theorem ExPost.grow {ρ₀ : Rho} {W Xc X W' X' : Addr → Prop} {env : Env} {s s' s'' : Shared} {fl : Flow} (S' : Sat c W' Xc X' fc env ρ s') (lw : Low W c.P s.heap s'.heap) (gr : Grow W X W' X' (Gone s.heap)) (S : Sat c W Xc X fc env ρ₀ s)
    (g : ExPost c W' Xc X' fc env s' R fl s'') : ExPost c W Xc X fc env s R fl s'' := by
  obtain ⟨lw', o, r, e⟩ := g
  exact ⟨lw.grow gr lw', o, r, e.grow (old_low lw S'.inv.someP) gr S.notGone S.wx⟩
theorem ExPost.next {W Xc X : Addr → Prop} {env : Env} {s s' s'' : Shared} {fl : Flow} (S : Sat c W Xc X fc env ρ s) (I : Inv c s') (st : Stay (· = c.P) s.heap s'.heap) (g : ExPost c W Xc X fc env s' R fl s'') : ExPost c W Xc X fc env s R fl s'' :=
  ExPost.grow (S.keep I st) (Low.of_stay st) (Grow.refl _ _ _) S g
theorem ExPost.low {W Xc X : Addr → Prop} {env : Env} {s s' s'' : Shared} {fl : Flow} {ρ' : Rho} (S : Sat c W Xc X fc env ρ s) (S' : Sat c W Xc X fc env ρ' s') (lw : Low W c.P s.heap s'.heap) (g : ExPost c W Xc X fc env s' R fl s'') : ExPost c W Xc X fc env s R fl s'' :=
  ExPost.grow S' lw (Grow.refl _ _ _) S g

theorem ex_nil (h : R (.next ρ)) : Ex c n fc ρ [] R := fun W Xc X env A s G S => wpAny_execs_nil ⟨Low.refl _ _ _, _, h, rfl, W, X, Grow.refl _ _ _, S⟩
theorem ex_cons {st : Stmt} {rest : List Stmt} (h : Ex1 c n fc ρ st (fun o => match o with | .next ρ' => Ex c n fc ρ' rest R | o => R o)) : Ex c n fc ρ (st :: rest) R := fun W Xc X env A s G S => by
  refine wpAny_execs_cons (Wp.mono (h W Xc X env A s G S) fun fl s' ⟨k, o, r, e⟩ => ?_)
  cases o with
  | next ρ' => obtain ⟨rfl, W', X', g, S'⟩ := e; exact Wp.mono (r W' Xc X' env A s' G S') fun fl s'' e => e.grow S' k g S
  | brk ρ' => obtain ⟨rfl, e⟩ := e; exact ⟨k, _, r, rfl, e⟩
  | cont ρ' => obtain ⟨rfl, e⟩ := e; exact ⟨k, _, r, rfl, e⟩
  | ret d => obtain ⟨v, rfl, e⟩ := e; exact ⟨k, _, r, v, rfl, e⟩
theorem Ex.mono {R' : Out → Prop} {ss : List Stmt} (h : Ex c n fc ρ ss R) (k : ∀ o, R o → R' o) : Ex c n fc ρ ss R' := fun W Xc X env A s G S => Wp.mono (h W Xc X env A s G S) fun fl s' ⟨k', o, r, e⟩ => ⟨k', o, k o r, e⟩
theorem Ex1.mono {R' : Out → Prop} {st : Stmt} (h : Ex1 c n fc ρ st R) (k : ∀ o, R o → R' o) : Ex1 c n fc ρ st R' := fun W Xc X env A s G S => Wp.mono (h W Xc X env A s G S) fun fl s' ⟨k', o, r, e⟩ => ⟨k', o, k o r, e⟩

theorem ex_if {test : Expr} {body orelse : List Stmt} {pos : Pos} (h : Tst c n fc ρ test (fun b => if b = true then Ex c n fc ρ body R else Ex c n fc ρ orelse R)) : Ex1 c n fc ρ (.If test body orelse pos) R := fun W Xc X env A s G S => by
  refine wpAny_If (Wp.mono (h W Xc X env A s G S) fun b s' ⟨I, st, r⟩ => ?_)
  have S' := S.keep I st
  cases b with
  | true => exact Wp.mono (r W Xc X env A s' G S') fun fl s'' g => g.next S I st
  | false => exact Wp.mono (r W Xc X env A s' G S') fun fl s'' g => g.next S I st
theorem ex_pass {pos : Pos} (h : R (.next ρ)) : Ex1 c n fc ρ (.Pass pos) R := fun W Xc X env A s G S => wpAny_Pass ⟨Low.refl _ _ _, _, h, rfl, W, X, Grow.refl _ _ _, S⟩
theorem ex_return {e : Expr} {pos : Pos} (h : Ev c n fc ρ e (fun d => R (.ret d))) : Ex1 c n fc ρ (.Return (some e) pos) R := fun W Xc X env A s G S =>
  wpAny_Return_some (h.use G S fun v s' d S' st p r => ⟨Low.of_stay st, _, p, v, rfl, S'.inv, r.anti S.xc⟩)
theorem ex_return_none {pos : Pos} (h : R (.ret (.raw .none))) : Ex1 c n fc ρ (.Return none pos) R := fun W Xc X env A s G S =>
  wpAny_Return_none ⟨Low.refl _ _ _, _, h, _, rfl, S.inv, rfl⟩

/-! storing a name -/
theorem apart_set {L : Addr} {lv : LV} : ∀ {ρ : Rho} {i : Nat}, Apart L ρ → (∀ a dd C fs, lv = .self a dd C fs → dd ≠ L) → (∀ a l, lv = .own a l → ∀ j b l', j ≠ i → ρ[j]? = some (some (.own b l')) → a ≠ b) → Apart L (ρ.set i (some lv))
  | [], _, _, _, _ => trivial
  | x :: r, 0, h, h1, h2 => by
    have hr : Apart L r := by
      match x, h with
      | none, h => exact h
      | some (.dat _), h => exact h
      | some (.own _ _), h => exact h.2
      | some (.self _ _ _ _), h => exact h.2
    show Apart L (some lv :: r)
    cases lv with
    | dat d => exact hr
    | self a dd C fs => exact ⟨h1 _ _ _ _ rfl, hr⟩
    | own a l =>
      refine ⟨fun lv hm b l' e => ?_, hr⟩
      subst e
      obtain ⟨j, hj, e⟩ := List.getElem_of_mem hm
      exact h2 a l rfl (j + 1) b l' (by omega) (by simp [List.getElem?_eq_getElem hj, e])
  | x :: r, i + 1, h, h1, h2 => by
    have h2' : ∀ a l, lv = .own a l → ∀ j b l', j ≠ i → r[j]? = some (some (.own b l')) → a ≠ b := fun a l e j b l' ne q => h2 a l e (j + 1) b l' (fun z => ne (Nat.succ.inj z)) (by simpa using q)
    show Apart L (x :: r.set i _)
    match x, h with
    | none, h => exact apart_set h h1 h2'
    | some (.dat _), h => exact apart_set h h1 h2'
    | some (.own a l), h =>
      refine ⟨fun lv' hm b l' e => ?_, apart_set h.2 h1 h2'⟩
      rcases List.mem_or_eq_of_mem_set hm with hm | hm
      · exact h.1 lv' hm b l' e
      · have e' : lv = LV.own b l' := Option.some.inj (hm.symm.trans e)
        exact fun q => h2 b l' e' 0 a l (by omega) rfl q.symm
    | some (.self _ _ _ _), h => exact ⟨h.1, apart_set h.2 h1 h2'⟩
theorem own_apart {L : Addr} : ∀ {ρ : Rho} {i j : Nat} {a b : Addr} {l l' : List D}, Apart L ρ → i ≠ j → ρ[i]? = some (some (.own a l)) → ρ[j]? = some (some (.own b l')) → a ≠ b
  | [], _, _, _, _, _, _, _, _, e, _ => by simp at e
  | x :: r, 0, 0, _, _, _, _, _, ne, _, _ => absurd rfl ne
  | x :: r, 0, j + 1, a, b, l, l', h, _, e, e' => by
    cases e
    exact h.1 _ (List.mem_of_getElem? (by simpa using e')) b l' rfl
  | x :: r, i + 1, 0, a, b, l, l', h, _, e, e' => by
    cases e'
    exact fun q => h.1 _ (List.mem_of_getElem? (by simpa using e)) a l rfl q.symm
  | x :: r, i + 1, j + 1, a, b, l, l', h, ne, e, e' => by
    have h' : Apart L r := by
      match x, h with
      | none, h => exact h
      | some (.dat _), h => exact h
      | some (.own _ _), h => exact h.2
      | some (.self _ _ _ _), h => exact h.2
    exact own_apart (i := i) (j := j) h' (fun (q : i = j) => ne (congrArg (· + 1) q)) (by simpa using e) (by simpa using e')
theorem self_apart {L : Addr} : ∀ {ρ : Rho} {i : Nat} {a dd C : Addr} {fs : List (Str × D)}, Apart L ρ → ρ[i]? = some (some (.self a dd C fs)) → dd ≠ L
  | [], _, _, _, _, _, _, e => by simp at e
  | x :: r, 0, a, dd, C, fs, h, e => by cases e; exact h.1
  | x :: r, i + 1, a, dd, C, fs, h, e => by
    have h' : Apart L r := by
      match x, h with
      | none, h => exact h
      | some (.dat _), h => exact h
      | some (.own _ _), h => exact h.2
      | some (.self _ _ _ _), h => exact h.2
    exact self_apart h' (by simpa using e)

/-- the steps that turn one object of X alone -/
theorem LRep.turn {W X : Addr → Prop} {h h' : Heap} {z : Addr} {lv : LV} {v : Value} (xz : X z) (k : Stay (· = z) h h')
    (o1 : ∀ a l, lv = .own a l → a ≠ z) (o2 : ∀ a dd C fs, lv = .self a dd C fs → a ≠ z ∧ dd ≠ z) (r : LRep W X h lv v) : LRep W X h' lv v := by
  have k' : Stay X h h' := k.mono fun a e => e ▸ xz
  cases lv with
  | dat d => exact Rep.stay k' r
  | own a l =>
    obtain ⟨e, x, n, vs, m, g, rl⟩ := r
    exact ⟨e, x, n, vs, m, k a _ (o1 a l rfl) g, RepL.stay k' rl⟩
  | self a dd C fs =>
    obtain ⟨e, x, n, g, es, m, g', rl⟩ := r
    exact ⟨e, x, n, k a _ (o2 _ _ _ _ rfl).1 g, es, m, k dd _ (o2 _ _ _ _ rfl).2 g', RepF.stay k' rl⟩

theorem names_ne (F : fc.ok = true) {i j : Nat} {x y : Str} {k k' : NameKind} (h : fc.scope.names[i]? = some (x, k)) (h' : fc.scope.names[j]? = some (y, k')) (ne : i ≠ j) : x ≠ y := by
  intro q
  unfold FC.ok at F
  have nd : (fc.scope.names.map (·.1)).Nodup := of_decide_eq_true (Bool.and_eq_true_iff.mp F).2
  have h1 : (fc.scope.names.map (·.1))[i]? = some x := by rw [List.getElem?_map, h]; rfl
  have h2 : (fc.scope.names.map (·.1))[j]? = some x := by rw [List.getElem?_map, h', q]; rfl
  obtain ⟨hi, e1⟩ := List.getElem?_eq_some_iff.mp h1
  obtain ⟨hj, e2⟩ := List.getElem?_eq_some_iff.mp h2
  exact ne ((List.getElem_inj nd).mp (e1.trans e2.symm))

theorem Sat.lo {W Xc X : Addr → Prop} {env : Env} {s : Shared} (S : Sat c W Xc X fc env ρ s) : c.h₁.objs.size ≤ env.locals := S.base _ S.wL
theorem Sat.xL {W Xc X : Addr → Prop} {env : Env} {s : Shared} (S : Sat c W Xc X fc env ρ s) : X env.locals := S.wx _ S.wL

theorem xex_turn {X : Addr → Prop} {h h' : Heap} {z : Addr} (k : Stay (· = z) h h') (gz : ∃ o, h'.get? z = some o) (x : ∀ a, X a → ∃ o, h.get? a = some o) : ∀ a, X a → ∃ o, h'.get? a = some o := fun a xa => by
  by_cases e : a = z
  · rw [e]; exact gz
  · obtain ⟨o, g⟩ := x a xa; exact ⟨o, k a o e g⟩
theorem Sat.store {W Xc X : Addr → Prop} {env : Env} {A : Around} {s : Shared} {i : Nat} {x : Str} {k : NameKind} {lv : LV} {v : Value} {Q : Unit → Shared → Prop} (S : Sat c W Xc X fc env ρ s) (F : (k != .cell || fc.wr x) = true) (e : fc.scope.names[i]? = some (x, k)) (hk : k = .local ∨ k = .cell) (il : i < ρ.length)
    (r : LRep W X s.heap lv v) (ho : ∀ a l, lv = .own a l → ¬ Xc a ∧ ∀ j b l', j ≠ i → ρ[j]? = some (some (.own b l')) → a ≠ b) (hse : ∀ a dd C fs, lv ≠ .self a dd C fs) (q : ∀ s', Sat c W Xc X fc env (ρ.set i (some lv)) s' → Low W c.P s.heap s'.heap → Q () s') : Wp c A (storeName env x v) Q s := by
  have hap : Apart env.locals (ρ.set i (some lv)) := apart_set S.apart (fun a dd C fs e => absurd e (hse _ _ _ _)) fun a l e => (ho a l e).2
  obtain ⟨m, ⟨oL, es, ep, ho', hd, r0⟩, B⟩ := S.ns
  have get_set : ∀ {j : Nat} {lv' : LV}, j ≠ i → (ρ.set i (some lv))[j]? = some (some lv') → ρ[j]? = some (some lv') := fun ne h => by rwa [List.getElem?_set_ne (Ne.symm ne)] at h
  have own_set : ∀ (j : Nat) (a : Addr) (l : List D), (ρ.set i (some lv))[j]? = some (some (LV.own a l)) → ¬ Xc a ∧ X a ∧ W a := fun j a l h => by
    by_cases ne : j = i
    · subst ne
      rw [List.getElem?_set_self il] at h
      have e := Option.some.inj (Option.some.inj h)
      refine ⟨(ho a l e).1, ?_⟩
      subst e
      exact ⟨r.2.1, r.2.2.1⟩
    · exact S.owns j a l (get_set ne h)
  have self_set : fc.ini = true → ∀ (j : Nat) (a dd C : Addr) (fs : List (Str × D)), (ρ.set i (some lv))[j]? = some (some (LV.self a dd C fs)) → W dd := fun I j a dd C fs h => by
    by_cases ne : j = i
    · subst ne
      rw [List.getElem?_set_self il] at h
      exact absurd (Option.some.inj (Option.some.inj h)) (hse _ _ _ _)
    · exact S.selfW I j a dd C fs (get_set ne h)
  have notL : ∀ {a o}, s.heap.get? a = some o → (∀ es ep, o.data ≠ .dict es ep) → a ≠ env.locals := by
    intro a o g ne q
    rw [q, ho'] at g
    cases g
    exact ne _ _ hd
  rcases hk with rfl | rfl
  · refine wpAny_storeName_local (S.kind e) ⟨oL, es, ep, ho', hd, r0⟩ (fun h' hn hs => ?_) (by rw [S.fn]; rfl)
    have st : Stay (· = env.locals) s.heap h' := fun b o nb g => (hs.2 b nb).trans g
    refine q _ ⟨S.inv.turn S.lo hs, S.ev, S.fok, S.xP, S.xc, xex_turn st (let ⟨o, _, _, g, _⟩ := hn; ⟨o, g⟩) S.xex, S.xlo, S.wx, S.wL, S.base, ⟨_, hn, fun j y ky lv h1 h2 => ?_⟩, fun y a ha => ?_, S.celled, S.capart, S.cellN, own_set, hap, self_set⟩ fun b o nb g => st b o (fun z => nb (.inl (z ▸ S.wL))) g
    · by_cases ne : j = i
      · subst ne
        rw [List.getElem?_set_self il] at h2
        cases h2
        rw [e] at h1
        cases h1
        exact ⟨.inl rfl, v, LRep.turn S.xL st (fun a l z => by subst z; obtain ⟨_, _, _, vs, n, g, _⟩ := r; exact notL g fun _ _ z => by cases z) (fun a dd C fs z => absurd z (hse _ _ _ _)) r, fun _ => by simp, fun z => by cases z⟩
      · have h2' := get_set ne h2
        obtain ⟨kk, u, lr, b1, b2⟩ := B j y ky lv h1 h2'
        refine ⟨kk, u, LRep.turn S.xL st (fun a l z => ?_) (fun a dd C fs z => ?_) lr, fun z => ?_, fun z => ?_⟩
        · subst z; obtain ⟨_, _, _, vs, n, g, _⟩ := lr; exact notL g fun _ _ z => by cases z
        · subst z; obtain ⟨_, _, _, g, _⟩ := lr; exact ⟨notL g (fun _ _ z => by cases z), self_apart S.apart h2'⟩
        · show (if y = x then some v else m y) = some u
          rw [if_neg (names_ne S.fok h1 e ne)]; exact b1 z
        · obtain ⟨a, q1, q2, o, g, gd⟩ := b2 z
          exact ⟨a, q1, q2, o, st a o (notL g fun _ _ z => by rw [gd] at z; cases z) g, gd⟩
    · obtain ⟨q1, u, o, g, gd⟩ := S.cells y a ha
      exact ⟨q1, u, o, st a o (notL g fun _ _ z => by rw [gd] at z; cases z) g, gd⟩
  · obtain ⟨z, hz⟩ := S.celled i x e
    obtain ⟨xz, u0, hu0⟩ := S.cells x z hz
    have Nz := S.cellN x z (by simpa using F) hz
    refine wpAny_storeName_cell S.fn (S.kind e) hz hu0 (fun h' hn hs => ?_)
    obtain ⟨oz, gz, dz⟩ := hu0
    have st : Stay (· = z) s.heap h' := fun b o nb g => (hs.2 b nb).trans g
    have notZ : ∀ {a o}, s.heap.get? a = some o → (∀ v, o.data ≠ .cell v) → a ≠ z := by
      intro a o g ne q
      rw [q, gz] at g
      cases g
      exact ne _ dz
    have hn' : Heap.Ns h' env.locals m := ⟨oL, es, ep, st _ _ (notZ ho' fun _ w => by rw [hd] at w; cases w) ho', hd, r0⟩
    refine q _ ⟨S.inv.turn (S.base _ Nz) hs, S.ev, S.fok, S.xP, S.xc, xex_turn st (let ⟨o, g, _⟩ := hn; ⟨o, g⟩) S.xex, S.xlo, S.wx, S.wL, S.base, ⟨m, hn', fun j y ky lv h1 h2 => ?_⟩, fun y a ha => ?_, S.celled, S.capart, S.cellN, own_set, hap, self_set⟩ fun b o nb g => st b o (fun w => nb (.inl (w ▸ Nz))) g
    · by_cases ne : j = i
      · subst ne
        rw [List.getElem?_set_self il] at h2
        cases h2
        rw [e] at h1
        cases h1
        exact ⟨.inr rfl, v, LRep.turn xz st (fun a l w => by subst w; obtain ⟨_, _, _, vs, n, g, _⟩ := r; exact notZ g fun _ w => by cases w) (fun a dd C fs w => absurd w (hse _ _ _ _)) r, (fun w => by cases w), fun _ => ⟨z, hz, xz, hn⟩⟩
      · have h2' := get_set ne h2
        obtain ⟨kk, u, lr, b1, b2⟩ := B j y ky lv h1 h2'
        refine ⟨kk, u, LRep.turn xz st (fun a l w => ?_) (fun a dd C fs w => ?_) lr, b1, fun w => ?_⟩
        · subst w; obtain ⟨_, _, _, vs, n, g, _⟩ := lr; exact notZ g fun _ w => by cases w
        · subst w; obtain ⟨_, _, _, g, es, n, g', _⟩ := lr; exact ⟨notZ g (fun _ w => by cases w), notZ g' (fun _ w => by cases w)⟩
        · obtain ⟨a, q1, q2, o, g, gd⟩ := b2 w
          refine ⟨a, q1, q2, o, st a o (fun w => ?_) g, gd⟩
          subst w
          exact names_ne S.fok h1 e ne (S.capart y x a q1 hz)
    · by_cases w : a = z
      · subst w; exact ⟨xz, _, hn⟩
      · obtain ⟨q1, u, o, g, gd⟩ := S.cells y a ha
        exact ⟨q1, u, o, st a o w g, gd⟩

theorem Sat.storeD {W Xc X : Addr → Prop} {env : Env} {A : Around} {s : Shared} {i : Nat} {x : Str} {k : NameKind} {d : D} {v : Value} {Q : Unit → Shared → Prop} (S : Sat c W Xc X fc env ρ s) (F : (k != .cell || fc.wr x) = true) (e : fc.scope.names[i]? = some (x, k)) (hk : k = .local ∨ k = .cell) (il : i < ρ.length)
    (r : Rep X s.heap d v) (q : ∀ s', Sat c W Xc X fc env (ρ.set i (some (.dat d))) s' → Low W c.P s.heap s'.heap → Q () s') : Wp c A (storeName env x v) Q s :=
  S.store F e hk il (lv := .dat d) r (fun _ _ z => by cases z) (fun _ _ _ _ z => by cases z) q
theorem ex_assign {x : Str} {k : NameKind} {pos' pos : Pos} {value : Expr} (F : (k != .cell || fc.wr x) = true) (i : Nat) (e : fc.scope.names[i]? = some (x, k)) (hk : k = .local ∨ k = .cell) (il : i < ρ.length)
    (h : Ev c n fc ρ value (fun d => R (.next (ρ.set i (some (.dat d)))))) (hs : ∀ env, swapsWith value (some (.Name x pos')) pos.line env = pure false) : Ex1 c n fc ρ (.Assign [.Name x pos'] value pos) R := fun W Xc X env A s G S => by
  refine wpAny_Assign_Name (h.use G S fun v s' d S' st p r => ?_) (hs env)
  exact S'.storeD F e hk il r fun s'' S'' lw => ⟨(Low.of_stay st).trans lw, _, p, rfl, W, X, Grow.refl _ _ _, S''⟩
end
end Mine
end
section
namespace Mine
open PySem PySem.W PySem.Calls PyProof.Rows Builtin

/-- a step on two data, whatever bears them -/
def Two (c : Cx) (n : Nat) (t : Value → Value → Sem Value) (a b : D) (Pq : D → Prop) : Prop :=
  ∀ X A s u v, Good n A → Inv c s → Xok c X s → Rep X s.heap a u → Rep X s.heap b v → Wp c A (t u v) (Got c X s Pq) s
def One (c : Cx) (n : Nat) (t : Value → Sem Value) (a : D) (Pq : D → Prop) : Prop :=
  ∀ X A s u, Good n A → Inv c s → Xok c X s → Rep X s.heap a u → Wp c A (t u) (Got c X s Pq) s
/-- truth of a datum -/
def Tru (c : Cx) (n : Nat) (a : D) (Pb : Bool → Prop) : Prop :=
  ∀ X A s u, Good n A → Inv c s → Xok c X s → Rep X s.heap a u → Wp c A (truthy u) (fun b s' => Inv c s' ∧ Stay (· = c.P) s.heap s'.heap ∧ Pb b) s

section
variable {c : Cx} {n : Nat} {fc : FC} {ρ : Rho} {R : Out → Prop} {Pq : D → Prop} {Pb : Bool → Prop}

theorem Rep.st {X : Addr → Prop} {h h' : Heap} {d : D} {v : Value} (r : Rep X h d v) (xP : X c.P) (k : Stay (· = c.P) h h') : Rep X h' d v := r.stay (k.mono fun a e => e ▸ xP)
theorem RepL.st {X : Addr → Prop} {h h' : Heap} {d : List D} {v : List Value} (r : RepL X h d v) (xP : X c.P) (k : Stay (· = c.P) h h') : RepL X h' d v := r.stay (k.mono fun a e => e ▸ xP)

theorem ev_two {l r : Expr} {t : Value → Value → Sem Value} {W Xc X : Addr → Prop} {env : Env} {A : Around} {s : Shared} (h : Ev c n fc ρ l (fun a => Ev c n fc ρ r (fun b => Two c n t a b Pq))) (G : Good n A) (S : Sat c W Xc X fc env ρ s) :
    Wp c A (eval l env) (fun a s₁ => Wp c A (eval r env) (fun b s₂ => Wp c A (t a b) (Got c X s Pq) s₂) s₁) s :=
  h.use G S fun u s₁ a S₁ st p ra => p.use G S₁ fun v s₂ b S₂ st' q rb =>
    Wp.mono (q X A s₂ u v G S₂.inv S₂.xok (ra.st (S₂.xc _ S₂.xP) st') rb) fun _ _ g => g.next (st.trans st')

theorem ev_bin {l r : Expr} {op : Operator} {pos : Pos} (h : Ev c n fc ρ l (fun a => Ev c n fc ρ r (fun b => Two c n (binaryOp op) a b Pq))) : Ev c n fc ρ (.BinOp l op r pos) Pq :=
  fun W Xc X env A s G S => wpAny_BinOp (ev_two h G S)
theorem ev_cmp {l r : Expr} {op : CmpOp} {pos : Pos} (hm : behindInMarks op r = false) (h : Ev c n fc ρ l (fun a => Ev c n fc ρ r (fun b => Two c n (compareOp op) a b Pq))) : Ev c n fc ρ (.Compare l [op] [r] pos) Pq :=
  fun W Xc X env A s G S => wpAny_Compare1 (ev_two h G S) hm
theorem ev_not {x : Expr} {pos : Pos} (h : Ev c n fc ρ x (fun a => Tru c n a (fun b => Pq (.raw (.bool (!b)))))) : Ev c n fc ρ (.UnaryOp .Not x pos) Pq :=
  fun W Xc X env A s G S => UnaryOp_ (h.use G S fun u s₁ a S₁ st p ra => not_of (Wp.mono (p X A s₁ u G S₁.inv S₁.xok ra) fun b s₂ ⟨I, st', pb⟩ => ⟨I, st.trans st', _, pb, rfl⟩))
theorem ev_un {x : Expr} {op : UnaryOp} {pos : Pos} (h : Ev c n fc ρ x (fun a => One c n (unaryOp op) a Pq)) : Ev c n fc ρ (.UnaryOp op x pos) Pq :=
  fun W Xc X env A s G S => UnaryOp_ (h.use G S fun u s₁ a S₁ st p ra => Wp.mono (p X A s₁ u G S₁.inv S₁.xok ra) fun _ _ g => g.next st)
theorem ev_if {test body orelse : Expr} {pos : Pos} (h : Tst c n fc ρ test (fun b => if b = true then Ev c n fc ρ body Pq else Ev c n fc ρ orelse Pq)) : Ev c n fc ρ (.IfExp test body orelse pos) Pq :=
  fun W Xc X env A s G S => IfExp_ (Wp.mono (h W Xc X env A s G S) fun b s' ⟨I, st, r⟩ => by
    have S' := S.keep I st
    cases b with
    | true => exact Wp.mono (r W Xc X env A s' G S') fun _ _ g => g.next st
    | false => exact Wp.mono (r W Xc X env A s' G S') fun _ _ g => g.next st)

/-! tests -/
theorem tst_of {e : Expr} (he : ∀ env w, isTrue e env w = (do let v ← w; standAt e.pos; holding [v] (truthy v))) (h : Ev c n fc ρ e (fun a => Tru c n a Pb)) : Tst c n fc ρ e Pb :=
  fun W Xc X env A s G S => isTrue_plain (h.use G S fun u s₁ a S₁ st p ra => Wp.mono (p X A s₁ u G S₁.inv S₁.xok ra) fun b s₂ ⟨I, st', pb⟩ => ⟨I, st.trans st', pb⟩) (he env _)
theorem tst_cmp {l r : Expr} {op : CmpOp} {pos : Pos} (hm : behindInMarks op r = false) (h : Ev c n fc ρ l (fun a => Ev c n fc ρ r (fun b => Two c n (compareOp op) a b (fun d => Tru c n d Pb)))) : Tst c n fc ρ (.Compare l [op] [r] pos) Pb :=
  fun W Xc X env A s G S => wpAny_isTrue_Compare1 (Wp.mono (ev_two h G S) fun u s₁ h₁ => Wp.mono h₁ fun v s₂ h₂ => Wp.mono h₂ fun x s₃ ⟨I, st, d, p, r⟩ =>
    Wp.mono (p X A s₃ x G I (S.xok.st I st) r) fun b s₄ ⟨I, st', pb⟩ => ⟨I, st.trans st', pb⟩) hm
theorem tst_not {x : Expr} {pos : Pos} (h : Tst c n fc ρ x (fun b => Pb (!b))) : Tst c n fc ρ (.UnaryOp .Not x pos) Pb := fun W Xc X env A s G S => isTrue_not (h W Xc X env A s G S)
theorem tst_and_nil {pos : Pos} (h : Pb true) : Tst c n fc ρ (.BoolOp .And [] pos) Pb := fun W Xc X env A s G S => isTrue_and_nil ⟨S.inv, Stay.refl _ _, h⟩
theorem tst_or_nil {pos : Pos} (h : Pb false) : Tst c n fc ρ (.BoolOp .Or [] pos) Pb := fun W Xc X env A s G S => isTrue_or_nil ⟨S.inv, Stay.refl _ _, h⟩
theorem tst_and {x : Expr} {rest : List Expr} {pos : Pos} (h : Tst c n fc ρ x (fun b => if b = true then Tst c n fc ρ (.BoolOp .And rest pos) Pb else Pb false)) : Tst c n fc ρ (.BoolOp .And (x :: rest) pos) Pb :=
  fun W Xc X env A s G S => isTrue_and (Wp.mono (h W Xc X env A s G S) fun b s' ⟨I, st, r⟩ => by
    cases b with
    | true => exact Wp.mono (r W Xc X env A s' G (S.keep I st)) fun b s'' ⟨I', st', r'⟩ => ⟨I', st.trans st', r'⟩
    | false => exact ⟨I, st, r⟩)
theorem tst_or {x : Expr} {rest : List Expr} {pos : Pos} (h : Tst c n fc ρ x (fun b => if b = true then Pb true else Tst c n fc ρ (.BoolOp .Or rest pos) Pb)) : Tst c n fc ρ (.BoolOp .Or (x :: rest) pos) Pb :=
  fun W Xc X env A s G S => isTrue_or (Wp.mono (h W Xc X env A s G S) fun b s' ⟨I, st, r⟩ => by
    cases b with
    | true => exact ⟨I, st, r⟩
    | false => exact Wp.mono (r W Xc X env A s' G (S.keep I st)) fun b s'' ⟨I', st', r'⟩ => ⟨I', st.trans st', r'⟩)
theorem tst_ife {test body orelse : Expr} {pos : Pos} (h : Tst c n fc ρ test (fun b => if b = true then Tst c n fc ρ body Pb else Tst c n fc ρ orelse Pb)) : Tst c n fc ρ (.IfExp test body orelse pos) Pb :=
  fun W Xc X env A s G S => isTrue_IfExp (Wp.mono (h W Xc X env A s G S) fun b s' ⟨I, st, r⟩ => by
    cases b with
    | true => exact Wp.mono (r W Xc X env A s' G (S.keep I st)) fun b s'' ⟨I', st', r'⟩ => ⟨I', st.trans st', r'⟩
    | false => exact Wp.mono (r W Xc X env A s' G (S.keep I st)) fun b s'' ⟨I', st', r'⟩ => ⟨I', st.trans st', r'⟩)
theorem Tst.mono {e : Expr} {Pb' : Bool → Prop} (h : Tst c n fc ρ e Pb) (k : ∀ b, Pb b → Pb' b) : Tst c n fc ρ e Pb' := fun W Xc X env A s G S => Wp.mono (h W Xc X env A s G S) fun b s' ⟨I, st, r⟩ => ⟨I, st, k b r⟩

/-! truth -/
theorem tru_bool {b : Bool} (h : Pb b) : Tru c n (.raw (.bool b)) Pb := fun X A s u G I xP r => by
  have e : u = .bool b := r
  subst e; exact wpAny_truthy_bool ⟨I, Stay.refl _ _, h⟩
theorem tru_none (h : Pb false) : Tru c n (.raw .none) Pb := fun X A s u G I xP r => by
  have e : u = .none := r
  subst e; exact truthy_none ⟨I, Stay.refl _ _, h⟩
theorem tru_int {i : Int} (h : Pb (i != 0)) : Tru c n (.int i) Pb := fun X A s u G I xP r => by
  obtain ⟨t, rfl⟩ := r
  exact PyProof.Rows.truthy_int ⟨I, Stay.refl _ _, h⟩
theorem tru_str {x : Str} (hl : x.length ≤ sizeLine) (h : Pb ((x.length : Int) != 0)) : Tru c n (.str x) Pb := fun X A s u G I xP r => by
  obtain ⟨t, rfl⟩ := r
  have := sizeLine_eq
  exact PySem.P.truthy_str (by omega) ⟨I.toks _, Stay.refl _ _, h⟩
theorem tru_tup {l : List D} (hl : l.length ≤ sizeLine) (h : Pb (!l.isEmpty)) : Tru c n (.tup l) Pb := fun X A s u G I xP r => by
  obtain ⟨a, vs, m, rfl, x, g, rl⟩ := r
  have := sizeLine_eq
  have e := rl.length
  refine truthy_tuple (items := vs.toArray) ⟨_, g, rfl, _, rfl⟩ (by rw [List.size_toArray]; omega) ⟨I.toks _, Stay.refl _ _, ?_⟩
  cases vs <;> cases l <;> first | exact h | (simp at e)
theorem tru_list {l : List D} (hl : l.length ≤ sizeLine) (h : Pb (!l.isEmpty)) : Tru c n (.list l) Pb := fun X A s u G I xP r => by
  obtain ⟨a, vs, m, rfl, x, g, rl⟩ := r
  have := sizeLine_eq
  have e := rl.length
  refine wpAny_truthy_list (items := vs.toArray) ⟨_, g, rfl, _, rfl⟩ (by rw [List.size_toArray]; omega) ⟨I.toks _, Stay.refl _ _, ?_⟩
  cases vs <;> cases l <;> first | exact h | (simp at e)

/-! ints -/
theorem two_int {t : Value → Value → Sem Value} {a b : Int} {f : Int} (h : Pq (.int f)) (k : ∀ (A : Around) (s : Shared) (u v : Tok) (Q : Value → Shared → Prop), Q (.int f s.toks) { s with toks := s.toks + 1 } → Wp c A (t (.int a u) (.int b v)) Q s) : Two c n t (.int a) (.int b) Pq := fun X A s u v G I xP r r' => by
  obtain ⟨t1, rfl⟩ := r
  obtain ⟨t2, rfl⟩ := r'
  exact k A s t1 t2 _ (got_tok I h ⟨_, rfl⟩)
theorem two_ib {t : Value → Value → Sem Value} {a b : Int} {f : Bool} (h : Pq (.raw (.bool f))) (k : ∀ (A : Around) (s : Shared) (u v : Tok) (Q : Value → Shared → Prop), Q (.bool f) s → Wp c A (t (.int a u) (.int b v)) Q s) : Two c n t (.int a) (.int b) Pq := fun X A s u v G I xP r r' => by
  obtain ⟨t1, rfl⟩ := r
  obtain ⟨t2, rfl⟩ := r'
  exact k A s t1 t2 _ (got_now I h rfl)
theorem i_add {a b : Int} (h : Pq (.int (a + b))) : Two c n (binaryOp .Add) (.int a) (.int b) Pq := two_int h fun A s u v Q q => PyProof.Rows.add_int q
theorem i_sub {a b : Int} (h : Pq (.int (a - b))) : Two c n (binaryOp .Sub) (.int a) (.int b) Pq := two_int h fun A s u v Q q => PyProof.Rows.sub_int q
theorem i_mul {a b : Int} (hm : IntMulOk a b) (h : Pq (.int (a * b))) : Two c n (binaryOp .Mult) (.int a) (.int b) Pq := two_int h fun A s u v Q q => PyProof.Rows.mul_int q hm
theorem i_mod {a b : Int} (hb : b ≠ 0) (h : Pq (.int (a.fmod b))) : Two c n (binaryOp .Mod) (.int a) (.int b) Pq := two_int h fun A s u v Q q => PyProof.Rows.mod_int hb q
theorem i_div {a b : Int} (hb : b ≠ 0) (hs : b.natAbs < 1073741824) (h : Pq (.int (a.fdiv b))) : Two c n (binaryOp .FloorDiv) (.int a) (.int b) Pq := two_int h fun A s u v Q q => PyProof.Rows.floordiv_int hb q (.inl (PyProof.noPylong_small hs))
theorem i_pow {a b : Int} (h0 : 0 ≤ b) (h1 : b ≤ 1000000) (ha : a.natAbs < 2 ^ 64) (hz : (Builtin.Int.intBits a : Int) * b ≤ 2 ^ 27) (h : Pq (.int (a ^ b.toNat))) : Two c n (binaryOp .Pow) (.int a) (.int b) Pq := two_int h fun A s u v Q q => PyProof.Rows.pow_int h0 hz q
theorem i_eq {a b : Int} (h : Pq (.raw (.bool (a == b)))) : Two c n (compareOp .Eq) (.int a) (.int b) Pq := two_ib h fun A s u v Q q => PyProof.Rows.eq_int q
theorem i_ne {a b : Int} (h : Pq (.raw (.bool (a != b)))) : Two c n (compareOp .NotEq) (.int a) (.int b) Pq := two_ib h fun A s u v Q q => PyProof.Rows.ne_int q
theorem i_lt {a b : Int} (h : Pq (.raw (.bool (decide (a < b))))) : Two c n (compareOp .Lt) (.int a) (.int b) Pq := two_ib h fun A s u v Q q => PyProof.Rows.lt_int q
theorem i_gt {a b : Int} (h : Pq (.raw (.bool (decide (b < a))))) : Two c n (compareOp .Gt) (.int a) (.int b) Pq := two_ib h fun A s u v Q q => PyProof.Rows.gt_int q
theorem i_le {a b : Int} (h : Pq (.raw (.bool (decide (a ≤ b))))) : Two c n (compareOp .LtE) (.int a) (.int b) Pq := two_ib h fun A s u v Q q => PyProof.Rows.le_int q
theorem i_ge {a b : Int} (h : Pq (.raw (.bool (decide (b ≤ a))))) : Two c n (compareOp .GtE) (.int a) (.int b) Pq := two_ib h fun A s u v Q q => PyProof.Rows.ge_int q

/-! texts -/
theorem s_eq {x y : Str} (h : Pq (.raw (.bool (x == y)))) : Two c n (compareOp .Eq) (.str x) (.str y) Pq := fun X A s u v G I xP r r' => by
  obtain ⟨t1, rfl⟩ := r
  obtain ⟨t2, rfl⟩ := r'
  exact PyProof.Rows.eq_str (got_now I h rfl)
theorem s_ne {x y : Str} (h : Pq (.raw (.bool (x != y)))) : Two c n (compareOp .NotEq) (.str x) (.str y) Pq := fun X A s u v G I xP r r' => by
  obtain ⟨t1, rfl⟩ := r
  obtain ⟨t2, rfl⟩ := r'
  exact PyProof.Rows.ne_str (got_now I h rfl)
theorem s_in {x y : Str} (h : Pq (.raw (.bool (Txt.contains x y)))) : Two c n (compareOp .In) (.str y) (.str x) Pq := fun X A s u v G I xP r r' => by
  obtain ⟨t1, rfl⟩ := r
  obtain ⟨t2, rfl⟩ := r'
  exact SB.contains (got_now I h rfl)
theorem s_add {x y : Str} (hl : x.length + y.length ≤ sizeLine) (h : Pq (.str (x ++ y))) : Two c n (binaryOp .Add) (.str x) (.str y) Pq := fun X A s u v G I xP r r' => by
  obtain ⟨t1, rfl⟩ := r
  obtain ⟨t2, rfl⟩ := r'
  exact PyProof.Rows.add_str (fun _ _ => got_tok I h ⟨_, rfl⟩) hl
theorem b_xor {p q : Bool} (h : Pq (.raw (.bool (p != q)))) : Two c n (binaryOp .BitXor) (.raw (.bool p)) (.raw (.bool q)) Pq := fun X A s u v G I xP r r' => by
  have e : u = .bool p := r
  have e' : v = .bool q := r'
  subst e e'
  exact PyProof.Rows.xor_bool (got_now I h rfl)

end
end Mine
end
section
namespace Mine
open PySem PySem.W PySem.Calls PyProof.Rows Builtin

theorem bindL_eq {kf : Str → Option NameKind} {x : Str} (hx : kf x = some .local) : ∀ (l : List (Str × Value)) (m : Str → Option Value), bindL kf l m x = (l.reverse.lookup x).or (m x)
  | [], m => by simp [bindL]
  | (y, v) :: r, m => by
    rw [bindL, bindL_eq hx r, List.reverse_cons, List.lookup_append]
    by_cases e : x = y
    · subst e
      simp [hx, List.lookup]
    · have ne : (x == y) = false := beq_eq_false_iff_ne.mpr e
      by_cases q : kf y = some .local
      · simp [q, e, List.lookup, ne]
      · simp [q, List.lookup, ne]
theorem bindC_eq {kf : Str → Option NameKind} {x : Str} (hx : kf x = some .cell) : ∀ (l : List (Str × Value)) (m : Str → Option Value), bindC kf l m x = (l.reverse.lookup x).or (m x)
  | [], m => by simp [bindC]
  | (y, v) :: r, m => by
    rw [bindC, bindC_eq hx r, List.reverse_cons, List.lookup_append]
    by_cases e : x = y
    · subst e
      simp [hx, List.lookup]
    · have ne : (x == y) = false := beq_eq_false_iff_ne.mpr e
      by_cases q : kf y = some .local
      · simp [q, List.lookup, ne]
      · simp [q, e, List.lookup, ne]

def RhoOk (X : Addr → Prop) (h : Heap) (binds : List (Str × Value)) : List (Str × NameKind) → Rho → Prop
  | (x, k) :: ns, some lv :: ρ => ((∃ v, binds.reverse.lookup x = some v ∧ LRep (fun _ => True) X h lv v) ∧ (k = .local ∨ k = .cell)) ∧ RhoOk X h binds ns ρ
  | _ :: ns, none :: ρ => RhoOk X h binds ns ρ
  | _, [] => True
  | [], _ :: _ => False
theorem RhoOk.at {X : Addr → Prop} {h : Heap} {binds : List (Str × Value)} : ∀ {ns : List (Str × NameKind)} {ρ : Rho}, RhoOk X h binds ns ρ → ∀ {i : Nat} {x : Str} {k : NameKind} {lv : LV}, ns[i]? = some (x, k) → ρ[i]? = some (some lv) →
    (∃ v, binds.reverse.lookup x = some v ∧ LRep (fun _ => True) X h lv v) ∧ (k = .local ∨ k = .cell)
  | [], ρ, _, i, x, k, lv, e, _ => by simp at e
  | (y, k') :: ns, [], _, i, x, k, lv, _, e => by simp at e
  | (y, k') :: ns, some lv' :: ρ, r, 0, x, k, lv, e, e' => by cases e; cases e'; exact r.1
  | (y, k') :: ns, none :: ρ, r, 0, x, k, lv, e, e' => by cases e'
  | (y, k') :: ns, some lv' :: ρ, r, i + 1, x, k, lv, e, e' => r.2.at (i := i) (by simpa using e) (by simpa using e')
  | (y, k') :: ns, none :: ρ, r, i + 1, x, k, lv, e, e' => RhoOk.at (ns := ns) (ρ := ρ) r (i := i) (by simpa using e) (by simpa using e')
theorem RhoOk.apart {X : Addr → Prop} {h : Heap} {binds : List (Str × Value)} {L : Addr} (hL : h.get? L = none) : ∀ {ns : List (Str × NameKind)} {ρ : Rho}, RhoOk X h binds ns ρ → (∀ a l, some (LV.own a l) ∉ ρ) → Apart L ρ
  | _, [], _, _ => trivial
  | [], x :: ρ, r, no => match x, r with
    | none, r => r.elim
    | some _, r => r.elim
  | (y, k') :: ns, none :: ρ, r, no => RhoOk.apart (ns := ns) (ρ := ρ) hL r fun a l m => no a l (.tail _ m)
  | (y, k') :: ns, some (.dat d) :: ρ, r, no => RhoOk.apart (ns := ns) (ρ := ρ) hL r.2 fun a l m => no a l (.tail _ m)
  | (y, k') :: ns, some (.own a l) :: ρ, r, no => absurd (.head _) (no a l)
  | (y, k') :: ns, some (.self a dd C fs) :: ρ, r, no => by
    refine ⟨fun e => ?_, RhoOk.apart (ns := ns) (ρ := ρ) hL r.2 fun a l m => no a l (.tail _ m)⟩
    obtain ⟨⟨⟨v, _, _, _, _, _, es, n, g, _⟩, _⟩, _⟩ := r
    rw [e, hL] at g
    cases g

def noOwn : Rho → Bool
  | [] => true
  | some (.own _ _) :: _ => false
  | _ :: r => noOwn r
theorem noOwn_no : ∀ {ρ : Rho}, noOwn ρ = true → ∀ a l, some (LV.own a l) ∉ ρ
  | [], _, _, _, h => nomatch h
  | some (.own _ _) :: _, e, _, _, _ => by cases e
  | some (.dat _) :: r, e, a, l, h => by cases h with | tail _ h => exact noOwn_no (ρ := r) e a l h
  | some (.self _ _ _ _) :: r, e, a, l, h => by cases h with | tail _ h => exact noOwn_no (ρ := r) e a l h
  | none :: r, e, a, l, h => by cases h with | tail _ h => exact noOwn_no (ρ := r) e a l h

def retOf (fl : Flow) : Value := match fl with | .ret v => v | _ => .none
section
variable {c : Cx} {n : Nat} {Pq : D → Prop}

/-- how a body's end comes back -/
def Back (Pq : D → Prop) (o : Out) : Prop := match o with
  | .ret d => Pq d
  | .next _ => Pq (.raw .none)
  | _ => False

theorem cells_some {names : List (Str × NameKind)} {k : Nat} {x : Str} (h : names.lookup x = some .cell) : ((cellsFrom k names []).lookup x).isSome = true := cellsFrom_some names k [] (.inl h)

def RetPost (Q : Value → Shared → Prop) (r : Result) (s' : Shared) : Prop := match r with
  | .ok (.ret v) => Q v s'
  | _ => False
theorem run_def (O : c.Ok) {A : Around} {s : Shared} {X W₀ : Addr → Prop} {ini : Bool} {f : Addr} {name qual : Str} {params : Arguments} {body : List Stmt} {scope : Scope} {dV kV doc pm cdv ct oc : Value} {an od : Option Addr} {osl : Array (Option Value)} {args : Args}
    (hf : c.K.lookup f = some ⟨oc, od, .func (fnOf name qual params body scope dV kV doc pm an cdv ct), osl⟩) (hcode : codeIn c.K cdv qual = true) (hsc : (!scope.isCoroutine && !scope.isGenerator && FC.ok ⟨scope, cdv, qual ++ ".<locals>.", fun _ => true, ini⟩) = true)
    (G : Good (n + 1) A) (I : Inv c s) (xP : X c.P) (xex : ∀ a, X a → ∃ o, s.heap.get? a = some o) (xlo : ∀ a, X a → a = c.P ∨ c.h₁.objs.size ≤ a) (hW : ∀ a, W₀ a → X a ∧ c.h₁.objs.size ≤ a) {binds : List (Str × Value)} (hbind : BindsTo s (fnOf name qual params body scope dV kV doc pm an cdv ct) args binds)
    (hkind : (binds.all fun y => scope.names.lookup y.1 == some .local || scope.names.lookup y.1 == some .cell) = true) (ρ : Rho) (hρ : RhoOk X s.heap binds scope.names ρ) (hno : noOwn ρ = true)
    (hself : ini = true → ∀ (i : Nat) (a dd C : Addr) (fs : List (Str × D)), ρ[i]? = some (some (LV.self a dd C fs)) → W₀ dd) {Q : Value → Shared → Prop}
    (hb : ∀ W Xc X' env A' s₁, Xc = X → (∀ a, W a → W₀ a ∨ s.heap.get? a = none) → Good n A' → Sat c W Xc X' ⟨scope, cdv, qual ++ ".<locals>.", fun _ => true, ini⟩ env ρ s₁ → (∀ b o, s.heap.get? b = some o → s₁.heap.get? b = some o) → s₁.gens = s.gens →
      Wp c A' (execs body env) (fun fl s' => Q (retOf fl) s') s₁) :
    codeAny (model c.prog c.w) A (.call (.ref f) args) (RetPost Q) s := by
  simp only [Bool.and_eq_true, Bool.not_eq_true'] at hsc
  obtain ⟨⟨hco, hgen⟩, hfc⟩ := hsc
  have hk : scope.kind = .function := by
    have h := hfc
    unfold FC.ok at h
    exact beq_iff_eq.mp (Bool.and_eq_true_iff.mp h).1
  have K := I.kin O
  refine codeAny_call_function (fd := fnOf name qual params body scope dV kV doc pm an cdv ct) (body := body) G.depth (K _ _ hf) rfl hco hgen rfl (codeRec_of K hcode) (hbind _ _ _ _ ?_)
  refine wpAny_newFunctionEnv_cells hk (kindsX hkind _) fun env he s₁ x => ?_
  refine ⟨(I.nolimit O).keeps x.toInCall.keep, codeAny_func ?_⟩
  have eL : env.locals = s.heap.objs.size := by rw [he]; rfl
  have eS : env.scope = scope := by rw [he]; rfl
  have ekind : env.kindOf = fun y => scope.names.lookup y := by funext y; unfold Env.kindOf; rw [eS]
  have k := x.toInCall.keep
  obtain ⟨h', tk, es⟩ := x.toInCall.same
  have hg1 : s₁.gens = s.gens := by rw [es]
  have I₁ : Inv c s₁ := I.ext k (by have := x.toInCall.ns.lt; rw [eL] at this; exact Nat.le_of_lt this) (by rw [es]) ⟨hg1, by rw [es]⟩
  have fresh : ∀ a, (a = env.locals ∨ ∃ y, env.cells.lookup y = some a) → s.heap.objs.size ≤ a := by
    intro a h
    rcases h with rfl | ⟨y, h⟩
    · rw [eL]; exact Nat.le_refl _
    · have := x.above y a (mem_of_lookup h); rw [eL] at this; exact Nat.le_of_lt this
  have gone : ∀ a, s.heap.objs.size ≤ a → s.heap.get? a = none := fun a h => by
    cases q : s.heap.get? a with
    | none => rfl
    | some o => exact absurd (Heap.lt_size q) (Nat.not_lt.mpr h)
  have st : ∀ Z, Stay Z s.heap s₁.heap := fun Z b o _ e => k b o e
  have shun : ∀ a, (X a ∨ a = env.locals ∨ ∃ y, env.cells.lookup y = some a) → X a ∨ s.heap.get? a = none := fun a h => h.elim .inl fun h => .inr (gone a (fresh a h))
  have lrep : ∀ lv v, (∀ a l, lv ≠ .own a l) → LRep (fun _ => True) X s.heap lv v → LRep (fun a => W₀ a ∨ a = env.locals ∨ ∃ y, env.cells.lookup y = some a) (fun a => X a ∨ a = env.locals ∨ ∃ y, env.cells.lookup y = some a) s₁.heap lv v := by
    intro lv v no r
    cases lv with
    | dat d => exact (Rep.shun shun r).stay (st _)
    | own a l => exact absurd rfl (no a l)
    | self a dd C fs =>
      obtain ⟨e, x1, x2, g, es, m, g', rf⟩ := r
      exact ⟨e, .inl x1, .inl x2, k _ _ g, es, m, k _ _ g', (RepF.shun shun rf).stay (st _)⟩
  have noown := noOwn_no hno
  have G' : Good n (A.deeper env) := ⟨G.1, by have := G.2.1; show A.depth + 1 + _ ≤ _; omega, by have := G.2.2; show A.units + 3 + _ ≤ _; omega⟩
  have hns := x.toInCall.ns
  refine wpAny_mono (hb (fun a => W₀ a ∨ a = env.locals ∨ ∃ y, env.cells.lookup y = some a) X (fun a => X a ∨ a = env.locals ∨ ∃ y, env.cells.lookup y = some a) env (A.deeper env) s₁ rfl (fun a q => q.elim .inl fun q => .inr (gone a (fresh a q))) G' ⟨I₁, ⟨eS, by rw [he]; rfl, by rw [he]; rfl, by rw [he]; rfl, by rw [he]; rfl⟩, hfc, xP, fun a h => .inl h, ?_, ?_, ?_, .inr (.inl rfl), ?_,
    ⟨_, hns, fun i y ky lv h1 h2 => ?_⟩, fun y a h => ⟨.inr (.inr ⟨y, h⟩), _, x.cell y a h⟩, fun i y h => ?_, fun y z a h1 h2 => ?_, fun y a _ h => .inr (.inr ⟨y, h⟩), fun i a l h => absurd (List.mem_of_getElem? h) (noown a l), ?_, fun z i a dd C fs q => .inl (hself z i a dd C fs q)⟩ k hg1) (fun fl _ q => by cases fl <;> exact q) fun _ _ e => e.elim
  · rintro a (q | q | ⟨y, q⟩)
    · obtain ⟨o, g⟩ := xex a q; exact ⟨o, k a o g⟩
    · subst q; obtain ⟨o, _, _, g, _⟩ := hns; exact ⟨o, g⟩
    · obtain ⟨o, g, _⟩ := x.cell y a q; exact ⟨o, g⟩
  · rintro a (q | q)
    · exact xlo a q
    · exact .inr (Nat.le_trans I.big (fresh a q))
  · rintro a (q | q)
    · exact .inl (hW a q).1
    · exact .inr q
  · rintro a (q | q)
    · exact (hW a q).2
    · exact Nat.le_trans I.big (fresh a q)
  · obtain ⟨⟨v, h3, h4⟩, kk⟩ := hρ.at h1 h2
    have hky : env.kindOf y = some ky := by
      rw [ekind]
      unfold FC.ok at hfc
      exact nodup_lookup (of_decide_eq_true (Bool.and_eq_true_iff.mp hfc).2) h1
    refine ⟨kk, v, lrep lv v (fun a l e => ?_) h4, fun e => ?_, fun e => ?_⟩
    · subst e; exact noown a l (List.mem_of_getElem? h2)
    · subst e
      rw [bindL_eq hky, h3]; rfl
    · subst e
      have hc : ((cellsFrom (s.heap.objs.size + 1) scope.names []).lookup y).isSome = true := cells_some (by rw [ekind] at hky; exact hky)
      obtain ⟨a, ha⟩ := Option.isSome_iff_exists.mp hc
      have ha' : env.cells.lookup y = some a := by rw [he]; exact ha
      refine ⟨a, ha', .inr (.inr ⟨y, ha'⟩), ?_⟩
      have := x.cell y a ha'
      rw [bindC_eq hky, h3] at this
      exact this
  · have hky : env.kindOf y = some .cell := by
      rw [ekind]
      unfold FC.ok at hfc
      exact nodup_lookup (of_decide_eq_true (Bool.and_eq_true_iff.mp hfc).2) h
    have hc : ((cellsFrom (s.heap.objs.size + 1) scope.names []).lookup y).isSome = true := cells_some (by rw [ekind] at hky; exact hky)
    obtain ⟨a, ha⟩ := Option.isSome_iff_exists.mp hc
    exact ⟨a, by rw [he]; exact ha⟩
  · exact name_of_addr x.apart (mem_of_lookup h1) (mem_of_lookup h2)
  · exact hρ.apart (by rw [eL]; exact gone _ (Nat.le_refl _)) noown

/-! calls -/
def LRepL (X : Addr → Prop) (h : Heap) : List LV → List Value → Prop
  | [], vs => vs = []
  | d :: ds, vs => ∃ v vs', vs = v :: vs' ∧ LRep (fun _ => True) X h d v ∧ LRepL X h ds vs'
theorem LRepL.of_dat {X : Addr → Prop} {h : Heap} : ∀ {ds : List D} {vs : List Value}, RepL X h ds vs → LRepL X h (ds.map .dat) vs
  | [], _, r => r
  | d :: ds, vs, r => by
    obtain ⟨v, vs', e, a, b⟩ := r
    exact ⟨v, vs', e, a, LRepL.of_dat b⟩
theorem LRepL.append {X : Addr → Prop} {h : Heap} : ∀ {l l' : List LV} {vs vs' : List Value}, LRepL X h l vs → LRepL X h l' vs' → LRepL X h (l ++ l') (vs ++ vs')
  | [], _, _, _, r, r' => by rw [show _ = _ from r]; exact r'
  | d :: ds, _, vs, _, r, r' => by
    obtain ⟨v, us, q, r1, r2⟩ := r
    exact ⟨v, us ++ _, by rw [q]; rfl, r1, LRepL.append r2 r'⟩

def CallV (c : Cx) (n : Nat) (f : Value) (as : List LV) (ks : List (Str × D)) (Pq : D → Prop) : Prop :=
  ∀ X A s vs kvs, Good n A → Inv c s → Xok c X s → LRepL X s.heap as vs → RepL X s.heap (ks.map (·.2)) kvs → Wp c A (call f vs ((ks.map (·.1)).zip kvs)) (Got c X s Pq) s

/-- the same of the call itself -/
def CallK (c : Cx) (n : Nat) (f : Value) (as : List LV) (ks : List (Str × D)) (Pq : D → Prop) : Prop :=
  ∀ X A s vs kvs, Good n A → Inv c s → Xok c X s → LRepL X s.heap as vs → RepL X s.heap (ks.map (·.2)) kvs → codeAny (model c.prog c.w) A (.call f ⟨vs, (ks.map (·.1)).zip kvs⟩) (RetPost (Got c X s Pq)) s
theorem CallK.v {f : Value} {as : List LV} {ks : List (Str × D)} (h : CallK c n f as ks Pq) : CallV c n f as ks Pq := fun X A s vs kvs G I xP ra rk =>
  wpAny_call (codeAny_mono (h X A s vs kvs G I xP ra rk) fun r s' e => by rcases r with _ | (_ | _ | _ | _) <;> first | exact e | exact e.elim)
theorem got_back {W Xc X : Addr → Prop} {fc : FC} {env : Env} {s s₁ s' : Shared} {fl : Flow} (hW : ∀ a, W a → False ∨ s.heap.get? a = none) (k : ∀ b o, s.heap.get? b = some o → s₁.heap.get? b = some o) (e : ExPost c W Xc X fc env s₁ (Back Pq) fl s') : Got c Xc s Pq (retOf fl) s' := by
  obtain ⟨lw, o, b, e⟩ := e
  have st : Stay (· = c.P) s.heap s'.heap := fun b o nb e => lw b o (fun z => z.elim (fun z => by rcases hW b z with y | y; exact y; rw [y] at e; cases e) nb) (k b o e)
  cases o with
  | next ρ => obtain ⟨rfl, W', X', g, S'⟩ := e; exact ⟨S'.inv, st, _, b, rfl⟩
  | ret d => obtain ⟨v, rfl, I, r⟩ := e; exact ⟨I, st, _, b, r⟩
  | brk ρ => exact b.elim
  | cont ρ => exact b.elim

theorem call_def (O : c.Ok) {f : Addr} {name qual : Str} {params : Arguments} {body : List Stmt} {scope : Scope} {dV kV doc pm cdv ct oc : Value} {an od : Option Addr} {osl : Array (Option Value)} {as : List LV} {ks : List (Str × D)}
    (hf : c.K.lookup f = some ⟨oc, od, .func (fnOf name qual params body scope dV kV doc pm an cdv ct), osl⟩) (hcode : codeIn c.K cdv qual = true) (hsc : (!scope.isCoroutine && !scope.isGenerator && FC.ok ⟨scope, cdv, qual ++ ".<locals>.", fun _ => true, false⟩) = true)
    (ρ : Rho) (hno : noOwn ρ = true)
    (hb : ∀ X s vs kvs, Inv c s → LRepL X s.heap as vs → RepL X s.heap (ks.map (·.2)) kvs → ∃ binds, BindsTo s (fnOf name qual params body scope dV kV doc pm an cdv ct) ⟨vs, (ks.map (·.1)).zip kvs⟩ binds ∧
      (binds.all fun y => scope.names.lookup y.1 == some .local || scope.names.lookup y.1 == some .cell) = true ∧ RhoOk X s.heap binds scope.names ρ)
    (h : Ex c n ⟨scope, cdv, qual ++ ".<locals>.", fun _ => true, false⟩ ρ body (Back Pq)) : CallK c (n + 1) (.ref f) as ks Pq := by
  intro X A s vs kvs G I xP ra rk
  obtain ⟨binds, b1, b2, b3⟩ := hb X s vs kvs I ra rk
  refine run_def (W₀ := fun _ => False) O hf hcode hsc G I xP.P xP.ex xP.lo (fun _ q => q.elim) b1 b2 ρ b3 hno (fun q => by cases q) fun W Xc X' env A' s₁ eX eW G' S k _ => ?_
  subst eX
  exact Wp.mono (h _ _ _ env A' s₁ G' S) fun fl s' e => got_back eW k e

/-! arguments -/
def EvL (c : Cx) (n : Nat) (fc : FC) (ρ : Rho) (es : List Expr) (Pl : List D → Prop) : Prop :=
  ∀ W Xc X env A s pos, Good n A → Sat c W Xc X fc env ρ s → Wp c A (spliced (backTo pos (starEach es env))) (fun vs s' => Inv c s' ∧ Stay (· = c.P) s.heap s'.heap ∧ ∃ ds, Pl ds ∧ RepL X s'.heap ds vs) s
def isStar : Expr → Bool
  | .Starred .. => true
  | _ => false
theorem starEach_cons {e : Expr} {rest : List Expr} {env : Env} (h : isStar e = false) : starEach (e :: rest) env = (false, eval e env) :: starEach rest env := by
  cases e <;> first | rfl | cases h
section
variable {fc : FC} {ρ : Rho} {Pl : List D → Prop}
theorem evl_nil (h : Pl []) : EvL c n fc ρ [] Pl := fun W Xc X env A s pos G S => spliced_nil ⟨S.inv, Stay.refl _ _, [], h, rfl⟩
theorem evl_cons {e : Expr} {rest : List Expr} (he : isStar e = false) (h : Ev c n fc ρ e (fun d => EvL c n fc ρ rest (fun ds => Pl (d :: ds)))) : EvL c n fc ρ (e :: rest) Pl := fun W Xc X env A s pos G S => by
  rw [starEach_cons he]
  refine spliced_cons (h.use G S fun v s₁ d S₁ st p r => ?_)
  exact Wp.mono (p W Xc X env A s₁ pos G S₁) fun vs s₂ ⟨I, st', ds, q, r'⟩ => ⟨I, st.trans st', d :: ds, q, v, vs, rfl, r.st (S.xc _ S.xP) st', r'⟩
def noStar (es : List Expr) : Bool := es.all fun e => !isStar e
theorem plain_of {es : List Expr} {env : Env} {pos : Pos} (h : noStar es = true) : (backTo pos (starEach es env)).any (·.1) = false := by
  induction es with
  | nil => rfl
  | cons e r ih =>
    obtain ⟨a, b⟩ := Bool.and_eq_true_iff.mp (show (!isStar e && noStar r) = true from h)
    rw [starEach_cons (by simpa using a)]
    show (false || (backTo pos (starEach r env)).any (·.1)) = false
    rw [ih b]; rfl
theorem evalArgs_of {M : Model} {A : Around} {E : Value → Shared → Prop} {s : Shared} {f : Value} {es : List Expr} {env : Env} {pos : Pos} {Q : Args → Shared → Prop} (hs : noStar es = true)
    (h : wpAny M A (spliced (backTo pos (starEach es env))) (fun vs s' => Q ⟨vs, []⟩ s') E s) : wpAny M A (evalArgs f true (backTo pos (starEach es env)) []) Q E s := by
  cases es with
  | nil =>
    unfold evalArgs
    show wpAny M A (spliced [] >>= _) Q E s
    refine wpAny_bind (wpAny_mono h (fun vs s' h' => ?_) fun _ _ x => x)
    first
      | exact wpAny_holding (wpAny_bind (wpAny_pure (wpAny_bind (wpAny_pure (wpAny_pure h')))))
      | (refine wpAny_bind (wpAny_pure ?_); exact wpAny_holding (wpAny_bind (wpAny_pure (wpAny_bind (wpAny_pure (wpAny_pure h'))))))
  | cons e r =>
    have he : isStar e = false := by
      have := (Bool.and_eq_true_iff.mp (show (!isStar e && noStar r) = true from hs)).1
      simpa using this
    rw [starEach_cons he] at h ⊢
    exact evalArgs_plain h
end
end
end Mine
end
section
namespace Mine
open PySem PySem.W PySem.Calls PyProof.Rows Builtin

/-- the call's keeper is a frame, a machine or a bound frame -/
def Keeps (c : Cx) (f : Value) : Prop := ∀ (M : Model) (h : Heap), c.K.In h → ∃ k, (k = Keeper.frame ∨ k = Keeper.machine ∨ k = Keeper.boundFrame) ∧ Looks M h (keeperOf f) k
theorem keeps_ref {c : Cx} {f : Value} (hk : keepIn c.K f = true) : Keeps c f := fun M h X => keeps_K (M := M) hk h X
theorem keeps_type {c : Cx} {T : String} : Keeps c (.type T) := fun M h X => ⟨.machine, .inr (.inl rfl), Looks.of_pure rfl⟩
theorem keeps_builtin {c : Cx} {T : String} : Keeps c (.builtin T) := fun M h X => ⟨.machine, .inr (.inl rfl), Looks.of_pure rfl⟩

section
variable {c : Cx} {n : Nat} {fc : FC} {ρ : Rho} {R : Out → Prop} {Pq : D → Prop} {Pb : Bool → Prop}

theorem ev_call (O : c.Ok) {id : Str} {p pos : Pos} {args : List Expr} {f : Value} (hs : noStar args = true) (hk : Keeps c f) (hf : Ev c n fc ρ (.Name id p) (· = .raw f))
    (h : EvL c n fc ρ args (fun ds => CallV c n f (ds.map .dat) [] Pq)) : Ev c n fc ρ (.Call (.Name id p) args [] pos) Pq := fun W Xc X env A s G S => by
  refine wpAny_Call_Name_kw (keywords := []) (hf.use G S fun v s₁ d S₁ st e r => ?_)
  subst e
  have e : v = f := r
  subst e
  show wpAny _ _ (callWith pos v [] (backTo pos (starEach args env)) []) _ _ _
  refine callWith_of (P := c.K.In) (by rw [plain_of hs]; rfl) (fun h K => hk _ h K) (evalArgs_of hs ?_)
  refine Wp.mono (h W Xc X env A s₁ pos G S₁) fun vs s₂ ⟨I, st', ds, q, r⟩ => ⟨I.kin O, ?_⟩
  exact Wp.mono (q X A s₂ vs [] G I (S₁.xok.st I st') (.of_dat r) rfl) fun _ _ g => g.next (st.trans st')

/-! a while's turns -/
def LoopPost (c : Cx) (W Xc X : Addr → Prop) (fc : FC) (env : Env) (s : Shared) (R : Out → Prop) (r : Result) (s' : Shared) : Prop := match r with | .ok fl => ExPost c W Xc X fc env s R fl s' | .error _ => False
theorem LoopPost.grow {ρ₀ : Rho} {W Xc X W' X' : Addr → Prop} {env : Env} {s s' s'' : Shared} {r : Result} (S' : Sat c W' Xc X' fc env ρ s') (lw : Low W c.P s.heap s'.heap) (gr : Grow W X W' X' (Gone s.heap)) (S : Sat c W Xc X fc env ρ₀ s)
    (g : LoopPost c W' Xc X' fc env s' R r s'') : LoopPost c W Xc X fc env s R r s'' := by
  cases r with
  | ok fl => exact ExPost.grow S' lw gr S g
  | error x => exact g.elim
def WhileL (c : Cx) (n : Nat) (fc : FC) (ρ : Rho) (test : Expr) (body orelse : List Stmt) (R : Out → Prop) : Prop :=
  ∀ W Xc X env A s, Good n A → Sat c W Xc X fc env ρ s → codeAny (model c.prog c.w) A (.whileLoop test body orelse env) (LoopPost c W Xc X fc env s R) s
theorem ex_while {test : Expr} {body orelse : List Stmt} {pos : Pos} (h : WhileL c n fc ρ test body orelse R) : Ex1 c n fc ρ (.While test body orelse pos) R := fun W Xc X env A s G S =>
  wpAny_While (codeAny_mono (h W Xc X env A s G S) fun r s' e => by cases r <;> first | exact e | exact e.elim)
theorem WhileL.turn {test : Expr} {body orelse : List Stmt}
    (h : Tst c n fc ρ test (fun b => if b = true then Ex c n fc ρ body (fun o => match o with
      | .next ρ' => WhileL c n fc ρ' test body orelse R
      | .cont ρ' => WhileL c n fc ρ' test body orelse R
      | .brk ρ' => R (.next ρ')
      | .ret d => R (.ret d)) else Ex c n fc ρ orelse R)) : WhileL c n fc ρ test body orelse R := fun W Xc X env A s G S => by
  refine codeAny_of_tree ?_
  have G' : Good n (A.under (.whileLoop test body orelse env)) := G.under0 rfl rfl
  refine Wp.onRaise (Q := fun (fin : PySem.Fin) s' => match fin with | .done f => ExPost c W Xc X fc env s R f s' | .again c' => c'.quiet = true ∧ codeAny (model c.prog c.w) A c' (LoopPost c W Xc X fc env s R) s') ?_
  show Wp c _ (whileTurn test body orelse env) _ s
  unfold whileTurn
  refine wpAny_bind (Wp.mono (h W Xc X env _ s G' S) fun b s₁ ⟨I, st, r⟩ => ?_)
  have S₁ := S.keep I st
  cases b with
  | false =>
    rw [if_neg (by simp)]
    rw [if_neg (by simp)] at r
    exact wpAny_bind (Wp.mono (r W Xc X env _ s₁ G' S₁) fun fl s₂ e => wpAny_pure (e.next S I st))
  | true =>
    rw [if_pos rfl]
    rw [if_pos rfl] at r
    refine wpAny_bind (Wp.mono (r W Xc X env _ s₁ G' S₁) fun fl s₂ ⟨lw, o, q, e⟩ => ?_)
    have lw' : Low W c.P s.heap s₂.heap := (Low.of_stay st).trans lw
    have gr' : ∀ {W' X'}, Grow W X W' X' (Gone s₁.heap) → Grow W X W' X' (Gone s.heap) := fun g => Grow.trans (old_stay st I.someP) (Grow.refl _ _ _) S.notGone S.wx g
    cases o with
    | next ρ' =>
      obtain ⟨rfl, W', X', g, S₂⟩ := e
      exact wpAny_pure ⟨rfl, codeAny_mono (q W' Xc X' env A s₂ G S₂) fun r s' e => e.grow S₂ lw' (gr' g) S⟩
    | cont ρ' =>
      obtain ⟨rfl, W', X', g, S₂⟩ := e
      exact wpAny_pure ⟨rfl, codeAny_mono (q W' Xc X' env A s₂ G S₂) fun r s' e => e.grow S₂ lw' (gr' g) S⟩
    | brk ρ' => obtain ⟨rfl, W', X', g, S₂⟩ := e; exact wpAny_pure ⟨lw', _, q, rfl, W', X', gr' g, S₂⟩
    | ret d => obtain ⟨v, rfl, e⟩ := e; exact wpAny_pure ⟨lw', _, q, v, rfl, e⟩

theorem ex_aug {x : Str} {k : NameKind} {npos pos : Pos} {op : Operator} {value : Expr} {d : D} (F : (k != .cell || fc.wr x) = true) (i : Nat) (e : fc.scope.names[i]? = some (x, k)) (hk : k = .local) (r : ρ[i]? = some (some (.dat d)))
    (h : Ev c n fc ρ value (fun b => Two c n (inplaceOp op) d b (fun d' => R (.next (ρ.set i (some (.dat d'))))))) : Ex1 c n fc ρ (.AugAssign (.Name x npos) op value pos) R := fun W Xc X env A s G S => by
  subst hk
  have il : i < ρ.length := (List.getElem?_eq_some_iff.mp r).1
  refine wpAny_AugAssign_Name (S.load e r fun u lr => ?_)
  refine h.use G S fun v s₁ b S₁ st p rb => ?_
  refine Wp.mono (p X A s₁ u v G S₁.inv S₁.xok (Rep.st lr (S₁.xc _ S₁.xP) st) rb) fun w s₂ ⟨I, st', d', q, rd⟩ => ?_
  exact (S₁.keep I st').storeD F e (.inl rfl) il rd fun s₃ S₃ lw => ⟨(Low.of_stay (st.trans st')).trans lw, _, q, rfl, W, X, Grow.refl _ _ _, S₃⟩
theorem ip_add {a b : Int} (h : Pq (.int (a + b))) : Two c n (inplaceOp .Add) (.int a) (.int b) Pq := two_int h fun A s u v Q q => PySem.P.iadd_int q

/-! items and cuts of texts -/
def notSlice : Expr → Bool
  | .Slice _ _ none _ => false
  | _ => true
theorem subscripted_of {slice : Expr} {o i : Value} (h : notSlice slice = true) : subscripted slice false o i = operate [o, i] (getItem o i) := by
  cases slice with
  | Slice l u st p => cases st with
    | none => cases h
    | some _ => rfl
  | _ => rfl
theorem tail_ {A : Around} {s : Shared} {value slice : Expr} {o i : Value} {T id : String} {Q : Value → Shared → Prop} (hT : s.TypeIs o T)
    (hl : typeLookup (.type T) "__getitem__" = pure (some (.builtin id))) (hs : notSlice slice = true) (h : Wp c A (getItem o i) Q s) : Wp c A (subscriptTail value slice o i) Q s := by
  unfold subscriptTail
  refine wpAny_bind ?_
  rw [getitemInPython_of_ne hT.not_modules]
  refine wpAny_bind (wpAny_specialOf hT hl ?_)
  have fin : Wp c A (subscripted slice false o i) (fun r s₃ => Wp c A (letTemporaryGo value o r >>= fun _ => pure r) Q s₃) s := by
    rw [subscripted_of hs]
    exact wpAny_operating (Wp.mono h fun r s₃ h₃ => wpAny_bind (wpAny_letTemporaryGo (wpAny_pure h₃)))
  first
    | exact wpAny_pure (wpAny_bind fin)
    | exact wpAny_bind (wpAny_pure (wpAny_bind fin))
    | exact wpAny_bind fin
/-- an item by a plain index -/
def Item (c : Cx) (n : Nat) (a b : D) (Pq : D → Prop) : Prop :=
  ∀ X A s u v (value slice : Expr), notSlice slice = true → Good n A → Inv c s → Xok c X s → Rep X s.heap a u → Rep X s.heap b v → Wp c A (subscriptTail value slice u v) (Got c X s Pq) s
theorem ev_item {value slice : Expr} {pos : Pos} (hs : notSlice slice = true) (h : Ev c n fc ρ value (fun a => Ev c n fc ρ slice (fun b => Item c n a b Pq))) : Ev c n fc ρ (.Subscript value slice pos) Pq := fun W Xc X env A s G S =>
  Subscript_ (h.use G S fun u s₁ a S₁ st p ra => p.use G S₁ fun v s₂ b S₂ st' q rb =>
    Wp.mono (q X A s₂ u v value slice hs G S₂.inv S₂.xok (ra.st (S₂.xc _ S₂.xP) st') rb) fun _ _ g => g.next (st.trans st'))
theorem item_s {x : Str} {i : Int} (hr : fitsSsize i = true) (h1 : -(x.length : Int) ≤ i) (h2 : i < x.length) (h : Pq (.str (Txt.item x i))) : Item c n (.str x) (.int i) Pq := fun X A s u v value slice hs G I xP r r' => by
  obtain ⟨t1, rfl⟩ := r
  obtain ⟨t2, rfl⟩ := r'
  exact tail_ (typeIs_str s x t1) PySem.F.slot_str_getitem.lookup hs (SB.getItem hr (charAt_isSome h1 h2) (got_tok I h ⟨_, rfl⟩))
theorem item_l {l : List D} {i : Int} {d : D} (h0 : 0 ≤ i) (h1 : i < 2 ^ 63) (hx : l[i.toNat]? = some d) (h : Pq d) : Item c n (.list l) (.int i) Pq := fun X A s u v value slice hs G I xP r r' => by
  obtain ⟨a, vs, m, rfl, x, g, rl⟩ := r
  obtain ⟨t2, rfl⟩ := r'
  obtain ⟨w, hw, rw⟩ := rl.get hx
  have hl : s.heap.IsList a vs.toArray := ⟨_, g, rfl, _, rfl⟩
  exact tail_ hl.typeIs slot_list_getitem.lookup hs (wpAny_getItem_list hl h0 h1 (by simpa using hw) (got_now I h rw))
theorem item_t {l : List D} {i : Int} {d : D} (h0 : 0 ≤ i) (h1 : i < 2 ^ 63) (hx : l[i.toNat]? = some d) (h : Pq d) : Item c n (.tup l) (.int i) Pq := fun X A s u v value slice hs G I xP r r' => by
  obtain ⟨a, vs, m, rfl, x, g, rl⟩ := r
  obtain ⟨t2, rfl⟩ := r'
  obtain ⟨w, hw, rw⟩ := rl.get hx
  have hl : IsTup s.heap a vs.toArray := ⟨_, g, rfl, _, rfl⟩
  refine tail_ hl.typeIs PyProof.Rows.slot_tuple_getitem.lookup hs (PyProof.Rows.getItem_tuple hl (by omega) h1 (j := i.toNat) ?_ (by simpa using hw) (got_now I h rw))
  have hz : i.toNat < vs.length := (List.getElem?_eq_some_iff.mp hw).1
  unfold seqIndex?
  rw [List.size_toArray]
  simp only [show ¬ i < 0 from by omega, if_false]
  first | (rw [if_pos (by omega)]) | (rw [if_neg (by omega)]) | (simp; omega)
end
theorem lookup_filter {P a : Addr} : ∀ (l : List (Addr × Obj)), (l.filter fun p => !(p.1 == P)).lookup a = if a = P then none else l.lookup a
  | [] => by simp
  | (b, o) :: r => by
    have ih := lookup_filter (P := P) (a := a) r
    by_cases hb : b = P
    · subst hb
      rw [List.filter_cons_of_neg (by simp), ih]
      by_cases ha : a = b
      · simp [ha]
      · rw [if_neg ha, if_neg ha, List.lookup_cons, beq_eq_false_iff_ne.mpr ha]
    · rw [List.filter_cons_of_pos (by simpa using hb), List.lookup_cons, List.lookup_cons, ih]
      by_cases ha : a = b
      · subst ha
        simp [hb]
      · rw [beq_eq_false_iff_ne.mpr ha]
/-- the part of the start that is written out, but for one table -/
def but (K : Frag) (P : Addr) : Frag := K.filter fun p => !(p.1 == P)
theorem but_in {K : Frag} {P : Addr} {h : Heap} (X : K.In h) : (but K P).In h := fun a o e => by
  unfold but at e
  rw [lookup_filter] at e
  by_cases ha : a = P
  · rw [if_pos ha] at e; cases e
  · rw [if_neg ha] at e; exact X a o e
theorem but_ne {K : Frag} {P a : Addr} {o : Obj} (e : (but K P).lookup a = some o) : a ≠ P := by
  intro q
  unfold but at e
  rw [lookup_filter, if_pos q] at e
  cases e
end Mine
end
section
namespace Mine
open PySem PySem.W PySem.Calls PyProof.Rows Builtin

/-- a text by its signs -/
def T (l : List Nat) : Str := ⟨l.toArray⟩
theorem T_cps (l : List Nat) : (T l).cps.toList = l := rfl
theorem T_length (l : List Nat) : (T l).length = l.length := by unfold T Str.length; simp
theorem T_append (a b : List Nat) : T a ++ T b = T (a ++ b) := Str.ext' (by rw [Str.cps_append]; simp [T])
theorem T_of (x : Str) : x = T x.cps.toList := Str.ext' (by simp [T])
theorem T_inj {a b : List Nat} (h : T a = T b) : a = b := by have := congrArg (fun x : Str => x.cps.toList) h; simpa [T] using this
theorem T_beq (a b : List Nat) : (T a == T b) = (a == b) := by
  by_cases e : a = b
  · subst e; simp
  · rw [beq_eq_false_iff_ne.mpr e, beq_eq_false_iff_ne.mpr (fun q => e (T_inj q))]
theorem T_item {l : List Nat} {i : Nat} {x : Nat} (h : l[i]? = some x) : Txt.item (T l) (i : Int) = T [x] := by
  have hi : i < l.length := (List.getElem?_eq_some_iff.mp h).1
  unfold Txt.item Txt.charAt
  have e : seqIndex? (i : Int) (T l).length = some i := by
    rw [T_length]
    unfold seqIndex?
    simp only [show ¬ ((i : Int) < 0) from by omega, if_false]
    first | (rw [if_pos (by omega)]; simp) | (rw [if_neg (by omega)]; simp) | (simp; omega)
  rw [e]
  simp [T, h]

def cut {α : Type} (l : List α) (lo hi : Option Int) : List α := (l.drop (lo.elim 0 (clipAt l.length))).take (hi.elim l.length (clipAt l.length) - lo.elim 0 (clipAt l.length))
theorem cut_len {α : Type} (l : List α) (lo hi : Option Int) : (cut l lo hi).length ≤ l.length := by unfold cut; rw [List.length_take, List.length_drop]; omega
theorem strIx (lo hi : Option Int) (n : Nat) : Builtin.Str.strSliceIndices lo hi 1 n = sliceRange ((lo.elim 0 (clipAt n) : Nat)) ((hi.elim n (clipAt n) : Nat)) 1 := by
  unfold Builtin.Str.strSliceIndices
  cases lo <;> cases hi <;> simp [clipAt_cast]
theorem T_slice (l : List Nat) (lo hi : Option Int) : Txt.slice (T l) lo hi = T (cut l lo hi) := by
  have e : (Builtin.Str.strSliceIndices lo hi 1 (T l).length).filterMap ((T l).cps[·]?) = cut l lo hi := by
    rw [strIx, sliceRange_one, pick_run, T_length]; rfl
  unfold Txt.slice
  split
  · rename_i h
    have h1 : (Builtin.Str.strSliceIndices lo hi 1 (T l).length).length = l.length := by rw [← T_length l]; simpa using h
    rw [strIx, sliceRange_one, T_length] at h1
    have h2 : (hi.elim l.length (clipAt l.length) : Nat) - (lo.elim 0 (clipAt l.length)) = l.length := by simpa using h1
    have h3 : (hi.elim l.length (clipAt l.length) : Nat) ≤ l.length := by
      cases hi with
      | none => exact Nat.le_refl _
      | some i => have := clipAt_cast l.length i; simp only [Option.elim]; omega
    unfold cut
    rw [h2]
    by_cases z : l.length = 0
    · have : l = [] := List.eq_nil_of_length_eq_zero z
      subst this; simp
    · rw [show (lo.elim 0 (clipAt l.length) : Nat) = 0 from by omega]; simp
  · exact congrArg (fun z : List Nat => (⟨z.toArray⟩ : Str)) e

section
variable {c : Cx} {n : Nat} {fc : FC} {ρ : Rho} {R : Out → Prop} {Pq : D → Prop} {Pb : Bool → Prop}

theorem Inv.push {s : Shared} {o : Obj} {t : Nat} (I : Inv c s) : Inv c { s with heap := s.heap.push o, toks := t } := I.ext (fun b o e => Heap.get?_push_of_some _ e) (by rw [Heap.size_push]; exact Nat.le_succ _) rfl ⟨rfl, rfl⟩
theorem stay_push {Z : Addr → Prop} {h : Heap} {o : Obj} : Stay Z h (h.push o) := fun b o _ e => Heap.get?_push_of_some _ e
theorem Xok.push {X : Addr → Prop} {s : Shared} {o : Obj} {t : Nat} (x : Xok c X s) : Xok c X { s with heap := s.heap.push o, toks := t } := ⟨x.P, fun a q => let ⟨o, g⟩ := x.ex a q; ⟨o, Heap.get?_push_of_some _ g⟩, x.lo, x.top⟩

theorem cv1 {f : Value} {d : D} (h : One c n (fun v => call f [v]) d Pq) : CallV c n f [.dat d] [] Pq := fun X A s vs kvs G I xP ra rk => by
  obtain ⟨v, _, rfl, r, rfl⟩ := ra
  have e : kvs = [] := rk
  subst e
  exact h X A s v G I xP r
theorem cv2 {f : Value} {d e : D} (h : Two c n (fun v u => call f [v, u]) d e Pq) : CallV c n f [.dat d, .dat e] [] Pq := fun X A s vs kvs G I xP ra rk => by
  obtain ⟨v, _, rfl, r, u, _, rfl, r', rfl⟩ := ra
  have e : kvs = [] := rk
  subst e
  exact h X A s v u G I xP r r'
theorem len_s {x : Str} (hl : x.length ≤ sizeLine) (h : Pq (.int x.length)) : One c n (fun v => call (.builtin "len") [v]) (.str x) Pq := fun X A s v G I xP r => by
  obtain ⟨t, rfl⟩ := r
  have := sizeLine_eq
  exact PySem.P.len_str (by omega) (got_tok I h ⟨_, rfl⟩)

/-! values by and / or; is none -/
theorem ev_and {x y : Expr} {rest : List Expr} {pos : Pos} (h : Ev c n fc ρ x (fun a => Tru c n a (fun b => if b = true then Ev c n fc ρ (.BoolOp .And (y :: rest) pos) Pq else Pq a))) : Ev c n fc ρ (.BoolOp .And (x :: y :: rest) pos) Pq := fun W Xc X env A s G S =>
  BoolOp_and (h.use G S fun v s₁ a S₁ st p r => Wp.mono (p X A s₁ v G S₁.inv S₁.xok r) fun b s₂ ⟨I, st', q⟩ => by
    cases b with
    | true => exact Wp.mono (q W Xc X env A s₂ G (S₁.keep I st')) fun _ _ g => g.next (st.trans st')
    | false => exact ⟨I, st.trans st', a, q, r.st (S₁.xc _ S₁.xP) st'⟩)
theorem ev_or {x y : Expr} {rest : List Expr} {pos : Pos} (h : Ev c n fc ρ x (fun a => Tru c n a (fun b => if b = true then Pq a else Ev c n fc ρ (.BoolOp .Or (y :: rest) pos) Pq))) : Ev c n fc ρ (.BoolOp .Or (x :: y :: rest) pos) Pq := fun W Xc X env A s G S =>
  BoolOp_or (h.use G S fun v s₁ a S₁ st p r => Wp.mono (p X A s₁ v G S₁.inv S₁.xok r) fun b s₂ ⟨I, st', q⟩ => by
    cases b with
    | false => exact Wp.mono (q W Xc X env A s₂ G (S₁.keep I st')) fun _ _ g => g.next (st.trans st')
    | true => exact ⟨I, st.trans st', a, q, r.st (S₁.xc _ S₁.xP) st'⟩)
theorem ev_bool1 {x : Expr} {op : BoolOp} {pos : Pos} (h : Ev c n fc ρ x Pq) : Ev c n fc ρ (.BoolOp op [x] pos) Pq := fun W Xc X env A s G S => BoolOp_one (h W Xc X env A s G S)

def D.isNone : D → Bool
  | .raw v => v == .none
  | _ => false
theorem Rep.isNone {X : Addr → Prop} {h : Heap} {d : D} {v : Value} (r : Rep X h d v) : (v == .none) = d.isNone := by
  cases d with
  | raw u => have e : v = u := r; subst e; rfl
  | int i => obtain ⟨t, rfl⟩ := r; rfl
  | str i => obtain ⟨t, rfl⟩ := r; rfl
  | bytes i => obtain ⟨t, rfl⟩ := r; rfl
  | tup l => obtain ⟨a, vs, m, rfl, _⟩ := r; rfl
  | list l => obtain ⟨a, vs, m, rfl, _⟩ := r; rfl
  | inst C l => obtain ⟨a, _, vs, m, rfl, _⟩ := r; rfl
  | range a b => obtain ⟨a, _, vs, m, rfl, _⟩ := r; rfl
theorem is_no {d : D} (h : Pq (.raw (.bool d.isNone))) : Two c n (compareOp .Is) d (.raw .none) Pq := fun X A s u v G I xP r r' => by
  have e : v = .none := r'
  subst e
  exact PySem.is_none (by rw [r.isNone]; exact got_now I h rfl)
theorem isnt_no {d : D} (h : Pq (.raw (.bool (!d.isNone)))) : Two c n (compareOp .IsNot) d (.raw .none) Pq := fun X A s u v G I xP r r' => by
  have e : v = .none := r'
  subst e
  exact PySem.isNot_none (by rw [r.isNone]; exact got_now I h rfl)

/-! displays -/
theorem RepL.stay' {X : Addr → Prop} {h h' : Heap} {l : List D} {vs : List Value} (k : ∀ b o, h.get? b = some o → h'.get? b = some o) (r : RepL X h l vs) : RepL X h' l vs := r.stay fun b o _ e => k b o e
theorem got_tup {X : Addr → Prop} {s : Shared} {l : List D} {vs : List Value} (I : Inv c s) (xP : Xok c X s) (h : Pq (.tup l)) (r : RepL X s.heap l vs) : Got c X s Pq (.ref s.heap.objs.size) { s with heap := s.heap.push { cls := .type "tuple", data := .seq vs.toArray } } :=
  ⟨I.push (t := s.toks), stay_push, _, h, _, vs, _, rfl, xP.new (Nat.le_refl _), Heap.get?_push_size _ rfl, r.stay stay_push⟩
theorem got_list {X : Addr → Prop} {s : Shared} {l : List D} {vs : List Value} (I : Inv c s) (xP : Xok c X s) (h : Pq (.list l)) (r : RepL X s.heap l vs) : Got c X s Pq (.ref s.heap.objs.size) { s with heap := s.heap.push { cls := .type "list", data := .seq vs.toArray } } :=
  ⟨I.push (t := s.toks), stay_push, _, h, _, vs, (0, none, #[]), rfl, xP.new (Nat.le_refl _), Heap.get?_push_size _ rfl, r.stay stay_push⟩
theorem ev_tup {es : List Expr} {k : Nat} {pos : Pos} (h : EvL c n fc ρ es (fun l => l.length ≤ sizeLine ∧ Pq (.tup l))) : Ev c n fc ρ (.Tuple es k pos) Pq := fun W Xc X env A s G S =>
  PySem.wpAny_Tuple (Wp.mono (h W Xc X env A s pos G S) fun vs s₁ ⟨I, st, l, ⟨hl, p⟩, r⟩ => ⟨by rw [r.length]; exact hl, (got_tup I (S.xok.st I st) p r).next st⟩)
theorem ev_list {es : List Expr} {pos : Pos} (h : EvL c n fc ρ es (fun l => l.length ≤ sizeLine ∧ Pq (.list l))) : Ev c n fc ρ (.List es pos) Pq := fun W Xc X env A s G S =>
  PySem.wpAny_List (Wp.mono (h W Xc X env A s pos G S) fun vs s₁ ⟨I, st, l, ⟨hl, p⟩, r⟩ => ⟨by rw [r.length]; exact hl, (got_list I (S.xok.st I st) p r).next st⟩)

/-! cuts -/
def EvP (c : Cx) (n : Nat) (fc : FC) (ρ : Rho) (e : Option Expr) (P : Option Int → Prop) : Prop := match e with
  | none => P none
  | some e => Ev c n fc ρ e (fun d => ∃ i, d = .int i ∧ P (some i))
theorem evp_none {P : Option Int → Prop} (h : P none) : EvP c n fc ρ none P := h
theorem evp_some {e : Expr} {P : Option Int → Prop} (h : Ev c n fc ρ e (fun d => ∃ i, d = .int i ∧ P (some i))) : EvP c n fc ρ (some e) P := h
theorem EvP.use {e : Option Expr} {P : Option Int → Prop} {W Xc X : Addr → Prop} {env : Env} {A : Around} {s : Shared} {Q : Value → Shared → Prop} (h : EvP c n fc ρ e P) (G : Good n A) (S : Sat c W Xc X fc env ρ s)
    (k : ∀ v s' i, Sat c W Xc X fc env ρ s' → Stay (· = c.P) s.heap s'.heap → P i → (∃ t, v = partValue (i.map (·, t))) → Q v s') : Wp c A (evalPart e env) Q s := by
  cases e with
  | none => rw [evalPart_none]; exact wpAny_pure (k _ _ none S (Stay.refl _ _) h ⟨0, rfl⟩)
  | some e =>
    exact Ev.use h G S fun v s' d S' st p r => by
      obtain ⟨i, rfl, p⟩ := p
      obtain ⟨t, rfl⟩ := r
      exact k _ _ (some i) S' st p ⟨t, rfl⟩
theorem evl_len {es : List Expr} {k : List D → Prop} (h : EvL c n fc ρ es k) : EvL c n fc ρ es (fun l => k l) := h

theorem tail_cut {A : Around} {s : Shared} {value : Expr} {lo hi : Option Expr} {p : Pos} {o i : Value} {Ty id : String} {Q : Value → Shared → Prop} (hT : s.TypeIs o Ty)
    (hl : typeLookup (.type Ty) "__getitem__" = pure (some (.builtin id))) (h : Wp c A (getItem o i) Q s) : Wp c A (subscriptTail value (.Slice lo hi none p) o i) Q s := by
  unfold subscriptTail
  refine wpAny_bind ?_
  rw [getitemInPython_of_ne hT.not_modules]
  refine wpAny_bind (wpAny_specialOf hT hl ?_)
  have fin : Wp c A (subscripted (.Slice lo hi none p) false o i) (fun r s₃ => Wp c A (letTemporaryGo value o r >>= fun _ => pure r) Q s₃) s := by
    show Wp c A (operate [i, o] (getItem o i)) _ s
    exact wpAny_operating (Wp.mono h fun r s₃ h₃ => wpAny_bind (wpAny_letTemporaryGo (wpAny_pure h₃)))
  first
    | exact wpAny_pure (wpAny_bind fin)
    | exact wpAny_bind (wpAny_pure (wpAny_bind fin))
    | exact wpAny_bind fin

def Cut (c : Cx) (n : Nat) (a : D) (lo hi : Option Int) (Pq : D → Prop) : Prop :=
  ∀ X A s u vl vu (value : Expr) (l h : Option Expr) (p : Pos), Good n A → Inv c s → Xok c X s → Rep X s.heap a u → (∃ t, vl = partValue (lo.map (·, t))) → (∃ t, vu = partValue (hi.map (·, t))) →
    Wp c A (subscriptTail value (.Slice l h none p) u (.ref s.heap.objs.size)) (Got c X s Pq) { s with heap := s.heap.push { cls := .type "slice", data := .fields #[vl, vu, .none] } }
theorem ev_cut {value : Expr} {lo hi : Option Expr} {p pos : Pos} (h : Ev c n fc ρ value (fun a => EvP c n fc ρ lo (fun i => EvP c n fc ρ hi (fun j => Cut c n a i j Pq)))) : Ev c n fc ρ (.Subscript value (.Slice lo hi none p) pos) Pq := fun W Xc X env A s G S => by
  refine Subscript_ (h.use G S fun u s₁ a S₁ st q ra => ?_)
  refine PySem.wpAny_Slice (q.use G S₁ fun vl s₂ i S₂ st' q' hi => q'.use G S₂ fun vu s₃ j S₃ st'' k hj => ?_)
  rw [evalPart_none]
  refine wpAny_pure ?_
  exact Wp.mono (k X A s₃ u vl vu value _ _ _ G S₃.inv S₃.xok (ra.st S.xok.P (st'.trans st'')) hi hj) fun _ _ g => g.next (st.trans (st'.trans st''))
theorem cut_s {x : Str} {lo hi : Option Int} (hl : x.length ≤ sizeLine) (h : Pq (.str (Txt.slice x lo hi))) : Cut c n (.str x) lo hi Pq := fun X A s u vl vu value l hh p G I xP r hi hj => by
  obtain ⟨t, rfl⟩ := r
  obtain ⟨t1, rfl⟩ := hi
  obtain ⟨t2, rfl⟩ := hj
  refine tail_cut (typeIs_str _ x t) PySem.F.slot_str_getitem.lookup (wpAny_getItem_str_slice (l := lo.map (·, t1)) (u := hi.map (·, t2)) (st := none) ⟨_, Heap.get?_push_size _ rfl, rfl, rfl⟩ rfl ?_)
  have e1 : (lo.map (·, t1)).map (·.1) = lo := by cases lo <;> rfl
  have e2 : (hi.map (·, t2)).map (·.1) = hi := by cases hi <;> rfl
  unfold sliceMade slicePicked
  rw [e1, e2]
  exact post_val_or_str ⟨Nat.le_trans (Txt.slice_le x _ _) hl, fun t' k => ⟨I.push, stay_push, _, h, _, rfl⟩⟩
theorem RepL.drop {X : Addr → Prop} {h : Heap} : ∀ {l : List D} {vs : List Value} (i : Nat), RepL X h l vs → RepL X h (l.drop i) (vs.drop i)
  | l, vs, 0, r => r
  | [], _, i + 1, r => by rw [show _ = _ from r]; exact rfl
  | d :: ds, _, i + 1, r => by
    obtain ⟨v, us, q, r1, r2⟩ := r
    rw [q]; exact RepL.drop i r2
theorem RepL.take {X : Addr → Prop} {h : Heap} : ∀ {l : List D} {vs : List Value} (i : Nat), RepL X h l vs → RepL X h (l.take i) (vs.take i)
  | l, vs, 0, r => by rw [List.take_zero, List.take_zero]; exact rfl
  | [], _, i + 1, r => by rw [show _ = _ from r]; exact rfl
  | d :: ds, _, i + 1, r => by
    obtain ⟨v, us, q, r1, r2⟩ := r
    rw [q]; exact ⟨v, us.take i, rfl, r1, RepL.take i r2⟩
theorem isPart_of {lo : Option Int} {t : Tok} : IsPart (partValue (lo.map (·, t))) lo := by
  cases lo with
  | none => exact .none
  | some i => exact .int i t
theorem cut_l {l : List D} {lo hi : Option Int} (hl : l.length ≤ sizeLine) (h : Pq (.list (cut l lo hi))) : Cut c n (.list l) lo hi Pq := fun X A s u vl vu value ll hh p G I xP r hi hj => by
  obtain ⟨a, vs, m, rfl, x, g, rl⟩ := r
  obtain ⟨t1, rfl⟩ := hi
  obtain ⟨t2, rfl⟩ := hj
  have hL : s.heap.IsList a vs.toArray := ⟨_, g, rfl, _, rfl⟩
  refine tail_cut (Ty := "list") (hL.push _).typeIs list_getitem_lookup (wpAny_getItem_list_slice (hL.push _) (Heap.IsSliceOf.new ..) isPart_of isPart_of .none (by simp) ?_ (by rw [List.size_toArray, rl.length]; exact hl))
  refine ⟨(I.push (t := s.toks)).push (t := s.toks), stay_push.trans stay_push, _, h, _, (slicePick vs.toArray lo hi none).toList, (0, none, #[]), rfl, ?_, Heap.get?_push_size _ rfl, ?_⟩
  · exact xP.new (by rw [Heap.size_push]; exact Nat.le_succ _)
  · rw [slicePick_plain, List.toList_toArray, List.size_toArray, rl.length]
    exact ((rl.drop _).take _).stay (stay_push.trans stay_push)

/-! statements -/
theorem ex_expr {e : Expr} {pos : Pos} (hs : ∀ env, swapsWith e none pos.line env = pure false) (h : Ev c n fc ρ e (fun _ => R (.next ρ))) : Ex1 c n fc ρ (.Expr e pos) R := fun W Xc X env A s G S =>
  wpAny_Expr_any (h.use G S fun v s₁ d S₁ st p r => ⟨Low.of_stay st, _, p, rfl, W, X, Grow.refl _ _ _, S₁⟩) (by unfold interactive; rw [S.fn]; rfl) (hs _)
end
end Mine
end
section
namespace Mine
open PySem PySem.W PySem.Calls PyProof.Rows Builtin

theorem LRep.side {W X Z : Addr → Prop} {h h' : Heap} (hz : ∀ z, Z z → Side h z) (k : Stay Z h h') {lv : LV} {v : Value} (r : LRep W X h lv v) : LRep W X h' lv v := by
  cases lv with
  | dat d => exact Rep.side hz k r
  | own a l =>
    obtain ⟨e, x, n, vs, m, g, rl⟩ := r
    exact ⟨e, x, n, vs, m, k a _ (fun z => (hz _ z).no g (.inl fun _ q => by cases q) rfl) g, RepL.side hz k rl⟩
  | self a dd C fs =>
    obtain ⟨e, x, n, g, es, m, g', rl⟩ := r
    exact ⟨e, x, n, k a _ (fun z => (hz _ z).no g (.inr (.inr ⟨_, rfl⟩)) rfl) g, es, m, k dd _ (fun z => (hz _ z).no g' (.inl fun _ q => by cases q) rfl) g', RepF.side hz k rl⟩

section
variable {c : Cx} {n : Nat} {fc : FC} {ρ : Rho} {R : Out → Prop} {Pq : D → Prop} {Pb : Bool → Prop}

theorem Sat.side {W Xc X Z : Addr → Prop} {env : Env} {s s' : Shared} (S : Sat c W Xc X fc env ρ s) (I : Inv c s') (hz : ∀ z, Z z → Side s.heap z ∧ (z = c.P ∨ ¬ X z)) (k : Stay Z s.heap s'.heap) : Sat c W Xc X fc env ρ s' := by
  have hz' : ∀ z, Z z → Side s.heap z := fun z q => (hz z q).1
  obtain ⟨m, ⟨o, es, ep, ho, hd, r⟩, B⟩ := S.ns
  have kc : ∀ {a v}, s.heap.IsCell a v → s'.heap.IsCell a v := fun {a v} ⟨o, ho, hd⟩ => ⟨o, k a o (fun z => (hz' _ z).no ho (.inl fun _ q => by rw [hd] at q; cases q) rfl) ho, hd⟩
  refine ⟨I, S.ev, S.fok, S.xP, S.xc, fun a q => ?_, S.xlo, S.wx, S.wL, S.base, ⟨m, ⟨o, es, ep, k _ o (fun z => (hz' _ z).no ho (.inl fun _ q => by rw [hd] at q; cases q) rfl) ho, hd, r⟩, fun i x kd lv h1 h2 => ?_⟩, fun x a e => ?_, S.celled, S.capart, S.cellN, S.owns, S.apart, S.selfW⟩
  · by_cases e : a = c.P
    · subst e; exact let ⟨ps, q⟩ := I.atP; ⟨_, q⟩
    · obtain ⟨o, g⟩ := S.xex a q
      exact ⟨o, k a o (fun z => (hz a z).2.elim e fun n => n q) g⟩
  · obtain ⟨kk, v, lr, b1, b2⟩ := B i x kd lv h1 h2
    exact ⟨kk, v, LRep.side hz' k lr, b1, fun e => let ⟨a, q1, q2, q3⟩ := b2 e; ⟨a, q1, q2, kc q3⟩⟩
  · obtain ⟨q1, v, q2⟩ := S.cells x a e
    exact ⟨q1, v, kc q2⟩
theorem oldK_ext {h₀ h h' : Heap} (K : OldK h₀ h) {z : Addr} (lo : h₀.objs.size ≤ z) (hs : Heap.ExtBut z h h') : OldK h₀ h' := by
  have ne : ∀ b o, h₀.get? b = some o → b ≠ z := fun b o e => Nat.ne_of_lt (Nat.lt_of_lt_of_le (Heap.lt_size e) lo)
  refine ⟨fun b o e => ?_, fun b o e => let ⟨o', ho'⟩ := K.there b o e; ⟨o', hs b o' (ne b o e) ho'⟩⟩
  rcases K.old b o e with x | ⟨t, hc, vs, more, hv, x⟩ | ⟨rfl, hc, ⟨o', es, n, ho', r⟩, z'⟩
  · exact .inl (hs b _ (ne b o e) x)
  · exact .inr (.inl ⟨t, hc, vs, more, hv, hs b _ (ne b o e) x⟩)
  · exact .inr (.inr ⟨rfl, hc, ⟨o', es, n, hs _ _ (ne _ o e) ho', r⟩, fun key => by rw [OldK.staticOf_congr ((hs _ _ (ne _ o e) ho').trans ho'.symm) key]; exact z' key⟩)
theorem Inv.side {s : Shared} {h' : Heap} {z : Addr} {t : Nat} (I : Inv c s) (lo : c.h₁.objs.size ≤ z) (hs : Heap.ExtBut z s.heap h') (big : c.h₁.objs.size ≤ h'.objs.size) : Inv c { s with heap := h', toks := t } := by
  have n1 : c.P ≠ z := Nat.ne_of_lt (Nat.lt_of_lt_of_le I.lo.1 lo)
  have n2 : c.cP ≠ z := Nat.ne_of_lt (Nat.lt_of_lt_of_le I.lo.2 lo)
  refine ⟨fun b o nb g => hs b o (Nat.ne_of_lt (Nat.lt_of_lt_of_le (Heap.lt_size g) lo)) (I.stay b o nb g), oldK_ext I.old lo hs, ?_, I.os, I.gens, I.lo, big⟩
  obtain ⟨ps, a, ⟨o', vs, g', a'⟩, b⟩ := I.tab
  exact ⟨ps, a.extBut hs n2 n1, ⟨o', vs, hs _ _ n2 g', a'⟩, hs _ _ n1 b⟩

/-! iterators -/
def upInts : Int → Nat → List D
  | _, 0 => []
  | x, k + 1 => .int x :: upInts (x + 1) k
theorem upInts_length : ∀ (k : Nat) (x : Int), (upInts x k).length = k
  | 0, _ => rfl
  | k + 1, x => by rw [upInts, List.length_cons, upInts_length k]
inductive ItAt (c : Cx) (X : Addr → Prop) (h : Heap) (it : Addr) (ds : List D) : Prop
  | list (l : Addr) (i : Nat) (vs : List Value) (m : Meta) (lo : c.h₁.objs.size ≤ it) (hi : h.IsListIter it l i) (x : ¬ X l) (g : h.get? l = some (listObj vs m)) (r : RepL X h ds (vs.drop i))
  | tup (l : Addr) (i : Nat) (vs : List Value) (m : Nat) (lo : c.h₁.objs.size ≤ it) (hi : IsTupIter h it l i) (x : ¬ X l) (g : h.get? l = some (tupObj vs m)) (r : RepL X h ds (vs.drop i))
  | range (x : Int) (k : Nat) (lo : c.h₁.objs.size ≤ it) (hi : IsRangeIter h it x k 1) (e : ds = upInts x k)
theorem ItAt.lo {X : Addr → Prop} {h : Heap} {it : Addr} {ds : List D} (x : ItAt c X h it ds) : c.h₁.objs.size ≤ it := by cases x <;> assumption
theorem ItAt.side {X : Addr → Prop} {h : Heap} {it : Addr} {ds : List D} (x : ItAt c X h it ds) : Side h it := by
  cases x with
  | list l i vs m lo hi => obtain ⟨o, g, cl, d⟩ := hi; exact ⟨o, _, g, d, by rw [cl]; decide, fun a q => by rw [cl] at q; cases q⟩
  | tup l i vs m lo hi => obtain ⟨o, g, cl, d⟩ := hi; exact ⟨o, _, g, d, by rw [cl]; decide, fun a q => by rw [cl] at q; cases q⟩
  | range x k lo hi => exact ⟨_, _, hi, rfl, (fun q => absurd q (by simp)), fun a q => by cases q⟩
theorem ItAt.mix {X Z : Addr → Prop} {h h' : Heap} {it : Addr} {ds : List D} (x : ItAt c X h it ds) (k : Stay Z h h') (nz : ¬ Z it) (hz : ∀ a, Z a → X a ∨ Side h a) : ItAt c X h' it ds := by
  cases x with
  | list l i vs m lo hi xl g r =>
    obtain ⟨o, go, e⟩ := hi
    exact .list l i vs m lo ⟨o, k _ _ nz go, e⟩ xl (k _ _ (fun z => (hz _ z).elim xl fun q => q.no g (.inl fun _ q => by cases q) rfl) g) (r.mix hz k)
  | tup l i vs m lo hi xl g r =>
    obtain ⟨o, go, e⟩ := hi
    exact .tup l i vs m lo ⟨o, k _ _ nz go, e⟩ xl (k _ _ (fun z => (hz _ z).elim xl fun q => q.no g (.inl fun _ q => by cases q) rfl) g) (r.mix hz k)
  | range x m lo hi e => exact .range x m lo (k _ _ nz hi) e
theorem ItAt.shun {X Y : Addr → Prop} {h : Heap} {it : Addr} {ds : List D} (x : ItAt c X h it ds) (xy : ∀ a, Y a → X a ∨ h.get? a = none) : ItAt c Y h it ds := by
  cases x with
  | list l i vs m lo hi xl g r => exact .list l i vs m lo hi (fun y => (xy _ y).elim xl fun q => by rw [q] at g; cases g) g (r.shun xy)
  | tup l i vs m lo hi xl g r => exact .tup l i vs m lo hi (fun y => (xy _ y).elim xl fun q => by rw [q] at g; cases g) g (r.shun xy)
  | range x m lo hi e => exact .range x m lo hi e

theorem ItAt.anti {X Y : Addr → Prop} {h : Heap} {it : Addr} {ds : List D} (x : ItAt c X h it ds) (xy : ∀ a, Y a → X a) : ItAt c Y h it ds := x.shun fun a q => .inl (xy a q)
/-- what a datum is gone through -/
inductive Items : D → List D → Prop
  | list {l : List D} : Items (.list l) l
  | tup {l : List D} : Items (.tup l) l
  | range {a b : Int} (h : -(2 ^ 62) ≤ a ∧ a < 2 ^ 62 ∧ -(2 ^ 62) ≤ b ∧ b < 2 ^ 62) : Items (.range a b) (upInts a (b - a).toNat)
theorem iter_of {X : Addr → Prop} {A : Around} {s : Shared} {d : D} {ds : List D} {v : Value} {Q : Value → Shared → Prop} (I : Inv c s) (i : Items d ds) (r : Rep X s.heap d v)
    (h : ∀ o, ItAt c X (s.heap.push o) s.heap.objs.size ds → Q (.ref s.heap.objs.size) { s with heap := s.heap.push o }) : Wp c A (pyIter v) Q s := by
  cases i with
  | list =>
    obtain ⟨a, vs, m, rfl, x, g, rl⟩ := r
    have hL : s.heap.IsList a vs.toArray := ⟨_, g, rfl, _, rfl⟩
    exact wpAny_pyIter_list hL (h _ (.list a 0 vs m I.big ⟨_, Heap.get?_push_size _ rfl, rfl, rfl⟩ x (Heap.get?_push_of_some _ g) (rl.stay stay_push)))
  | tup =>
    obtain ⟨a, vs, m, rfl, x, g, rl⟩ := r
    have hL : IsTup s.heap a vs.toArray := ⟨_, g, rfl, _, rfl⟩
    exact iter_tuple hL (h _ (.tup a 0 vs m I.big ⟨_, Heap.get?_push_size _ rfl, rfl, rfl⟩ x (Heap.get?_push_of_some _ g) (rl.stay stay_push)))
  | @range a b' b =>
    obtain ⟨r, t, u, w, rfl, x, g⟩ := r
    refine wpAny_pyIter_range g (small_one b.1 b.2.1 b.2.2.1 b.2.2.2) (h _ (.range _ _ I.big ?_ rfl))
    have e : Range.rangeSize a b' 1 = ((b' - a).toNat : Int) := by rw [rangeSize_one]; split <;> omega
    rw [e]
    exact Heap.get?_push_size _ rfl
theorem iter_next {X : Addr → Prop} {A : Around} {s : Shared} {d : D} {ds : List D} {it : Addr} {Q : Option Value → Shared → Prop} (I : Inv c s) (x : ItAt c X s.heap it (d :: ds))
    (h : ∀ v s', Inv c s' → Stay (· = it) s.heap s'.heap → ItAt c X s'.heap it ds → Rep X s'.heap d v → Q (some v) s') : Wp c A (pyNext (.ref it)) Q s := by
  have sd := x.side
  cases x with
  | list l i vs m lo hi xl g r =>
    obtain ⟨v, us, q, r1, r2⟩ := r
    have hx : vs[i]? = some v := by rw [← List.head?_drop, q]; rfl
    refine wpAny_pyNext_list_item hi (items := vs.toArray) ⟨_, g, rfl, _, rfl⟩ (by simpa using hx) fun h' hi' hs => ?_
    have k : Stay (· = it) s.heap h' := fun b o nb e => (hs.2 b nb).trans e
    have hz : ∀ z, z = it → X z ∨ Side s.heap z := fun z e => .inr (e ▸ sd)
    have e : us = vs.drop (i + 1) := by rw [← List.tail_drop, q]; rfl
    exact h v _ (I.turn (t := s.toks) lo hs) k (.list l (i + 1) vs m lo hi' xl (k _ _ (sd.no g (.inl fun _ q => by cases q)) g) (e ▸ r2.mix hz k)) (r1.mix hz k)
  | tup l i vs m lo hi xl g r =>
    obtain ⟨v, us, q, r1, r2⟩ := r
    have hx : vs[i]? = some v := by rw [← List.head?_drop, q]; rfl
    refine next_tuple_item hi (items := vs.toArray) ⟨_, g, rfl, _, rfl⟩ (by simpa using hx) fun h' hi' hs => ?_
    have k : Stay (· = it) s.heap h' := fun b o nb e => (hs.2 b nb).trans e
    have hz : ∀ z, z = it → X z ∨ Side s.heap z := fun z e => .inr (e ▸ sd)
    have e : us = vs.drop (i + 1) := by rw [← List.tail_drop, q]; rfl
    exact h v _ (I.turn (t := s.toks) lo hs) k (.tup l (i + 1) vs m lo hi' xl (k _ _ (sd.no g (.inl fun _ q => by cases q)) g) (e ▸ r2.mix hz k)) (r1.mix hz k)
  | range x k lo hi e =>
    cases k with
    | zero => cases e
    | succ k =>
      cases e
      refine wpAny_pyNext_range_item hi (by omega) fun h' hi' hs => ?_
      exact h _ _ (I.turn lo hs) (fun b o nb e => (hs.2 b nb).trans e) (.range (x + 1) k lo (by rw [show ((k : Int)) = ((k + 1 : Nat) : Int) - 1 from by omega]; exact hi') rfl) ⟨_, rfl⟩
theorem iter_end {X : Addr → Prop} {A : Around} {s : Shared} {it : Addr} {Q : Option Value → Shared → Prop} (hA : A.handled = none) (I : Inv c s) (x : ItAt c X s.heap it []) (big : ∃ a o, a ≠ it ∧ c.h₁.objs.size ≤ a ∧ s.heap.get? a = some o)
    (h : ∀ s', Inv c s' → Stay (· = it) s.heap s'.heap → Q none s') : Wp c A (pyNext (.ref it)) Q s := by
  obtain ⟨a, o, ne, la, ga⟩ := big
  have fin : ∀ h', Heap.ExtBut it s.heap h' → Q none { s with heap := h' } := fun h' hs => h _ (I.side (t := s.toks) x.lo hs (Nat.le_of_lt (Nat.lt_of_le_of_lt la (Heap.lt_size (hs a o ne ga))))) fun b o nb e => hs b o nb e
  cases x with
  | list l i vs m lo hi xl g r =>
    have q : vs.drop i = [] := r
    exact wpAny_pyNext_list_end hA hi (items := vs.toArray) ⟨_, g, rfl, _, rfl⟩ (by rw [List.getElem?_toArray, ← List.head?_drop, q]; rfl) fin
  | tup l i vs m lo hi xl g r =>
    have q : vs.drop i = [] := r
    exact next_tuple_end hA hi (items := vs.toArray) ⟨_, g, rfl, _, rfl⟩ (by rw [List.getElem?_toArray, ← List.head?_drop, q]; rfl) fin
  | range x k lo hi e =>
    cases k with
    | succ k => cases e
    | zero => exact wpAny_pyNext_range_end hA hi (Int.le_refl _) fin
end
end Mine
end
section
namespace Mine
open PySem PySem.W PySem.Calls PyProof.Rows Builtin

section
variable {c : Cx} {n : Nat} {fc : FC} {ρ : Rho} {R : Out → Prop} {Pq : D → Prop} {Pb : Bool → Prop}

/-! targets -/
def Asg (c : Cx) (n : Nat) (fc : FC) (ρ : Rho) (target : Expr) (d : D) (Q : Rho → Prop) : Prop :=
  ∀ W Xc X env A s v, Good n A → Sat c W Xc X fc env ρ s → Rep X s.heap d v → Wp c A (assign target env v) (fun _ s' => ∃ ρ', Q ρ' ∧ Sat c W Xc X fc env ρ' s' ∧ Low W c.P s.heap s'.heap) s
theorem asg_name {x : Str} {k : NameKind} {p : Pos} {d : D} {Q : Rho → Prop} (F : (k != .cell || fc.wr x) = true) (i : Nat) (e : fc.scope.names[i]? = some (x, k)) (hk : k = .local ∨ k = .cell) (il : i < ρ.length)
    (h : Q (ρ.set i (some (.dat d)))) : Asg c n fc ρ (.Name x p) d Q := fun W Xc X env A s v G S r =>
  PyProof.Rows.assign_Name (S.storeD F e hk il r fun s' S' lw => ⟨_, h, S', lw⟩)
def AsgL (c : Cx) (n : Nat) (fc : FC) : Rho → List Expr → List D → (Rho → Prop) → Prop
  | ρ, [], [], Q => Q ρ
  | ρ, t :: ts, d :: ds, Q => Asg c n fc ρ t d (fun ρ' => AsgL c n fc ρ' ts ds Q)
  | _, _, _, _ => False
theorem asgl_nil {Q : Rho → Prop} (h : Q ρ) : AsgL c n fc ρ [] [] Q := h
theorem asgl_cons {t : Expr} {ts : List Expr} {d : D} {ds : List D} {Q : Rho → Prop} (h : Asg c n fc ρ t d (fun ρ' => AsgL c n fc ρ' ts ds Q)) : AsgL c n fc ρ (t :: ts) (d :: ds) Q := h
theorem assignEach_cons {t : Expr} {ts : List Expr} {env : Env} (h : isStar t = false) : assignEach (t :: ts) env = (false, assign t env) :: assignEach ts env := by
  cases t <;> first | rfl | cases h
theorem each_of {env : Env} : ∀ {ts : List Expr}, noStar ts = true → (assignEach ts env).length = ts.length ∧ (assignEach ts env).findIdx? (·.1) = none ∧ (assignEach ts env).map (·.2) = ts.map fun t => assign t env
  | [], _ => ⟨rfl, rfl, rfl⟩
  | t :: ts, h => by
    obtain ⟨a, b⟩ := Bool.and_eq_true_iff.mp (show (!isStar t && noStar ts) = true from h)
    obtain ⟨h1, h2, h3⟩ := each_of (env := env) b
    rw [assignEach_cons (by simpa using a)]
    refine ⟨by rw [List.length_cons, List.length_cons, h1], ?_, by rw [List.map_cons, List.map_cons, h3]⟩
    rw [List.findIdx?_cons, h2]; rfl
theorem AsgL.use {W Xc X : Addr → Prop} {env : Env} {A : Around} : ∀ {ts : List Expr} {ds : List D} {vs : List Value} {ρ : Rho} {s : Shared} {Q : Rho → Prop}, AsgL c n fc ρ ts ds Q → Good n A → Sat c W Xc X fc env ρ s → RepL X s.heap ds vs →
    Wp c A (assignInOrder (ts.map fun t => assign t env) vs) (fun _ s' => ∃ ρ', Q ρ' ∧ Sat c W Xc X fc env ρ' s' ∧ Low W c.P s.heap s'.heap) s
  | [], [], vs, ρ, s, Q, h, G, S, r => by
    have e : vs = [] := r
    subst e
    exact assignInOrder_nil ⟨ρ, h, S, Low.refl _ _ _⟩
  | [], d :: ds, vs, ρ, s, Q, h, G, S, r => h.elim
  | t :: ts, [], vs, ρ, s, Q, h, G, S, r => h.elim
  | t :: ts, d :: ds, vs, ρ, s, Q, h, G, S, r => by
    obtain ⟨v, us, rfl, r1, r2⟩ := r
    refine assignInOrder_cons (Wp.mono (h W Xc X env A s v G S r1) fun _ s' ⟨ρ', q, S', lw⟩ => ?_)
    have k := AsgL.use (ts := ts) (ds := ds) q G S' (r2.mix (fun z hz => hz.elim (fun w => .inl (S.wx z w)) (fun e => .inl (e ▸ S.xc _ S.xP))) lw)
    exact Wp.mono k fun _ s'' ⟨ρ'', q', S'', lw'⟩ => ⟨ρ'', q', S'', lw.trans lw'⟩

/-! taking apart -/
theorem draw_of {W Xc X : Addr → Prop} {env : Env} {A : Around} {it : Addr} : ∀ {ds : List D} {s : Shared} {Q : List Value → Shared → Prop}, Sat c W Xc X fc env ρ s → ¬ X it → ItAt c X s.heap it ds →
    (∀ vs s', Sat c W Xc X fc env ρ s' → Stay (· = it) s.heap s'.heap → ItAt c X s'.heap it [] → RepL X s'.heap ds vs → Q vs s') → Wp c A (draw (.ref it) ds.length) Q s
  | [], s, Q, S, nx, x, h => by
    show Wp c A (pure []) Q s
    exact wpAny_pure (h [] s S (Stay.refl _ _) x rfl)
  | d :: ds, s, Q, S, nx, x, h => by
    show Wp c A (pyNext (.ref it) >>= _) Q s
    refine wpAny_bind (iter_next S.inv x fun v s₁ I₁ k₁ x₁ r₁ => ?_)
    have hz : ∀ z, z = it → Side s.heap z ∧ (z = c.P ∨ ¬ X z) := fun z e => ⟨e ▸ x.side, .inr (e ▸ nx)⟩
    refine wpAny_bind (wpAny_holding (draw_of (ds := ds) (S.side I₁ hz k₁) nx x₁ fun vs s₂ S₂ k₂ x₂ r₂ => wpAny_pure ?_))
    exact h (v :: vs) s₂ S₂ (k₁.trans k₂) x₂ ⟨v, vs, rfl, r₁.mix (fun z e => .inr (e ▸ x₁.side)) k₂, r₂⟩
theorem items_iter {X : Addr → Prop} {s : Shared} {d : D} {ds : List D} {v : Value} (i : Items d ds) (r : Rep X s.heap d v) : ∃ Ty id, s.TypeIs v Ty ∧ typeLookup (.type Ty) "__iter__" = pure (some (.builtin id)) := by
  cases i with
  | list =>
    obtain ⟨a, vs, m, rfl, x, g, rl⟩ := r
    exact ⟨_, _, ⟨_, g, rfl⟩, slot_list_iter.lookup⟩
  | tup =>
    obtain ⟨a, vs, m, rfl, x, g, rl⟩ := r
    exact ⟨_, _, ⟨_, g, rfl⟩, slot_tuple_iter.lookup⟩
  | range b =>
    obtain ⟨a, t, u, w, rfl, x, g⟩ := r
    exact ⟨_, _, ⟨_, g, rfl⟩, F.slot_range_iter.lookup⟩
theorem unpack_of {W Xc X : Addr → Prop} {env : Env} {A : Around} {s : Shared} {d : D} {ds : List D} {v : Value} {Q : List Value → Shared → Prop} (G : Good n A) (S : Sat c W Xc X fc env ρ s) (i : Items d ds) (r : Rep X s.heap d v)
    (h : ∀ vs s', Sat c W Xc X fc env ρ s' → Stay (fun _ => False) s.heap s'.heap → RepL X s'.heap ds vs → Q vs s') : Wp c A (unpackItems v ds.length none) Q s := by
  unfold unpackItems
  refine wpAny_bind ?_
  unfold notIterableAtAll
  obtain ⟨Ty, id, hT, hl⟩ := items_iter i r
  refine wpAny_bind (wpAny_specialOf hT hl ?_)
  refine wpAny_pure ?_
  simp only [Bool.false_eq_true, if_false]
  refine wpAny_bind (wpAny_holding (iter_of S.inv i r fun o x => ?_))
  have S₁ : Sat c W Xc X fc env ρ { s with heap := s.heap.push o } := S.keep (S.inv.push (t := s.toks)) stay_push
  have nx : ¬ X s.heap.objs.size := S.xok.new (Nat.le_refl _)
  refine wpAny_bind (wpAny_holding (draw_of S₁ nx x fun vs s₂ S₂ k₂ x₂ r₂ => ?_))
  rw [if_neg (by rw [r₂.length]; omega)]
  have big : ∃ a o, a ≠ s.heap.objs.size ∧ c.h₁.objs.size ≤ a ∧ s₂.heap.get? a = some o := by
    obtain ⟨m, ⟨o, es, ep, ho, _⟩, _⟩ := S.ns
    obtain ⟨m₂, ⟨o₂, es₂, ep₂, ho₂, _⟩, _⟩ := S₂.ns
    exact ⟨env.locals, o₂, Nat.ne_of_lt (Heap.lt_size ho), S.lo, ho₂⟩
  refine wpAny_bind (wpAny_holding (iter_end G.1 S₂.inv x₂ big fun s₃ I₃ k₃ => ?_))
  simp only [Option.isSome_none, Bool.false_eq_true, if_false]
  have hz : ∀ z, z = s.heap.objs.size → Side s₂.heap z ∧ (z = c.P ∨ ¬ X z) := fun z e => ⟨e ▸ x₂.side, .inr (e ▸ nx)⟩
  refine wpAny_pure (h vs s₃ (S₂.side I₃ hz k₃) (fun b o _ e => ?_) (r₂.mix (fun z e => .inr (hz z e).1) k₃))
  have ne : b ≠ s.heap.objs.size := Nat.ne_of_lt (Heap.lt_size e)
  exact k₃ b o ne (k₂ b o ne (Heap.get?_push_of_some _ e))
theorem asg_tuple {ts : List Expr} {k : Nat} {p : Pos} {d : D} {ds : List D} {Q : Rho → Prop} (hs : noStar ts = true) (i : Items d ds) (hn : ts.length = ds.length) (h : AsgL c n fc ρ ts ds Q) : Asg c n fc ρ (.Tuple ts k p) d Q := fun W Xc X env A s v G S r => by
  rw [assign_Tuple]
  refine wpAny_bind (wpAny_standAt ?_)
  unfold unpack
  obtain ⟨h1, h2, h3⟩ := each_of (env := env) hs
  rw [h1, h2, h3, hn]
  refine wpAny_bind (wpAny_holding (unpack_of G S i r fun vs s' S' k' r' => ?_))
  exact Wp.mono (h.use G S' r') fun _ s'' ⟨ρ', q, S'', lw⟩ => ⟨ρ', q, S'', (Low.of_stay (k'.mono fun _ e => e.elim)).trans lw⟩
theorem ex_unpack {ts : List Expr} {k : Nat} {tp pos : Pos} {value : Expr} (hs : ∀ env, swapsWithSole [.Tuple ts k tp] value pos.line env = pure false) (hw : ∀ env, swappedStores [.Tuple ts k tp] value env = pure none)
    (h : Ev c n fc ρ value (fun d => Asg c n fc ρ (.Tuple ts k tp) d (fun ρ' => R (.next ρ')))) : Ex1 c n fc ρ (.Assign [.Tuple ts k tp] value pos) R := fun W Xc X env A s G S =>
  Assign_Tuple (h.use G S fun v s₁ d S₁ st p r => Wp.mono (p W Xc X env A s₁ v G S₁ r) fun _ s₂ ⟨ρ', q, S₂, lw⟩ => ⟨(Low.of_stay st).trans lw, _, q, rfl, W, X, Grow.refl _ _ _, S₂⟩) (hs env) (hw env)

/-! for -/
def ForPost (c : Cx) (W Xc X : Addr → Prop) (fc : FC) (env : Env) (s : Shared) (it : Addr) (R : Out → Prop) (r : Result) (s' : Shared) : Prop := match r with
  | .ok fl => Stay (fun b => W b ∨ b = c.P ∨ b = it) s.heap s'.heap ∧ ∃ o, R o ∧ Ended c W Xc X fc env (fun a => Gone s.heap a ∨ a = it) fl o s'
  | .error _ => False
def ForL (c : Cx) (n : Nat) (fc : FC) (ρ : Rho) (target : Expr) (body orelse : List Stmt) (ds : List D) (R : Out → Prop) : Prop :=
  ∀ W Xc X env A s it, Good n A → Sat c W Xc X fc env ρ s → ItAt c X s.heap it ds → ¬ X it → codeAny (model c.prog c.w) A (.forLoop target (.ref it) body orelse env) (ForPost c W Xc X fc env s it R) s
def notSet : Expr → Bool
  | .Set .. => false
  | _ => true
theorem folded_of {e : Expr} {env : Env} {x : Value} (h : notSet e = true) : foldedSetIterable e env x = pure x := by
  cases e <;> first | rfl | cases h
theorem ex_for {target iter : Expr} {body orelse : List Stmt} {pos : Pos} (hs : notSet iter = true) (h : Ev c n fc ρ iter (fun d => ∃ ds, Items d ds ∧ ForL c n fc ρ target body orelse ds R)) : Ex1 c n fc ρ (.For target iter body orelse pos) R := fun W Xc X env A s G S => by
  refine PySem.wpAny_For (h.use G S fun v s₁ d S₁ st ⟨ds, i, p⟩ r => iter_of S₁.inv i r fun o x => ?_) fun x => folded_of hs
  have S₂ : Sat c W Xc X fc env ρ { s₁ with heap := s₁.heap.push o } := S₁.keep (S₁.inv.push (t := s₁.toks)) stay_push
  have nx : ¬ X s₁.heap.objs.size := S₁.xok.new (Nat.le_refl _)
  refine codeAny_mono (p W Xc X env A _ _ G S₂ x nx) fun r s' e => ?_
  cases r with
  | error x => exact e.elim
  | ok fl =>
    obtain ⟨k, o', ro, e⟩ := e
    have st' : Stay (· = c.P) s.heap (s₁.heap.push o) := st.trans stay_push
    have gn : Gone s.heap s₁.heap.objs.size := by
      cases q : s.heap.get? s₁.heap.objs.size with
      | none => exact q
      | some ob => exact absurd q (fun q => by
          have ne : s₁.heap.objs.size ≠ c.P := fun e => absurd (Nat.lt_of_lt_of_le S₁.inv.lo.1 S₁.inv.big) (by rw [e]; exact Nat.lt_irrefl _)
          exact Nat.lt_irrefl _ (Heap.lt_size (st _ _ ne q)))
    refine ⟨fun b o nz g => k b o (fun z => z.elim (fun z => nz (.inl z)) fun z => z.elim (fun z => nz (.inr z)) fun z => ?_) (st' b o (fun z => nz (.inr z)) g), o', ro, e.grow (fun x q => q.elim (old_stay st' S₂.inv.someP x) fun q => .inr (q ▸ gn)) (Grow.refl _ _ _) S.notGone S.wx⟩
    rw [z, show s.heap.get? _ = none from gn] at g
    cases g
def nameOnly : Expr → Bool
  | .Name .. => true
  | _ => false
theorem letOwned_of {A : Around} {X : Addr → Prop} {s : Shared} {target : Expr} {it : Addr} {ds : List D} {v : Value} {Q : Unit → Shared → Prop} (x : ItAt c X s.heap it ds) (h : Q () s) : Wp c A (letOwnedTupleGo target (.ref it) v) Q s := by
  have fin : ∀ (a : Addr), Wp c A (do
      let o ← load it
      match o.cls, o.data with
      | .type n, .fields vs =>
        if ["enumerate", "zip", "dict_itemiterator", "dict_reverseitemiterator", "odict_iterator", "itertools.zip_longest", "itertools.pairwise"].contains n && vs[0]? == some (rawInt a) then
          rule "for.unpacks-the-owned-tuple"
          updateField it 0 .none
      | _, _ => pure () : Sem Unit) Q s := by
    intro a
    cases x with
    | list l i vs m lo hi xl g r =>
      obtain ⟨o, go, e1, e2⟩ := hi
      refine wpAny_bind (wpAny_load go ?_)
      rw [e1, e2]
      exact wpAny_pure h
    | tup l i vs m lo hi xl g r =>
      obtain ⟨o, go, e1, e2⟩ := hi
      refine wpAny_bind (wpAny_load go ?_)
      rw [e1, e2]
      exact wpAny_pure h
    | range x k lo hi e =>
      refine wpAny_bind (wpAny_load hi ?_)
      exact wpAny_pure h
  unfold letOwnedTupleGo
  split
  · cases v <;> first | exact fin _ | exact wpAny_pure h
  · cases v <;> first | exact fin _ | exact wpAny_pure h
  · exact wpAny_pure h
theorem ForL.done {target : Expr} {body orelse : List Stmt} (h : Ex c n fc ρ orelse R) : ForL c n fc ρ target body orelse [] R := fun W Xc X env A s it G S x nx => by
  refine codeAny_of_tree ?_
  have G' : Good n (A.under (.forLoop target (.ref it) body orelse env)) := G.under0 rfl rfl
  refine Wp.onRaise (Q := fun (fin : PySem.Fin) s' => match fin with | .done f => ForPost c W Xc X fc env s it R (.ok f) s' | .again c' => c'.quiet = true ∧ codeAny (model c.prog c.w) A c' (ForPost c W Xc X fc env s it R) s') ?_
  show Wp c _ (forTurn target (.ref it) body orelse env) _ s
  simp only [forTurn]
  have big : ∃ a o, a ≠ it ∧ c.h₁.objs.size ≤ a ∧ s.heap.get? a = some o := by
    obtain ⟨m, ⟨o, es, ep, ho, _⟩, _⟩ := S.ns
    exact ⟨env.locals, o, fun e => nx (e ▸ S.xL), S.lo, ho⟩
  refine wpAny_bind (wpAny_standAt (wpAny_bind (Wp.onRaise (iter_end G'.1 S.inv x big fun s₁ I₁ k₁ => ?_))))
  have hz : ∀ z, z = it → Side s.heap z ∧ (z = c.P ∨ ¬ X z) := fun z e => ⟨e ▸ x.side, .inr (e ▸ nx)⟩
  have S₁ := S.side I₁ hz k₁
  refine wpAny_pure ⟨rfl, codeAny_block (Wp.any (Wp.mono (h W Xc X env A s₁ G S₁) fun fl s₂ ⟨lw, o, ro, e⟩ => ?_))⟩
  refine ⟨fun b o nz g => lw b o (fun z => nz (z.elim .inl fun z => .inr (.inl z))) (k₁ b o (fun z => nz (.inr (.inr z))) g), o, ro, e.grow (fun a q => ?_) (Grow.refl _ _ _) (fun a q z => z.elim (S.notGone a q) fun z => nx (z ▸ q)) S.wx⟩
  by_cases ea : a = it
  · exact .inr (.inr ea)
  · right; left
    show s.heap.get? a = none
    cases g : s.heap.get? a with
    | none => rfl
    | some o => have := k₁ a o ea g; rw [show s₁.heap.get? a = none from q] at this; cases this
theorem ForL.turn {target : Expr} {body orelse : List Stmt} {d : D} {ds : List D} (h : Asg c n fc ρ target d (fun ρ₁ => Ex c n fc ρ₁ body (fun o => match o with
      | .next ρ' => ForL c n fc ρ' target body orelse ds R
      | .cont ρ' => ForL c n fc ρ' target body orelse ds R
      | .brk ρ' => R (.next ρ')
      | .ret d => R (.ret d)))) : ForL c n fc ρ target body orelse (d :: ds) R := fun W Xc X env A s it G S x nx => by
  refine codeAny_of_tree ?_
  have G' : Good n (A.under (.forLoop target (.ref it) body orelse env)) := G.under0 rfl rfl
  refine Wp.onRaise (Q := fun (fin : PySem.Fin) s' => match fin with | .done f => ForPost c W Xc X fc env s it R (.ok f) s' | .again c' => c'.quiet = true ∧ codeAny (model c.prog c.w) A c' (ForPost c W Xc X fc env s it R) s') ?_
  show Wp c _ (forTurn target (.ref it) body orelse env) _ s
  simp only [forTurn]
  refine wpAny_bind (wpAny_standAt (wpAny_bind (Wp.onRaise (iter_next S.inv x fun v s₁ I₁ k₁ x₁ r₁ => ?_))))
  have hz : ∀ z, z = it → Side s.heap z ∧ (z = c.P ∨ ¬ X z) := fun z e => ⟨e ▸ x.side, .inr (e ▸ nx)⟩
  have S₁ := S.side I₁ hz k₁
  refine wpAny_bind (letOwned_of x₁ ?_)
  refine wpAny_bind (Wp.mono (h W Xc X env _ s₁ v G' S₁ r₁) fun _ s₂ ⟨ρ₁, q₁, S₂, lw₂⟩ => ?_)
  have mixW : ∀ z, (W z ∨ z = c.P) → X z ∨ Side s₁.heap z := fun z q => q.elim (fun w => .inl (S.wx z w)) fun e => .inl (e ▸ S.xc _ S.xP)
  have nWP : ¬ (W it ∨ it = c.P) := fun q => q.elim (fun w => nx (S.wx _ w)) fun e => nx (e ▸ S.xc _ S.xP)
  have x₂ : ItAt c X s₂.heap it ds := x₁.mix lw₂ nWP mixW
  refine wpAny_bind (Wp.mono (q₁ W Xc X env _ s₂ G' S₂) fun fl s₃ ⟨lw₃, o, q, e⟩ => ?_)
  have lw : Stay (fun b => W b ∨ b = c.P ∨ b = it) s.heap s₃.heap := fun b o nz g => lw₃ b o (fun z => nz (z.imp id .inl)) (lw₂ b o (fun z => nz (z.imp id .inl)) (k₁ b o (fun z => nz (.inr (.inr z))) g))
  have back : ∀ a, Gone s₂.heap a → W a ∨ (Gone s.heap a ∨ a = it) := fun a q => by
    by_cases ea : a = it
    · exact .inr (.inr ea)
    · rcases old_low lw₂ S₂.inv.someP a q with w | q
      · exact .inl w
      · right; left
        show s.heap.get? a = none
        cases g : s.heap.get? a with
        | none => rfl
        | some o => have := k₁ a o ea g; rw [show s₁.heap.get? a = none from q] at this; cases this
  have xN : ∀ a, X a → ¬ (Gone s.heap a ∨ a = it) := fun a q z => z.elim (S.notGone a q) fun z => nx (z ▸ q)
  have next : ∀ W' X' ρ', Grow W X W' X' (Gone s₂.heap) → Sat c W' Xc X' fc env ρ' s₃ → ForL c n fc ρ' target body orelse ds R → codeAny (model c.prog c.w) A (.forLoop target (.ref it) body orelse env) (ForPost c W Xc X fc env s it R) s₃ := by
    intro W' X' ρ' g S₃ f
    have x₃ : ItAt c X' s₃.heap it ds := ((x₂.shun (Y := fun a => X a ∨ X' a) fun a q => q.elim .inl (g.y a)).mix lw₃ nWP fun z q => q.elim (fun w => .inl (.inl (S.wx z w))) fun e => .inl (.inl (e ▸ S.xc _ S.xP))).anti fun a q => .inr q
    have nx' : ¬ X' it := fun q => (g.y it q).elim nx fun z => by obtain ⟨o, vs, e, _⟩ := x₂.side; rw [show s₂.heap.get? it = none from z] at e; cases e
    refine codeAny_mono (f W' Xc X' env A s₃ it G S₃ x₃ nx') fun r s' e => ?_
    cases r with
    | error x => exact e.elim
    | ok fl =>
      obtain ⟨k, o', ro, e⟩ := e
      have gr : Grow W X W' X' (fun a => Gone s.heap a ∨ a = it) := Grow.trans back (Grow.refl _ _ _) xN S.wx g
      refine ⟨fun b o nz q => k b o (fun z => z.elim (fun z => ?_) fun z => nz (.inr z)) (lw b o nz q), o', ro, e.grow (fun a q => q.elim (fun q => ?_) fun q => .inr (.inr q)) gr xN S.wx⟩
      · rcases gr.w b z with w | w | w
        · exact nz (.inl w)
        · rw [show s.heap.get? b = none from w] at q; cases q
        · exact nz (.inr (.inr w))
      · rcases old_low lw₃ S₃.inv.someP a q with w | q
        · exact .inl w
        · exact back a q
  cases o with
  | next ρ' => obtain ⟨rfl, W', X', g, S₃⟩ := e; exact wpAny_pure ⟨rfl, next W' X' ρ' g S₃ q⟩
  | cont ρ' => obtain ⟨rfl, W', X', g, S₃⟩ := e; exact wpAny_pure ⟨rfl, next W' X' ρ' g S₃ q⟩
  | brk ρ' => obtain ⟨rfl, W', X', g, S₃⟩ := e; exact wpAny_pure ⟨lw, _, q, rfl, W', X', Grow.trans back (Grow.refl _ _ _) xN S.wx g, S₃⟩
  | ret d => obtain ⟨v, rfl, e⟩ := e; exact wpAny_pure ⟨lw, _, q, v, rfl, e⟩
end
end Mine
end
section
namespace Mine
open PySem PySem.W PySem.Calls PyProof.Rows Builtin

section
variable {c : Cx} {n : Nat} {fc : FC} {ρ : Rho} {R : Out → Prop} {Pq : D → Prop} {Pb : Bool → Prop}

/-! one's own lists -/
/-- a new object of one's own -/
theorem Sat.widen {W Xc X : Addr → Prop} {env : Env} {s : Shared} {o : Obj} {t : Nat} (S : Sat c W Xc X fc env ρ s) (hf : o.isFreed = false) : Sat c (fun a => W a ∨ a = s.heap.objs.size) Xc (fun a => X a ∨ a = s.heap.objs.size) fc env ρ { s with heap := s.heap.push o, toks := t } := by
  have S₁ : Sat c W Xc X fc env ρ { s with heap := s.heap.push o, toks := t } := S.keep S.inv.push stay_push
  have fresh : s.heap.get? s.heap.objs.size = none := by
    cases q : s.heap.get? s.heap.objs.size with
    | none => rfl
    | some o => exact absurd (Heap.lt_size q) (Nat.lt_irrefl _)
  have sh : ∀ a, (X a ∨ a = s.heap.objs.size) → X a ∨ s.heap.get? a = none := fun a q => q.imp id fun e => by rw [e]; exact fresh
  have k : ∀ Z : Addr → Prop, Stay Z s.heap (s.heap.push o) := fun Z => stay_push
  obtain ⟨m, ⟨oL, es, ep, ho, hd, r⟩, B⟩ := S.ns
  refine ⟨S₁.inv, S.ev, S.fok, S.xP, fun a q => .inl (S.xc a q), ?_, ?_, fun a q => q.imp (S.wx a) id, .inl S.wL, ?_, ⟨m, ⟨oL, es, ep, Heap.get?_push_of_some _ ho, hd, r⟩, fun i x kd lv h1 h2 => ?_⟩, fun x a e => ?_, S.celled, S.capart, fun x a f e => .inl (S.cellN x a f e), fun i a l e => ⟨(S.owns i a l e).1, .inl (S.owns i a l e).2.1, .inl (S.owns i a l e).2.2⟩, S.apart, fun f i a dd C fs e => .inl (S.selfW f i a dd C fs e)⟩
  · rintro a (q | q)
    · exact S₁.xex a q
    · exact ⟨o, q ▸ Heap.get?_push_size _ hf⟩
  · rintro a (q | q)
    · exact S.xlo a q
    · exact .inr (q ▸ S.inv.big)
  · rintro a (q | q)
    · exact S.base a q
    · exact q ▸ S.inv.big
  · obtain ⟨kk, v, lr, b1, b2⟩ := B i x kd lv h1 h2
    refine ⟨kk, v, ?_, b1, fun e => let ⟨a, q1, q2, ⟨oc, g, dc⟩⟩ := b2 e; ⟨a, q1, .inl q2, oc, Heap.get?_push_of_some _ g, dc⟩⟩
    cases lv with
    | dat d => exact (Rep.shun sh lr).stay (k _)
    | own a l =>
      obtain ⟨e, x1, x2, vs, m', g, rl⟩ := lr
      exact ⟨e, .inl x1, .inl x2, vs, m', Heap.get?_push_of_some _ g, (RepL.shun sh rl).stay (k _)⟩
    | self a dd C fs =>
      obtain ⟨e, x1, x2, g, es', m', g', rf⟩ := lr
      exact ⟨e, .inl x1, .inl x2, Heap.get?_push_of_some _ g, es', m', Heap.get?_push_of_some _ g', (RepF.shun sh rf).stay (k _)⟩
  · obtain ⟨q1, v, oc, g, dc⟩ := S.cells x a e
    exact ⟨.inl q1, v, oc, Heap.get?_push_of_some _ g, dc⟩

/-- x = [..]: a list of one's own -/
theorem ex_own {x : Str} {k : NameKind} {pos' lp pos : Pos} {es : List Expr} (F : (k != .cell || fc.wr x) = true) (i : Nat) (e : fc.scope.names[i]? = some (x, k)) (hk : k = .local ∨ k = .cell) (il : i < ρ.length)
    (h : EvL c n fc ρ es (fun l => l.length ≤ sizeLine ∧ ∀ a, R (.next (ρ.set i (some (.own a l)))))) : Ex1 c n fc ρ (.Assign [.Name x pos'] (.List es lp) pos) R := fun W Xc X env A s G S => by
  refine wpAny_Assign_Name (PySem.wpAny_List (Wp.mono (h W Xc X env A s lp G S) fun vs s₁ ⟨I, st, l, ⟨hl, p⟩, r⟩ => ⟨by rw [r.length]; exact hl, ?_⟩)) rfl
  have S₁ := S.keep I st
  have S₂ := S₁.widen (o := { cls := .type "list", data := .seq vs.toArray }) (t := s₁.toks) rfl
  have nX : ¬ X s₁.heap.objs.size := S₁.xok.new (Nat.le_refl _)
  have fresh : s₁.heap.get? s₁.heap.objs.size = none := by
    cases q : s₁.heap.get? s₁.heap.objs.size with
    | none => rfl
    | some o => exact absurd (Heap.lt_size q) (Nat.lt_irrefl _)
  have r' : RepL (fun a => X a ∨ a = s₁.heap.objs.size) (s₁.heap.push { cls := .type "list", data := .seq vs.toArray }) l vs := (RepL.shun (fun a q => q.imp id fun e => by rw [e]; exact fresh) r).stay stay_push
  refine S₂.store F e hk il (lv := .own s₁.heap.objs.size l) ⟨rfl, .inr rfl, .inr rfl, vs, _, Heap.get?_push_size _ rfl, r'⟩ ?_ (fun _ _ _ _ z => by cases z) fun s₃ S₃ lw => ?_
  · intro a l' q
    cases q
    exact ⟨fun q => nX (S.xc _ q), fun j b l'' ne q e => nX (e ▸ (S₁.owns j b l'' q).2.1)⟩
  · have gn : Gone s.heap s₁.heap.objs.size := by
      rcases old_stay (W := fun _ => False) st S₁.inv.someP s₁.heap.objs.size fresh with z | z
      · exact z.elim
      · exact z
    refine ⟨fun b o nz g => ?_, _, p s₁.heap.objs.size, rfl, _, _, ⟨fun a q => q.imp id fun e => by rw [e]; exact gn, fun a q _ => .inl q, fun a q => q.imp id fun e => by rw [e]; exact gn⟩, S₃⟩
    refine lw b o (fun z => z.elim (fun z => z.elim (fun z => nz (.inl z)) fun z => ?_) fun z => nz (.inr z)) (Heap.get?_push_of_some _ (st b o (fun z => nz (.inr z)) g))
    rw [z, show s.heap.get? _ = none from gn] at g
    cases g

theorem Sat.turnOwn {W Xc X : Addr → Prop} {env : Env} {s : Shared} {h' : Heap} {i : Nat} {x : Str} {k : NameKind} {a : Addr} {l l' : List D} {vs : List Value} {m t : Nat} (S : Sat c W Xc X fc env ρ s) (e : fc.scope.names[i]? = some (x, k)) (r : ρ[i]? = some (some (.own a l)))
    (hs : Heap.SameBut a s.heap h') (ga : h'.get? a = some (ownObj vs m)) (rl : RepL X h' l' vs) : Sat c W Xc X fc env (ρ.set i (some (.own a l'))) { s with heap := h', toks := t } := by
  obtain ⟨mm, ⟨oL, es, ep, ho, hd, r0⟩, B⟩ := S.ns
  obtain ⟨kk₀, v₀, ⟨ev₀, xa, wa, vs₀, m₀, g₀, rl₀⟩, bl, bc⟩ := B i x k _ e r
  have il : i < ρ.length := (List.getElem?_eq_some_iff.mp r).1
  have st : Stay (· = a) s.heap h' := fun b o nb g => (hs.2 b nb).trans g
  have notA : ∀ {b o}, s.heap.get? b = some o → (∀ vs n, o.data ≠ .seq vs n) → b ≠ a := by
    intro b o g ne q
    rw [q, g₀] at g
    cases g
    exact ne _ _ rfl
  have get_set : ∀ {j : Nat} {lv' : LV}, j ≠ i → (ρ.set i (some (.own a l')))[j]? = some (some lv') → ρ[j]? = some (some lv') := fun ne h => by rwa [List.getElem?_set_ne (Ne.symm ne)] at h
  refine ⟨S.inv.turn (S.base _ wa) hs, S.ev, S.fok, S.xP, S.xc, xex_turn st ⟨_, ga⟩ S.xex, S.xlo, S.wx, S.wL, S.base, ⟨mm, ⟨oL, es, ep, st _ _ (notA ho fun _ _ w => by rw [hd] at w; cases w) ho, hd, r0⟩, fun j y ky lv h1 h2 => ?_⟩, fun y b hb => ?_, S.celled, S.capart, S.cellN, fun j b l'' h => ?_, ?_, fun f j b dd C fs h => ?_⟩
  · by_cases ne : j = i
    · subst ne
      rw [List.getElem?_set_self il] at h2
      cases h2
      rw [e] at h1
      cases h1
      refine ⟨kk₀, v₀, ⟨ev₀, xa, wa, vs, m, ga, rl⟩, bl, fun z => ?_⟩
      obtain ⟨b, q1, q2, o, g, gd⟩ := bc z
      exact ⟨b, q1, q2, o, st b o (notA g fun _ _ w => by rw [gd] at w; cases w) g, gd⟩
    · have h2' := get_set ne h2
      obtain ⟨kk, u, lr, b1, b2⟩ := B j y ky lv h1 h2'
      refine ⟨kk, u, LRep.turn xa st (fun b l z => ?_) (fun b dd C fs z => ?_) lr, b1, fun z => ?_⟩
      · subst z; exact own_apart S.apart ne h2' r
      · subst z; obtain ⟨_, _, _, g, es, n, g', _⟩ := lr; exact ⟨notA g (fun _ _ z => by cases z), notA g' (fun _ _ z => by cases z)⟩
      · obtain ⟨b, q1, q2, o, g, gd⟩ := b2 z
        exact ⟨b, q1, q2, o, st b o (notA g fun _ _ w => by rw [gd] at w; cases w) g, gd⟩
  · obtain ⟨q1, u, o, g, gd⟩ := S.cells y b hb
    exact ⟨q1, u, o, st b o (notA g fun _ _ w => by rw [gd] at w; cases w) g, gd⟩
  · by_cases ne : j = i
    · subst ne
      rw [List.getElem?_set_self il] at h
      cases h
      exact S.owns j a l r
    · exact S.owns j b l'' (get_set ne h)
  · exact apart_set S.apart (fun _ _ _ _ z => by cases z) fun b l'' z j b' l₃ ne q => by cases z; exact own_apart S.apart (Ne.symm ne) r q
  · by_cases ne : j = i
    · subst ne
      rw [List.getElem?_set_self il] at h
      cases h
    · exact S.selfW f j b dd C fs (get_set ne h)

/-- a list of one's own is given out of one's hand -/
theorem Sat.freeze {W Xc X : Addr → Prop} {env : Env} {s : Shared} {i : Nat} {x : Str} {k : NameKind} {a : Addr} {l : List D} (S : Sat c W Xc X fc env ρ s) (e : fc.scope.names[i]? = some (x, k)) (r : ρ[i]? = some (some (.own a l))) (hi : fc.ini = false) :
    Sat c (fun b => W b ∧ b ≠ a) Xc (fun b => X b ∧ b ≠ a) fc env (ρ.set i (some (.dat (.list l)))) s := by
  obtain ⟨mm, ⟨oL, es, ep, ho, hd, r0⟩, B⟩ := S.ns
  obtain ⟨kk₀, v₀, ⟨ev₀, xa, wa, vs₀, m₀, g₀, rl₀⟩, bl, bc⟩ := B i x k _ e r
  have il : i < ρ.length := (List.getElem?_eq_some_iff.mp r).1
  have notA : ∀ {b o}, s.heap.get? b = some o → (∀ vs n, o.data ≠ .seq vs n) → b ≠ a := by
    intro b o g ne q
    rw [q, g₀] at g
    cases g
    exact ne _ _ rfl
  have get_set : ∀ {j : Nat} {lv' : LV}, j ≠ i → (ρ.set i (some (.dat (.list l))))[j]? = some (some lv') → ρ[j]? = some (some lv') := fun ne h => by rwa [List.getElem?_set_ne (Ne.symm ne)] at h
  have an : ∀ b, (X b ∧ b ≠ a) → X b := fun b q => q.1
  have nc : ∀ b, Xc b → b ≠ a := fun b q z => (S.owns i a l r).1 (z ▸ q)
  refine ⟨S.inv, S.ev, S.fok, S.xP, fun b q => ⟨S.xc b q, nc b q⟩, fun b q => S.xex b q.1, fun b q => S.xlo b q.1, fun b q => ⟨S.wx b q.1, q.2⟩, ⟨S.wL, notA ho fun _ _ w => by rw [hd] at w; cases w⟩, fun b q => S.base b q.1, ⟨mm, ⟨oL, es, ep, ho, hd, r0⟩, fun j y ky lv h1 h2 => ?_⟩, fun y b hb => ?_, S.celled, S.capart, fun y b f hb => ?_, fun j b l'' h => ?_, ?_, fun f j b dd C fs h => ?_⟩
  · by_cases ne : j = i
    · subst ne
      rw [List.getElem?_set_self il] at h2
      cases h2
      rw [e] at h1
      cases h1
      refine ⟨kk₀, v₀, ⟨a, vs₀, (m₀, none, #[]), ev₀, fun q => q.2 rfl, g₀, rl₀.anti an⟩, bl, fun z => ?_⟩
      obtain ⟨b, q1, q2, o, g, gd⟩ := bc z
      exact ⟨b, q1, ⟨q2, notA g fun _ _ w => by rw [gd] at w; cases w⟩, o, g, gd⟩
    · have h2' := get_set ne h2
      obtain ⟨kk, u, lr, b1, b2⟩ := B j y ky lv h1 h2'
      refine ⟨kk, u, ?_, b1, fun z => ?_⟩
      · cases lv with
        | dat d => exact Rep.anti an lr
        | own b l'' => obtain ⟨q1, q2, q3, vs, n, g, rl⟩ := lr; exact ⟨q1, ⟨q2, own_apart S.apart ne h2' r⟩, ⟨q3, own_apart S.apart ne h2' r⟩, vs, n, g, rl.anti an⟩
        | self b dd C fs => obtain ⟨q1, q2, q3, g, es', n, g', rf⟩ := lr; exact ⟨q1, ⟨q2, notA g (fun _ _ z => by cases z)⟩, ⟨q3, notA g' (fun _ _ z => by cases z)⟩, g, es', n, g', rf.anti an⟩
      · obtain ⟨b, q1, q2, o, g, gd⟩ := b2 z
        exact ⟨b, q1, ⟨q2, notA g fun _ _ w => by rw [gd] at w; cases w⟩, o, g, gd⟩
  · obtain ⟨q1, u, o, g, gd⟩ := S.cells y b hb
    exact ⟨⟨q1, notA g fun _ _ w => by rw [gd] at w; cases w⟩, u, o, g, gd⟩
  · obtain ⟨q1, u, o, g, gd⟩ := S.cells y b hb
    exact ⟨S.cellN y b f hb, notA g fun _ _ w => by rw [gd] at w; cases w⟩
  · by_cases ne : j = i
    · subst ne
      rw [List.getElem?_set_self il] at h
      cases h
    · have h' := get_set ne h
      exact ⟨(S.owns j b l'' h').1, ⟨(S.owns j b l'' h').2.1, own_apart S.apart ne h' r⟩, (S.owns j b l'' h').2.2, own_apart S.apart ne h' r⟩
  · exact apart_set S.apart (fun _ _ _ _ z => by cases z) fun _ _ z => by cases z
  · rw [hi] at f; cases f

theorem ex_freeze {ss : List Stmt} (i : Nat) {x : Str} {k : NameKind} {a : Addr} {l : List D} (e : fc.scope.names[i]? = some (x, k)) (r : ρ[i]? = some (some (.own a l))) (hi : fc.ini = false)
    (h : Ex c n fc (ρ.set i (some (.dat (.list l)))) ss R) : Ex c n fc ρ ss R := fun W Xc X env A s G S => by
  have S' := S.freeze e r hi
  obtain ⟨mm, hn, B⟩ := S.ns
  obtain ⟨_, _, ⟨_, xa, wa, _⟩, _⟩ := B i x k _ e r
  refine Wp.mono (h _ Xc _ env A s G S') fun fl s' g => ExPost.grow S' (Low.refl _ _ _) ⟨fun b q => .inl q.1, fun b q n => ⟨q, fun z => n (z ▸ wa)⟩, fun b q => .inl q.1⟩ S g
def D.flat : D → Bool
  | .raw _ => true
  | .int _ => true
  | .str _ => true
  | .bytes _ => true
  | _ => false
theorem Rep.flat {X Y : Addr → Prop} {h h' : Heap} {d : D} {v : Value} (f : d.flat = true) (r : Rep X h d v) : Rep Y h' d v := by
  cases d <;> first | exact r | cases f
theorem ev_borrow {e : Expr} (i : Nat) {x : Str} {k : NameKind} {a : Addr} {l : List D} (en : fc.scope.names[i]? = some (x, k)) (r : ρ[i]? = some (some (.own a l))) (hi : fc.ini = false)
    (h : Ev c n fc (ρ.set i (some (.dat (.list l)))) e (fun d => d.flat = true ∧ Pq d)) : Ev c n fc ρ e Pq := fun W Xc X env A s G S =>
  Wp.mono (h _ Xc _ env A s G (S.freeze en r hi)) fun v s' ⟨I, st, d, ⟨f, p⟩, rd⟩ => ⟨I, st, d, p, rd.flat f⟩
theorem tst_borrow {e : Expr} (i : Nat) {x : Str} {k : NameKind} {a : Addr} {l : List D} (en : fc.scope.names[i]? = some (x, k)) (r : ρ[i]? = some (some (.own a l))) (hi : fc.ini = false)
    (h : Tst c n fc (ρ.set i (some (.dat (.list l)))) e Pb) : Tst c n fc ρ e Pb := fun W Xc X env A s G S => h _ Xc _ env A s G (S.freeze en r hi)

theorem ex_append {x : Str} {k : NameKind} {p ap cp pos : Pos} {elt : Expr} (i : Nat) {a : Addr} {l : List D} (e : fc.scope.names[i]? = some (x, k)) (r : ρ[i]? = some (some (.own a l))) (hd : (x == ("__debug__" : Str)) = false)
    (hline : (ap.endLine == cp.line) = true) (he : isStar elt = false) (hl : l.length ≤ sizeLine) (h : Ev c n fc ρ elt (fun d => R (.next (ρ.set i (some (.own a (l ++ [d]))))))) :
    Ex1 c n fc ρ (.Expr (.Call (.Attribute (.Name x p) "append" ap) [elt] [] cp) pos) R := fun W Xc X env A s G S => by
  refine wpAny_Expr_any ?_ (by unfold interactive; rw [S.fn]; rfl) rfl
  have ht : starEach [elt] env = [(false, eval elt env)] := starEach_cons he
  refine wpAny_Call_append rfl (by rw [ht]; rfl) hline (by rw [ht]; rfl) (wpAny_Name (S.load e r fun u lr => ?_) hd)
  obtain ⟨rfl, xa, wa, vs, m, g, rl⟩ := lr
  refine ⟨a, vs.toArray, rfl, ⟨_, m, g, rfl, rfl, rfl⟩, ?_⟩
  refine h.use G S fun v s₁ d S₁ st pd rd => ?_
  obtain ⟨mm, hn, B⟩ := S₁.ns
  obtain ⟨_, v', ⟨ev', _, _, vs₁, m₁, g₁, rl₁⟩, _⟩ := B i x k _ e r
  refine wpAny_list_append_plain (l := a) (items := vs₁.toArray) ⟨m₁, g₁⟩ (fun h' ⟨m₂, g₂⟩ hs => ?_) (by rw [List.size_toArray, rl₁.length]; exact hl)
  have k' : Stay X s₁.heap h' := fun b o nb q => (hs.2 b (fun z => nb (z ▸ xa))).trans q
  have S₂ : Sat c W Xc X fc env (ρ.set i (some (.own a (l ++ [d])))) { s₁ with heap := h' } := S₁.turnOwn (t := s₁.toks) (vs := vs₁ ++ [v]) (m := m₂) e r hs (by rw [g₂]; simp) ((rl₁.append (l' := [d]) (vs' := [v]) ⟨v, [], rfl, rd, rfl⟩).stay k')
  exact ⟨fun b o nz q => (hs.2 b (fun z => nz (.inl (z ▸ wa)))).trans (st b o (fun z => nz (.inr z)) q), _, pd, rfl, W, X, Grow.refl _ _ _, S₂⟩
end
end Mine
end
section
namespace Mine
open PySem PySem.W PySem.Calls PyProof.Rows Builtin

theorem LRep.mix {W X Z : Addr → Prop} {h h' : Heap} {lv : LV} {v : Value} (hz : ∀ z, Z z → X z ∨ Side h z) (k : Stay Z h h') (o1 : ∀ a l, lv = .own a l → ¬ Z a) (o2 : ∀ a dd C fs, lv ≠ .self a dd C fs) (r : LRep W X h lv v) : LRep W X h' lv v := by
  cases lv with
  | dat d => exact Rep.mix hz k r
  | own a l =>
    obtain ⟨e, x, n, vs, m, g, rl⟩ := r
    exact ⟨e, x, n, vs, m, k a _ (o1 a l rfl) g, RepL.mix hz k rl⟩
  | self a dd C fs => exact absurd rfl (o2 _ _ _ _)

theorem gone_of {h : Heap} {a : Addr} (le : h.objs.size ≤ a) : Gone h a := by
  show h.get? a = none
  cases q : h.get? a with
  | none => rfl
  | some o => exact absurd (Heap.lt_size q) (Nat.not_lt.mpr le)

/-! new cells -/
theorem pushCells_size : ∀ (names : List (Str × NameKind)) (h : Heap), h.objs.size ≤ (pushCells h names).objs.size
  | [], h => Nat.le_refl _
  | (n, k) :: r, h => by
    unfold pushCells
    split
    · exact Nat.le_trans (by rw [Heap.size_push]; exact Nat.le_succ _) (pushCells_size r _)
    · exact pushCells_size r h
theorem pushCells_new : ∀ (names : List (Str × NameKind)) (h : Heap) (a : Addr), h.objs.size ≤ a → a < (pushCells h names).objs.size → ∃ o, (pushCells h names).get? a = some o
  | [], h, a, le, lt => absurd lt (Nat.not_lt.mpr le)
  | (n, k) :: r, h, a, le, lt => by
    unfold pushCells at lt ⊢
    split
    · rename_i q
      rw [if_pos q] at lt
      by_cases e : a = h.objs.size
      · subst e; exact ⟨_, pushCells_keeps r _ _ _ (Heap.get?_push_size _ rfl)⟩
      · exact pushCells_new r _ a (by rw [Heap.size_push]; exact Nat.lt_of_le_of_ne le (Ne.symm e)) lt
    · rename_i q
      rw [if_neg q] at lt
      exact pushCells_new r h a le lt
theorem cellsFrom_cases : ∀ (names : List (Str × NameKind)) (k : Nat) (h : Heap) (acc : List (Str × Addr)) (x : Str) (a : Addr), h.objs.size = k → (cellsFrom k names acc).lookup x = some a →
    ((∃ i : Nat, names[i]? = some (x, NameKind.cell)) ∧ k ≤ a ∧ a < (pushCells h names).objs.size ∧ (pushCells h names).IsCell a none) ∨ ((∀ i : Nat, names[i]? ≠ some (x, NameKind.cell)) ∧ acc.lookup x = some a)
  | [], k, h, acc, x, a, _, e => .inr ⟨fun i q => by simp at q, e⟩
  | (n, kd) :: r, k, h, acc, x, a, hk, e => by
    unfold cellsFrom at e
    unfold pushCells
    split
    · rename_i q
      rw [if_pos q] at e
      have hkd : kd = .cell := beq_iff_eq.mp q
      have hs : (h.push { cls := .type "cell", data := .cell none }).objs.size = k + 1 := by rw [Heap.size_push, hk]
      rcases cellsFrom_cases r (k + 1) _ _ x a hs e with ⟨⟨i, hi⟩, le, lt, cc⟩ | ⟨no, e'⟩
      · exact .inl ⟨⟨i + 1, by simpa using hi⟩, Nat.le_of_succ_le le, lt, cc⟩
      · by_cases en : x = n
        · subst en
          rw [List.lookup_cons, beq_self_eq_true] at e'
          cases e'
          refine .inl ⟨⟨0, by rw [hkd]; rfl⟩, Nat.le_refl _, ?_, ⟨_, pushCells_keeps r _ _ _ (hk ▸ Heap.get?_push_size _ rfl), rfl⟩⟩
          exact Nat.lt_of_lt_of_le (by rw [hs]; exact Nat.lt_succ_self _) (pushCells_size r _)
        · rw [List.lookup_cons, beq_eq_false_iff_ne.mpr en] at e'
          refine .inr ⟨fun i hi => ?_, e'⟩
          cases i with
          | zero => cases hi; exact en rfl
          | succ i => exact no i (by simpa using hi)
    · rename_i q
      rw [if_neg q] at e
      have hkd : kd ≠ .cell := fun z => q (beq_iff_eq.mpr z)
      rcases cellsFrom_cases r k h _ x a hk e with ⟨⟨i, hi⟩, le, lt, cc⟩ | ⟨no, e'⟩
      · exact .inl ⟨⟨i + 1, by simpa using hi⟩, le, lt, cc⟩
      · refine .inr ⟨fun i hi => ?_, e'⟩
        cases i with
        | zero => cases hi; exact hkd rfl
        | succ i => exact no i (by simpa using hi)
theorem nfe_comp {M : Model} {A : Around} {E : Value → Shared → Prop} {s : Shared} {scope : Scope} {g : Addr} {cl : List (Str × Addr)} {qual : Str} {outer : Env} {Q : Env → Shared → Prop}
    (h : Q { scope, locals := s.heap.objs.size, globals := g, cells := cellsFrom (s.heap.objs.size + 1) scope.names cl, qual, func := none, code := outer.code, frame := outer.frame, builtins := outer.builtins }
      { s with heap := pushCells (s.heap.push { cls := .type "dict", data := .dict #[] }) scope.names }) : wpAny M A (newFunctionEnv scope g cl [] qual none .none (some outer)) Q E s := by
  simp only [newFunctionEnv, Option.isSome_some, if_true]
  refine wpAny_bind (wpAny_alloc ?_)
  refine wpAny_bind (wpAny_layCells _ (fun name kind cells => by cases hkc : kind == NameKind.cell <;> simp [hkc]) _ _ _ _ ?_)
  rw [show ({ s with heap := s.heap.push { cls := .type "dict", data := .dict #[] } } : Shared).heap.objs.size = s.heap.objs.size + 1 from Heap.size_push ..]
  exact wpAny_pure h
/-- the closure of a comprehension -/
theorem closure_pure {scope : Scope} {env : Env} (h : ∀ x ∈ scope.names, x.2 = .free → ∃ a, env.cells.lookup x.1 = some a) : ∃ cl, closureFor scope env = pure cl ∧ (∀ x a, cl.lookup x = some a → env.cells.lookup x = some a) ∧ (∀ x ∈ scope.names, x.2 = .free → ∃ a, cl.lookup x.1 = some a) := by
  have key : ∀ (names : List (Str × NameKind)) (acc : List (Str × Addr)), (∀ x ∈ names, x.2 = .free → ∃ a, env.cells.lookup x.1 = some a) → (∀ x a, acc.lookup x = some a → env.cells.lookup x = some a) →
      ∃ cl, (forIn names acc (fun (x : Str × NameKind) (r : List (Str × Addr)) => (if (x.2 == .free) = true then do let a ← cellOf env x.1; pure (ForInStep.yield ((x.1, a) :: r)) else pure (ForInStep.yield r) : Sem (ForInStep (List (Str × Addr)))))) = pure cl ∧
        (∀ x a, cl.lookup x = some a → env.cells.lookup x = some a) ∧ (∀ x, (∃ a, acc.lookup x = some a) ∨ (x, NameKind.free) ∈ names → ∃ a, cl.lookup x = some a) := by
    intro names
    induction names with
    | nil => intro acc _ ha; exact ⟨acc, by rw [List.forIn_nil], ha, fun x q => q.elim id fun q => nomatch q⟩
    | cons y r ih =>
      intro acc hn ha
      obtain ⟨n, k⟩ := y
      by_cases hk : k = .free
      · subst hk
        obtain ⟨a, ea⟩ := hn (n, .free) List.mem_cons_self rfl
        have e0 : cellOf env n = pure a := by unfold cellOf; rw [ea]
        obtain ⟨cl, e1, e2, e3⟩ := ih ((n, a) :: acc) (fun x hx => hn x (List.mem_cons_of_mem _ hx)) fun x b q => by
          by_cases en : x = n
          · subst en; rw [List.lookup_cons, beq_self_eq_true] at q; cases q; exact ea
          · rw [List.lookup_cons, beq_eq_false_iff_ne.mpr en] at q; exact ha x b q
        refine ⟨cl, ?_, e2, fun x q => e3 x ?_⟩
        · rw [List.forIn_cons]
          simp only [beq_self_eq_true, if_true, e0]
          exact e1
        · rcases q with ⟨b, q⟩ | q
          · left
            by_cases en : x = n
            · exact ⟨a, by rw [List.lookup_cons, beq_iff_eq.mpr en]⟩
            · exact ⟨b, by rw [List.lookup_cons, beq_eq_false_iff_ne.mpr en]; exact q⟩
          · rcases List.mem_cons.mp q with q | q
            · cases q; exact .inl ⟨a, by rw [List.lookup_cons, beq_self_eq_true]⟩
            · exact .inr q
      · obtain ⟨cl, e1, e2, e3⟩ := ih acc (fun x hx => hn x (List.mem_cons_of_mem _ hx)) ha
        have hb : (k == NameKind.free) = false := by simpa using hk
        refine ⟨cl, ?_, e2, fun x q => e3 x (q.imp id fun q => ?_)⟩
        · rw [List.forIn_cons]
          simp only [hb, Bool.false_eq_true, if_false]
          exact e1
        · rcases List.mem_cons.mp q with q | q
          · cases q; exact absurd rfl hk
          · exact q
  obtain ⟨cl, e1, e2, e3⟩ := key scope.names [] h fun x a q => by simp at q
  refine ⟨cl, ?_, e2, fun x hx hf => e3 x.1 (.inr (by obtain ⟨n, k⟩ := x; cases hf; exact hx))⟩
  rw [← e1]
  unfold closureFor
  rw [bind_pure]
end Mine
end
section
namespace Mine
open PySem PySem.W PySem.Calls PyProof.Rows Builtin

def relS (scope outer : Scope) : Scope :=
  { scope with names := scope.names.map fun (n, k) => if (k == .free && outer.kind == .function && outer.names.lookup n == some .cell) then (n, .cell) else (n, k) }
theorem relS_eq (scope : Scope) (env : Env) : relabel scope env = relS scope env.scope := rfl
def cfc (fc : FC) (scope : Scope) : FC := { scope := relS scope fc.scope, code := fc.code, qual := fc.qual, wr := fun x => scope.names.lookup x == some .cell, ini := false }
/-- what the comprehension's frame has of the frame around it -/
def compRho (fc : FC) (ρ : Rho) : List (Str × NameKind) → Rho
  | [] => []
  | (n, k) :: r => (if k == .free then (match placeIn n fc.scope.names 0 with
      | some j => match ρ[j]? with
        | some (some (.dat d)) => some (.dat d)
        | _ => none
      | none => none) else none) :: compRho fc ρ r
theorem compRho_get {fc : FC} {ρ : Rho} : ∀ {names : List (Str × NameKind)} {i : Nat} {lv : LV}, (compRho fc ρ names)[i]? = some (some lv) → ∃ n j d, names[i]? = some (n, .free) ∧ placeIn n fc.scope.names 0 = some j ∧ ρ[j]? = some (some (.dat d)) ∧ lv = .dat d
  | [], i, lv, e => by simp [compRho] at e
  | (n, k) :: r, 0, lv, e => by
    unfold compRho at e
    simp only [List.getElem?_cons_zero, Option.some.injEq] at e
    split at e
    · rename_i hk
      split at e
      · rename_i j hj
        split at e
        · rename_i d hd
          refine ⟨n, j, d, by rw [List.getElem?_cons_zero, beq_iff_eq.mp hk], hj, hd, ?_⟩
          exact (Option.some.inj e).symm
        · cases e
      · cases e
    · cases e
  | (n, k) :: r, i + 1, lv, e => by
    obtain ⟨n', j, d, h1, h2⟩ := compRho_get (names := r) (i := i) (by unfold compRho at e; simpa using e)
    exact ⟨n', j, d, by simpa using h1, h2⟩
theorem compRho_len {fc : FC} {ρ : Rho} : ∀ {names : List (Str × NameKind)}, (compRho fc ρ names).length = names.length
  | [] => rfl
  | (n, k) :: r => by unfold compRho; rw [List.length_cons, List.length_cons, compRho_len]
def allDat : Rho → Bool
  | [] => true
  | some (.own _ _) :: _ => false
  | some (.self _ _ _ _) :: _ => false
  | _ :: r => allDat r
theorem cellsFrom_app : ∀ (names : List (Str × NameKind)) (k : Nat) (acc : List (Str × Addr)), cellsFrom k names acc = cellsFrom k names [] ++ acc
  | [], k, acc => rfl
  | (n, kd) :: r, k, acc => by
    unfold cellsFrom
    split
    · rw [cellsFrom_app r (k + 1) ((n, k) :: acc), cellsFrom_app r (k + 1) [(n, k)]]; simp
    · exact cellsFrom_app r k acc
theorem apart_dat {L : Addr} : ∀ {ρ : Rho}, (∀ (i : Nat) (lv : LV), ρ[i]? = some (some lv) → ∃ d, lv = LV.dat d) → Apart L ρ
  | [], _ => trivial
  | x :: r, h => by
    have h' := apart_dat (L := L) (ρ := r) fun i lv e => h (i + 1) lv (by simpa using e)
    match x, h with
    | none, h => exact h'
    | some (.dat _), h => exact h'
    | some (.own a l), h => obtain ⟨d, e⟩ := h 0 _ rfl; cases e
    | some (.self a dd C fs), h => obtain ⟨d, e⟩ := h 0 _ rfl; cases e

section
variable {c : Cx} {n : Nat} {fc : FC} {ρ : Rho} {R : Out → Prop} {Pq : D → Prop} {Pb : Bool → Prop}

/-- the comprehension's scope fits the frame around it -/
def compOk (fc : FC) (scope : Scope) : Bool :=
  FC.ok (cfc fc scope) && (scope.names.all fun x => x.2 != .free || fc.scope.names.lookup x.1 == some .cell) && scope.kind == .function && decide (scope.names.map (·.1)).Nodup
theorem relS_names {scope outer : Scope} {i : Nat} {x : Str} {k : NameKind} (h : (relS scope outer).names[i]? = some (x, k)) : ∃ k', scope.names[i]? = some (x, k') ∧ (k = k' ∨ (k' = .free ∧ k = .cell)) := by
  unfold relS at h
  simp only [List.getElem?_map, Option.map_eq_some_iff] at h
  obtain ⟨⟨n, k''⟩, h1, h2⟩ := h
  dsimp only at h2
  split at h2
  · rename_i q
    simp only [Bool.and_eq_true, beq_iff_eq] at q
    cases h2
    exact ⟨_, h1, .inr ⟨q.1.1, rfl⟩⟩
  · cases h2
    exact ⟨_, h1, .inl rfl⟩

abbrev compHeap (h : Heap) (names : List (Str × NameKind)) : Heap := pushCells ((h.push { cls := .type "list", data := .seq ([] : List Value).toArray }).push { cls := .type "dict", data := .dict #[] }) names
abbrev compEnvN (h : Heap) (scope : Scope) (cl : List (Str × Addr)) (env : Env) : Env :=
  { scope := relabel scope env, locals := h.objs.size + 1, globals := env.globals, cells := cellsFrom (h.objs.size + 1 + 1) scope.names cl, qual := env.qual, func := none, code := env.code, frame := env.frame, builtins := env.builtins }

theorem comp_sat {W Xc X : Addr → Prop} {env : Env} {s : Shared} {scope : Scope} {cl : List (Str × Addr)} (S : Sat c W Xc X fc env ρ s) (hok : compOk fc scope = true) (h2 : ∀ x a, cl.lookup x = some a → env.cells.lookup x = some a) (h3 : ∀ x ∈ scope.names, x.2 = .free → ∃ a, cl.lookup x.1 = some a) :
    Sat c (fun a => s.heap.objs.size + 1 ≤ a ∧ a < (compHeap s.heap scope.names).objs.size) X (fun a => X a ∨ (s.heap.objs.size ≤ a ∧ a < (compHeap s.heap scope.names).objs.size)) (cfc fc scope) (compEnvN s.heap scope cl env) (compRho fc ρ scope.names) { s with heap := compHeap s.heap scope.names } := by
  unfold compOk at hok
  simp only [Bool.and_eq_true, beq_iff_eq, decide_eq_true_eq] at hok
  obtain ⟨⟨⟨hfc, hall⟩, hkind⟩, hnd⟩ := hok
  have sz2 : ((s.heap.push { cls := .type "list", data := .seq ([] : List Value).toArray }).push { cls := .type "dict", data := .dict #[] }).objs.size = s.heap.objs.size + 1 + 1 := by rw [Heap.size_push, Heap.size_push]
  have szp := pushCells_size scope.names ((s.heap.push { cls := .type "list", data := .seq ([] : List Value).toArray }).push { cls := .type "dict", data := .dict #[] })
  rw [sz2] at szp
  have kp : ∀ b o, s.heap.get? b = some o → (compHeap s.heap scope.names).get? b = some o := fun b o e => pushCells_keeps _ _ _ _ (Heap.get?_push_of_some _ (Heap.get?_push_of_some _ e))
  have I' : Inv c { s with heap := compHeap s.heap scope.names } := S.inv.ext kp (by show _ ≤ (pushCells _ _).objs.size; omega) rfl ⟨rfl, rfl⟩
  have sh : ∀ a, (X a ∨ (s.heap.objs.size ≤ a ∧ a < (compHeap s.heap scope.names).objs.size)) → X a ∨ s.heap.get? a = none := fun a q => q.imp id fun q => gone_of q.1
  have atF : ∀ x ∈ scope.names, x.2 = .free → ∃ j : Nat, fc.scope.names[j]? = some (x.1, NameKind.cell) ∧ fc.scope.names.lookup x.1 = some .cell := fun x hx hf => by
    have := List.all_eq_true.mp hall x hx
    rw [hf] at this
    have e : fc.scope.names.lookup x.1 = some .cell := by simpa using this
    obtain ⟨j, hj, e'⟩ := List.getElem_of_mem (mem_of_lookup e)
    exact ⟨j, by rw [List.getElem?_eq_getElem hj, e'], e⟩
  have dats : ∀ (i : Nat) (lv : LV), (compRho fc ρ scope.names)[i]? = some (some lv) → ∃ d, lv = LV.dat d := fun i lv e => by obtain ⟨_, _, d, _, _, _, e'⟩ := compRho_get e; exact ⟨d, e'⟩
  obtain ⟨mo, hno, B⟩ := S.ns
  have hns : Heap.Ns (compHeap s.heap scope.names) (s.heap.objs.size + 1) (fun _ => none) := by
    have q := Heap.Ns.new (s.heap.push { cls := .type "list", data := .seq ([] : List Value).toArray }) (.type "dict")
    rw [Heap.size_push] at q
    exact q.keeps (pushCells_keeps _ _)
  have cellCase := fun (x : Str) (a : Addr) (e : (cellsFrom (s.heap.objs.size + 1 + 1) scope.names cl).lookup x = some a) => cellsFrom_cases scope.names _ _ cl x a sz2 e
  refine ⟨I', ⟨?_, S.ev.globals, S.ev.builtins, S.ev.code, S.ev.qual⟩, hfc, S.xc _ S.xP, fun a q => .inl q, ?_, ?_, ?_, ?_, ?_, ⟨_, hns, fun i x kd lv h1 h2' => ?_⟩, fun x a e => ?_, fun i x e => ?_, fun x y a e1 e2 => ?_, fun x a f e => ?_, fun i a l e => ?_, apart_dat dats, fun f => by cases f⟩
  · show relabel scope env = relS scope fc.scope
    rw [relS_eq, S.ev.scope]
  · rintro a (q | q)
    · obtain ⟨o, g⟩ := S.xex a q; exact ⟨o, kp a o g⟩
    · by_cases e1 : a = s.heap.objs.size
      · subst e1; exact ⟨_, pushCells_keeps _ _ _ _ (Heap.get?_push_of_some _ (Heap.get?_push_size _ rfl))⟩
      · by_cases e2 : a = s.heap.objs.size + 1
        · subst e2
          have g := Heap.get?_push_size (s.heap.push { cls := .type "list", data := .seq ([] : List Value).toArray }) (o := { cls := .type "dict", data := .dict #[] }) rfl
          rw [Heap.size_push] at g
          exact ⟨_, pushCells_keeps _ _ _ _ g⟩
        · exact pushCells_new _ _ a (by rw [sz2]; exact Nat.lt_of_le_of_ne (Nat.lt_of_le_of_ne q.1 (Ne.symm e1)) (Ne.symm e2)) q.2
  · rintro a (q | q)
    · exact S.xlo a q
    · exact .inr (Nat.le_trans S.inv.big q.1)
  · exact fun a q => .inr ⟨Nat.le_of_succ_le q.1, q.2⟩
  · exact ⟨Nat.le_refl _, szp⟩
  · exact fun a q => Nat.le_trans S.inv.big (Nat.le_of_succ_le q.1)
  · obtain ⟨nm, j, d, q1, q2, q3, rfl⟩ := compRho_get h2'
    obtain ⟨k', q4, q5⟩ := relS_names h1
    rw [q1] at q4
    cases q4
    have hmem : (x, NameKind.free) ∈ scope.names := List.mem_of_getElem? q1
    obtain ⟨_, _, hlk⟩ := atF _ hmem rfl
    obtain ⟨kj, q6⟩ := placeIn_get q2
    have hkj : kj = .cell := by
      have := S.fok
      unfold FC.ok at this
      have := nodup_lookup (of_decide_eq_true (Bool.and_eq_true_iff.mp this).2) q6
      rw [hlk] at this
      exact (Option.some.inj this).symm
    subst hkj
    obtain ⟨kk, v, lr, _, bc⟩ := B j x _ _ q6 q3
    obtain ⟨a, ea, xa, ca⟩ := bc rfl
    have hkd : kd = .cell := by
      rcases q5 with q5 | q5
      · exfalso
        subst q5
        unfold cfc relS at h1
        simp only [List.getElem?_map, q1, Option.map_some] at h1
        rw [if_pos (by rw [hlk]; have := S.fok; unfold FC.ok at this; simp [beq_iff_eq.mp (Bool.and_eq_true_iff.mp this).1])] at h1
        cases h1
      · exact q5.2
    subst hkd
    refine ⟨.inr rfl, v, (Rep.shun sh lr).stay fun b o _ e => kp b o e, (fun z => by cases z), fun _ => ?_⟩
    obtain ⟨a', ea'⟩ := h3 _ hmem rfl
    have : a' = a := by have := h2 _ _ ea'; rw [ea] at this; exact (Option.some.inj this).symm
    subst this
    refine ⟨a', ?_, .inl xa, ca.keeps kp⟩
    have hc : ((cellsFrom (s.heap.objs.size + 1 + 1) scope.names cl).lookup x).isSome = true := cellsFrom_some scope.names _ cl (.inr (by rw [ea']; rfl))
    obtain ⟨b, eb⟩ := Option.isSome_iff_exists.mp hc
    rcases cellCase x b eb with ⟨⟨i', hi'⟩, _⟩ | ⟨_, eb'⟩
    · exfalso
      have := nodup_lookup hnd hi'
      have := nodup_lookup hnd q1
      simp_all
    · rw [ea'] at eb'
      cases eb'
      exact eb
  · rcases cellCase x a e with ⟨_, le, lt, cc⟩ | ⟨_, e'⟩
    · exact ⟨.inr ⟨by omega, lt⟩, _, cc⟩
    · obtain ⟨q1, v, q2⟩ := S.cells x a (h2 x a e')
      exact ⟨.inl q1, v, q2.keeps kp⟩
  · obtain ⟨k', q4, q5⟩ := relS_names e
    have hc : ((cellsFrom (s.heap.objs.size + 1 + 1) scope.names cl).lookup x).isSome = true := by
      rcases q5 with q5 | q5
      · subst q5; exact cellsFrom_some scope.names _ cl (.inl (nodup_lookup hnd q4))
      · obtain ⟨a', ea'⟩ := h3 _ (List.mem_of_getElem? q4) q5.1
        exact cellsFrom_some scope.names _ cl (.inr (by rw [ea']; rfl))
    exact Option.isSome_iff_exists.mp hc
  · have both : ∀ z b, (cellsFrom (s.heap.objs.size + 1 + 1) scope.names cl).lookup z = some b → s.heap.objs.size + 1 + 1 ≤ b → (z, b) ∈ cellsFrom (s.heap.objs.size + 1 + 1) scope.names [] := fun z b e le => by
      rcases cellCase z b e with _ | ⟨no, e'⟩
      · rw [cellsFrom_app, List.lookup_append] at e
        cases q : (cellsFrom (s.heap.objs.size + 1 + 1) scope.names []).lookup z with
        | some b' => rw [q] at e; cases e; exact mem_of_lookup q
        | none =>
          rw [q] at e
          obtain ⟨_, _, o, g, _⟩ := S.cells z b (h2 z b e)
          exact absurd (Heap.lt_size g) (Nat.not_lt.mpr (Nat.le_trans (Nat.le_add_right _ 2) le))
      · obtain ⟨_, _, o, g, _⟩ := S.cells z b (h2 z b e')
        exact absurd (Heap.lt_size g) (Nat.not_lt.mpr (Nat.le_trans (Nat.le_add_right _ 2) le))
    have ap := (cellsFrom_ok scope.names ((s.heap.push { cls := .type "list", data := .seq ([] : List Value).toArray }).push { cls := .type "dict", data := .dict #[] }) (s.heap.objs.size + 1 + 1) [] ⟨fun _ _ hm => (nomatch hm), List.Pairwise.nil⟩ (by rw [sz2]; exact Nat.le_refl _)).apart
    rw [sz2] at ap
    rcases cellCase x a e1 with ⟨_, le, _, _⟩ | ⟨_, e1'⟩
    · exact name_of_addr ap (both x a e1 le) (both y a e2 le)
    · obtain ⟨_, _, o, g, _⟩ := S.cells x a (h2 x a e1')
      have lt := Heap.lt_size g
      rcases cellCase y a e2 with ⟨_, le, _, _⟩ | ⟨_, e2'⟩
      · exact absurd lt (Nat.not_lt.mpr (Nat.le_trans (Nat.le_add_right _ 2) le))
      · exact S.capart x y a (h2 x a e1') (h2 y a e2')
  · rcases cellCase x a e with ⟨_, le, lt, cc⟩ | ⟨no, e'⟩
    · exact ⟨by omega, lt⟩
    · have f' : scope.names.lookup x = some .cell := by simpa [cfc] using f
      obtain ⟨j, hj, e''⟩ := List.getElem_of_mem (mem_of_lookup f')
      exact absurd (by rw [List.getElem?_eq_getElem hj, e'']) (no j)
  · obtain ⟨d, z⟩ := dats i _ e; cases z
end
end Mine
end
section
namespace Mine
open PySem PySem.W PySem.Calls PyProof.Rows Builtin

section
variable {c : Cx} {n : Nat} {fc : FC} {ρ : Rho} {R : Out → Prop} {Pq : D → Prop} {Pb : Bool → Prop}

theorem Sat.mix {W Xc X Z : Addr → Prop} {env : Env} {s s' : Shared} (S : Sat c W Xc X fc env ρ s) (I : Inv c s') (hz : ∀ z, Z z → (Side s.heap z ∧ (z = c.P ∨ ¬ X z)) ∨ (X z ∧ (∃ o, s'.heap.get? z = some o) ∧ z ≠ env.locals ∧ (∀ x, env.cells.lookup x ≠ some z) ∧ (∀ (i : Nat) a l, ρ[i]? = some (some (LV.own a l)) → a ≠ z) ∧ (∀ (i : Nat) a dd C fs v, ρ[i]? = some (some (LV.self a dd C fs)) → LRep W X s.heap (.self a dd C fs) v → a ≠ z ∧ dd ≠ z)))
    (k : Stay Z s.heap s'.heap) : Sat c W Xc X fc env ρ s' := by
  have hz' : ∀ z, Z z → X z ∨ Side s.heap z := fun z q => (hz z q).elim (fun q => .inr q.1) fun q => .inl q.1
  obtain ⟨m, ⟨o, es, ep, ho, hd, r⟩, B⟩ := S.ns
  have nL : ¬ Z env.locals := fun q => (hz _ q).elim (fun q => q.1.no ho (.inl fun _ z => by rw [hd] at z; cases z) rfl) fun q => q.2.2.1 rfl
  have kc : ∀ {x a v}, env.cells.lookup x = some a → s.heap.IsCell a v → s'.heap.IsCell a v := fun {x a v} e ⟨o, ho, hd⟩ =>
    ⟨o, k a o (fun q => (hz _ q).elim (fun q => q.1.no ho (.inl fun _ z => by rw [hd] at z; cases z) rfl) fun q => q.2.2.2.1 x e) ho, hd⟩
  refine ⟨I, S.ev, S.fok, S.xP, S.xc, fun a q => ?_, S.xlo, S.wx, S.wL, S.base, ⟨m, ⟨o, es, ep, k _ o nL ho, hd, r⟩, fun i x kd lv h1 h2 => ?_⟩, fun x a e => ?_, S.celled, S.capart, S.cellN, S.owns, S.apart, S.selfW⟩
  · by_cases e : Z a
    · rcases hz a e with q' | q'
      · rcases q'.2 with e | n
        · subst e; exact I.someP
        · exact absurd q n
      · exact q'.2.1
    · obtain ⟨o, g⟩ := S.xex a q
      exact ⟨o, k a o e g⟩
  · obtain ⟨kk, v, lr, b1, b2⟩ := B i x kd lv h1 h2
    refine ⟨kk, v, ?_, b1, fun e => let ⟨a, q1, q2, q3⟩ := b2 e; ⟨a, q1, q2, kc q1 q3⟩⟩
    cases lv with
    | dat d => exact Rep.mix hz' k lr
    | own a l =>
      obtain ⟨e, x1, x2, vs, m', g, rl⟩ := lr
      exact ⟨e, x1, x2, vs, m', k a _ (fun q => (hz a q).elim (fun q => q.1.no g (.inl fun _ z => by cases z) rfl) fun q => q.2.2.2.2.1 i a l h2 rfl) g, rl.mix hz' k⟩
    | self a dd C fs =>
      have lr' := lr
      obtain ⟨e, x1, x2, g, es', m', g', rf⟩ := lr
      exact ⟨e, x1, x2, k a _ (fun q => (hz a q).elim (fun q => q.1.no g (.inr (.inr ⟨_, rfl⟩)) rfl) fun q => (q.2.2.2.2.2 i a dd C fs v h2 lr').1 rfl) g, es', m', k dd _ (fun q => (hz dd q).elim (fun q => q.1.no g' (.inl fun _ z => by cases z) rfl) fun q => (q.2.2.2.2.2 i a dd C fs v h2 lr').2 rfl) g', rf.mix hz' k⟩
  · obtain ⟨q1, v, q2⟩ := S.cells x a e
    exact ⟨q1, v, kc e q2⟩

/-! a comprehension's turns -/
def IsAcc (X : Addr → Prop) (h : Heap) (a : Addr) (l : List D) : Prop := ∃ vs m, h.get? a = some (ownObj vs m) ∧ RepL X h l vs
def CompEnd (X : Addr → Prop) (L : Addr) (it Dl : Addr) (W : Addr → Prop) (c : Cx) (s : Shared) (Pl : List D → Prop) (r : Result) (s' : Shared) : Prop := match r with
  | .ok _ => ∃ out, Pl out ∧ Inv c s' ∧ Stay (fun b => W b ∨ b = c.P ∨ b = it ∨ b = Dl) s.heap s'.heap ∧ IsAcc X s'.heap Dl out ∧ ∃ m, s'.heap.Ns L m
  | .error _ => False
/-- elt for target in .. if ifs, with what is still to come and what is gathered -/
def CompL (c : Cx) (n : Nat) (fc : FC) (ρ : Rho) (elt target iter : Expr) (ifs : List Expr) (scope : Scope) (pos : Pos) (ds acc : List D) (Pl : List D → Prop) : Prop :=
  ∀ W Xc X env A s it Dl, Good n A → Sat c W Xc X fc env ρ s → ItAt c X s.heap it ds → ¬ X it → X Dl → ¬ W Dl → c.h₁.objs.size ≤ Dl → IsAcc X s.heap Dl acc →
    codeAny (model c.prog c.w) A (.compLoop (.ListComp elt [⟨target, iter, ifs, 0⟩] scope pos) 0 (.ref it) (.ref Dl) env) (CompEnd X env.locals it Dl W c s Pl) s
theorem CompL.done {elt target iter : Expr} {ifs : List Expr} {scope : Scope} {pos : Pos} {acc : List D} {Pl : List D → Prop} (h : Pl acc) : CompL c n fc ρ elt target iter ifs scope pos [] acc Pl := fun W Xc X env A s it Dl G S x nx xD wD lD ac => by
  refine codeAny_of_tree ?_
  have G' : Good n (A.under (.compLoop (.ListComp elt [⟨target, iter, ifs, 0⟩] scope pos) 0 (.ref it) (.ref Dl) env)) := G.under0 rfl rfl
  refine Wp.onRaise (Q := fun (fin : PySem.Fin) s' => match fin with | .done f => CompEnd X env.locals it Dl W c s Pl (.ok f) s' | .again c' => c'.quiet = true ∧ codeAny (model c.prog c.w) A c' (CompEnd X env.locals it Dl W c s Pl) s') ?_
  show Wp c _ (compTurn (.ListComp elt [⟨target, iter, ifs, 0⟩] scope pos) 0 (.ref it) (.ref Dl) env) _ s
  rw [compTurn_list]
  obtain ⟨m, ⟨o, es, ep, ho, hd, r⟩, _⟩ := S.ns
  have big : ∃ a o, a ≠ it ∧ c.h₁.objs.size ≤ a ∧ s.heap.get? a = some o := ⟨env.locals, o, fun e => nx (e ▸ S.xL), S.lo, ho⟩
  refine wpAny_bind (wpAny_standAt (wpAny_bind (iter_end G'.1 S.inv x big fun s₁ I₁ k₁ => ?_)))
  have hz : ∀ z, z = it → Side s.heap z ∧ (z = c.P ∨ ¬ X z) := fun z e => ⟨e ▸ x.side, .inr (e ▸ nx)⟩
  have S₁ := S.side I₁ hz k₁
  obtain ⟨vs, m', g, rl⟩ := ac
  refine wpAny_pure ⟨acc, h, I₁, fun b o nz e => k₁ b o (fun z => nz (.inr (.inr (.inl z)))) e, ⟨vs, m', k₁ _ _ (fun e => nx (e ▸ xD)) g, rl.mix (fun z q => .inr (hz z q).1) k₁⟩, ?_⟩
  obtain ⟨m₁, hn, _⟩ := S₁.ns
  exact ⟨m₁, hn⟩

/-- the tests behind a comprehension's for, one after the other -/
def CompIfs (c : Cx) (n : Nat) (fc : FC) (ρ : Rho) : List Expr → (Bool → Prop) → Prop
  | [], P => P true
  | t :: ts, P => Tst c n fc ρ t (fun b => if b = true then CompIfs c n fc ρ ts P else P false)
theorem CompIfs.use {W Xc X : Addr → Prop} {env : Env} {A : Around} : ∀ {ifs : List Expr} {s : Shared} {P : Bool → Prop} {r : Bool}, (r = true → CompIfs c n fc ρ ifs P) → (r = false → P false) → Good n A → Sat c W Xc X fc env ρ s →
    Wp c A (forIn ifs r fun c r => if r = true then do let ok ← isTrue c env (PySem.eval c env); pure (ForInStep.yield ok) else pure (ForInStep.yield r)) (fun b s' => Inv c s' ∧ Stay (· = c.P) s.heap s'.heap ∧ P b) s
  | [], s, P, r, h, h', G, S => by
    rw [List.forIn_nil]
    refine wpAny_pure ⟨S.inv, Stay.refl _ _, ?_⟩
    cases r with
    | true => exact h rfl
    | false => exact h' rfl
  | t :: ts, s, P, r, h, h', G, S => by
    rw [List.forIn_cons]
    cases r with
    | true =>
      simp only [if_true]
      refine wpAny_bind (wpAny_bind (Wp.mono (h rfl W Xc X env A s G S) fun b s₁ ⟨I, st, q⟩ => wpAny_pure ?_))
      refine Wp.mono (CompIfs.use (ifs := ts) (r := b) (P := P) (fun e => ?_) (fun e => ?_) G (S.keep I st)) fun b s₂ ⟨I₂, st₂, p⟩ => ⟨I₂, st.trans st₂, p⟩
      · subst e; exact q
      · subst e; exact q
    | false =>
      simp only [Bool.false_eq_true, if_false]
      exact wpAny_bind (wpAny_pure (CompIfs.use (ifs := ts) (fun e => by cases e) h' G S))

theorem CompL.turn {elt target iter : Expr} {ifs : List Expr} {scope : Scope} {pos : Pos} {acc ds : List D} {d : D} {Pl : List D → Prop} (hl : acc.length ≤ sizeLine)
    (h : Asg c n fc ρ target d (fun ρ₁ => CompIfs c n fc ρ₁ ifs (fun b => if b = true then Ev c n fc ρ₁ elt (fun e => CompL c n fc ρ₁ elt target iter ifs scope pos ds (acc ++ [e]) Pl) else CompL c n fc ρ₁ elt target iter ifs scope pos ds acc Pl))) :
    CompL c n fc ρ elt target iter ifs scope pos (d :: ds) acc Pl := fun W Xc X env A s it Dl G S x nx xD wD lD ac => by
  refine codeAny_of_tree ?_
  have G' : Good n (A.under (.compLoop (.ListComp elt [⟨target, iter, ifs, 0⟩] scope pos) 0 (.ref it) (.ref Dl) env)) := G.under0 rfl rfl
  refine Wp.onRaise (Q := fun (fin : PySem.Fin) s' => match fin with | .done f => CompEnd X env.locals it Dl W c s Pl (.ok f) s' | .again c' => c'.quiet = true ∧ codeAny (model c.prog c.w) A c' (CompEnd X env.locals it Dl W c s Pl) s') ?_
  show Wp c _ (compTurn (.ListComp elt [⟨target, iter, ifs, 0⟩] scope pos) 0 (.ref it) (.ref Dl) env) _ s
  rw [compTurn_list]
  refine wpAny_bind (wpAny_standAt (wpAny_bind (iter_next S.inv x fun v s₁ I₁ k₁ x₁ r₁ => ?_)))
  have hz : ∀ z, z = it → Side s.heap z ∧ (z = c.P ∨ ¬ X z) := fun z e => ⟨e ▸ x.side, .inr (e ▸ nx)⟩
  have S₁ := S.side I₁ hz k₁
  obtain ⟨vs, m', g, rl⟩ := ac
  have ac₁ : IsAcc X s₁.heap Dl acc := ⟨vs, m', k₁ _ _ (fun e => nx (e ▸ xD)) g, rl.mix (fun z q => .inr (hz z q).1) k₁⟩
  have nP : ∀ z, W z ∨ z = c.P → X z := fun z q => q.elim (S.wx z) fun e => e ▸ S.xc _ S.xP
  have nit : ¬ (W it ∨ it = c.P) := fun q => nx (nP _ q)
  have nDl : ¬ (W Dl ∨ Dl = c.P) := fun q => q.elim wD fun e => absurd S.inv.lo.1 (Nat.not_lt.mpr (e ▸ lD))
  refine wpAny_bind (letOwned_of x₁ ?_)
  refine wpAny_bind (Wp.mono (h W Xc X env _ s₁ v G' S₁ r₁) fun _ s₂ ⟨ρ₁, q₁, S₂, lw₂⟩ => ?_)
  have x₂ : ItAt c X s₂.heap it ds := x₁.mix lw₂ nit fun z q => .inl (nP z q)
  have ac₂ : IsAcc X s₂.heap Dl acc := by
    obtain ⟨vs, m', g, rl⟩ := ac₁
    exact ⟨vs, m', lw₂ _ _ nDl g, rl.mix (fun z q => .inl (nP z q)) lw₂⟩
  have t₂ : Stay (fun b => W b ∨ b = c.P ∨ b = it ∨ b = Dl) s.heap s₂.heap := fun b o nz e => lw₂ b o (fun z => nz (z.imp id .inl)) (k₁ b o (fun z => nz (.inr (.inr (.inl z)))) e)
  have again_ : ∀ s₃ acc', Sat c W Xc X fc env ρ₁ s₃ → ItAt c X s₃.heap it ds → IsAcc X s₃.heap Dl acc' → Stay (fun b => W b ∨ b = c.P ∨ b = it ∨ b = Dl) s.heap s₃.heap → CompL c n fc ρ₁ elt target iter ifs scope pos ds acc' Pl →
      codeAny (model c.prog c.w) A (.compLoop (.ListComp elt [⟨target, iter, ifs, 0⟩] scope pos) 0 (.ref it) (.ref Dl) env) (CompEnd X env.locals it Dl W c s Pl) s₃ := by
    intro s₃ acc' S₃ x₃ ac₃ t₃ f
    refine codeAny_mono (f W Xc X env A s₃ it Dl G S₃ x₃ nx xD wD lD ac₃) fun r s' e => ?_
    cases r with
    | error x => exact e.elim
    | ok fl => obtain ⟨out, p, I, t, a, m⟩ := e; exact ⟨out, p, I, t₃.trans t, a, m⟩
  have moved : ∀ {s s' : Shared}, Stay (· = c.P) s.heap s'.heap → Stay (fun b => W b ∨ b = c.P ∨ b = it ∨ b = Dl) s.heap s'.heap := fun k b o nz e => k b o (fun z => nz (.inr (.inl z))) e
  refine wpAny_bind (Wp.mono (CompIfs.use (r := true) (fun _ => q₁) (fun e => by cases e) G' S₂) fun b s₃ ⟨I₃, st₃, q₃⟩ => ?_)
  have S₃ := S₂.keep I₃ st₃
  have pX : ∀ z, z = c.P → X z ∨ Side s₂.heap z := fun z e => .inl (e ▸ S.xc _ S.xP)
  have x₃ : ItAt c X s₃.heap it ds := x₂.mix st₃ (fun e => nit (.inr e)) pX
  have ac₃ : IsAcc X s₃.heap Dl acc := by
    obtain ⟨vs, m', g, rl⟩ := ac₂
    exact ⟨vs, m', st₃ _ _ (fun e => nDl (.inr e)) g, rl.mix pX st₃⟩
  cases b with
  | false => exact wpAny_pure ⟨rfl, again_ s₃ acc S₃ x₃ ac₃ (t₂.trans (moved st₃)) q₃⟩
  | true =>
    refine wpAny_bind (wpAny_bind (Ev.use q₃ G' S₃ fun y s₄ e S₄ st₄ p₄ r₄ => ?_))
    have x₄ : ItAt c X s₄.heap it ds := x₃.mix st₄ (fun e => nit (.inr e)) fun z e => .inl (e ▸ S.xc _ S.xP)
    obtain ⟨vs, m', g, rl⟩ := ac₃
    have g₄ := st₄ _ _ (fun e => nDl (.inr e)) g
    have rl₄ := rl.mix (h' := s₄.heap) (fun z e => .inl (e ▸ S.xc _ S.xP)) st₄
    refine wpAny_bind (wpAny_list_append_plain (l := Dl) (items := vs.toArray) ⟨m', g₄⟩ (fun h' ⟨m₂, g₂⟩ hs => ?_) (by rw [List.size_toArray, rl.length]; exact hl))
    have k' : Stay (· = Dl) s₄.heap h' := fun b o nb q => (hs.2 b nb).trans q
    have kX : ∀ z, z = Dl → X z ∨ Side s₄.heap z := fun z e => .inl (e ▸ xD)
    refine wpAny_pure (wpAny_pure ⟨rfl, again_ _ (acc ++ [e]) ?_ (x₄.mix k' (fun e => nx (e ▸ xD)) kX) ⟨vs ++ [y], m₂, by rw [g₂]; simp, (rl₄.append (l' := [e]) (vs' := [y]) ⟨y, [], rfl, r₄, rfl⟩).mix kX k'⟩ ((t₂.trans (moved (st₃.trans st₄))).trans fun b o nz q => k' b o (fun z => nz (.inr (.inr (.inr z)))) q) p₄⟩)
    refine S₄.mix (S₄.inv.turn (t := s₄.toks) lD hs) (fun z e => .inr ?_) k'
    subst e
    refine ⟨xD, ⟨_, g₂⟩, fun e => wD (e ▸ S.wL), fun x e => ?_, fun i a l e z => wD (z ▸ (S₄.owns i a l e).2.2), fun i a dd C fs v e lr => ⟨fun z => ?_, fun z => ?_⟩⟩
    · obtain ⟨_, v, o, go, d⟩ := S₄.cells x _ e
      rw [g₄] at go; cases go; cases d
    · obtain ⟨_, _, _, ga, _⟩ := lr
      rw [z, g₄] at ga; cases ga
    · obtain ⟨_, _, _, ga, es', m', ga', _⟩ := lr
      rw [z, g₄] at ga'
      have hd := congrArg Obj.data (Option.some.inj ga')
      cases hd
end
end Mine
end
section
namespace Mine
open PySem PySem.W PySem.Calls PyProof.Rows Builtin

def noSelf : Rho → Bool
  | [] => true
  | some (.self _ _ _ _) :: _ => false
  | _ :: r => noSelf r
theorem noSelf_no : ∀ {ρ : Rho} {i : Nat} {a dd C : Addr} {fs : List (Str × D)}, noSelf ρ = true → ρ[i]? ≠ some (some (LV.self a dd C fs))
  | [], i, _, _, _, _, _ => by simp
  | some (.self _ _ _ _) :: _, _, _, _, _, _, h => by cases h
  | none :: r, 0, _, _, _, _, h => by simp
  | some (.dat _) :: r, 0, _, _, _, _, h => by simp
  | some (.own _ _) :: r, 0, _, _, _, _, h => by simp
  | none :: r, i + 1, _, _, _, _, h => by simpa using noSelf_no (ρ := r) h
  | some (.dat _) :: r, i + 1, _, _, _, _, h => by simpa using noSelf_no (ρ := r) h
  | some (.own _ _) :: r, i + 1, _, _, _, _, h => by simpa using noSelf_no (ρ := r) h
theorem noSelf_set : ∀ {ρ : Rho} {i : Nat} {d : D}, noSelf ρ = true → noSelf (ρ.set i (some (.dat d))) = true
  | [], _, _, _ => rfl
  | some (.self _ _ _ _) :: _, _, _, h => by cases h
  | none :: r, 0, _, h => h
  | some (.dat _) :: r, 0, _, h => h
  | some (.own _ _) :: r, 0, _, h => h
  | none :: r, i + 1, _, h => noSelf_set (ρ := r) h
  | some (.dat _) :: r, i + 1, _, h => noSelf_set (ρ := r) h
  | some (.own _ _) :: r, i + 1, _, h => noSelf_set (ρ := r) h
section
variable {c : Cx} {n : Nat} {fc : FC} {ρ : Rho} {R : Out → Prop} {Pq : D → Prop} {Pb : Bool → Prop}

/-- a place that was not, is shunned too -/
theorem Sat.keepC {W Xc X : Addr → Prop} {env : Env} {s s' : Shared} {C : Addr} (S : Sat c W Xc X fc env ρ s) (I : Inv c s') (k : Stay (· = c.P) s.heap s'.heap) (gC : Gone s.heap C) (eC : ∃ o, s'.heap.get? C = some o) (lC : c.h₁.objs.size ≤ C) :
    Sat c W Xc (fun a => X a ∨ a = C) fc env ρ s' := by
  have S' := S.keep I k
  have sh : ∀ a, (X a ∨ a = C) → X a ∨ s.heap.get? a = none := fun a q => q.imp id fun e => by rw [e]; exact gC
  have kX : ∀ z, z = c.P → (X z ∨ z = C) := fun z e => .inl (e ▸ S.xc _ S.xP)
  obtain ⟨m, hn, B⟩ := S.ns
  obtain ⟨m', hn', B'⟩ := S'.ns
  refine ⟨I, S.ev, S.fok, S.xP, fun a q => .inl (S.xc a q), ?_, ?_, fun a q => .inl (S.wx a q), S.wL, S.base, ⟨m, ?_, fun i x kd lv h1 h2 => ?_⟩, fun x a e => ?_, S.celled, S.capart, S.cellN, fun i a l e => ⟨(S.owns i a l e).1, .inl (S.owns i a l e).2.1, (S.owns i a l e).2.2⟩, S.apart, S.selfW⟩
  · rintro a (q | q)
    · exact S'.xex a q
    · rw [q]; exact eC
  · rintro a (q | q)
    · exact S.xlo a q
    · exact .inr (q ▸ lC)
  · obtain ⟨oL, es, ep, ho, hd, r⟩ := hn
    exact ⟨oL, es, ep, k _ _ (fun e => S.notP _ S.wL e) ho, hd, r⟩
  · obtain ⟨kk, v, lr, b1, b2⟩ := B i x kd lv h1 h2
    have neP : ∀ {a o}, s.heap.get? a = some o → (∀ vs, o.data ≠ .fields vs) → a ≠ c.P := fun {a o} g ne e => by
      obtain ⟨ps, q⟩ := S.inv.atP
      rw [e, q] at g; cases g; exact ne _ rfl
    refine ⟨kk, v, ?_, b1, fun e => let ⟨a, q1, q2, ⟨oc, g, dc⟩⟩ := b2 e; ⟨a, q1, .inl q2, oc, k a oc (neP g fun vs z => by rw [dc] at z; cases z) g, dc⟩⟩
    cases lv with
    | dat d => exact (Rep.shun sh lr).stay (k.mono kX)
    | own a l =>
      obtain ⟨e, x1, x2, vs, m', g, rl⟩ := lr
      exact ⟨e, .inl x1, x2, vs, m', k a _ (neP g fun _ z => by cases z) g, (RepL.shun sh rl).stay (k.mono kX)⟩
    | self a dd C' fs =>
      obtain ⟨e, x1, x2, g, es', m', g', rf⟩ := lr
      refine ⟨e, .inl x1, .inl x2, k a _ (fun e => ?_) g, es', m', k dd _ (neP g' fun _ z => by cases z) g', (RepF.shun sh rf).stay (k.mono kX)⟩
      obtain ⟨ps, q⟩ := S.inv.atP
      rw [e, q] at g; cases g
  · obtain ⟨q1, v, q2⟩ := S'.cells x a e
    exact ⟨.inl q1, v, q2⟩
/-- and when it has gone, all else is as before -/
theorem Sat.dropC {W Xc X : Addr → Prop} {env : Env} {s : Shared} {h' : Heap} {C : Addr} (S : Sat c W Xc (fun a => X a ∨ a = C) fc env ρ s) (hs : Heap.SameBut C s.heap h') (lC : c.h₁.objs.size ≤ C) (hX : ∀ a, Xc a → X a) (hW : ∀ a, W a → X a) (nX : ¬ X C) (dC : ∃ m, s.heap.Ns C m) (ns : noSelf ρ = true) : Sat c W Xc X fc env ρ { s with heap := h' } := by
  have k : Stay (· = C) s.heap h' := fun b o nb e => (hs.2 b nb).trans e
  have I : Inv c { s with heap := h' } := S.inv.turn (t := s.toks) lC hs
  obtain ⟨oC, esC, epC, gC, dC, _⟩ := dC.choose_spec
  have xX : ∀ a, X a → (X a ∨ a = C) := fun a q => .inl q
  have kX : ∀ z, z = C → (X z ∨ z = C) := fun z e => .inr e
  have nW : ∀ a, W a → a ≠ C := fun a w e => nX (e ▸ hW a w)
  have ncell : ∀ {a v}, s.heap.IsCell a v → a ≠ C := fun {a v} ⟨o, g, d⟩ e => by rw [e, gC] at g; cases g; rw [dC] at d; cases d
  obtain ⟨m, ⟨oL, es, ep, ho, hd, r⟩, B⟩ := S.ns
  refine ⟨I, S.ev, S.fok, S.xP, hX, fun a q => ?_, fun a q => S.xlo a (.inl q), hW, S.wL, S.base, ⟨m, ⟨oL, es, ep, k _ _ (nW _ S.wL) ho, hd, r⟩, fun i x kd lv h1 h2 => ?_⟩, fun x a e => ?_, S.celled, S.capart, S.cellN, fun i a l e => ⟨(S.owns i a l e).1, hW a (S.owns i a l e).2.2, (S.owns i a l e).2.2⟩, S.apart, S.selfW⟩
  · obtain ⟨o, g⟩ := S.xex a (.inl q)
    exact ⟨o, k a o (fun e => nX (e ▸ q)) g⟩
  · obtain ⟨kk, v, lr, b1, b2⟩ := B i x kd lv h1 h2
    refine ⟨kk, v, ?_, b1, fun e => let ⟨a, q1, q2, q3⟩ := b2 e; ⟨a, q1, q2.elim id fun e => absurd e (ncell q3), let ⟨oc, g, dc⟩ := q3; ⟨oc, k a oc (ncell ⟨oc, g, dc⟩) g, dc⟩⟩⟩
    cases lv with
    | dat d => exact (Rep.stay (k.mono kX) lr).anti xX
    | own a l =>
      obtain ⟨e, x1, x2, vs, m', g, rl⟩ := lr
      exact ⟨e, hW a x2, x2, vs, m', k a _ (nW a x2) g, (RepL.stay (k.mono kX) rl).anti xX⟩
    | self a dd C' fs => exact absurd h2 (noSelf_no ns)
  · obtain ⟨q1, v, q2⟩ := S.cells x a e
    obtain ⟨oc, g, dc⟩ := q2
    exact ⟨q1.elim id fun e => absurd e (ncell ⟨oc, g, dc⟩), v, oc, k a oc (ncell ⟨oc, g, dc⟩) g, dc⟩

theorem again_iter {X : Addr → Prop} {A : Around} {s : Shared} {it : Addr} {ds : List D} {Q : Value → Shared → Prop} (x : ItAt c X s.heap it ds) (h : Q (.ref it) s) : Wp c A (pyIter (.ref it)) Q s := by
  cases x with
  | list l i vs m lo hi xl g r => exact wpAny_pyIter_listiter hi h
  | tup l i vs m lo hi xl g r => exact wpAny_pyIter_tupleiter hi h
  | range x k lo hi e => exact wpAny_pyIter_rangeiter hi h

/-- the whole of a comprehension but for its end -/
theorem comp_core {W Xc X : Addr → Prop} {env : Env} {A : Around} {s : Shared} {elt target iter : Expr} {ifs : List Expr} {scope : Scope} {pos : Pos} {use : Option (Value → Sem Unit)} {Pl : List D → Prop} {Q : Value → Shared → Prop} {first : Sem Value}
    (hs : notSet iter = true) (hok : compOk fc scope = true) (hfirst : first = PySem.eval iter env) (G : Good n A) (S : Sat c W Xc X fc env ρ s)
    (h : Ev c n fc ρ iter (fun d => ∃ ds, Items d ds ∧ CompL c n (cfc fc scope) (compRho fc ρ scope.names) elt target iter ifs scope pos ds [] Pl))
    (hQ : ∀ Dl C s₁ out, Pl out → Gone s.heap Dl → Gone s.heap C → Dl ≠ C → Inv c s₁ → Stay (· = c.P) s.heap s₁.heap → (∃ m, s₁.heap.Ns C m) → c.h₁.objs.size ≤ C → (∃ vs m, s₁.heap.get? Dl = some (ownObj vs m) ∧ RepL (fun a => X a ∨ a = C) s₁.heap out vs) →
      compPost (model c.prog c.w) A (fun _ _ => False) use Q (.ref Dl) C (.ok .next) s₁) :
    Wp c A (comprehension (.ListComp elt [⟨target, iter, ifs, 0⟩] scope pos) scope env (firstIterPos [⟨target, iter, ifs, 0⟩] pos) (newList []) false first use) Q s := by
  subst hfirst
  have hok' := hok
  unfold compOk at hok'
  simp only [Bool.and_eq_true, beq_iff_eq, decide_eq_true_eq] at hok'
  obtain ⟨⟨⟨hfc, hall⟩, hkind⟩, hnd⟩ := hok'
  obtain ⟨cl, hcl, h2, h3⟩ := closure_pure (scope := scope) (env := env) fun x hx hf => by
    have := List.all_eq_true.mp hall x hx
    rw [hf] at this
    have e : fc.scope.names.lookup x.1 = some .cell := by simpa using this
    obtain ⟨j, hj, e'⟩ := List.getElem_of_mem (mem_of_lookup e)
    exact S.celled j x.1 (by rw [List.getElem?_eq_getElem hj, e'])
  refine wpAny_comprehension_free rfl (fun x => folded_of hs) hcl hkind (fun x hx hl => by
    obtain ⟨i, hi, e⟩ := List.getElem_of_mem hx
    exact nodup_lookup hnd (i := i) (by rw [List.getElem?_eq_getElem hi, e, ← hl])) ?_
  refine h.use G S fun v s₁ d S₁ st ⟨ds, i, p⟩ r => iter_of S₁.inv i r fun o x => ?_
  have S₂ : Sat c W Xc X fc env ρ { s₁ with heap := s₁.heap.push o } := S₁.keep (S₁.inv.push (t := s₁.toks)) stay_push
  have nx : ¬ X s₁.heap.objs.size := S₁.xok.new (Nat.le_refl _)
  generalize hs₂ : ({ s₁ with heap := s₁.heap.push o } : Shared) = s₂ at S₂ ⊢
  have x : ItAt c X s₂.heap s₁.heap.objs.size ds := by rw [← hs₂]; exact x
  have hz₂ : s₂.heap.objs.size = s₁.heap.objs.size + 1 := by rw [← hs₂]; exact Heap.size_push ..
  have st₂ : Stay (· = c.P) s.heap s₂.heap := by rw [← hs₂]; exact st.trans stay_push
  clear hs₂
  refine wpAny_newList (nfe_comp ?_) (by show 0 ≤ sizeLine; exact Nat.zero_le _)
  simp only [Heap.size_push]
  have SC := comp_sat S₂ hok h2 h3
  have gone₂ : ∀ a, s₂.heap.objs.size ≤ a → Gone s.heap a := fun a le => by
    rcases old_stay (W := fun _ => False) st₂ S₂.inv.someP a (gone_of le) with z | z
    · exact z.elim
    · exact z
  have kp : ∀ b o, s₂.heap.get? b = some o → (compHeap s₂.heap scope.names).get? b = some o := fun b o e => pushCells_keeps _ _ _ _ (Heap.get?_push_of_some _ (Heap.get?_push_of_some _ e))
  have szp := pushCells_size scope.names ((s₂.heap.push { cls := .type "list", data := .seq ([] : List Value).toArray }).push { cls := .type "dict", data := .dict #[] })
  rw [Heap.size_push, Heap.size_push] at szp
  have xC : ItAt c (fun a => X a ∨ (s₂.heap.objs.size ≤ a ∧ a < (compHeap s₂.heap scope.names).objs.size)) (compHeap s₂.heap scope.names) s₁.heap.objs.size ds :=
    (x.shun fun a q => q.imp id fun q => gone_of q.1).mix (Z := fun _ => False) (fun b o _ e => kp b o e) id fun _ q => q.elim
  have nxC : ¬ (X s₁.heap.objs.size ∨ (s₂.heap.objs.size ≤ s₁.heap.objs.size ∧ s₁.heap.objs.size < (compHeap s₂.heap scope.names).objs.size)) := fun q => q.elim nx fun q => by have := q.1; rw [hz₂] at this; exact absurd this (Nat.not_succ_le_self _)
  have gD : (compHeap s₂.heap scope.names).get? s₂.heap.objs.size = some { cls := .type "list", data := .seq ([] : List Value).toArray } := pushCells_keeps _ _ _ _ (Heap.get?_push_of_some _ (Heap.get?_push_size _ rfl))
  have run := p _ _ _ _ A _ s₁.heap.objs.size s₂.heap.objs.size G SC xC nxC (.inr ⟨Nat.le_refl _, Nat.lt_of_lt_of_le (Nat.lt_succ_of_lt (Nat.lt_succ_self _)) szp⟩) (fun q => absurd q.1 (Nat.not_succ_le_self _)) S₂.inv.big ⟨[], _, gD, rfl⟩
  have fin : ∀ r s', CompEnd (fun a => X a ∨ (s₂.heap.objs.size ≤ a ∧ a < (compHeap s₂.heap scope.names).objs.size)) (s₂.heap.objs.size + 1) s₁.heap.objs.size s₂.heap.objs.size (fun a => s₂.heap.objs.size + 1 ≤ a ∧ a < (compHeap s₂.heap scope.names).objs.size) c { s₂ with heap := compHeap s₂.heap scope.names } Pl r s' →
      compPost (model c.prog c.w) A (fun _ _ => False) use Q (.ref s₂.heap.objs.size) (s₂.heap.objs.size + 1) r s' := by
    intro r s' e
    cases r with
    | error x => exact e.elim
    | ok fl =>
      obtain ⟨out, po, I, t, ⟨vs, m, g, rl⟩, hn⟩ := e
      have res := hQ s₂.heap.objs.size (s₂.heap.objs.size + 1) s' out po (gone₂ _ (Nat.le_refl _)) (gone₂ _ (Nat.le_succ _)) (Nat.ne_of_lt (Nat.lt_succ_self _)) I (fun b o nb e => ?_) hn (Nat.le_trans S₂.inv.big (Nat.le_succ _)) ⟨vs, m, g, rl.anti fun a q => q.imp id fun e => by rw [e]; exact ⟨Nat.le_succ _, Nat.lt_of_lt_of_le (Nat.lt_succ_self _) szp⟩⟩
      · cases use <;> exact res
      · have e₂ := st₂ b o nb e
        have lt := Heap.lt_size e₂
        refine t b o (fun q => ?_) (kp b o e₂)
        rcases q with q | q | q | q
        · exact absurd lt (Nat.not_lt.mpr (Nat.le_of_succ_le q.1))
        · exact nb q
        · have : s.heap.get? b = none := by
            rw [q]
            rcases old_stay (W := fun _ => False) st S₁.inv.someP s₁.heap.objs.size (gone_of (Nat.le_refl _)) with z | z
            · exact z.elim
            · exact z
          rw [this] at e; cases e
        · exact absurd lt (Nat.not_lt.mpr (Nat.le_of_eq q.symm))
  have run' := codeAny_mono run fin
  exact codeAny_compStart_list run' (Wp.any (again_iter xC run'))

theorem ev_comp {elt target iter : Expr} {ifs : List Expr} {scope : Scope} {pos : Pos} (ρ' : Rho) (hs : notSet iter = true) (hok : compOk fc scope = true) (hr : compRho fc ρ scope.names = ρ')
    (h : Ev c n fc ρ iter (fun d => ∃ ds, Items d ds ∧ CompL c n (cfc fc scope) ρ' elt target iter ifs scope pos ds [] (fun out => Pq (.list out)))) : Ev c n fc ρ (.ListComp elt [⟨target, iter, ifs, 0⟩] scope pos) Pq := fun W Xc X env A s G S => by
  rw [eval_ListComp]
  subst hr
  refine comp_core (use := none) hs hok rfl G S h fun Dl C s₁ out po gD gC ne I st ⟨m, hn⟩ lC ⟨vs, m', g, rl⟩ => ?_
  refine ⟨m, hn, fun h' hsb => ?_⟩
  have k : Stay (· = C) s₁.heap h' := fun b o nb e => (hsb.2 b nb).trans e
  refine ⟨I.turn (t := s₁.toks) lC hsb, fun b o nb e => k b o (fun z => by rw [z, show s.heap.get? C = none from gC] at e; cases e) (st b o nb e), _, po, Dl, vs, (m', none, #[]), rfl, fun q => S.notGone Dl q gD, k _ _ ne g, ?_⟩
  exact ((rl.stay (k.mono fun z e => .inr e)).anti fun a q => .inl q)

theorem ex_comp {x : Str} {k : NameKind} {pos' pos spos : Pos} {elt target iter : Expr} {ifs : List Expr} {scope : Scope} (ρ' : Rho) (F : (k != .cell || fc.wr x) = true) (i : Nat) (e : fc.scope.names[i]? = some (x, k)) (hk : k = .local ∨ k = .cell) (il : i < ρ.length) (ns : noSelf ρ = true)
    (hs : notSet iter = true) (hok : compOk fc scope = true) (hr : compRho fc ρ scope.names = ρ')
    (h : Ev c n fc ρ iter (fun d => ∃ ds, Items d ds ∧ CompL c n (cfc fc scope) ρ' elt target iter ifs scope pos ds [] (fun out => R (.next (ρ.set i (some (.dat (.list out)))))))) :
    Ex1 c n fc ρ (.Assign [.Name x pos'] (.ListComp elt [⟨target, iter, ifs, 0⟩] scope pos) spos) R := fun W Xc X env A s G S => by
  have sw : ∃ b, swapsWith (.ListComp elt [⟨target, iter, ifs, 0⟩] scope pos) (some (.Name x pos')) spos.line env = pure b := ⟨_, rfl⟩
  obtain ⟨b, sw⟩ := sw
  cases b with
  | false =>
    have h' : Ev c n fc ρ (.ListComp elt [⟨target, iter, ifs, 0⟩] scope pos) (fun d => R (.next (ρ.set i (some (.dat d))))) := ev_comp ρ' hs hok hr h
    refine wpAny_Assign_Name (h'.use G S fun v s' d S' st p r => ?_) sw
    exact S'.storeD F e hk il r fun s'' S'' lw => ⟨(Low.of_stay st).trans lw, _, p, rfl, W, X, Grow.refl _ _ _, S''⟩
  | true =>
    subst hr
    rw [exec_Assign_Name_used _ _ _ _ sw]
    refine wpAny_bind (wpAny_standAt (wpAny_bind ?_))
    show Wp c A (do let _ ← comprehension (.ListComp elt [⟨target, iter, ifs, 0⟩] scope pos) scope env (firstIterPos [⟨target, iter, ifs, 0⟩] pos) (newList []) false (PySem.eval iter env) (some (assign (.Name x pos') env))) _ s
    refine wpAny_bind (Wp.mono (comp_core (use := some (assign (.Name x pos') env)) (Q := fun _ s' => ExPost c W Xc X fc env s R .next s') hs hok rfl G S h fun Dl C s₁ out po gD gC ne I st ⟨m, hn⟩ lC ⟨vs, m', g, rl⟩ => ?_) fun _ s' hq => wpAny_pure (wpAny_pure hq))
    have nXC : ¬ X C := fun q => S.notGone C q gC
    have S₁ := S.keepC I st gC (let ⟨o, _, _, g, _⟩ := hn; ⟨o, g⟩) lC
    refine PyProof.Rows.assign_Name (S₁.storeD F e hk il (d := .list out) ⟨Dl, vs, (m', none, #[]), rfl, fun q => q.elim (fun q => S.notGone Dl q gD) fun q => ne q, g, rl⟩ fun s₂ S₂ lw => ?_)
    have nWC : ¬ (W C ∨ C = c.P) := fun q => q.elim (fun w => nXC (S.wx C w)) fun e => absurd S.inv.lo.1 (Nat.not_lt.mpr (e ▸ lC))
    have hn₂ : s₂.heap.Ns C m := by
      obtain ⟨o, es, ep, g, d, r⟩ := hn
      exact ⟨o, es, ep, lw C o nWC g, d, r⟩
    refine ⟨m, hn₂, fun h' hsb => ?_⟩
    have k' : Stay (· = C) s₂.heap h' := fun b o nb e => (hsb.2 b nb).trans e
    refine ⟨fun b o nz q => k' b o (fun z => by rw [z, show s.heap.get? C = none from gC] at q; cases q) (lw b o nz (st b o (fun z => nz (.inr z)) q)), _, po, rfl, W, X, Grow.refl _ _ _, ?_⟩
    exact S₂.dropC hsb lC S.xc S.wx nXC ⟨m, hn₂⟩ (noSelf_set ns)
end
end Mine
end
section
namespace Mine
open PySem PySem.W PySem.Calls PyProof.Rows Builtin

section
variable {c : Cx} {n : Nat} {fc : FC} {ρ : Rho} {R : Out → Prop} {Pq : D → Prop} {Pb : Bool → Prop}

/-! whom a call reaches -/
inductive Way (c : Cx) (X : Addr → Prop) (h : Heap) : Value → List Value → Value → List LV → Prop
  | direct {f : Value} {vs : List Value} {as : List LV} (k : Keeps c f) (r : LRepL X h as vs) : Way c X h f vs f as
  | bound {q g : Addr} {self : Value} {lv : LV} (at_ : h.get? q = some (methodObj (.ref g) self)) (hf : fnIn c.K g = true) (r : LRep (fun _ => True) X h lv self) : Way c X h (.ref q) [] (.ref g) [lv]
theorem LRepL.keep {X : Addr → Prop} {h h' : Heap} (xP : X c.P) (hP : ∃ ps, h.get? c.P = some { cls := .none, data := .fields ps }) (k : Stay (· = c.P) h h') : ∀ {l : List LV} {vs : List Value}, LRepL X h l vs → LRepL X h' l vs
  | [], _, r => r
  | d :: ds, _, r => by
    obtain ⟨v, us, q, r1, r2⟩ := r
    exact ⟨v, us, q, LRep.keep xP hP k r1, LRepL.keep xP hP k r2⟩
theorem Way.keep {X : Addr → Prop} {h h' : Heap} {fx f : Value} {vs : List Value} {as : List LV} (x : Way c X h fx vs f as) (xP : X c.P) (hP : ∃ ps, h.get? c.P = some { cls := .none, data := .fields ps }) (k : Stay (· = c.P) h h') : Way c X h' fx vs f as := by
  cases x with
  | direct kk r => exact .direct kk (r.keep xP hP k)
  | bound g hf r =>
    refine .bound (k _ _ (fun e => ?_) g) hf (LRep.keep xP hP k r)
    obtain ⟨ps, hP⟩ := hP
    rw [e, hP] at g; cases g

def Meth (c : Cx) (n : Nat) (lv : LV) (name : Str) (Q : Value → List LV → Prop) : Prop :=
  ∀ X A s v pl, Good n A → Inv c s → Xok c X s → LRep (fun _ => True) X s.heap lv v → Wp c A (getMethod v name pl) (fun fx s' => Inv c s' ∧ Stay (· = c.P) s.heap s'.heap ∧ ∃ f as, Q f as ∧ Way c X s'.heap fx.1 fx.2 f as) s
/-- what an object's expression gives: a datum, or the new object itself -/
def EvV (c : Cx) (n : Nat) (fc : FC) (ρ : Rho) (e : Expr) (P : LV → Prop) : Prop :=
  ∀ W Xc X env A s, Good n A → Sat c W Xc X fc env ρ s → Wp c A (PySem.eval e env) (fun v s' => Inv c s' ∧ Stay (· = c.P) s.heap s'.heap ∧ ∃ lv, P lv ∧ LRep (fun _ => True) X s'.heap lv v) s
theorem evv_dat {e : Expr} {P : LV → Prop} (h : Ev c n fc ρ e (fun d => P (.dat d))) : EvV c n fc ρ e P := fun W Xc X env A s G S =>
  Wp.mono (h W Xc X env A s G S) fun v s' ⟨I, st, d, p, r⟩ => ⟨I, st, _, p, r⟩
theorem LRep.anyW {W X : Addr → Prop} {h : Heap} {lv : LV} {v : Value} (r : LRep W X h lv v) : LRep (fun _ => True) X h lv v := by
  cases lv with
  | dat d => exact r
  | own a l => obtain ⟨e, x, _, y⟩ := r; exact ⟨e, x, trivial, y⟩
  | self a dd C fs => exact r
theorem evv_nm {x : Str} {pos : Pos} {lv : LV} {i : Nat} {P : LV → Prop} (e : placeIn x fc.scope.names 0 = some i) (r : ρ[i]? = some (some lv)) (hd : (x == ("__debug__" : Str)) = false) (h : P lv) : EvV c n fc ρ (.Name x pos) P := fun W Xc X env A s G S => by
  obtain ⟨k, e⟩ := placeIn_get e
  exact wpAny_Name (S.load e r fun v lr => ⟨S.inv, Stay.refl _ _, lv, h, lr.anyW⟩) hd

/-! keywords -/
def kwNames : List Keyword → Option (List Str)
  | [] => some []
  | ⟨some x, _, _⟩ :: r => (kwNames r).map (x :: ·)
  | ⟨none, _, _⟩ :: _ => none
def EvK (c : Cx) (n : Nat) (fc : FC) (ρ : Rho) (kws : List Keyword) (P : List (Str × D) → Prop) : Prop :=
  (∃ ns, kwNames kws = some ns) ∧ ∀ W Xc X env A s pos, Good n A → Sat c W Xc X fc env ρ s → Wp c A (evalAll ((backToKw pos (keywordEach kws env)).map (·.2))) (fun vs s' => Inv c s' ∧ Stay (· = c.P) s.heap s'.heap ∧ ∃ ks, P ks ∧ kwNames kws = some (ks.map (·.1)) ∧ RepL X s'.heap (ks.map (·.2)) vs) s
theorem evk_nil {P : List (Str × D) → Prop} (h : P []) : EvK c n fc ρ [] P := ⟨⟨_, rfl⟩, fun W Xc X env A s pos G S => kwAll_nil ⟨S.inv, Stay.refl _ _, [], h, rfl, rfl⟩⟩
theorem evk_cons {x : Str} {e : Expr} {p : Pos} {kws : List Keyword} {P : List (Str × D) → Prop} (hn : (kwNames kws).isSome = true) (h : Ev c n fc ρ e (fun d => EvK c n fc ρ kws (fun ks => P ((x, d) :: ks)))) : EvK c n fc ρ (⟨some x, e, p⟩ :: kws) P := by
  obtain ⟨ns, hns⟩ := Option.isSome_iff_exists.mp hn
  refine ⟨⟨x :: ns, by unfold kwNames; rw [hns]; rfl⟩, fun W Xc X env A s pos G S => kwAll_cons (h.use G S fun v s₁ d S₁ st p r => ?_)⟩
  refine Wp.mono (p.2 W Xc X env A s₁ pos G S₁) fun vs s₂ ⟨I, st', ks, q, hk, r'⟩ => ⟨I, st.trans st', (x, d) :: ks, q, ?_, v, vs, rfl, r.st (S.xc _ S.xP) st', r'⟩
  unfold kwNames; rw [hk]; rfl
theorem kw_all {env : Env} {pos : Pos} : ∀ {kws : List Keyword} {ns : List Str}, kwNames kws = some ns → (backToKw pos (keywordEach kws env)).all (·.1.isSome) = true ∧ (backToKw pos (keywordEach kws env)).any (·.1.isNone) = false ∧ (backToKw pos (keywordEach kws env)).filterMap (·.1) = ns
  | [], ns, h => by cases h; exact ⟨rfl, rfl, rfl⟩
  | ⟨none, _, _⟩ :: _, _, h => by cases h
  | ⟨some x, e, p⟩ :: r, ns, h => by
    unfold kwNames at h
    obtain ⟨ns', h', rfl⟩ := Option.map_eq_some_iff.mp h
    obtain ⟨a, b, d⟩ := kw_all (env := env) (pos := pos) h'
    refine ⟨?_, ?_, ?_⟩
    · show (true && (backToKw pos (keywordEach r env)).all (·.1.isSome)) = true
      rw [a]; rfl
    · show (false || (backToKw pos (keywordEach r env)).any (·.1.isNone)) = false
      rw [b]; rfl
    · show x :: (backToKw pos (keywordEach r env)).filterMap (·.1) = _
      rw [d]
theorem evalArgs_kwl {A : Around} {s : Shared} {f : Value} {es : List Expr} {kws : List Keyword} {env : Env} {pos : Pos} {Q : Args → Shared → Prop} (hs : noStar es = true) (hall : (backToKw pos (keywordEach kws env)).all (·.1.isSome) = true)
    (h : Wp c A (spliced (backTo pos (starEach es env))) (fun vs s₁ => Wp c A (evalAll ((backToKw pos (keywordEach kws env)).map (·.2))) (fun ks s₂ => Q ⟨vs, ((backToKw pos (keywordEach kws env)).filterMap (·.1)).zip ks⟩ s₂) s₁) s) :
    Wp c A (evalArgs f true (backTo pos (starEach es env)) (backToKw pos (keywordEach kws env))) Q s := by
  cases es with
  | nil => exact evalArgs_kw2_nil hall (fun Γ p hΓ => h Γ p hΓ Γ p hΓ)
  | cons e r =>
    have he : isStar e = false := by
      have := (Bool.and_eq_true_iff.mp (show (!isStar e && noStar r) = true from hs)).1
      simpa using this
    exact evalArgs_kw2 hall h (starEach_cons he)

theorem way_keeps {X : Addr → Prop} {h : Heap} {fx f : Value} {vs : List Value} {as : List LV} (x : Way c X h fx vs f as) (M : Model) (K : c.K.In h) : ∃ k, (k = Keeper.frame ∨ k = Keeper.machine ∨ k = Keeper.boundFrame) ∧ Looks M h (keeperOf fx) k := by
  cases x with
  | direct kk r => exact kk M h K
  | bound g hf r => exact keeps_M hf h ⟨g, K⟩
theorem way_callk {X : Addr → Prop} {A : Around} {s : Shared} {fx f : Value} {vs us kvs : List Value} {as : List LV} {ds : List D} {ks : List (Str × D)} (x : Way c X s.heap fx vs f as) (G : Good n A) (I : Inv c s) (xP : Xok c X s) (ru : RepL X s.heap ds us) (rk : RepL X s.heap (ks.map (·.2)) kvs)
    (h : CallK c n f (as ++ ds.map .dat) ks Pq) : Wp c A (call fx (vs ++ us) ((ks.map (·.1)).zip kvs)) (Got c X s Pq) s := by
  cases x with
  | direct kk r => exact h.v X A s _ kvs G I xP (r.append (.of_dat ru)) rk
  | @bound q g self lv ga hf r =>
    refine wpAny_call (method_call ga (codeAny_mono (h X A s (self :: us) kvs G I xP ⟨self, us, rfl, r, .of_dat ru⟩ rk) fun r s' e => ?_))
    rcases r with _ | (_ | _ | _ | _) <;> first | exact e | exact e.elim
def MethV (c : Cx) (n : Nat) (lv : LV) (name : Str) (Q : Value → List LV → Prop) : Prop :=
  ∀ X A s v pl, Good n A → Inv c s → Xok c X s → LRep (fun _ => True) X s.heap lv v → Wp c A (getMethod v name pl) (fun fx s' => Inv c s' ∧ Stay (· = c.P) s.heap s'.heap ∧ ∃ as, Q fx.1 as ∧ Keeps c fx.1 ∧ LRepL X s'.heap as fx.2) s

/-- a method's call, as the model runs it -/
def Mc (o : Expr) (name : Str) (apos : Pos) (args : List Expr) (kws : List Keyword) (pos : Pos) : Prop := ∀ env, PySem.eval (.Call (.Attribute o name apos) args kws pos) env = (do
      let ov ← PySem.eval o env
      standAt apos.atName
      let (f, first) ← holding [ov] (getMethod ov name (do return (← importBound o env).getD true))
      callWith pos f first (backTo pos (starEach args env)) (backToKw pos (keywordEach kws env)))
theorem ev_meth (O : c.Ok) {o : Expr} {name : Str} {apos pos : Pos} {args : List Expr} {kws : List Keyword} (he : Mc o name apos args kws pos) (hs : noStar args = true) (hkw : (kwNames kws).isSome = true)
    (h : EvV c n fc ρ o (fun lv => Meth c n lv name (fun f as => EvL c n fc ρ args (fun ds => EvK c n fc ρ kws (fun ks => CallK c n f (as ++ ds.map .dat) ks Pq))))) : Ev c n fc ρ (.Call (.Attribute o name apos) args kws pos) Pq := fun W Xc X env A s G S => by
  refine methodCall_KW (pl := do return (← importBound o env).getD true) (Wp.mono (h W Xc X env A s G S) fun ov s₁ ⟨I, st, lv, p, r⟩ => ?_) (he env)
  have S₁ := S.keep I st
  refine Wp.mono (p X A s₁ ov _ G I S₁.xok r) fun fx s₂ ⟨I₂, st₂, f, as, q, way⟩ => ?_
  have S₂ := S₁.keep I₂ st₂
  obtain ⟨ns, hns⟩ := Option.isSome_iff_exists.mp hkw
  obtain ⟨k1, k2, k3⟩ := kw_all (env := env) (pos := pos) hns
  refine callWith_of (P := fun h => Way c X h fx.1 fx.2 f as ∧ c.K.In h) (by rw [plain_of hs, k2]; rfl) (fun h x => way_keeps x.1 _ x.2) (evalArgs_kwl hs k1 ?_)
  refine Wp.mono (q W Xc X env A s₂ pos G S₂) fun us s₃ ⟨I₃, st₃, ds, q', ru⟩ => ?_
  have S₃ := S₂.keep I₃ st₃
  refine Wp.mono (q'.2 W Xc X env A s₃ pos G S₃) fun kvs s₄ ⟨I₄, st₄, ks, q'', hk, rk⟩ => ?_
  have S₄ := S₃.keep I₄ st₄
  have xP := S.xc _ S.xP
  have way₄ : Way c X s₄.heap fx.1 fx.2 f as := (way.keep xP I₂.atP st₃).keep xP I₃.atP st₄
  refine ⟨⟨way₄, I₄.kin O⟩, ?_⟩
  rw [k3]
  rw [hns] at hk
  cases hk
  exact Wp.mono (way_callk way₄ G I₄ S₄.xok (ru.st xP st₄) rk q'') fun _ _ g => g.next (st.trans (st₂.trans (st₃.trans st₄)))
theorem ev_methv (O : c.Ok) {o : Expr} {name : Str} {apos pos : Pos} {args : List Expr} (he : Mc o name apos args [] pos) (hs : noStar args = true)
    (h : EvV c n fc ρ o (fun lv => MethV c n lv name (fun f as => EvL c n fc ρ args (fun ds => CallV c n f (as ++ ds.map .dat) [] Pq)))) : Ev c n fc ρ (.Call (.Attribute o name apos) args [] pos) Pq := fun W Xc X env A s G S => by
  refine methodCall_KW (pl := do return (← importBound o env).getD true) (Wp.mono (h W Xc X env A s G S) fun ov s₁ ⟨I, st, lv, p, r⟩ => ?_) (he env)
  have S₁ := S.keep I st
  refine Wp.mono (p X A s₁ ov _ G I S₁.xok r) fun fx s₂ ⟨I₂, st₂, as, q, kk, ra⟩ => ?_
  have S₂ := S₁.keep I₂ st₂
  show Wp c A (callWith pos fx.1 fx.2 (backTo pos (starEach args env)) []) _ s₂
  refine callWith_of (P := c.K.In) (by rw [plain_of hs]; rfl) (fun h x => kk _ h x) (evalArgs_of hs ?_)
  refine Wp.mono (q W Xc X env A s₂ pos G S₂) fun us s₃ ⟨I₃, st₃, ds, q', ru⟩ => ?_
  have S₃ := S₂.keep I₃ st₃
  refine ⟨I₃.kin O, ?_⟩
  exact Wp.mono (q' X A s₃ (fx.2 ++ us) [] G I₃ S₃.xok ((ra.keep (S.xc _ S.xP) I₂.atP st₃).append (.of_dat ru)) rfl) fun _ _ g => g.next (st.trans (st₂.trans st₃))
/-- a call of a name, with keywords -/
theorem ev_callk (O : c.Ok) {id : Str} {p pos : Pos} {args : List Expr} {kws : List Keyword} {f : Value} (hs : noStar args = true) (hk : Keeps c f) (hf : Ev c n fc ρ (.Name id p) (· = .raw f))
    (h : EvL c n fc ρ args (fun ds => EvK c n fc ρ kws (fun ks => CallK c n f (ds.map .dat) ks Pq))) (hkw : (kwNames kws).isSome = true) : Ev c n fc ρ (.Call (.Name id p) args kws pos) Pq := fun W Xc X env A s G S => by
  refine wpAny_Call_Name_kw (keywords := kws) (hf.use G S fun v s₁ d S₁ st e r => ?_)
  subst e
  have e : v = f := r
  subst e
  obtain ⟨ns, hns⟩ := Option.isSome_iff_exists.mp hkw
  obtain ⟨k1, k2, k3⟩ := kw_all (env := env) (pos := pos) hns
  refine callWith_of (P := c.K.In) (by rw [plain_of hs, k2]; rfl) (fun h K => hk _ h K) (evalArgs_kwl hs k1 ?_)
  refine Wp.mono (h W Xc X env A s₁ pos G S₁) fun us s₂ ⟨I₂, st₂, ds, q, ru⟩ => ?_
  have S₂ := S₁.keep I₂ st₂
  refine Wp.mono (q.2 W Xc X env A s₂ pos G S₂) fun kvs s₃ ⟨I₃, st₃, ks, q', hk, rk⟩ => ?_
  have S₃ := S₂.keep I₃ st₃
  refine ⟨I₃.kin O, ?_⟩
  rw [k3]
  rw [hns] at hk
  cases hk
  show Wp c A (call v ([] ++ us) _) _ s₃
  exact Wp.mono (q'.v X A s₃ us kvs G I₃ S₃.xok (.of_dat (ru.st (S.xc _ S.xP) st₃)) rk) fun _ _ g => g.next (st.trans (st₂.trans st₃))
end
end Mine
end
section
namespace Mine
open PySem PySem.W PySem.Calls PyProof.Rows Builtin Builtin.ObjectAttr

theorem RepF.looked {X : Addr → Prop} {h : Heap} {name : Str} : ∀ {fs : List (Str × D)} {es : List DictEntry}, RepF X h fs es →
    (∀ d, fs.lookup name = some d → ∃ v, getL name es = some (some v) ∧ Rep X h d v) ∧ (fs.lookup name = none → getL name es = some none ∧ es.any (·.key.isStr name) = false) ∧ es.any (·.refKey) = false
  | [], es, r => by
    have e : es = [] := r
    subst e
    exact ⟨fun d q => (by cases q), fun _ => ⟨rfl, rfl⟩, rfl⟩
  | (k, d) :: fs, es, r => by
    obtain ⟨e, es', t, rfl, hk, r1, r2⟩ := r
    obtain ⟨ih1, ih2, ih3⟩ := RepF.looked (name := name) r2
    have kk : e.key.isStr name = (k == name) := by rw [hk]; rfl
    have rk : e.refKey = false := by unfold DictEntry.refKey; rw [hk]
    have rkr : (e :: es').any (·.refKey) = false := by rw [List.any_cons, rk, ih3]; rfl
    refine ⟨fun d' q => ?_, fun q => ?_, rkr⟩
    · by_cases en : name = k
      · subst en
        rw [List.lookup_cons, beq_self_eq_true] at q
        cases q
        refine ⟨e.val, ?_, r1⟩
        unfold PySem.W.getL
        rw [List.find?_cons, kk, beq_self_eq_true]
      · rw [List.lookup_cons, beq_eq_false_iff_ne.mpr en] at q
        obtain ⟨v, hv, rv⟩ := ih1 d' q
        refine ⟨v, ?_, rv⟩
        unfold PySem.W.getL at hv ⊢
        rw [List.find?_cons, kk, beq_eq_false_iff_ne.mpr (Ne.symm en), rkr]
        rw [ih3] at hv
        exact hv
    · by_cases en : name = k
      · subst en
        rw [List.lookup_cons, beq_self_eq_true] at q
        cases q
      · rw [List.lookup_cons, beq_eq_false_iff_ne.mpr en] at q
        obtain ⟨h1, h2⟩ := ih2 q
        refine ⟨?_, by rw [List.any_cons, kk, beq_eq_false_iff_ne.mpr (Ne.symm en), h2]; rfl⟩
        unfold PySem.W.getL at h1 ⊢
        rw [List.find?_cons, kk, beq_eq_false_iff_ne.mpr (Ne.symm en), rkr]
        rw [ih3] at h1
        exact h1
theorem RepF.length {X : Addr → Prop} {h : Heap} : ∀ {fs : List (Str × D)} {es : List DictEntry}, RepF X h fs es → es.length = fs.length
  | [], es, r => by have e : es = [] := r; rw [e]; rfl
  | (k, d) :: fs, es, r => by
    obtain ⟨e, es', t, rfl, hk, r1, r2⟩ := r
    rw [List.length_cons, List.length_cons, RepF.length r2]
theorem RepF.snoc {X : Addr → Prop} {h : Heap} {name : Str} {hsh : Int} {t : Tok} {v : Value} {d : D} (rd : Rep X h d v) : ∀ {fs : List (Str × D)} {es : List DictEntry}, RepF X h fs es → es.any (·.key.isStr name) = false → RepF X h (fs ++ [(name, d)]) (putL name hsh (.str name t) v es)
  | [], es, r, _ => by
    have e : es = [] := r
    subst e
    exact ⟨_, [], t, rfl, rfl, rd, rfl⟩
  | (k, d') :: fs, es, r, hn => by
    obtain ⟨e, es', t', rfl, hk, r1, r2⟩ := r
    rw [List.any_cons, Bool.or_eq_false_iff] at hn
    refine ⟨e, putL name hsh (.str name t) v es', t', ?_, hk, r1, RepF.snoc rd r2 hn.2⟩
    rw [putL, hn.1]; rfl
def D.handed : D → Bool
  | .raw v => handedIn v
  | _ => true
theorem Rep.handed {X : Addr → Prop} {h : Heap} {d : D} {v : Value} (r : Rep X h d v) (hd : d.handed = true) : handedIn v = true := by
  cases d with
  | raw u => have e : v = u := r; subst e; exact hd
  | int i => obtain ⟨t, rfl⟩ := r; rfl
  | str i => obtain ⟨t, rfl⟩ := r; rfl
  | bytes i => obtain ⟨t, rfl⟩ := r; rfl
  | tup l => obtain ⟨a, vs, m, rfl, _⟩ := r; rfl
  | list l => obtain ⟨a, vs, m, rfl, _⟩ := r; rfl
  | inst C l => obtain ⟨a, _, vs, m, rfl, _⟩ := r; rfl
  | range a b => obtain ⟨a, _, vs, m, rfl, _⟩ := r; rfl
/-- an object's class and its fields, be it made or in the making -/
def LV.inst? : LV → Option (Addr × List (Str × D))
  | .dat (.inst C fs) => some (C, fs)
  | .self _ _ C fs => some (C, fs)
  | _ => none
theorem inst_at {W X : Addr → Prop} {h : Heap} {lv : LV} {C : Addr} {fs : List (Str × D)} {v : Value} (e : lv.inst? = some (C, fs)) (r : LRep W X h lv v) : ∃ a dd es m, v = .ref a ∧ InstAt h a (instObj C dd) C (some (dictOf es m)) ∧ RepF X h fs es := by
  cases lv with
  | dat d =>
    cases d with
    | inst C' fs' =>
      cases e
      obtain ⟨a, dd, es, m, rfl, _, _, g, g', rf⟩ := r
      exact ⟨a, dd, es, m, rfl, ⟨g, rfl, rfl, g'⟩, rf⟩
    | _ => cases e
  | self a dd C' fs' =>
    cases e
    obtain ⟨rfl, _, _, g, es, m, g', rf⟩ := r
    exact ⟨a, dd, es, m, rfl, ⟨g, rfl, rfl, g'⟩, rf⟩
  | own a l => cases e

/-- an attribute that no class keeps a taker for -/
def attrIn (K : Frag) (C : Addr) (name : Str) : Bool := plainGet K C name && hasDictIn K C && (match findIn K (.ref C) name with | some attr => noGet K attr | none => false)
def methIn (K : Frag) (C : Addr) (name : Str) (f : Addr) : Bool := plainGet K C name && findIn K (.ref C) name == some (some (.ref f)) && isFn K (.ref f) && keepIn K (.ref f)
def cmOn (K : Frag) (p : Addr) (g : Addr) : Bool := (match recIn K p "classmethod" with | some (v :: _) => v == .ref g | _ => false) && fnIn K g
/-- a classmethod, asked of its class -/
def cmIn (K : Frag) (C : Addr) (name : Str) (g : Addr) : Bool := specialIn K (.ref C) "__getattribute__" == some (some (.builtin "type.__getattribute__")) &&
  (match typeIn K (.ref C) with
   | some mc => readsIn K C mc && (match findCls K (.ref C) mc name with | some (.get gg (.ref p) o t) => gg == .builtin "classmethod.__get__" && o == .none && t == .ref C && cmOn K p g | _ => false)
   | none => false)
/-- a classmethod, asked of an object -/
def cmAt (K : Frag) (C : Addr) (name : Str) (g : Addr) : Bool := plainGet K C name && hasDictIn K C && !copiedNames.contains name &&
  (match findIn K (.ref C) name with
   | some (some (.ref p)) => cmOn K p g && ((typeIn K (.ref p)).any fun t => t != .type "function" && t != .type "method_descriptor" && t != .type "wrapper_descriptor") && specialIn K (.ref p) "__get__" == some (some (.builtin "classmethod.__get__")) && takesIn K (.ref p) == some false
   | _ => false)

section
variable {c : Cx} {n : Nat} {fc : FC} {ρ : Rho} {R : Out → Prop} {Pq : D → Prop} {Pb : Bool → Prop}

def Attr (c : Cx) (n : Nat) (lv : LV) (name : Str) (Pq : D → Prop) : Prop :=
  ∀ X A s v, Good n A → Inv c s → Xok c X s → LRep (fun _ => True) X s.heap lv v → Wp c A (getAttr v name true) (Got c X s Pq) s
theorem ev_attr {value : Expr} {attr : Str} {pos : Pos} (hb : ∀ env, attributeBase value attr env (PySem.eval value env) = PySem.eval value env) (h : EvV c n fc ρ value (fun lv => Attr c n lv attr Pq)) : Ev c n fc ρ (.Attribute value attr pos) Pq := fun W Xc X env A s G S => by
  rw [arm_eval_Attribute, hb]
  refine wpAny_bind (Wp.mono (h W Xc X env A s G S) fun o s₁ ⟨I, st, lv, p, r⟩ => ?_)
  refine wpAny_bind (wpAny_standAt (wpAny_bind (wpAny_holding (Wp.mono (p X A s₁ o G I (S.xok.st I st) r) fun v s₂ g => ?_))))
  exact wpAny_bind (wpAny_letTemporaryGo (wpAny_pure (g.next st)))
theorem attr_inst (O : c.Ok) {lv : LV} {C : Addr} {fs : List (Str × D)} {name : Str} {d : D} (e : lv.inst? = some (C, fs)) (hk : attrIn c.K C name = true) (l : fs.lookup name = some d) (hd : d.handed = true) (h : Pq d) : Attr c n lv name Pq := fun X A s v G I xP r => by
  obtain ⟨a, dd, es, m, rfl, at_, rf⟩ := inst_at e r
  unfold attrIn at hk
  rw [Bool.and_eq_true, Bool.and_eq_true] at hk
  obtain ⟨⟨h1, h2⟩, h3⟩ := hk
  obtain ⟨v, gl, rd⟩ := rf.looked.1 d l
  split at h3
  · rename_i attr ha
    exact get_value (I.kin O) at_ (plainGet_of h1).1 (findObj_own h2 ha h3 gl) (rd.handed hd) (got_tok I h rd)
  · cases h3
theorem meth_inst (O : c.Ok) {lv : LV} {C : Addr} {fs : List (Str × D)} {name : Str} {f : Addr} {Q : Value → List LV → Prop} (e : lv.inst? = some (C, fs)) (hk : methIn c.K C name f = true) (l : fs.lookup name = none) (h : Q (.ref f) [lv]) : Meth c n lv name Q := fun X A s v pl G I xP r => by
  obtain ⟨a, dd, es, m, rfl, at_, rf⟩ := inst_at e r
  unfold methIn at hk
  simp only [Bool.and_eq_true, beq_iff_eq] at hk
  obtain ⟨⟨⟨h1, h2⟩, h3⟩, h4⟩ := hk
  exact method_fn (I.kin O) at_ (plainGet_of h1).1 (plainGet_of h1).2 h2 (beq_iff_eq.mp h3) (by show (lookIn name (dictOf es m)).map _ = _; rw [lookIn_dict, (rf.looked.2.1 l).1]; rfl) ⟨I, Stay.refl _ _, _, _, h, .direct (keeps_ref h4) ⟨_, [], rfl, r, rfl⟩⟩
theorem cm_on {K : Frag} {p g : Addr} (h : cmOn K p g = true) : (∃ rest, recIn K p "classmethod" = some (.ref g :: rest)) ∧ fnIn K g = true := by
  unfold cmOn at h
  rw [Bool.and_eq_true] at h
  obtain ⟨h1, h2⟩ := h
  split at h1
  · rename_i v rest e
    rw [beq_iff_eq] at h1
    exact ⟨⟨rest, by rw [e, h1]⟩, h2⟩
  · cases h1
theorem meth_cls (O : c.Ok) {C g : Addr} {name : Str} {Q : Value → List LV → Prop} (hk : cmIn c.K C name g = true) (h : Q (.ref g) [.dat (.raw (.ref C))]) : Meth c n (.dat (.raw (.ref C))) name Q := fun X A s v pl G I xP r => by
  have e : v = .ref C := r
  subst e
  unfold cmIn at hk
  rw [Bool.and_eq_true, beq_iff_eq] at hk
  obtain ⟨h1, h2⟩ := hk
  split at h2
  · rename_i mc hm
    rw [Bool.and_eq_true] at h2
    obtain ⟨h2, h3⟩ := h2
    split at h3
    · rename_i gg p o t hf
      simp only [Bool.and_eq_true, beq_iff_eq] at h3
      obtain ⟨⟨⟨rfl, rfl⟩, rfl⟩, h4⟩ := h3
      obtain ⟨⟨rest, h5⟩, h6⟩ := cm_on h4
      refine method_cls (I.kin O) h1 (cls_bind (I.kin O) h2 hf (wpAny_call (cm_get (s := { s with toks := s.toks + 1 }) ((I.toks (s.toks + 1)).kin O) h5 (handed_on rfl ?_))))
      exact ⟨I.push, stay_push, _, _, h, .bound (Heap.get?_push_size _ rfl) h6 rfl⟩
    · cases h3
  · cases h2
theorem meth_cm (O : c.Ok) {lv : LV} {C g : Addr} {fs : List (Str × D)} {name : Str} {Q : Value → List LV → Prop} (e : lv.inst? = some (C, fs)) (hk : cmAt c.K C name g = true) (l : fs.lookup name = none) (h : Q (.ref g) [.dat (.raw (.ref C))]) : Meth c n lv name Q := fun X A s v pl G I xP r => by
  obtain ⟨a, dd, es, m, rfl, at_, rf⟩ := inst_at e r
  unfold cmAt at hk
  simp only [Bool.and_eq_true, Bool.not_eq_true'] at hk
  obtain ⟨⟨⟨h1, h2⟩, hc⟩, h3⟩ := hk
  split at h3
  · rename_i p ha
    simp only [Bool.and_eq_true, beq_iff_eq] at h3
    obtain ⟨⟨⟨h4, h5⟩, h6⟩, h7⟩ := h3
    obtain ⟨⟨rest, h8⟩, h9⟩ := cm_on h4
    obtain ⟨cd, hcd, hd⟩ := any_some h2
    have hl : lookIn name (dictOf es m) = some none := (rf.looked.2.1 l).1
    have ho : W.ownOf cd (some (dictOf es m)) name = some none := by unfold W.ownOf; rw [if_pos hd]; exact hl
    have hf : findObj c.K C (some (dictOf es m)) name = some (.bind (.builtin "classmethod.__get__") (.ref p)) := by
      unfold findObj
      rw [hcd, Option.bind_some, ha, Option.bind_some]
      simp only [h6, h7, Option.bind_some, ho, hc, Bool.false_and, Bool.false_eq_true, if_false]
    refine method_usual (I.kin O) at_ (plainGet_of h1).1 (plainGet_of h1).2 ha h5 (get_bind (I.kin O) at_ (plainGet_of h1).1 hf (plainGet_of h1).2 (wpAny_call (cm_get (s := { s with toks := s.toks + 1 }) ((I.toks (s.toks + 1)).kin O) h8 (handed_on rfl ?_))))
    exact ⟨I.push, stay_push, _, _, h, .bound (Heap.get?_push_size _ rfl) h9 rfl⟩
  · cases h3
end
end Mine
end
section
namespace Mine
open PySem PySem.W PySem.Calls PyProof.Rows Builtin Builtin.ObjectAttr

/-- a store in the object's own dict -/
def setIn (K : Frag) (C : Addr) (name : Str) : Bool := findIn K (.ref C) "__setattr__" == some (some (.builtin "object.__setattr__")) && plainOver K C && takerIn K C name == some none && hasDictIn K C
theorem osa_field {prog : Program} {w : World} {A : Around} {s : Shared} {K : Frag} {x C dx : Addr} {name : Str} {tk : Tok} {v : Value} {es : List DictEntry} {n : Nat} {R : Result → Shared → Prop} (X : K.In s.heap) (I : InstAt s.heap x (instObj C dx) C (some (dictOf es n)))
    (hp : plainOver K C = true) (ht : takerIn K C name = some none) (hh : hasDictIn K C = true) (hl : getL name es = some none) (hr : es.any (·.refKey) = false) (hz : (putL name (PyData.keyHash w.params name) (.str name s.toks) v es).length ≤ 1000)
    (h : ∀ h', Heap.SameBut dx s.heap h' → h'.get? dx = some (dictOf (putL name (PyData.keyHash w.params name) (.str name s.toks) v es) (putN name es n)) → R (.ok (.ret .none)) { s with heap := h', toks := s.toks + 1 }) :
    codeAny (model prog w) A (.call (.builtin "object.__setattr__") ⟨[.ref x, .str name tk, v], []⟩) R s := by
  refine osa_open X I hp ht fun b => ?_
  obtain ⟨cd, hc, hd'⟩ := any_some hh
  obtain ⟨hx, hcl, hn, D⟩ := I
  have D : s.heap.get? dx = some (dictOf es n) := D
  have D' : (s.heap.update dx (Obj.putName name (PyData.keyHash w.params name) (.str name s.toks) v)).get? dx = some (dictOf (putL name (PyData.keyHash w.params name) (.str name s.toks) v es) (putN name es n)) := by
    have := Heap.get?_update_self (Obj.putName name (PyData.keyHash w.params name) (.str name s.toks) v) D (by rw [putName_dict]; rfl)
    rw [putName_dict] at this
    exact this
  refine wpAny_bind (wpAny_pure (wpAny_bind (wpAny_bind (wpAny_loadPart hx (wpAny_bind ((looks_clsIn X hc).here ?_))))))
  rw [hd']
  refine wpAny_pure (a := some dx) (wpAny_bind (wpAny_pure (wpAny_bind ?_)))
  unfold nsSet
  refine wpAny_bind (wpAny_bind (wpAny_askSetting (wpAny_pure (wpAny_bind (wpAny_mkText (wpAny_bind (wpAny_loadPart D ?_)))))))
  have c : (!es.toArray.any (·.key.isStr name) && es.toArray.any (·.refKey)) = false := by
    rw [← Array.any_toList, ← Array.any_toList, show es.toArray.toList = es from rfl, hr, Bool.and_false]
  rw [show (dictOf es n).data = .dict es.toArray n from rfl]
  dsimp only
  rw [aRefKeyMayBeTheName_at, c]
  refine wpAny_updatePart D ?_
  refine wpAny_bind (wpAny_lookBehind D' (pastItsLine_dict (by rw [List.size_toArray, sizeLine_eq]; omega)) ?_)
  exact wpAny_pure (h _ (Heap.SameBut.update ..) D')
section
variable {c : Cx} {n : Nat} {fc : FC} {ρ : Rho} {R : Out → Prop} {Pq : D → Prop} {Pb : Bool → Prop}

theorem set_field {A : Around} {s : Shared} {X : Addr → Prop} {a dd C : Addr} {es : List DictEntry} {m : Nat} {name : Str} {v : Value} {fs : List (Str × D)} {Q : Unit → Shared → Prop} (K : c.K.In s.heap) (at_ : InstAt s.heap a (instObj C dd) C (some (dictOf es m))) (hk : setIn c.K C name = true)
    (rf : RepF X s.heap fs es) (l : fs.lookup name = none) (hz : fs.length ≤ 900)
    (h : ∀ h' hsh t m' tk, Heap.SameBut dd s.heap h' → h'.get? dd = some (dictOf (putL name hsh (.str name t) v es) m') → Q () { s with heap := h', toks := tk }) : Wp c A (setAttr (.ref a) name v) Q s := by
  unfold setIn at hk
  simp only [Bool.and_eq_true, beq_iff_eq] at hk
  obtain ⟨⟨⟨hs, hp⟩, ht⟩, hh⟩ := hk
  have len : ∀ (hsh : Int) (key : Value) (es : List DictEntry), (putL name hsh key v es).length ≤ es.length + 1 := by
    intro hsh key es
    induction es with
    | nil => exact Nat.le_refl _
    | cons e r ih =>
      unfold putL
      split
      · simp
      · simp only [List.length_cons]; omega
  refine set_plain K at_ hs (osa_field (s := { s with toks := s.toks + 1 }) K at_ hp ht hh (rf.looked.2.1 l).1 (rf.looked (name := name)).2.2 (Nat.le_trans (len _ _ _) (by have := rf.length; omega)) fun h' hsb g => ?_)
  exact h h' _ _ _ _ hsb g

theorem Sat.turnSelf {W Xc X : Addr → Prop} {env : Env} {s : Shared} {h' : Heap} {i : Nat} {x : Str} {k : NameKind} {a dd C : Addr} {fs fs' : List (Str × D)} {es' : List DictEntry} {m' t : Nat} (S : Sat c W Xc X fc env ρ s) (hi : fc.ini = true) (e : fc.scope.names[i]? = some (x, k)) (r : ρ[i]? = some (some (.self a dd C fs)))
    (hu : ∀ (j : Nat) (b d' C' : Addr) (gs : List (Str × D)), j ≠ i → ρ[j]? ≠ some (some (LV.self b d' C' gs)))
    (hs : Heap.SameBut dd s.heap h') (ga : h'.get? dd = some (dictOf es' m')) (rf' : RepF X h' fs' es') : Sat c W Xc X fc env (ρ.set i (some (.self a dd C fs'))) { s with heap := h', toks := t } := by
  obtain ⟨mm, ⟨oL, es, ep, ho, hd, r0⟩, B⟩ := S.ns
  obtain ⟨kk₀, v₀, ⟨ev₀, xa, xd, g₀, es₀, m₀, g₀', rf₀⟩, bl, bc⟩ := B i x k _ e r
  have il : i < ρ.length := (List.getElem?_eq_some_iff.mp r).1
  have wd := S.selfW hi i a dd C fs r
  have st : Stay (· = dd) s.heap h' := fun b o nb g => (hs.2 b nb).trans g
  have nL : dd ≠ env.locals := self_apart S.apart r
  have notD : ∀ {b o}, s.heap.get? b = some o → (∀ es n, o.data ≠ .dict es n) → b ≠ dd := by
    intro b o g ne q
    rw [q, g₀'] at g
    cases g
    exact ne _ _ rfl
  have get_set : ∀ {j : Nat} {lv' : LV}, j ≠ i → (ρ.set i (some (.self a dd C fs')))[j]? = some (some lv') → ρ[j]? = some (some lv') := fun ne h => by rwa [List.getElem?_set_ne (Ne.symm ne)] at h
  refine ⟨S.inv.turn (S.base _ wd) hs, S.ev, S.fok, S.xP, S.xc, xex_turn st ⟨_, ga⟩ S.xex, S.xlo, S.wx, S.wL, S.base, ⟨mm, ⟨oL, es, ep, st _ _ (Ne.symm nL) ho, hd, r0⟩, fun j y ky lv h1 h2 => ?_⟩, fun y b hb => ?_, S.celled, S.capart, S.cellN, fun j b l'' h => ?_, ?_, fun f j b d' C' fs'' h => ?_⟩
  · by_cases ne : j = i
    · subst ne
      rw [List.getElem?_set_self il] at h2
      cases h2
      rw [e] at h1
      cases h1
      refine ⟨kk₀, v₀, ⟨ev₀, xa, xd, st _ _ (notD g₀ fun _ _ w => by cases w) g₀, es', m', ga, rf'⟩, bl, fun z => ?_⟩
      obtain ⟨b, q1, q2, o, g, gd⟩ := bc z
      exact ⟨b, q1, q2, o, st b o (notD g fun _ _ w => by rw [gd] at w; cases w) g, gd⟩
    · have h2' := get_set ne h2
      obtain ⟨kk, u, lr, b1, b2⟩ := B j y ky lv h1 h2'
      refine ⟨kk, u, LRep.turn xd st (fun b l z => ?_) (fun b d' C' fs'' z => ?_) lr, b1, fun z => ?_⟩
      · subst z; obtain ⟨_, _, _, vs, n, g, _⟩ := lr; exact notD g fun _ _ z => by cases z
      · subst z; exact absurd h2' (hu j b d' C' fs'' ne)
      · obtain ⟨b, q1, q2, o, g, gd⟩ := b2 z
        exact ⟨b, q1, q2, o, st b o (notD g fun _ _ w => by rw [gd] at w; cases w) g, gd⟩
  · obtain ⟨q1, u, o, g, gd⟩ := S.cells y b hb
    exact ⟨q1, u, o, st b o (notD g fun _ _ w => by rw [gd] at w; cases w) g, gd⟩
  · by_cases ne : j = i
    · subst ne
      rw [List.getElem?_set_self il] at h
      cases h
    · exact S.owns j b l'' (get_set ne h)
  · exact apart_set S.apart (fun _ _ _ _ z => by cases z; exact nL) fun _ _ z => by cases z
  · by_cases ne : j = i
    · subst ne
      rw [List.getElem?_set_self il] at h
      cases h
      exact wd
    · exact S.selfW f j b d' C' fs'' (get_set ne h)

def oneSelf (i : Nat) : Rho → Bool
  | [] => true
  | x :: r => match i, x with
    | 0, _ => noSelf r
    | _ + 1, some (.self _ _ _ _) => false
    | i + 1, _ => oneSelf i r
theorem oneSelf_no : ∀ {ρ : Rho} {i : Nat}, oneSelf i ρ = true → ∀ (j : Nat) (b d' C' : Addr) (gs : List (Str × D)), j ≠ i → ρ[j]? ≠ some (some (LV.self b d' C' gs))
  | [], _, _, j, _, _, _, _, _ => by simp
  | x :: r, 0, h, 0, _, _, _, _, ne => absurd rfl ne
  | x :: r, 0, h, j + 1, _, _, _, _, _ => by simpa using noSelf_no (ρ := r) h
  | some (.self _ _ _ _) :: r, i + 1, h, _, _, _, _, _, _ => by cases h
  | none :: r, i + 1, h, 0, _, _, _, _, _ => by simp
  | some (.dat _) :: r, i + 1, h, 0, _, _, _, _, _ => by simp
  | some (.own _ _) :: r, i + 1, h, 0, _, _, _, _, _ => by simp
  | none :: r, i + 1, h, j + 1, _, _, _, _, ne => by simpa using oneSelf_no (ρ := r) (i := i) h j _ _ _ _ fun e => ne (congrArg (· + 1) e)
  | some (.dat _) :: r, i + 1, h, j + 1, _, _, _, _, ne => by simpa using oneSelf_no (ρ := r) (i := i) h j _ _ _ _ fun e => ne (congrArg (· + 1) e)
  | some (.own _ _) :: r, i + 1, h, j + 1, _, _, _, _, ne => by simpa using oneSelf_no (ρ := r) (i := i) h j _ _ _ _ fun e => ne (congrArg (· + 1) e)

/-- self.name = value -/
theorem ex_setattr (O : c.Ok) {x : Str} {k : NameKind} {p ap pos : Pos} {name : Str} {value : Expr} (i : Nat) {a dd C : Addr} {fs : List (Str × D)} (hi : fc.ini = true) (e : fc.scope.names[i]? = some (x, k)) (r : ρ[i]? = some (some (.self a dd C fs))) (h1 : oneSelf i ρ = true) (hd : (x == ("__debug__" : Str)) = false)
    (hs : ∀ env, swapsWith value (some (.Attribute (.Name x p) name ap)) pos.line env = pure false) (hk : setIn c.K C name = true) (l : fs.lookup name = none) (hz : fs.length ≤ 900)
    (h : Ev c n fc ρ value (fun d => R (.next (ρ.set i (some (.self a dd C (fs ++ [(name, d)]))))))) : Ex1 c n fc ρ (.Assign [.Attribute (.Name x p) name ap] value pos) R := fun W Xc X env A s G S => by
  refine plainObj_wpAny_Assign_Attribute (h.use G S fun v s₁ d S₁ st pd rd => wpAny_Name (S₁.load e r fun u lr => ?_) hd) (hs env)
  obtain ⟨rfl, xa, xd, g, es, m, g', rf⟩ := lr
  have wd := S₁.selfW hi i a dd C fs r
  refine set_field (S₁.inv.kin O) ⟨g, rfl, rfl, g'⟩ hk rf l hz fun h' hsh t m' tk hsb ga => ?_
  have kX : Stay X s₁.heap h' := fun b o nb q => (hsb.2 b (fun z => nb (z ▸ xd))).trans q
  have S₂ : Sat c W Xc X fc env (ρ.set i (some (.self a dd C (fs ++ [(name, d)])))) { s₁ with heap := h', toks := tk } :=
    S₁.turnSelf hi e r (oneSelf_no h1) hsb ga ((rf.snoc rd (rf.looked.2.1 l).2).stay kX)
  exact ⟨fun b o nz q => (hsb.2 b (fun z => nz (.inl (z ▸ wd)))).trans (st b o (fun z => nz (.inr z)) q), _, pd, rfl, W, X, Grow.refl _ _ _, S₂⟩
end
end Mine
end
section
namespace Mine
open PySem PySem.W PySem.Calls PyProof.Rows Builtin Builtin.ObjectAttr

section
variable {c : Cx} {n : Nat} {fc : FC} {ρ : Rho} {R : Out → Prop} {Pq : D → Prop} {Pb : Bool → Prop}

/-- how a maker's body ends: the new object's fields -/
def Made (i : Nat) (Pq : D → Prop) (C a dd : Addr) (o : Out) : Prop := match o with
  | .next ρ => ∃ fs, ρ[i]? = some (some (LV.self a dd C fs)) ∧ Pq (.inst C fs)
  | _ => False
theorem Good.typeCall {A : Around} {C : Addr} {vals : List Value} {kw : List (Str × Value)} (G : Good (n + 1) A) : Good n (A.under (.builtin "type.__call__" ⟨.ref C :: vals, kw⟩)) := by
  refine ⟨?_, ?_, ?_⟩
  · have := G.1
    simp only [Around.under]
    exact this
  · have := G.2.1; rw [depth_under_kw]; omega
  · have e : (A.under (.builtin "type.__call__" ⟨.ref C :: vals, kw⟩)).units = A.units + 1 := by first | rfl | kernel_rfl
    have := G.2.2; rw [e]; omega
theorem call_make (O : c.Ok) {C f : Addr} {name qual : Str} {params : Arguments} {body : List Stmt} {scope : Scope} {dV kV doc pm cdv ct oc : Value} {an od : Option Addr} {osl : Array (Option Value)} {as : List D} {ks : List (Str × D)}
    (hm : makesIn c.K C = true) (hi : findIn c.K (.ref C) "__init__" = some (some (.ref f))) (hfn : typeIn c.K (.ref f) = some (.type "function"))
    (hf : c.K.lookup f = some ⟨oc, od, .func (fnOf name qual params body scope dV kV doc pm an cdv ct), osl⟩) (hcode : codeIn c.K cdv qual = true) (hsc : (!scope.isCoroutine && !scope.isGenerator && FC.ok ⟨scope, cdv, qual ++ ".<locals>.", fun _ => true, true⟩) = true)
    (x0 : Str) (k0 : NameKind) (h0 : scope.names[0]? = some (x0, k0)) (ρ : Rho) (hno : noOwn ρ = true) (hns : noSelf ρ = true)
    (hb : ∀ X s a dd vs kvs, Inv c s → LRepL X s.heap (.self a dd C [] :: as.map .dat) (.ref a :: vs) → RepL X s.heap (ks.map (·.2)) kvs → ∃ binds, BindsTo s (fnOf name qual params body scope dV kV doc pm an cdv ct) ⟨.ref a :: vs, (ks.map (·.1)).zip kvs⟩ binds ∧
      (binds.all fun y => scope.names.lookup y.1 == some .local || scope.names.lookup y.1 == some .cell) = true ∧ RhoOk X s.heap binds scope.names (some (.self a dd C []) :: ρ))
    (h : ∀ a dd, Ex c n ⟨scope, cdv, qual ++ ".<locals>.", fun _ => true, true⟩ (some (.self a dd C []) :: ρ) body (Made 0 Pq C a dd)) : CallK c (n + 2) (.ref C) (as.map .dat) ks Pq := by
  intro X A s vs kvs G I xP ra rk
  obtain ⟨hh, g, d, t, os⟩ := s
  have K := I.kin O
  have big := I.big
  refine make_core (makes_of K hm) (looks_findIn K hi) (fun self => bind_fn K self hfn) (.inl rfl) ?_
  have I₁ : Inv c ⟨(hh.push emptyDict).push (instObj C hh.objs.size), g, d, t, os⟩ := (I.push (o := emptyDict) (t := t)).push (o := instObj C hh.objs.size) (t := t)
  have k₁ : ∀ Z : Addr → Prop, Stay Z hh ((hh.push emptyDict).push (instObj C hh.objs.size)) := fun Z => stay_push.trans stay_push
  have gd : ((hh.push emptyDict).push (instObj C hh.objs.size)).get? hh.objs.size = some emptyDict := Heap.get?_push_of_some _ (Heap.get?_push_size _ rfl)
  have ga : ((hh.push emptyDict).push (instObj C hh.objs.size)).get? (hh.objs.size + 1) = some (instObj C hh.objs.size) := by
    have q := Heap.get?_push_size (hh.push emptyDict) (o := instObj C hh.objs.size) rfl
    rw [Heap.size_push] at q
    exact q
  have sh : ∀ a, (X a ∨ a = hh.objs.size ∨ a = hh.objs.size + 1) → X a ∨ hh.get? a = none := fun a q => q.imp id fun q => q.elim (fun e => by rw [e]; exact gone_of (Nat.le_refl _)) fun e => by rw [e]; exact gone_of (Nat.le_succ _)
  have ra' : LRepL (fun a => X a ∨ a = hh.objs.size ∨ a = hh.objs.size + 1) ((hh.push emptyDict).push (instObj C hh.objs.size)) (.self (hh.objs.size + 1) hh.objs.size C [] :: as.map .dat) (.ref (hh.objs.size + 1) :: vs) := by
    refine ⟨_, vs, rfl, ⟨rfl, .inr (.inr rfl), .inr (.inl rfl), ga, [], 0, gd, rfl⟩, ?_⟩
    clear rk h hb
    have go : ∀ {as : List D} {vs : List Value}, LRepL X hh (as.map .dat) vs → LRepL (fun a => X a ∨ a = hh.objs.size ∨ a = hh.objs.size + 1) ((hh.push emptyDict).push (instObj C hh.objs.size)) (as.map .dat) vs := by
      intro as
      induction as with
      | nil => exact fun r => r
      | cons d ds ih =>
        intro vs r
        obtain ⟨v, us, q, r1, r2⟩ := r
        exact ⟨v, us, q, (Rep.shun sh r1).stay (k₁ _), ih r2⟩
    exact go ra
  have rk' : RepL (fun a => X a ∨ a = hh.objs.size ∨ a = hh.objs.size + 1) ((hh.push emptyDict).push (instObj C hh.objs.size)) (ks.map (·.2)) kvs := (RepL.shun sh rk).stay (k₁ _)
  obtain ⟨binds, b1, b2, b3⟩ := hb _ _ _ _ vs kvs I₁ ra' rk'
  have xP' : (X c.P ∨ c.P = hh.objs.size ∨ c.P = hh.objs.size + 1) ∧ (∀ a, (X a ∨ a = hh.objs.size ∨ a = hh.objs.size + 1) → ∃ o, ((hh.push emptyDict).push (instObj C hh.objs.size)).get? a = some o) ∧ (∀ a, (X a ∨ a = hh.objs.size ∨ a = hh.objs.size + 1) → a = c.P ∨ c.h₁.objs.size ≤ a) := by
    refine ⟨.inl xP.P, ?_, ?_⟩
    · rintro a (q | q | q)
      · obtain ⟨o, e⟩ := xP.ex a q; exact ⟨o, k₁ (fun _ => False) a o id e⟩
      · rw [q]; exact ⟨_, gd⟩
      · rw [q]; exact ⟨_, ga⟩
    · rintro a (q | q | q)
      · exact xP.lo a q
      · exact .inr (q ▸ big)
      · exact .inr (q ▸ Nat.le_succ_of_le big)
  refine codeAny_mono (run_def (n := n) (W₀ := fun a => a = hh.objs.size) (ini := true) (ρ := some (.self (hh.objs.size + 1) hh.objs.size C []) :: ρ) (Q := fun v s' => v = .none ∧ RetPost (Got c X ⟨hh, g, d, t, os⟩ Pq) (.ok (.ret (.ref (hh.objs.size + 1)))) s') O hf hcode hsc G.typeCall I₁ xP'.1 xP'.2.1 xP'.2.2 (fun a q => ⟨.inr (.inl q), q ▸ big⟩) b1 b2 b3 hno (fun _ i a dd C' fs e => ?_) fun W Xc X' env A' s₁ eX eW G' S k _ => ?_) fun r s' e => ?_
  · cases i with
    | zero => cases e; rfl
    | succ i => exact absurd (by simpa using e) (noSelf_no (i := i) hns)
  · subst eX
    refine Wp.mono (h _ _ W _ X' env A' s₁ G' S) fun fl s' ⟨lw, o, made, e⟩ => ?_
    cases o with
    | next ρ' =>
      obtain ⟨fs, e', p⟩ := made
      obtain ⟨rfl, W', X'', gr, S'⟩ := e
      refine ⟨rfl, S'.inv, ?_, _, p, ?_⟩
      · intro b o nb q
        refine lw b o (fun z => z.elim (fun z => ?_) nb) (k b o (k₁ (fun _ => False) b o id q))
        rcases eW b z with y | y
        · rw [y, gone_of (Nat.le_refl _)] at q; cases q
        · rw [k₁ (fun _ => False) b o id q] at y; cases y
      · obtain ⟨m, hn, B⟩ := S'.ns
        obtain ⟨_, v, ⟨rfl, x1, x2, ga', es, m', gd', rf⟩, _⟩ := B 0 x0 k0 _ h0 e'
        refine ⟨hh.objs.size + 1, hh.objs.size, es, m', rfl, fun q => xP.new (Nat.le_succ _) q, fun q => xP.new (Nat.le_refl _) q, ga', gd', rf.anti fun a q => S'.xc a (.inl q)⟩
    | brk _ => exact made.elim
    | cont _ => exact made.elim
    | ret _ => exact made.elim
  · rcases r with _ | (_ | _ | _ | _) <;> first | exact e | exact e.elim
end
end Mine
end
section
namespace Mine
open PySem PySem.W PySem.Calls PyProof.Rows Builtin Builtin.ObjectAttr

section
variable {c : Cx} {n : Nat} {fc : FC} {ρ : Rho} {R : Out → Prop} {Pq : D → Prop} {Pb : Bool → Prop}

/-! texts' methods -/
theorem ms {x : Str} {name : Str} {id : String} {Q : Value → List LV → Prop} (hm : ∀ (M : Model) (A : Around) (E : Value → Shared → Prop) (s : Shared) (t : Tok) (pl : Sem Bool) (P : Value × List Value → Shared → Prop), P (.builtin id, [.str x t]) s → wpAny M A (getMethod (.str x t) name pl) P E s)
    (h : Q (.builtin id) [.dat (.str x)]) : MethV c n (.dat (.str x)) name Q := fun X A s v pl G I xP r => by
  obtain ⟨t, rfl⟩ := r
  exact hm _ _ _ _ _ _ _ ⟨I, Stay.refl _ _, _, h, keeps_builtin, _, [], rfl, ⟨t, rfl⟩, rfl⟩
theorem m_isdigit {x : Str} {Q : Value → List LV → Prop} (h : Q (.builtin "str.isdigit") [.dat (.str x)]) : MethV c n (.dat (.str x)) "isdigit" Q := ms (fun _ _ _ _ _ _ _ q => GM.isdigit q) h
theorem m_split {x : Str} {Q : Value → List LV → Prop} (h : Q (.builtin "str.split") [.dat (.str x)]) : MethV c n (.dat (.str x)) "split" Q := ms (fun _ _ _ _ _ _ _ q => GM.split q) h
theorem m_join {x : Str} {Q : Value → List LV → Prop} (h : Q (.builtin "str.join") [.dat (.str x)]) : MethV c n (.dat (.str x)) "join" Q := ms (fun _ _ _ _ _ _ _ q => GM.join q) h
theorem type_encode : typeOf (.builtin "str.encode") = pure (.type "method_descriptor") := PySem.F.type_str_encode
theorem m_encode {x : Str} {Q : Value → List LV → Prop} (h : Q (.builtin "str.encode") [.dat (.str x)]) : MethV c n (.dat (.str x)) "encode" Q :=
  ms (fun _ _ _ _ t _ _ q => by with_reducible exact GM.of (.str x t) (typeIs_str _ _ _) PySem.F.slot_str_encode PySem.F.type_str_encode GM.noRef q) h
theorem c_isdigit {x : Str} (h : Pq (.raw (.bool (Txt.isdigit x)))) : CallV c n (.builtin "str.isdigit") [.dat (.str x)] [] Pq := cv1 fun X A s v G I xP r => by
  obtain ⟨t, rfl⟩ := r
  exact SC.isdigit (got_now I h rfl)
/-- a step that keeps all there was -/
theorem Inv.grow {X : Addr → Prop} {s : Shared} {h' : Heap} {t : Nat} (I : Inv c s) (xP : Xok c X s) (k : ∀ b o, s.heap.get? b = some o → h'.get? b = some o) : Inv c { s with heap := h', toks := t } := by
  obtain ⟨a, xa, la⟩ := xP.top
  obtain ⟨o, g⟩ := xP.ex a xa
  have big : c.h₁.objs.size ≤ h'.objs.size := Nat.le_of_lt (Nat.lt_of_le_of_lt la (Heap.lt_size (k a o g)))
  refine ⟨I.stay.trans fun b o _ e => k b o e, I.old.step_keeps k, ?_, I.os, I.gens, I.lo, big⟩
  obtain ⟨ps, a, b⟩ := I.tab
  exact ⟨ps, a.keeps k, b.keeps k⟩
theorem strs_from {X : Addr → Prop} {h : Heap} : ∀ (l : List Str) (t : Nat), RepL X h (l.map .str) (strsFrom t l)
  | [], _ => rfl
  | x :: l, t => ⟨_, _, rfl, ⟨t, rfl⟩, strs_from l (t + 1)⟩
theorem c_split {x y : Str} (hy : (y.length == 0) = false) (hx : x.length ≤ sizeLine) (hz : (Builtin.Str.partsBetween x (Builtin.Str.occurrences x y 0 x.length (x.length + 1)) y.length).length ≤ sizeLine) (h : Pq (.list ((Txt.split x y).map .str))) :
    CallV c n (.builtin "str.split") [.dat (.str x), .dat (.str y)] [] Pq := cv2 fun X A s v u G I xP r r' => by
  obtain ⟨t, rfl⟩ := r
  obtain ⟨t', rfl⟩ := r'
  unfold Txt.split at h
  cases h1 : (decide (x.length < y.length) || decide (Builtin.Str.strKind x < Builtin.Str.strKind y))
  · rw [if_neg (by rw [h1]; simp)] at h
    cases hf : (Builtin.Str.occurrences x y 0 x.length (x.length + 1)).isEmpty
    · rw [if_neg (by rw [hf]; simp)] at h
      refine call_meets PySem.F.slot_str_split (typeIs_str _ _ _) PySem.F.entry_str_split (PySem.F.args_str_split_2 _ _) (meets_str_split_sep x y t t' h1 hy hf hx hz) ?_
      exact ⟨I.push, stay_push, _, h, _, _, (0, none, #[]), rfl, xP.new (Nat.le_refl _), Heap.get?_push_size _ rfl, strs_from _ _⟩
    · rw [if_pos hf] at h
      refine call_meets PySem.F.slot_str_split (typeIs_str _ _ _) PySem.F.entry_str_split (PySem.F.args_str_split_2 _ _) (meets_str_split_not_found x y t t' h1 hy hf) ?_
      exact ⟨I.push (t := s.toks), stay_push, _, h, _, [_], (0, none, #[]), rfl, xP.new (Nat.le_refl _), Heap.get?_push_size _ rfl, _, [], rfl, ⟨t, rfl⟩, rfl⟩
  · rw [if_pos h1] at h
    refine call_meets PySem.F.slot_str_split (typeIs_str _ _ _) PySem.F.entry_str_split (PySem.F.args_str_split_2 _ _) (meets_str_split_cannot_occur x y t t' h1) ?_
    exact ⟨I.push (t := s.toks), stay_push, _, h, _, [_], (0, none, #[]), rfl, xP.new (Nat.le_refl _), Heap.get?_push_size _ rfl, _, [], rfl, ⟨t, rfl⟩, rfl⟩
theorem strs_of {X : Addr → Prop} {h : Heap} : ∀ {l : List Str} {vs : List Value}, RepL X h (l.map .str) vs → StrsAre vs l
  | [], vs, r => by
    have e : vs = [] := r
    subst e
    exact .nil
  | x :: l, vs, r => by
    obtain ⟨v, us, rfl, ⟨t, rfl⟩, r2⟩ := r
    exact .cons _ _ (strs_of r2)
theorem c_join_l {x : Str} {l : List Str} (hz : (l.map (·.length)).sum + l.length * x.length ≤ 16777216) (h : Pq (.str (Txt.join x l))) : CallV c n (.builtin "str.join") [.dat (.str x), .dat (.list (l.map .str))] [] Pq := cv2 fun X A s v u G I xP r r' => by
  obtain ⟨t, rfl⟩ := r
  obtain ⟨a, vs, m, rfl, x', g, rl⟩ := r'
  exact join_list (items := vs.toArray) ⟨_, g, rfl, _, rfl⟩ (strs_of rl) hz fun t' k => ⟨I.toks k, Stay.refl _ _, _, h, t', rfl⟩
theorem c_join_t {x : Str} {l : List Str} (hz : (l.map (·.length)).sum + l.length * x.length ≤ 16777216) (h : Pq (.str (Txt.join x l))) : CallV c n (.builtin "str.join") [.dat (.str x), .dat (.tup (l.map .str))] [] Pq := cv2 fun X A s v u G I xP r r' => by
  obtain ⟨t, rfl⟩ := r
  obtain ⟨a, vs, m, rfl, x', g, rl⟩ := r'
  exact join_tuple (items := vs.toArray) ⟨_, g, rfl, _, rfl⟩ (strs_of rl) hz fun t' k => ⟨I.toks k, Stay.refl _ _, _, h, t', rfl⟩

/-! built-in functions and classes -/
theorem c_int_s {x : Str} {i : Int} (hn : PySem.intText? x = some i) (hl : x.length ≤ 640) (h : Pq (.int i)) : CallV c n (.type "int") [.dat (.str x)] [] Pq := cv1 fun X A s v G I xP r => by
  obtain ⟨t, rfl⟩ := r
  exact KIN.call_text hn hl (got_tok I h ⟨_, rfl⟩)
theorem c_int_i {i : Int} (h : Pq (.int i)) : CallV c n (.type "int") [.dat (.int i)] [] Pq := cv1 fun X A s v G I xP r => by
  obtain ⟨t, rfl⟩ := r
  exact call_int_int (got_now I h ⟨_, rfl⟩)
theorem c_str_i {i : Int} (ha : i.natAbs.log2 < 1920) (h : Pq (.str (Str.ofString (toString i)))) : CallV c n (.type "str") [.dat (.int i)] [] Pq := cv1 fun X A s v G I xP r => by
  obtain ⟨t, rfl⟩ := r
  exact PySem.P.str_of_int ha (got_tok I h ⟨_, rfl⟩)
theorem c_abs {i : Int} (h : Pq (.int (if i < 0 then -i else i))) : CallV c n (.builtin "abs") [.dat (.int i)] [] Pq := cv1 fun X A s v G I xP r => by
  obtain ⟨t, rfl⟩ := r
  exact call_abs_int fun u tk => got_tok I h ⟨_, rfl⟩
theorem c_len_s {x : Str} (hl : x.length ≤ sizeLine) (h : Pq (.int x.length)) : CallV c n (.builtin "len") [.dat (.str x)] [] Pq := cv1 (len_s hl h)
theorem c_len_l {l : List D} (hl : l.length ≤ sizeLine) (h : Pq (.int l.length)) : CallV c n (.builtin "len") [.dat (.list l)] [] Pq := cv1 fun X A s v G I xP r => by
  obtain ⟨a, vs, m, rfl, x, g, rl⟩ := r
  have e := rl.length
  have := sizeLine_eq
  refine Calls.call_len_list (items := vs.toArray) ⟨_, g, rfl, _, rfl⟩ (by rw [List.size_toArray]; omega) ?_
  rw [List.size_toArray, e]
  exact got_tok I h ⟨_, rfl⟩
theorem c_range1 {b : Int} (h : Pq (.range 0 b)) : CallV c n (.type "range") [.dat (.int b)] [] Pq := cv1 fun X A s v G I xP r => by
  obtain ⟨t, rfl⟩ := r
  exact call_range_1 ⟨I.push, stay_push, _, h, _, _, _, _, rfl, xP.new (Nat.le_refl _), Heap.get?_push_size _ rfl⟩
theorem c_range2 {a b : Int} (h : Pq (.range a b)) : CallV c n (.type "range") [.dat (.int a), .dat (.int b)] [] Pq := cv2 fun X A s v u G I xP r r' => by
  obtain ⟨t, rfl⟩ := r
  obtain ⟨t', rfl⟩ := r'
  exact call_range_2 ⟨I.push, stay_push, _, h, _, _, _, _, rfl, xP.new (Nat.le_refl _), Heap.get?_push_size _ rfl⟩
theorem c_tuple_l {l : List D} (hl : l.length ≤ sizeLine) (h : Pq (.tup l)) : CallV c n (.type "tuple") [.dat (.list l)] [] Pq := cv1 fun X A s v G I xP r => by
  obtain ⟨a, vs, m, rfl, x, g, rl⟩ := r
  refine call_tuple_list (items := vs.toArray) ⟨_, g, rfl, _, rfl⟩ (fun h' k => ?_) (by rw [List.size_toArray, rl.length]; exact hl)
  have k' : ∀ b o, s.heap.get? b = some o → (h'.push { cls := .type "tuple", data := .seq vs.toArray }).get? b = some o := fun b o e => Heap.get?_push_of_some _ (k b o e)
  refine ⟨I.grow (t := s.toks) xP k', fun b o _ e => k' b o e, _, h, _, vs, _, rfl, fun q => ?_, Heap.get?_push_size _ rfl, rl.stay' k'⟩
  obtain ⟨o, e⟩ := xP.ex _ q
  exact absurd (Heap.lt_size (k _ _ e)) (Nat.lt_irrefl _)
theorem c_tuple_t {l : List D} (h : Pq (.tup l)) : CallV c n (.type "tuple") [.dat (.tup l)] [] Pq := cv1 fun X A s v G I xP r => by
  obtain ⟨a, vs, m, rfl, x, g, rl⟩ := r
  exact call_tuple_tup (items := vs.toArray) ⟨_, g, rfl, _, rfl⟩ (got_now I h ⟨a, vs, m, rfl, x, g, rl⟩)
theorem l_add {l l' : List D} (hz : l.length + l'.length ≤ sizeLine) (h : Pq (.list (l ++ l'))) : Two c n (binaryOp .Add) (.list l) (.list l') Pq := fun X A s u v G I xP r r' => by
  obtain ⟨a, vs, m, rfl, x, g, rl⟩ := r
  obtain ⟨b, us, m', rfl, x', g', rl'⟩ := r'
  refine concat_meets ⟨_, g, rfl⟩ ⟨_, g', rfl⟩ noFill_list_add seq_list_add PySem.F.slot_list_add PySem.F.entry_list_add (PySem.F.args_list_add_2 _ _) (list_addW a b vs.toArray us.toArray _ _ _ _ _ _ (by rw [List.size_toArray, List.size_toArray, rl.length, rl'.length]; exact hz)) ⟨g, g', ?_⟩
  rw [show vs.toArray ++ us.toArray = (vs ++ us).toArray from by simp]
  exact got_list I xP h (rl.append rl')
end
end Mine
end
section
namespace Mine
open PySem PySem.W PySem.Calls PyProof.Rows Builtin Builtin.ObjectAttr

section
variable {c : Cx} {n : Nat} {fc : FC} {ρ : Rho} {R : Out → Prop} {Pq : D → Prop} {Pb : Bool → Prop}

/-! names of the module and of the language -/
theorem ev_gn (O : c.Ok) {x : Str} {pos : Pos} {v : Value} {i : Nat} (e : placeIn x fc.scope.names 0 = some i) (hk : fc.scope.names[i]? = some (x, .globalImplicit)) (g : nsIn c.K mainGlobals x = some (some v)) (hd : (x == ("__debug__" : Str)) = false) {d : D} (hr : ∀ X s, Inv c s → Xok c X s → Rep X s.heap d v) (h : Pq d) :
    Ev c n fc ρ (.Name x pos) Pq := ev_global O i hk g hd hr h
theorem ev_bn (O : c.Ok) {x : Str} {pos : Pos} {v : Value} {i : Nat} (e : placeIn x fc.scope.names 0 = some i) (hk : fc.scope.names[i]? = some (x, .globalImplicit)) (g : nsIn c.K mainGlobals x = some none) (b : bootBuiltins x = some v) (hn : x ≠ "__name__") (hd : (x == ("__debug__" : Str)) = false) (h : Pq (.raw v)) :
    Ev c n fc ρ (.Name x pos) Pq := ev_builtin O i hk g b hn hd h
/-- a call of one of the module's functions or classes -/
theorem call_g (O : c.Ok) {id : Str} {p pos : Pos} {args : List Expr} {f : Addr} {i : Nat} (hs : noStar args = true) (e : placeIn id fc.scope.names 0 = some i) (hk : fc.scope.names[i]? = some (id, .globalImplicit)) (g : nsIn c.K mainGlobals id = some (some (.ref f))) (hkp : keepIn c.K (.ref f) = true) (hd : (id == ("__debug__" : Str)) = false)
    (h : EvL c n fc ρ args (fun ds => CallK c n (.ref f) (ds.map .dat) [] Pq)) : Ev c n fc ρ (.Call (.Name id p) args [] pos) Pq :=
  ev_call O hs (keeps_ref hkp) (ev_global O i hk g hd (d := .raw (.ref f)) (fun _ _ _ _ => rfl) rfl) (fun W Xc X env A s pos G S => Wp.mono (h W Xc X env A s pos G S) fun vs s' ⟨I, st, ds, q, r⟩ => ⟨I, st, ds, q.v, r⟩)
/-- .. with keywords -/
theorem call_gk (O : c.Ok) {id : Str} {p pos : Pos} {args : List Expr} {kws : List Keyword} {f : Addr} {i : Nat} (hs : noStar args = true) (hkw : (kwNames kws).isSome = true) (e : placeIn id fc.scope.names 0 = some i) (hk : fc.scope.names[i]? = some (id, .globalImplicit)) (g : nsIn c.K mainGlobals id = some (some (.ref f))) (hkp : keepIn c.K (.ref f) = true) (hd : (id == ("__debug__" : Str)) = false)
    (h : EvL c n fc ρ args (fun ds => EvK c n fc ρ kws (fun ks => CallK c n (.ref f) (ds.map .dat) ks Pq))) : Ev c n fc ρ (.Call (.Name id p) args kws pos) Pq :=
  ev_callk O hs (keeps_ref hkp) (ev_global O i hk g hd (d := .raw (.ref f)) (fun _ _ _ _ => rfl) rfl) h hkw
/-- a call of one of the language's -/
theorem call_b (O : c.Ok) {id : Str} {p pos : Pos} {args : List Expr} {v : Value} {i : Nat} (b : bootBuiltins id = some v) (hs : noStar args = true) (e : placeIn id fc.scope.names 0 = some i) (hk : fc.scope.names[i]? = some (id, .globalImplicit)) (g : nsIn c.K mainGlobals id = some none) (hkp : Keeps c v) (hn : id ≠ "__name__") (hd : (id == ("__debug__" : Str)) = false)
    (h : EvL c n fc ρ args (fun ds => CallV c n v (ds.map .dat) [] Pq)) : Ev c n fc ρ (.Call (.Name id p) args [] pos) Pq := ev_call O hs hkp (ev_builtin O i hk g b hn hd rfl) h
theorem boot_len : bootBuiltins "len" = some (.builtin "len") := by kernel_rfl
theorem boot_int : bootBuiltins "int" = some (.type "int") := by kernel_rfl
theorem boot_str : bootBuiltins "str" = some (.type "str") := by kernel_rfl
theorem boot_abs : bootBuiltins "abs" = some (.builtin "abs") := by kernel_rfl
theorem boot_max : bootBuiltins "max" = some (.builtin "max") := by kernel_rfl
theorem boot_min : bootBuiltins "min" = some (.builtin "min") := by kernel_rfl
theorem boot_range : bootBuiltins "range" = some (.type "range") := by kernel_rfl
theorem boot_tuple : bootBuiltins "tuple" = some (.type "tuple") := by kernel_rfl
theorem boot_list : bootBuiltins "list" = some (.type "list") := by kernel_rfl
theorem boot_isinstance : bootBuiltins "isinstance" = some (.builtin "isinstance") := by kernel_rfl

/-! signs -/
theorem fits_small {i : Int} (h0 : 0 ≤ i) (h1 : i < 2 ^ 40) : fitsSsize i = true := fitsSsize_of (N := 2 ^ 41) (by omega) (by omega) (by decide)
theorem item_T {l : List Nat} {i : Nat} {ch : Nat} (hl : l.length ≤ sizeLine) (hi : l[i]? = some ch) (h : Pq (.str (T [ch]))) : Item c n (.str (T l)) (.int i) Pq := by
  have hi' : i < l.length := (List.getElem?_eq_some_iff.mp hi).1
  have := sizeLine_eq
  refine item_s (fits_small (by omega) (by omega)) (by rw [T_length]; omega) (by rw [T_length]; omega) ?_
  rw [T_item hi]; exact h
theorem contains_sign (y : List Nat) (ch : Nat) : Txt.contains (T y) (T [ch]) = y.contains ch := by
  unfold Txt.contains
  rw [show T [ch] = ⟨#[ch]⟩ from rfl, StrLaws.found_one, T_cps, List.contains_eq_mem]
theorem s_in1 {y : List Nat} {ch : Nat} (h : Pq (.raw (.bool (y.contains ch)))) : Two c n (compareOp .In) (.str (T [ch])) (.str (T y)) Pq := s_in (by rw [contains_sign]; exact h)
end
end Mine
end
section
namespace Mine
open PySem PySem.W PySem.Calls PyProof.Rows Builtin Builtin.ObjectAttr

/-- how far the signs of y reach in l from place i -/
def bh (y l : List Nat) (i : Nat) : Nat := i + ((l.drop i).takeWhile fun ch => y.contains ch).length
theorem takeWhile_run {p : Nat → Bool} : ∀ {v r : List Nat}, (∀ ch ∈ v, p ch = true) → (∀ ch, r.head? = some ch → p ch = false) → (v ++ r).takeWhile p = v
  | [], [], _, _ => rfl
  | [], ch :: r, _, h => by simp [List.takeWhile_cons, h ch rfl]
  | x :: v, r, h, h' => by
    rw [List.cons_append, List.takeWhile_cons, h x List.mem_cons_self]
    simp only [if_true]
    rw [takeWhile_run (fun ch hc => h ch (List.mem_cons_of_mem _ hc)) h']
theorem bh_run {y u v r : List Nat} (h : ∀ ch ∈ v, y.contains ch = true) (h' : ∀ ch, r.head? = some ch → y.contains ch = false) : bh y (u ++ (v ++ r)) u.length = u.length + v.length := by
  unfold bh
  rw [List.drop_append_of_le_length (Nat.le_refl _), List.drop_length, List.nil_append, takeWhile_run h h']
theorem cut_nat {α : Type} (l : List α) (i j : Nat) : cut l (some (i : Int)) (some (j : Int)) = (l.drop i).take (j - i) := by
  unfold cut
  simp only [Option.elim, clipAt_nat]
  rcases Nat.le_total i l.length with h | h
  · rw [Nat.min_eq_left h]
    rcases Nat.le_total j l.length with h' | h'
    · rw [Nat.min_eq_left h']
    · rw [Nat.min_eq_right h', List.take_of_length_le (by rw [List.length_drop]; omega), List.take_of_length_le (by rw [List.length_drop]; omega)]
  · rw [Nat.min_eq_right h, List.drop_eq_nil_of_le (Nat.le_refl _), List.drop_eq_nil_of_le h]; simp
theorem cut_upto {α : Type} (l : List α) (j : Nat) : cut l none (some (j : Int)) = l.take j := by
  unfold cut
  simp only [Option.elim, clipAt_nat, List.drop_zero, Nat.sub_zero]
  rcases Nat.le_total j l.length with h | h
  · rw [Nat.min_eq_left h]
  · rw [Nat.min_eq_right h, List.take_of_length_le (Nat.le_refl _), List.take_of_length_le h]
theorem cut_from {α : Type} (l : List α) (i : Nat) : cut l (some (i : Int)) none = l.drop i := by
  unfold cut
  simp only [Option.elim, clipAt_nat]
  rcases Nat.le_total i l.length with h | h
  · rw [Nat.min_eq_left h, List.take_of_length_le (by rw [List.length_drop]; omega)]
  · rw [Nat.min_eq_right h, List.drop_eq_nil_of_le (Nat.le_refl _), List.drop_eq_nil_of_le h]; simp
theorem cut_last {α : Type} (l : List α) : cut l (some (-1)) none = l.drop (l.length - 1) := by
  unfold cut
  have e := clipAt_neg l.length 1 (Nat.le_refl _)
  simp only [Option.elim]
  rw [show ((-1 : Int)) = -((1 : Nat) : Int) from rfl, e, List.take_of_length_le (by rw [List.length_drop]; omega)]
theorem cut_mid {u v r : List Nat} : cut (u ++ (v ++ r)) (some (u.length : Int)) (some ((u.length + v.length : Nat) : Int)) = v := by
  rw [cut_nat, List.drop_append_of_le_length (Nat.le_refl _), List.drop_length, List.nil_append, show u.length + v.length - u.length = v.length from by omega, List.take_append_of_le_length (Nat.le_refl _), List.take_length]
theorem cut_one {u : List Nat} {ch : Nat} {r : List Nat} : cut (u ++ (ch :: r)) (some (u.length : Int)) (some ((u.length + 1 : Nat) : Int)) = [ch] := by
  rw [cut_nat, List.drop_append_of_le_length (Nat.le_refl _), List.drop_length, List.nil_append, show u.length + 1 - u.length = 1 from by omega]; rfl
theorem cut_end {u : List Nat} : cut u (some (u.length : Int)) (some ((u.length + 1 : Nat) : Int)) = [] := by
  rw [cut_nat, List.drop_length]; simp
end Mine
end
section
namespace Mine
open PySem PySem.W PySem.Calls PyProof.Rows Builtin Builtin.ObjectAttr
section
variable {c : Cx} {n : Nat} {fc : FC} {ρ : Rho} {R : Out → Prop} {Pq : D → Prop} {Pb : Bool → Prop}
theorem ex_as {x : Str} {pos' pos : Pos} {value : Expr} {i : Nat} (e : placeIn x fc.scope.names 0 = some i) (hk : fc.scope.names[i]? = some (x, .local)) (il : Nat.blt i ρ.length = true) (hs : ∀ env, swapsWith value (some (.Name x pos')) pos.line env = pure false)
    (h : Ev c n fc ρ value (fun d => R (.next (ρ.set i (some (.dat d)))))) : Ex1 c n fc ρ (.Assign [.Name x pos'] value pos) R := ex_assign rfl i hk (.inl rfl) (Nat.blt_eq.mp il) h hs
theorem asg_n {x : Str} {p : Pos} {d : D} {Q : Rho → Prop} {i : Nat} (e : placeIn x fc.scope.names 0 = some i) (hk : fc.scope.names[i]? = some (x, .local)) (il : Nat.blt i ρ.length = true) (h : Q (ρ.set i (some (.dat d)))) : Asg c n fc ρ (.Name x p) d Q := asg_name rfl i hk (.inl rfl) (Nat.blt_eq.mp il) h
theorem ex_ow {x : Str} {pos' lp pos : Pos} {es : List Expr} {i : Nat} (e : placeIn x fc.scope.names 0 = some i) (hk : fc.scope.names[i]? = some (x, .local)) (il : Nat.blt i ρ.length = true)
    (h : EvL c n fc ρ es (fun l => l.length ≤ sizeLine ∧ ∀ a, R (.next (ρ.set i (some (.own a l)))))) : Ex1 c n fc ρ (.Assign [.Name x pos'] (.List es lp) pos) R := ex_own rfl i hk (.inl rfl) (Nat.blt_eq.mp il) h
theorem ex_app {x : Str} {p ap cp pos : Pos} {elt : Expr} {i : Nat} {a : Addr} {l : List D} (e : placeIn x fc.scope.names 0 = some i) (hk : fc.scope.names[i]? = some (x, .local)) (r : ρ[i]? = some (some (.own a l))) (hd : (x == ("__debug__" : Str)) = false)
    (hline : (ap.endLine == cp.line) = true) (he : isStar elt = false) (hl : l.length ≤ sizeLine) (h : Ev c n fc ρ elt (fun d => R (.next (ρ.set i (some (.own a (l ++ [d]))))))) :
    Ex1 c n fc ρ (.Expr (.Call (.Attribute (.Name x p) "append" ap) [elt] [] cp) pos) R := ex_append i hk r hd hline he hl h
theorem i_neg {i : Int} (h : Pq (.int (-i))) : One c n (unaryOp .USub) (.int i) Pq := fun X A s u G I xP r => by
  obtain ⟨t, rfl⟩ := r
  exact PyProof.Rows.neg_int (got_tok I h ⟨_, rfl⟩)
theorem call_bt (O : c.Ok) {id : Str} {p pos : Pos} {args : List Expr} {i : Nat} {T : String} (b : bootBuiltins id = some (.type T)) (hs : noStar args = true) (e : placeIn id fc.scope.names 0 = some i) (hk : fc.scope.names[i]? = some (id, .globalImplicit)) (g : nsIn c.K mainGlobals id = some none) (hn : id ≠ "__name__") (hd : (id == ("__debug__" : Str)) = false)
    (h : EvL c n fc ρ args (fun ds => CallV c n (.type T) (ds.map .dat) [] Pq)) : Ev c n fc ρ (.Call (.Name id p) args [] pos) Pq := call_b O b hs e hk g keeps_type hn hd h
theorem call_bf (O : c.Ok) {id : Str} {p pos : Pos} {args : List Expr} {i : Nat} {T : String} (b : bootBuiltins id = some (.builtin T)) (hs : noStar args = true) (e : placeIn id fc.scope.names 0 = some i) (hk : fc.scope.names[i]? = some (id, .globalImplicit)) (g : nsIn c.K mainGlobals id = some none) (hn : id ≠ "__name__") (hd : (id == ("__debug__" : Str)) = false)
    (h : EvL c n fc ρ args (fun ds => CallV c n (.builtin T) (ds.map .dat) [] Pq)) : Ev c n fc ρ (.Call (.Name id p) args [] pos) Pq := call_b O b hs e hk g keeps_builtin hn hd h
theorem ev_gs (O : c.Ok) {x y : Str} {pos : Pos} {i : Nat} {t : Tok} (e : placeIn x fc.scope.names 0 = some i) (hk : fc.scope.names[i]? = some (x, .globalImplicit)) (g : nsIn c.K mainGlobals x = some (some (.str y t))) (hd : (x == ("__debug__" : Str)) = false) (h : Pq (.str y)) :
    Ev c n fc ρ (.Name x pos) Pq := ev_global O i hk g hd (d := .str y) (fun _ _ _ _ => ⟨t, rfl⟩) h
theorem cut_T {l : List Nat} {lo hi : Option Int} (hl : l.length ≤ sizeLine) (h : Pq (.str (T (cut l lo hi)))) : Cut c n (.str (T l)) lo hi Pq := cut_s (by rw [T_length]; exact hl) (by rw [T_slice]; exact h)
theorem s_eqT {x y : List Nat} (h : Pq (.raw (.bool (x == y)))) : Two c n (compareOp .Eq) (.str (T x)) (.str (T y)) Pq := s_eq (by rw [T_beq]; exact h)
theorem s_neT {x y : List Nat} (h : Pq (.raw (.bool (x != y)))) : Two c n (compareOp .NotEq) (.str (T x)) (.str (T y)) Pq := s_ne (by
  rw [show (T x != T y) = (x != y) from by unfold bne; rw [T_beq]]; exact h)
theorem tru_T {x : List Nat} (hl : x.length ≤ sizeLine) (h : Pb (!x.isEmpty)) : Tru c n (.str (T x)) Pb := tru_str (by rw [T_length]; exact hl) (by
  rw [T_length]; cases x with
  | nil => exact h
  | cons a r => rw [show (((a :: r).length : Int) != 0) = true from by simp; omega]; exact h)
theorem c_len_T {l : List Nat} (hl : l.length ≤ sizeLine) (h : Pq (.int l.length)) : CallV c n (.builtin "len") [.dat (.str (T l))] [] Pq := c_len_s (by rw [T_length]; exact hl) (by rw [T_length]; exact h)
end
/-- the ten digits; the signs of identifiers -/
def DG : List Nat := [48, 49, 50, 51, 52, 53, 54, 55, 56, 57]
def SG : List Nat := DG ++ [97, 98, 99, 100, 101, 102, 103, 104, 105, 106, 107, 108, 109, 110, 111, 112, 113, 114, 115, 116, 117, 118, 119, 120, 121, 122, 65, 66, 67, 68, 69, 70, 71, 72, 73, 74, 75, 76, 77, 78, 79, 80, 81, 82, 83, 84, 85, 86, 87, 88, 89, 90, 46, 45]
theorem text_of (x : Str) (l : List Nat) (h : x.cps.toList = l) : x = T l := by rw [T_of x, h]
end Mine
namespace Mine
open PySem PySem.W PySem.Calls PyProof.Rows Builtin Builtin.ObjectAttr
theorem lit_digits : Str.ofString "0123456789" = T DG := by kernel_rfl
theorem lit_signs : Str.ofString "0123456789abcdefghijklmnopqrstuvwxyzABCDEFGHIJKLMNOPQRSTUVWXYZ.-" = T SG := by kernel_rfl
theorem lit_dot : Str.ofString "." = T [46] := by kernel_rfl
theorem lit_dash : Str.ofString "-" = T [45] := by kernel_rfl
theorem lit_plus : Str.ofString "+" = T [43] := by kernel_rfl
theorem lit_nl : Str.ofString "\n" = T [10] := by kernel_rfl
theorem lit_empty : Str.ofString "" = T [] := by kernel_rfl
theorem lit_zero : Str.ofString "0" = T [48] := by kernel_rfl
section
variable {c : Cx} {n : Nat} {fc : FC} {ρ : Rho} {R : Out → Prop} {Pq : D → Prop} {Pb : Bool → Prop}
theorem ev_strT {x : Str} {l : List Nat} {k pos} (e : x = T l) (h : Pq (.str (T l))) : Ev c n fc ρ (.Constant (.str x) k pos) Pq := ev_str (by rw [e]; exact h)
theorem ev_gT (O : c.Ok) {x y : Str} {l : List Nat} {pos : Pos} {i : Nat} {t : Tok} (e : placeIn x fc.scope.names 0 = some i) (hk : fc.scope.names[i]? = some (x, .globalImplicit)) (g : nsIn c.K mainGlobals x = some (some (.str y t))) (hy : y = T l) (hd : (x == ("__debug__" : Str)) = false) (h : Pq (.str (T l))) :
    Ev c n fc ρ (.Name x pos) Pq := ev_gs O e hk g hd (by rw [hy]; exact h)
end
/-- the middle of a version's text: what stands behind the three numbers -/
structure Tail (l : List Nat) (pre bld : Option (List Nat)) (tail : List Nat) : Prop where
  eq : tail = (match pre with | some p => 45 :: p | none => []) ++ (match bld with | some b => 43 :: b | none => [])
  pre : ∀ p, pre = some p → p ≠ [] ∧ ∀ ch ∈ p, SG.contains ch = true
  bld : ∀ p, bld = some p → p ≠ [] ∧ ∀ ch ∈ p, SG.contains ch = true
end Mine
end
section
namespace Mine
open PySem PySem.W PySem.Calls PyProof.Rows Builtin Builtin.Str

/-- the parts between the dots -/
def splitL : List Nat → List (List Nat)
  | [] => [[]]
  | c :: r => if c = 46 then [] :: splitL r else match splitL r with
    | h :: t => (c :: h) :: t
    | [] => [[c]]
def lead (u : List Nat) : List (List Nat) → List (List Nat)
  | h :: t => (u ++ h) :: t
  | [] => [u]
theorem splitL_ne : ∀ l, ∃ h t, splitL l = h :: t
  | [] => ⟨_, _, rfl⟩
  | c :: r => by
    unfold splitL
    split
    · exact ⟨_, _, rfl⟩
    · obtain ⟨h, t, e⟩ := splitL_ne r
      rw [e]; exact ⟨_, _, rfl⟩
theorem splitL_dot (r : List Nat) : splitL (46 :: r) = [] :: splitL r := by rw [splitL, if_pos rfl]
theorem splitL_other {c : Nat} {r h : List Nat} {t : List (List Nat)} (n : c ≠ 46) (e : splitL r = h :: t) : splitL (c :: r) = (c :: h) :: t := by rw [splitL, if_neg n, e]
theorem occ_run (x : Str) (c limit : Nat) : ∀ (n k : Nat) (st : Array Nat × Nat), st.fst.size ≤ k → st.snd ≤ k → k + n < limit + 1 →
    (forIn (List.range' k n) st (StrLaws.occBody x ⟨#[c]⟩ x.length limit)).run.fst.toList = st.fst.toList ++ (List.range' k n).filter fun i => x.cps.toList[i]? == some c
  | 0, k, st, _, _, _ => by simp
  | n + 1, k, st, h1, h2, h3 => by
    rw [List.range'_succ, List.forIn_cons]
    unfold StrLaws.occBody
    by_cases hc : k + (⟨#[c]⟩ : Str).length ≤ x.length ∧ subAt x ⟨#[c]⟩ k = true
    · rw [if_pos ⟨⟨⟨by omega, h2⟩, hc.1⟩, hc.2⟩]
      have e := (StrLaws.subAt_one x c k).mp hc
      rw [List.filter_cons, e]
      have := occ_run x c limit n (k + 1) (st.fst.push k, k + (⟨#[c]⟩ : Str).length) (by simp; omega) (Nat.le_refl _) (by omega)
      unfold StrLaws.occBody at this
      simp only [beq_self_eq_true, if_true]
      refine this.trans ?_
      simp
    · rw [if_neg (fun h => hc ⟨h.1.2, h.2⟩)]
      have e : (x.cps.toList[k]? == some c) = false := by
        cases q : (x.cps.toList[k]? == some c) with
        | false => rfl
        | true => exact absurd ((StrLaws.subAt_one x c k).mpr (beq_iff_eq.mp q)) hc
      rw [List.filter_cons, e]
      have := occ_run x c limit n (k + 1) (st.fst, st.snd) (by simp; omega) (by simp; omega) (by omega)
      unfold StrLaws.occBody at this
      simpa using this
theorem occ_T (l : List Nat) : occurrences (T l) (T [46]) 0 (T l).length ((T l).length + 1) = (List.range' 0 (l.length + 1)).filter fun i => l[i]? == some 46 := by
  rw [StrLaws.occ_eq, T_length]
  have := occ_run (T l) 46 (l.length + 1) (l.length + 1) 0 (#[], 0) (Nat.zero_le _) (Nat.zero_le _) (by omega)
  rw [T_length] at this
  exact this
theorem sub_T (l : List Nat) (a b : Nat) : strSub (T l) a b = T ((l.drop a).take (b - a)) := by
  rw [T_of (strSub (T l) a b), StrLaws.strSub_toList, T_cps]
theorem parts_T (l : List Nat) : ∀ (d a k : Nat), k + d = l.length → a ≤ k → (∀ i, a ≤ i → i < k → l[i]? ≠ some 46) →
    StrLaws.partsFrom (T l) 1 a ((List.range' k (d + 1)).filter fun i => l[i]? == some 46) = (lead ((l.drop a).take (k - a)) (splitL (l.drop k))).map T
  | 0, a, k, h, ha, hn => by
    have e : (l[k]? == some 46) = false := by rw [List.getElem?_eq_none (by omega)]; rfl
    rw [List.range'_succ, List.filter_cons, e]
    simp only [Bool.false_eq_true, if_false, List.range'_zero, List.filter_nil]
    show [strSub (T l) a (T l).length] = _
    rw [sub_T, T_length, List.drop_eq_nil_of_le (show l.length ≤ k from by omega), show k = l.length from by omega]
    simp [splitL, lead]
  | d + 1, a, k, h, ha, hn => by
    have lt : k < l.length := by omega
    rw [List.range'_succ, List.filter_cons]
    have hd : l.drop k = l[k] :: l.drop (k + 1) := List.drop_eq_getElem_cons lt
    obtain ⟨hh, t, es⟩ := splitL_ne (l.drop (k + 1))
    by_cases e : l[k] = 46
    · have e' : (l[k]? == some 46) = true := by rw [List.getElem?_eq_getElem lt, e]; rfl
      rw [e']
      simp only [if_true]
      show strSub (T l) a k :: StrLaws.partsFrom (T l) 1 (k + 1) _ = _
      rw [parts_T l d (k + 1) (k + 1) (by omega) (Nat.le_refl _) (fun i h1 h2 => by omega), sub_T, hd, e, splitL_dot, es]
      simp [lead]
    · have e' : (l[k]? == some 46) = false := by rw [List.getElem?_eq_getElem lt]; simpa using e
      rw [e']
      simp only [Bool.false_eq_true, if_false]
      rw [parts_T l d a (k + 1) (by omega) (by omega) (fun i h1 h2 => by
        by_cases q : i = k
        · subst q; rw [List.getElem?_eq_getElem lt]; simpa using e
        · exact hn i h1 (by omega)), hd, splitL_other e es, es]
      have q : (l.drop a).take (k + 1 - a) = (l.drop a).take (k - a) ++ [l[k]] := by
        rw [show k + 1 - a = (k - a) + 1 from by omega, List.take_add_one, List.getElem?_drop, show a + (k - a) = k from by omega, List.getElem?_eq_getElem lt]; rfl
      simp [lead, q]
theorem split_T (l : List Nat) : Txt.split (T l) (T [46]) = (splitL l).map T := by
  have key : StrLaws.partsFrom (T l) 1 0 (occurrences (T l) (T [46]) 0 (T l).length ((T l).length + 1)) = (splitL l).map T := by
    rw [occ_T, parts_T l l.length 0 0 (by omega) (Nat.le_refl _) (fun i _ h => by omega)]
    obtain ⟨h, t, e⟩ := splitL_ne l
    rw [List.drop_zero, e]; simp [lead]
  have whole : occurrences (T l) (T [46]) 0 (T l).length ((T l).length + 1) = [] → [T l] = (splitL l).map T := fun h0 => by
    rw [← key, h0]
    show [T l] = [strSub (T l) 0 (T l).length]
    rw [StrLaws.sub_whole]
  unfold Txt.split
  split
  · rename_i h
    rw [Bool.or_eq_true, decide_eq_true_eq, decide_eq_true_eq] at h
    have l0 : l = [] := by
      rcases h with h | h
      · rw [T_length] at h
        exact List.eq_nil_of_length_eq_zero (by simpa [T_length] using h)
      · exfalso
        have : Builtin.Str.strKind (T [46]) = 1 := by kernel_rfl
        rw [this] at h
        unfold Builtin.Str.strKind at h
        split at h
        · omega
        · split at h <;> omega
    subst l0
    rfl
  · split
    · rename_i h
      exact whole (List.isEmpty_iff.mp h)
    · rw [StrLaws.partsBetween_eq]
      exact key
/-- texts put together with dots -/
def jn : List (List Nat) → List Nat
  | [] => []
  | [x] => x
  | x :: r => x ++ 46 :: jn r
theorem splitL_run : ∀ {x y : List Nat}, 46 ∉ x → splitL (x ++ 46 :: y) = x :: splitL y
  | [], y, _ => by simp [splitL]
  | c :: x, y, h => by
    have ne : c ≠ 46 := fun e => h (e ▸ List.mem_cons_self)
    rw [List.cons_append, splitL_other ne (splitL_run (fun q => h (List.mem_cons_of_mem _ q)))]
theorem splitL_one : ∀ {x : List Nat}, 46 ∉ x → splitL x = [x]
  | [], _ => rfl
  | c :: x, h => by
    have ne : c ≠ 46 := fun e => h (e ▸ List.mem_cons_self)
    rw [splitL_other ne (splitL_one (fun q => h (List.mem_cons_of_mem _ q)))]
theorem splitL_jn : ∀ {ids : List (List Nat)}, ids ≠ [] → (∀ x ∈ ids, 46 ∉ x) → splitL (jn ids) = ids
  | [], h, _ => absurd rfl h
  | [x], _, h => splitL_one (h x List.mem_cons_self)
  | x :: y :: r, _, h => by
    show splitL (x ++ 46 :: jn (y :: r)) = _
    rw [splitL_run (h x List.mem_cons_self), splitL_jn (by simp) (fun z hz => h z (List.mem_cons_of_mem _ hz))]
theorem join_T : ∀ (ids : List (List Nat)), Txt.join (T [46]) (ids.map T) = T (jn ids) := by
  intro ids
  unfold Txt.join
  rw [StrLaws.glued_eq_join]
  induction ids with
  | nil => rfl
  | cons x r ih =>
    cases r with
    | nil => rfl
    | cons y r =>
      show T x ++ T [46] ++ Str.join (T [46]) (T y :: r.map T) = _
      have ih : Str.join (T [46]) (T y :: r.map T) = T (jn (y :: r)) := ih
      rw [ih, T_append, T_append]
      show T (x ++ [46] ++ jn (y :: r)) = T (x ++ 46 :: jn (y :: r))
      simp
section
variable {c : Cx} {n : Nat} {fc : FC} {ρ : Rho} {R : Out → Prop} {Pq : D → Prop} {Pb : Bool → Prop}
theorem splitL_len : ∀ l, (splitL l).length ≤ l.length + 1
  | [] => Nat.le_refl _
  | c :: r => by
    have := splitL_len r
    unfold splitL
    split
    · simp; omega
    · obtain ⟨h, t, e⟩ := splitL_ne r
      rw [e] at this ⊢
      simp at this ⊢; omega
theorem c_split_T {l : List Nat} (hx : l.length ≤ 100000) (h : Pq (.list ((splitL l).map fun x => .str (T x)))) : CallV c n (.builtin "str.split") [.dat (.str (T l)), .dat (.str (T [46]))] [] Pq := by
  have := sizeLine_eq
  refine c_split rfl (by rw [T_length]; omega) ?_ (by rw [split_T, List.map_map]; exact h)
  have e : ∀ (cuts : List Nat) (a : Nat), (StrLaws.partsFrom (T l) 1 a cuts).length = cuts.length + 1 := by
    intro cuts
    induction cuts with
    | nil => intro a; rfl
    | cons x r ih => intro a; show (_ :: StrLaws.partsFrom (T l) 1 (x + 1) r).length = _; rw [List.length_cons, ih]; rfl
  rw [StrLaws.partsBetween_eq]
  show (StrLaws.partsFrom (T l) 1 0 _).length ≤ _
  rw [e, occ_T]
  have := List.length_filter_le (fun i => l[i]? == some 46) (List.range' 0 (l.length + 1))
  rw [List.length_range'] at this
  omega
end
end Mine
end
section
namespace Mine
open PySem PySem.W PySem.Calls PyProof.Rows Builtin Builtin._codecs

theorem ascii_cps : (Str.ofString "ascii").cps = #[97, 115, 99, 105, 105] := by kernel_rfl
theorem codec1 (u : Tok) : Str.codecArg "str.encode" "encode" "'encoding'" (some (.str (Str.ofString "ascii") u)) = pure (some (Str.ofString "ascii")) := by
  show (if (Str.ofString "ascii").cps.any (· ≥ 128) = true then _ else _) = _
  rw [ascii_cps, if_neg (by simp)]
  show (if (Str.ofString "ascii").cps.contains 0 = true then _ else _) = _
  rw [ascii_cps, if_neg (by simp)]
theorem enc_tree0 (x : Str) (t u : Tok) : «str.encode» ⟨[.str x t, .str (Str.ofString "ascii") u], []⟩ = (do
    let e ← Str.codecArg "str.encode" "encode" "'encoding'" (some (.str (Str.ofString "ascii") u))
    ret (← encodeRoad "str.encode" (.str x t) x (e.getD (Str.ofString "utf-8")) none)) := by rfl
theorem enc_tree1 (x : Str) (t u : Tok) : «str.encode» ⟨[.str x t, .str (Str.ofString "ascii") u], []⟩ = (do ret (← encodeRoad "str.encode" (.str x t) x (Str.ofString "ascii") none)) := by
  rw [enc_tree0, codec1]; rfl
theorem enc_tree2 (id : String) (self : Value) (x : Str) (errors : Option Str) : encodeRoad id self x (Str.ofString "ascii") errors = (do mkBytes (← encodeNarrow id asciiCodec errors self x)) := by
  first | rfl | (unfold encodeRoad; rfl) | (unfold encodeRoad; simp only []; rfl) | decide
def bytesOf (l : List Nat) : Array UInt8 := (l.map fun ch => ch.toUInt8).toArray
theorem enc_fold (l : List Nat) : ∀ acc : Array UInt8, l.foldl (fun acc y => acc ++ (asciiCodec.bytesOf y).toArray) acc = acc ++ bytesOf l := by
  induction l with
  | nil => intro acc; simp [bytesOf]
  | cons x r ih => intro acc; rw [List.foldl_cons, ih]; simp [bytesOf, asciiCodec]
theorem two_turns {σ : Type} {f : Nat → σ → Sem (ForInStep σ)} {init a : σ} (h1 : ∀ k, f k init = pure (.yield a)) (h2 : ∀ k, f k a = pure (.done a)) (n k : Nat) : forIn (List.range' k (n + 1) 1) init f = pure a := by
  rw [List.range'_succ, List.forIn_cons, h1]
  show forIn (List.range' (k + 1) n 1) a f = pure a
  cases n with
  | zero => rfl
  | succ n =>
    rw [List.range'_succ, List.forIn_cons, h2]
    rfl
theorem narrow (l : List Nat) (h : ∀ ch ∈ l, ch < 128) (v : Value) (hs : l.length ≤ sizeLine) : encodeNarrow "str.encode" asciiCodec none v (T l) = pure (bytesOf l) := by
  unfold encodeNarrow
  extract_lets utf8 name asciiBytes limit i out st
  rw [Std.Legacy.Range.forIn_eq_forIn_range']
  cases l with
  | nil => rfl
  | cons x r =>
    have bad : ∀ ch ∈ x :: r, asciiCodec.bad ch = false := fun ch hc => by
      have := h ch hc
      show decide (ch ≥ 128) = false
      simpa using this
    have nf : Array.findIdx? asciiCodec.bad ((T (x :: r)).cps.extract 0) = none := by
      rw [Array.findIdx?_eq_none_iff]
      intro ch hc
      have : ch ∈ x :: r := by simpa [T] using hc
      exact bad ch this
    rw [show Std.Legacy.Range.size [:(T (x :: r)).length] = r.length + 1 from by rw [T_length]; simp [Std.Legacy.Range.size]]
    refine Eq.trans (congrArg (· >>= _) (two_turns (a := (r.length + 1, bytesOf (x :: r), ({} : Faults))) (fun k => ?_) (fun k => ?_) r.length 0)) ?_
    · show (if (#[] : Array UInt8).size > sizeLine then _ else _) = _
      rw [if_neg (by simp)]
      show (if (!asciiCodec.bad x) = true then _ else _) = _
      rw [if_pos (by rw [bad x List.mem_cons_self]; rfl)]
      have e0 : ((T (x :: r)).cps.extract 0).size = r.length + 1 := by simp [T]
      have ef : Array.foldl (fun acc y => acc ++ (asciiCodec.bytesOf y).toArray) #[] (((T (x :: r)).cps.extract 0).extract 0 (r.length + 1)) = bytesOf (x :: r) := by
        have ee : ((T (x :: r)).cps.extract 0).extract 0 (r.length + 1) = (x :: r).toArray := by simp [T]
        rw [ee, ← Array.foldl_toList, enc_fold]; simp
      have go : ∀ (m : Option Nat) (k : Nat), m = none → k = r.length + 1 → (pure (ForInStep.yield (0 + m.getD k, Array.foldl (fun acc y => acc ++ (asciiCodec.bytesOf y).toArray) #[] (((T (x :: r)).cps.extract 0).extract 0 (m.getD k)), ({} : Faults))) : Sem (ForInStep (Nat × Array UInt8 × Faults))) = pure (.yield (r.length + 1, bytesOf (x :: r), ({} : Faults))) := by
        rintro _ _ rfl rfl
        simp only [Option.getD_none, ef, Nat.zero_add]
      exact go _ _ nf e0
    · show (if (bytesOf (x :: r)).size > sizeLine then _ else _) = _
      rw [if_neg (by simp [bytesOf] at hs ⊢; omega)]
      have q : (T (x :: r)).cps[r.length + 1]? = none := by simp [T]
      simp only [q]
    · rfl
section
variable {c : Cx} {n : Nat} {Pq : D → Prop}
theorem c_encode {l : List Nat} (hl : ∀ ch ∈ l, ch < 128) (hs : l.length ≤ sizeLine) (h : Pq (.bytes (bytesOf l))) : CallV c n (.builtin "str.encode") [.dat (.str (T l)), .dat (.str (Str.ofString "ascii"))] [] Pq := cv2 fun X A s v u G I xP r r' => by
  obtain ⟨t, rfl⟩ := r
  obtain ⟨t', rfl⟩ := r'
  refine call_gives PySem.F.slot_str_encode (typeIs_str _ _ _) PySem.F.entry_str_encode (PySem.F.args_str_encode_2 _ _) (m := .bytes (bytesOf l)) (.of_eq ?_) ⟨by simpa [bytesOf] using hs, got_tok I h ⟨_, rfl⟩⟩
  rw [enc_tree1, enc_tree2, narrow l hl _ hs]; rfl
end
end Mine
end
section
namespace Mine
open PySem PySem.W PySem.Calls PyProof.Rows Builtin Builtin.ObjectAttr
section
variable {c : Cx} {n : Nat} {fc : FC} {ρ : Rho} {R : Out → Prop} {Pq : D → Prop} {Pb : Bool → Prop}
/-- a class without __init__ -/
theorem call_make0 (O : c.Ok) {C : Addr} (hm : makesIn c.K C = true) (hi : findIn c.K (.ref C) "__init__" = some (some (.builtin "object.__init__"))) (h : Pq (.inst C [])) : CallK c n (.ref C) [] [] Pq := by
  intro X A s vs kvs G I xP ra rk
  have e : vs = [] := ra
  subst e
  have e : kvs = [] := rk
  subst e
  obtain ⟨hh, g, d, t, os⟩ := s
  have K := I.kin O
  have big := I.big
  have Y := makes_of (M := model c.prog c.w) K hm
  refine make_core Y (looks_findIn K hi) (fun self => Looks.of_pure (oi_bind self)) (.inr ⟨rfl, rfl⟩) ?_
  have I₁ : Inv c ⟨(hh.push emptyDict).push (instObj C hh.objs.size), g, d, t, os⟩ := (I.push (o := emptyDict) (t := t)).push (o := instObj C hh.objs.size) (t := t)
  have gd : ((hh.push emptyDict).push (instObj C hh.objs.size)).get? hh.objs.size = some emptyDict := Heap.get?_push_of_some _ (Heap.get?_push_size _ rfl)
  have ga : ((hh.push emptyDict).push (instObj C hh.objs.size)).get? (hh.objs.size + 1) = some (instObj C hh.objs.size) := by
    have q := Heap.get?_push_size (hh.push emptyDict) (o := instObj C hh.objs.size) rfl
    rw [Heap.size_push] at q
    exact q
  have t1 : Looks (model c.prog c.w) ((hh.push emptyDict).push (instObj C hh.objs.size)) (typeOf (.ref (hh.objs.size + 1))) (.ref C) := (Looks.ld ga).andThen .now
  have t2 : Looks (model c.prog c.w) ((hh.push emptyDict).push (instObj C hh.objs.size)) (isInstance (.ref (hh.objs.size + 1)) (.type "object")) true := t1.andThen (Y.top.keeps fun b o e => Heap.get?_push_of_some _ (Heap.get?_push_of_some _ e))
  refine codeAny_call_builtin oi_plain entry_oi (@check_slot (model c.prog c.w) _ _ _ "object.__init__" "object" "__init__" (.ref (hh.objs.size + 1)) [] [] _ oi_kind oi_split t2 (oi_args (.ref (hh.objs.size + 1))) ?_)
  show wpAny _ _ («object.__init__» ⟨[.ref (hh.objs.size + 1)], []⟩) _ _ _
  rw [oi_run]
  refine wpAny_pure ?_
  refine ⟨rfl, ?_⟩
  exact ⟨I₁, stay_push.trans stay_push, .inst C [], h, hh.objs.size + 1, hh.objs.size, [], 0, rfl, fun q => xP.new (Nat.le_succ _) q, fun q => xP.new (Nat.le_refl _) q, ga, gd, rfl⟩
end
end Mine
end
section
namespace Mine
open PySem PySem.W PySem.Calls PyProof.Rows Builtin
open AutoSeq1 (wpAny_loadPart')

/-- what a consumer asks of a generator: values come one by one, the list that takes them up is none of its own -/
structure WalkR (prog : Program) (w : World) (A : Around) (I S : Addr) (n : Nat) (St : Nat → List Value → Shared → Prop) (Fn : List Value → Shared → Prop) : Prop where
  ne : S ≠ I
  ty : ∀ i vs (s : Shared), St i vs s → s.TypeIs (.ref I) "generator"
  frame : ∀ i vs (s : Shared) h' tk, St i vs s → (∃ o, h'.get? S = some o) → (∀ b o, b ≠ S → s.heap.get? b = some o → h'.get? b = some o) → St i vs { s with heap := h', toks := tk }
  item : ∀ i vs (s : Shared) (Q : Option Value → Shared → Prop) (E : Value → Shared → Prop) o, i < n → s.heap.get? S = some o → St i vs s → (∀ v s', St (i + 1) (vs ++ [v]) s' → s'.heap.get? S = some o → Q (some v) s') → wpAny (model prog w) A (pyNext (.ref I)) Q E s
  done : ∀ vs (s : Shared) (Q : Option Value → Shared → Prop) (E : Value → Shared → Prop) o, s.heap.get? S = some o → St n vs s → (∀ s', Fn vs s' → s'.heap.get? S = some o → Q none s') → wpAny (model prog w) A (pyNext (.ref I)) Q E s
  self : ∀ i vs (s : Shared) (Q : Value → Shared → Prop) (E : Value → Shared → Prop), St i vs s → Q (.ref I) s → wpAny (model prog w) A (pyIter (.ref I)) Q E s

section
variable {prog : Program} {w : World} {A : Around} {E : Value → Shared → Prop} {s : Shared} {R : Result → Shared → Prop} {I : Addr} {n : Nat} {St : Nat → List Value → Shared → Prop} {Fn : List Value → Shared → Prop}

theorem extend_loopR (S : Addr) (W : WalkR prog w A.in1 I S n St Fn) (hn : n ≤ sizeLine) (res : Value) :
    ∀ (k i : Nat) (s : Shared) (vs : List Value) (c : Nat), n - i = k → i ≤ n → vs.length = i → St i vs s → s.heap.get? S = some { cls := .type "list", dict := none, data := .seq vs.toArray c, slots := #[] } →
    (∀ s' vs' c', vs'.length = n → s'.heap.get? S = some { cls := .type "list", dict := none, data := .seq vs'.toArray c', slots := #[] } → Fn vs' s' → R (.ok (.ret res)) s') →
    codeAny (model prog w) A (.builtin "list.extend.loop" ⟨[.ref S, .ref I, res], []⟩) R s := by
  intro k
  induction k with
  | zero =>
    intro i s vs c hk hi hl hst hS hR
    have hin : i = n := by omega
    subst hin
    refine codeAny_builtin F.entry_extend_loop ?_
    rw [Around.under_plainId F.plain_extend_loop _]
    show wpAny _ A.in1 (pyNext (.ref I) >>= _) _ _ s
    refine wpAny_bind (W.done vs s _ _ _ hS hst fun s' hm hS' => ?_)
    exact wpAny_pure (hR s' vs c hl hS' hm)
  | succ k ih =>
    intro i s vs c hk hi hl hst hS hR
    have hlt : i < n := by omega
    refine codeAny_builtin F.entry_extend_loop ?_
    rw [Around.under_plainId F.plain_extend_loop _]
    show wpAny _ A.in1 (pyNext (.ref I) >>= _) _ _ s
    refine wpAny_bind (W.item i vs s _ _ _ hlt hS hst fun v s' hst' hS' => ?_)
    show wpAny _ A.in1 (updateSeq S (·.push v) >>= _) _ _ _
    refine wpAny_bind ?_
    have hp : vs.toArray.push v = (vs ++ [v]).toArray := by simp
    refine wpAny_updateSeq hS' rfl (wpAny_pure ⟨plainId_quiet F.plain_extend_loop _, ih (i + 1) _ (vs ++ [v]) _ (by omega) hlt (by simp [hl]) (W.frame _ _ s' _ s'.toks hst' ⟨_, Heap.get?_update_self (Obj.mapSeq (·.push v)) hS' rfl⟩ fun b o hb e => ?_) (by rw [← hp]; exact Heap.get?_update_self (Obj.mapSeq (·.push v)) hS' rfl) hR⟩)
      (by simp [hl]; omega) (by show (vs.toArray.push v).size ≤ sizeLine + 1; rw [Array.size_push]; simp [hl]; omega)
    exact (Heap.get?_update_other _ _ (Ne.symm hb)).trans e

theorem collectR {Q : List Value → Shared → Prop} (W : WalkR prog w A.in1 I s.heap.objs.size n St Fn) (hst : ∀ o h', (∀ b o, s.heap.get? b = some o → h'.get? b = some o) → h'.get? s.heap.objs.size = some o → St 0 [] { s with heap := h' })
    (hQ : ∀ s' vs, vs.length = n → Fn vs s' → (∃ o, s'.heap.get? s.heap.objs.size = some o) → Q vs s') (hn : n ≤ sizeLine) : wpAny (model prog w) A (collect (.ref I)) Q E s := by
  unfold collect
  refine wpAny_bind (wpAny_runValue (codeAny_builtin F.entry_proto_collect ?_))
  rw [Around.under_plainId F.plain_proto_collect _]
  show wpAny _ A.in1 (newList [] >>= fun l => again (.builtin "list.__iadd__" ⟨[l, .ref I], []⟩)) _ _ s
  refine wpAny_bind (wpAny_newObj_type ?_)
  refine wpAny_pure ⟨plainId_quiet F.plain_list_iadd _, codeAny_builtin F.entry_list_iadd ?_⟩
  rw [Around.under_plainId F.plain_list_iadd _]
  have hS₁ : (s.heap.push { cls := .type "list", data := .seq ([] : List Value).toArray }).get? s.heap.objs.size = some { cls := .type "list", data := .seq ([] : List Value).toArray } := Heap.get?_push_size _ rfl
  have hst₁ := hst _ (s.heap.push { cls := .type "list", data := .seq ([] : List Value).toArray }) (fun b o e => Heap.get?_push_of_some _ e) hS₁
  show wpAny _ A.in1 (Builtin.List.listExtendWith (.ref s.heap.objs.size) (.ref I) (.ref s.heap.objs.size)) _ _ _
  unfold Builtin.List.listExtendWith
  refine wpAny_bind (wpAny_typeOf (W.ty 0 _ _ hst₁) ?_)
  have h1 : Builtin.List.listSameRef (.ref s.heap.objs.size) (.ref I) = false := by simp [Builtin.List.listSameRef, W.ne]
  have h2 : (Value.type "generator" == Value.type "list") = false := by decide
  have h3 : (Value.type "generator" == Value.type "tuple") = false := by decide
  simp only [h1, h2, h3, Bool.or_false, Bool.false_eq_true, if_false]
  refine wpAny_bind (W.self 0 _ _ _ _ hst₁ ?_)
  refine wpAny_bind (wpAny_holding ?_)
  unfold Builtin.List.listLengthHint
  refine wpAny_bind (wpAny_specialOf (W.ty 0 _ _ hst₁) F.gen_no_len ?_)
  show wpAny _ A.in1 (specialOf (Value.ref I) (Str.ofString "__length_hint__") >>= _) _ _ _
  refine wpAny_bind (wpAny_specialOf (W.ty 0 _ _ hst₁) F.gen_no_hint ?_)
  refine wpAny_pure ?_
  show wpAny _ A.in1 (rule "list.extend.makes-room" >>= fun _ => Builtin.List.listTouch (.ref s.heap.objs.size) >>= fun _ =>
    again (.builtin "list.extend.loop" ⟨[.ref s.heap.objs.size, .ref I, .ref s.heap.objs.size], []⟩)) _ _ _
  refine wpAny_bind (wpAny_rule ?_)
  refine wpAny_bind ?_
  show wpAny _ A.in1 (updateSeq s.heap.objs.size (·.push .none) >>= fun _ => updateSeq s.heap.objs.size (·.pop)) _ _ _
  refine wpAny_bind (wpAny_updateSeq hS₁ rfl ?_)
  have hS₂ := Heap.get?_update_self (Obj.mapSeq (·.push Value.none)) hS₁ rfl
  refine wpAny_updateSeq hS₂ rfl ?_
  have hS₃ := Heap.get?_update_self (Obj.mapSeq (·.pop)) hS₂ rfl
  have oth : ∀ b o, b ≠ s.heap.objs.size → (s.heap.push { cls := .type "list", data := .seq ([] : List Value).toArray }).get? b = some o →
      (((s.heap.push { cls := .type "list", data := .seq ([] : List Value).toArray }).update s.heap.objs.size (Obj.mapSeq (·.push Value.none))).update s.heap.objs.size (Obj.mapSeq (·.pop))).get? b = some o :=
    fun b o hb e => (Heap.get?_update_other _ _ (Ne.symm hb)).trans ((Heap.get?_update_other _ _ (Ne.symm hb)).trans e)
  refine wpAny_pure ⟨plainId_quiet F.plain_extend_loop _, extend_loopR _ W hn _ n 0 _ [] _ rfl (Nat.zero_le _) rfl
    (W.frame 0 _ ({ s with heap := s.heap.push { cls := .type "list", data := .seq ([] : List Value).toArray } } : Shared) _ s.toks hst₁ ⟨_, hS₃⟩ oth) hS₃ fun s' vs' c' hl hS' hF => ?_⟩
  show wpAny _ A (load s.heap.objs.size >>= _) _ _ s'
  refine wpAny_bind (wpAny_load hS' ?_)
  refine wpAny_pure ?_
  show Q vs'.toArray.toList s'
  rw [List.toList_toArray]
  exact hQ s' vs' hl hF ⟨_, hS'⟩

theorem tuple_newR {Q₁ : Value → Shared → Prop} (W : WalkR prog w A.in1.in1 I s.heap.objs.size n St Fn) (hT : s.TypeIs (.ref I) "generator") (hst : ∀ o h', (∀ b o, s.heap.get? b = some o → h'.get? b = some o) → h'.get? s.heap.objs.size = some o → St 0 [] { s with heap := h' })
    (h : ∀ s' vs, vs.length = n → Fn vs s' → (∃ o, s'.heap.get? s.heap.objs.size = some o) → Q₁ (.ref s'.heap.objs.size) { s' with heap := s'.heap.push { cls := .type "tuple", data := .seq vs.toArray } }) (hsz : n ≤ sizeLine) :
    codeAny (model prog w) A (.call (.builtin "tuple.__new__") ⟨[.type "tuple", .ref I], []⟩) (wants Q₁ E) s := by
  refine codeAny_of_tree ?_
  show wpAny _ A.in1 (do checkBuiltinCall "tuple.__new__" ⟨[.type "tuple", .ref I], []⟩; again (.builtin "tuple.__new__" ⟨[.type "tuple", .ref I], []⟩)) _ _ s
  refine wpAny_bind (wpAny_of_eq (F.newCall_tuple_1 _) (wpAny_pure ⟨plainId_quiet F.plain_tuple_new _, codeAny_builtin F.entry_tuple_new ?_⟩))
  rw [Around.under_plainId F.plain_tuple_new _]
  have hsub := sub_tuple_self
  have hinit := init_tuple_lookup
  have hmh := madeHere_tuple
  wp_walk using wpAny_typeOf hT, collectR (hn := hsz) W hst
  intro s' vs hl hF hS
  show wpAny _ _ (Builtin.Tuple.tupleExact vs.toArray >>= fun v => ret v) _ _ _
  unfold Builtin.Tuple.tupleExact
  refine wpAny_bind (wpAny_newObj_type ?_ (by show vs.toArray.size ≤ sizeLine; simp only [List.size_toArray]; rw [hl]; exact hsz))
  refine wpAny_pure ?_
  exact h s' vs hl hF hS

theorem call_tupleR {Q : Value → Shared → Prop} (W : WalkR prog w A.in1.in1.in1 I s.heap.objs.size n St Fn) (hT : s.TypeIs (.ref I) "generator") (hst : ∀ o h', (∀ b o, s.heap.get? b = some o → h'.get? b = some o) → h'.get? s.heap.objs.size = some o → St 0 [] { s with heap := h' })
    (hQ : ∀ s' vs, vs.length = n → Fn vs s' → (∃ o, s'.heap.get? s.heap.objs.size = some o) → Q (.ref s'.heap.objs.size) { s' with heap := s'.heap.push { cls := .type "tuple", data := .seq vs.toArray } }) (hsz : n ≤ sizeLine) :
    wpAny (model prog w) A (call (.type "tuple") [.ref I]) Q E s := by
  refine callType_codes (Q₁ := fun obj s₁ => s₁.TypeIs obj "tuple" ∧ Q obj s₁) F.called_tuple (F.typeCall_tuple_1 _) F.entry_object_init
    (tuple_newR (hsz := hsz) W hT hst fun s' vs hl hF hS => ⟨⟨_, Heap.get?_push_size _ rfl, rfl⟩, hQ s' vs hl hF hS⟩) fun obj s₁ h₁ => ?_
  exact ⟨h₁.1, F.args_object_init_2 obj _, object_init_meets F.called_tuple.init.lookup F.called_tuple.made (by decide) prog w A.in1 _ s₁ ⟨h₁.1, rfl, h₁.2⟩⟩
end
end Mine
end
section
namespace Mine
open PySem PySem.W PySem.Calls PyProof.Rows Builtin

/-- the context, whatever the generators -/
abbrev Cx.any (c : Cx) : Cx := { c with GI := fun _ _ => True }
abbrev Cx.at' (c : Cx) (gs : Array GenState) (d : Drawn) : Cx := { c with GI := fun a b => a = gs ∧ b = d }
theorem Inv.any {c : Cx} {s : Shared} (I : Inv c s) : Inv c.any s := ⟨I.stay, I.old, I.tab, I.os, trivial, I.lo, I.big⟩
theorem Inv.of_any {c : Cx} {s : Shared} (I : Inv c.any s) (h : c.GI s.gens s.drawn) : Inv c s := ⟨I.stay, I.old, I.tab, I.os, h, I.lo, I.big⟩
theorem Inv.at' {c : Cx} {s : Shared} (I : Inv c.any s) : Inv (c.at' s.gens s.drawn) s := ⟨I.stay, I.old, I.tab, I.os, ⟨rfl, rfl⟩, I.lo, I.big⟩
theorem Inv.off {c : Cx} {s : Shared} {gs : Array GenState} {d : Drawn} (I : Inv (c.at' gs d) s) : Inv c.any s ∧ s.gens = gs ∧ s.drawn = d := ⟨⟨I.stay, I.old, I.tab, I.os, trivial, I.lo, I.big⟩, I.gens.1, I.gens.2⟩
theorem ItAt.to {c c' : Cx} (e : c.h₁ = c'.h₁) {X : Addr → Prop} {h : Heap} {it : Addr} {ds : List D} (x : ItAt c X h it ds) : ItAt c' X h it ds := by
  cases x with
  | list l i vs m lo hi xl g r => exact .list l i vs m (e ▸ lo) hi xl g r
  | tup l i vs m lo hi xl g r => exact .tup l i vs m (e ▸ lo) hi xl g r
  | range x k lo hi q => exact .range x k (e ▸ lo) hi q
theorem Cx.Ok.to {c : Cx} (O : c.Ok) (GI : Array GenState → Drawn → Prop) : Cx.Ok { c with GI := GI } := ⟨O.kin, O.noP, O.nb, O.limit, O.pS, O.pB, O.pG, O.cls, O.tab₁⟩
theorem Inv.gens' {c : Cx} {s : Shared} {gs : Array GenState} (I : Inv c.any s) : Inv c.any { s with gens := gs } := ⟨I.stay, I.old, I.tab, I.os, trivial, I.lo, I.big⟩

section
variable {c : Cx} {n : Nat}
/-- where a generator's walk stands -/
structure GL (c : Cx) (X : Addr → Prop) (C I S : Addr) (ds : List D) (s : Shared) : Prop where
  inv : Inv c.any s
  slot : ∃ o, s.heap.get? S = some o
  it : ItAt c X s.heap I ds
  ns : ∃ m, s.heap.Ns C m
  xok : Xok c X s
  xS : X S
  xC : X C
  xI : X I
  lS : c.h₁.objs.size ≤ S
  lC : c.h₁.objs.size ≤ C
  nC : I ≠ C
  nS : I ≠ S
  nSC : C ≠ S
def Zs (c : Cx) (C I : Addr) : Addr → Prop := fun b => b = I ∨ b = C ∨ b = c.P

theorem GL.frame {X : Addr → Prop} {C I S : Addr} {ds : List D} {s s'' : Shared} (g : GL c X C I S ds s) (ho : s''.os = c.os₁) (hS : ∃ o, s''.heap.get? S = some o) (k : ∀ b o, b ≠ S → s.heap.get? b = some o → s''.heap.get? b = some o) : GL c X C I S ds s'' := by
  obtain ⟨oS, gS⟩ := hS
  have big : c.h₁.objs.size ≤ s''.heap.objs.size := Nat.le_trans g.lS (Nat.le_of_lt (Heap.lt_size gS))
  have I' : Inv c.any { s with heap := s''.heap, toks := s.toks } := g.inv.side g.lS (fun b o nb e => k b o nb e) big
  refine ⟨⟨I'.stay, I'.old, I'.tab, ho, trivial, I'.lo, I'.big⟩, ⟨oS, gS⟩, g.it.mix (Z := (· = S)) (fun b o nb e => k b o nb e) g.nS fun a e => .inl (e ▸ g.xS), ?_, ⟨g.xok.P, fun a xa => ?_, g.xok.lo, g.xok.top⟩, g.xS, g.xC, g.xI, g.lS, g.lC, g.nC, g.nS, g.nSC⟩
  · obtain ⟨m, q⟩ := g.ns
    exact ⟨m, q.at' fun o e => k _ o g.nSC e⟩
  · by_cases e : a = S
    · exact ⟨oS, e ▸ gS⟩
    · obtain ⟨o, q⟩ := g.xok.ex a xa; exact ⟨o, k a o e q⟩

/-- what a generator's steps keep -/
abbrev gProto (c : Cx) (X : Addr → Prop) (C I S : Addr) (es : List D) : Protocol := fun m s₀ v s kap =>
  (∃ e, es[es.length - 1 - m]? = some e ∧ Rep X s.heap e v) ∧ s.gens = s₀.gens ∧ s.drawn = s₀.drawn ∧ Inv c.any s ∧ Stay (Zs c C I) s₀.heap s.heap ∧ (∃ o, s.heap.get? S = some o) ∧
    ∀ s'' : Shared, s''.os = c.os₁ → (∃ o, s''.heap.get? S = some o) → (∀ b o, b ≠ S → s.heap.get? b = some o → s''.heap.get? b = some o) → kap (.send .none) s''
abbrev gEnd (c : Cx) (C I : Addr) : GenEnd := fun n s₀ r s₁ => r = .ok .next ∧ (n = 0 ∧ s₁.gens = s₀.gens ∧ s₁.drawn = s₀.drawn ∧ Inv c.any s₁ ∧ Stay (Zs c C I) s₀.heap s₁.heap)

abbrev gfc (scope : Scope) (code : Value) (qual : Str) : FC := ⟨scope, code, qual ++ "<genexpr>.", fun _ => true, false⟩
abbrev grho (i : Nat) (d : D) : Rho := List.replicate i none ++ [some (.dat d)]
theorem grho_get {i j : Nat} {d : D} {lv : LV} (h : (grho i d)[j]? = some (some lv)) : j = i ∧ lv = .dat d := by
  unfold grho at h
  rcases Nat.lt_trichotomy j i with q | q | q
  · rw [List.getElem?_append_left (by simpa using q), List.getElem?_replicate] at h
    split at h <;> cases h
  · subst q
    rw [List.getElem?_append_right (by simp)] at h
    simp at h
    exact ⟨rfl, h.symm⟩
  · rw [List.getElem?_eq_none (by simp; omega)] at h; cases h

theorem Good.loop {A : Around} {ex : Expr} {k : Nat} {it acc : Value} {env : Env} (G : Good (n + 1) A) : Good n (A.over (.compLoop ex k it acc env) []) := by
  refine ⟨?_, ?_, ?_⟩
  · exact G.1
  · have e : (A.over (.compLoop ex k it acc env) []).depth = A.depth + 0 + (Code.compLoop ex k it acc env).weight := rfl
    have w : (Code.compLoop ex k it acc env).weight ≤ 4 := by
      show _ ≤ 4; unfold Code.weight; simp [Code.frames, Code.isCreation, Code.isGuard, Code.isCaller]
      split <;> omega
    have := G.2.1; rw [e]; omega
  · have e : (A.over (.compLoop ex k it acc env) []).units = A.units + 0 + (Code.compLoop ex k it acc env).cUnits := rfl
    have w : (Code.compLoop ex k it acc env).cUnits ≤ 16 := by
      show _ ≤ 16; simp [Code.cUnits, Code.frames]
      split <;> omega
    have := G.2.2; rw [e]; omega

theorem seg_loopR (O : c.Ok) {A : Around} (G : Good (n + 1) A) {X : Addr → Prop} {C I S : Addr} {elt iter : Expr} {x : Str} {px : Pos} {scope : Scope} {code : Value} {qual : Str} {pos : Pos} {cenv : Env} {i : Nat} (hx : scope.names[i]? = some (x, .local)) (hfc : FC.ok (gfc scope code qual) = true) (hco : scope.isCoroutine = false) (hcell : ∀ y ∈ scope.names, y.2 ≠ .cell)
    (hev : EnvOk (gfc scope code qual) cenv) (hL : cenv.locals = C) (hcl : cenv.cells = []) (F : D → D) (es : List D) :
    ∀ (ds done : List D) (s₀ s : Shared), (∀ d ∈ ds, ∀ GI, Ev { c with GI := GI } n (gfc scope code qual) (grho i d) elt (· = F d)) → es = done ++ ds.map F → GL c X C I S ds s → s.gens = s₀.gens → s.drawn = s₀.drawn → Stay (Zs c C I) s₀.heap s.heap →
      Seg (model c.prog c.w) A (gEnd c C I) (gProto c X C I S es) ds.length s₀
        (.compLoop (.GeneratorExp elt [⟨.Name x px, iter, [], 0⟩] scope pos) 0 (.ref I) .none cenv)
        ((model c.prog c.w).den (.compLoop (.GeneratorExp elt [⟨.Name x px, iter, [], 0⟩] scope pos) 0 (.ref I) .none cenv)) [] s := by
  have Gl : Good n (A.over (.compLoop (.GeneratorExp elt [⟨.Name x px, iter, [], 0⟩] scope pos) 0 (.ref I) .none cenv) []) := G.loop
  have hkind : scope.kind = .function := by
    have h := hfc; unfold FC.ok at h; exact beq_iff_eq.mp (Bool.and_eq_true_iff.mp h).1
  have hxk : cenv.kindOf x = some .local := by
    unfold Env.kindOf
    rw [hev.scope]
    have h := hfc; unfold FC.ok at h
    exact nodup_lookup (of_decide_eq_true (Bool.and_eq_true_iff.mp h).2) hx
  have hp : (cenv.scope.kind == .class || (cenv.scope.kind == .module && cenv.locals != cenv.globals)) = false := by rw [hev.scope]; show (scope.kind == _ || (scope.kind == _ && _)) = false; rw [hkind]; rfl
  have hcoe : cenv.scope.isCoroutine = false := by rw [hev.scope]; exact hco
  intro ds
  induction ds with
  | nil =>
    intro done s₀ s hel he g hg hd hst
    show Seg _ A _ _ _ s₀ _ ((compTurn (.GeneratorExp elt [⟨.Name x px, iter, [], 0⟩] scope pos) 0 (.ref I) .none cenv).onRaise (leaving cenv)) [] s
    rw [compTurn_gen, Sem.onRaise_eq_wrap]
    refine seg_bind_wrap (wpAny_standAt ?_)
    obtain ⟨oS, gS⟩ := g.slot
    refine seg_bind_wrap (wpAny_mono (iter_end (c := c.at' s.gens s.drawn) (Q := fun r s' => r = none ∧ Inv (c.at' s.gens s.drawn) s' ∧ Stay (· = I) s.heap s'.heap) Gl.1 g.inv.at' (ItAt.to (c := c) (c' := c.at' s.gens s.drawn) rfl g.it) ⟨S, oS, Ne.symm g.nS, g.lS, gS⟩ fun s' i' k => ⟨rfl, i', k⟩) (fun r s' q => ?_) fun _ _ e => e.elim)
    obtain ⟨rfl, i', k⟩ := q
    obtain ⟨ia, h1, h2⟩ := i'.off
    exact seg_end (.ok .next) ⟨rfl, rfl, h1.trans hg, h2.trans hd, ia, fun b o nb e => k b o (fun z => nb (.inl z)) (hst b o nb e)⟩
  | cons d r ih =>
    intro done s₀ s hel he g hg hd hst
    show Seg _ A _ _ _ s₀ _ ((compTurn (.GeneratorExp elt [⟨.Name x px, iter, [], 0⟩] scope pos) 0 (.ref I) .none cenv).onRaise (leaving cenv)) [] s
    rw [compTurn_gen, Sem.onRaise_eq_wrap]
    refine seg_bind_wrap (wpAny_standAt ?_)
    obtain ⟨oS, gS⟩ := g.slot
    refine seg_bind_wrap (wpAny_mono (iter_next (c := c.at' s.gens s.drawn) (Q := fun o s' => ∃ v, o = some v ∧ Inv (c.at' s.gens s.drawn) s' ∧ Stay (· = I) s.heap s'.heap ∧ ItAt c X s'.heap I r ∧ Rep X s'.heap d v) g.inv.at' (ItAt.to (c := c) (c' := c.at' s.gens s.drawn) rfl g.it) fun v s' i' k t rv => ⟨v, rfl, i', k, ItAt.to (c := c.at' s.gens s.drawn) (c' := c) rfl t, rv⟩) (fun o s₁ q => ?_) fun _ _ e => e.elim)
    obtain ⟨v, rfl, I₁, k₁, t₁, rv⟩ := q
    refine seg_bind_wrap (wpAny_of_eq (rfl : letOwnedTupleGo (.Name x px) (.ref I) v = pure ()) ?_)
    obtain ⟨m, hn⟩ := g.ns
    have hn₁ : s₁.heap.Ns cenv.locals m := hL ▸ hn.at' fun o e => k₁ _ o (Ne.symm g.nC) e
    refine seg_bind_wrap (wpAny_assign_Name (wpAny_storeName_local hxk hn₁ (fun h₂ hn₂ hs₂ => ?_) hp))
    rw [hL] at hs₂ hn₂
    have k₂ : Stay (· = C) s₁.heap h₂ := fun b o nb e => (hs₂.2 b nb).trans e
    have I₂ : Inv (c.at' s.gens s.drawn) { s₁ with heap := h₂ } := I₁.turn (t := s₁.toks) g.lC hs₂
    have hzC : ∀ a, a = C → X a ∨ Side s₁.heap a := fun a e => .inl (e ▸ g.xC)
    have t₂ : ItAt c X h₂ I r := t₁.mix k₂ g.nC hzC
    have rv₂ : Rep X h₂ d v := rv.mix hzC k₂
    refine seg_bind_wrap (wpAny_pure ?_)
    simp only [if_true]
    have hy : ∀ v, yieldOut cenv v = yieldValue v := fun v => by simp only [yieldOut, hcoe, Bool.false_eq_true, if_false]
    simp only [hy]
    rw [Sem.bind_eq_wrap', Sem.bind_eq_wrap', Sem.wrap_wrap, Sem.wrap_wrap]
    have k₀₂ : ∀ b o, b ≠ I → b ≠ C → s.heap.get? b = some o → h₂.get? b = some o := fun b o n1 n2 e => k₂ b o n2 (k₁ b o n1 e)
    have ex₂ : ∀ a, X a → ∃ o, h₂.get? a = some o := fun a xa => by
      by_cases e1 : a = I
      · obtain ⟨o, vs, q, _⟩ := t₂.side; exact ⟨o, e1 ▸ q⟩
      · by_cases e2 : a = C
        · obtain ⟨o, _, _, q, _⟩ := hn₂; exact ⟨o, e2 ▸ q⟩
        · obtain ⟨o, q⟩ := g.xok.ex a xa; exact ⟨o, k₀₂ a o e1 e2 q⟩
    have dats : ∀ (j : Nat) (lv : LV), (grho i d)[j]? = some (some lv) → ∃ d, lv = LV.dat d := fun j lv e => ⟨d, (grho_get e).2⟩
    have Sa : Sat (c.at' s.gens s.drawn) (· = C) X X (gfc scope code qual) cenv (grho i d) { s₁ with heap := h₂, toks := s₁.toks + 1 } := by
      refine ⟨I₁.turn (t := s₁.toks + 1) g.lC hs₂, hev, hfc, g.xok.P, fun a q => q, ex₂, g.xok.lo, fun a q => q ▸ g.xC, hL, fun a q => q ▸ g.lC, ⟨_, hL ▸ hn₂, fun j y ky lv h1 h2 => ?_⟩, fun y a q => ?_, fun j y q => ?_, fun y z a q => ?_, fun y a f q => ?_, fun j a l q => ?_, apart_dat dats, fun f => by cases f⟩
      · obtain ⟨rfl, rfl⟩ := grho_get h2
        have h1 : scope.names[j]? = some (y, ky) := h1
        rw [hx] at h1
        cases h1
        exact ⟨.inl rfl, v, rv₂, fun _ => by simp, fun q => by cases q⟩
      · rw [hcl] at q; cases q
      · exact absurd rfl (hcell (y, .cell) (List.mem_of_getElem? q))
      · rw [hcl] at q; cases q
      · rw [hcl] at q; cases q
      · obtain ⟨d', e'⟩ := dats j _ q; cases e'
    refine seg_wrap (wpAny_mono (hel d List.mem_cons_self (fun a b => a = s.gens ∧ b = s.drawn) _ _ _ _ _ _ Gl Sa) (fun y s₄ h₄ => ?_) fun _ _ e => e.elim)
    obtain ⟨I₄, k₄, e, rfl, re⟩ := h₄
    obtain ⟨ia, h1, h2⟩ := I₄.off
    have nP : ∀ a, c.h₁.objs.size ≤ a → a ≠ c.P := fun a la e => absurd g.inv.lo.1 (Nat.not_lt.mpr (e ▸ la))
    have kS : s₄.heap.get? S = some oS := k₄ _ _ (nP _ g.lS) (k₀₂ _ _ (Ne.symm g.nS) (Ne.symm g.nSC) gS)
    refine seg_at (seg_yield rfl rfl rfl ⟨⟨F d, ?_, re⟩, h1.trans hg, h2.trans hd, ia, ?_, ⟨oS, kS⟩, fun s'' ho hS kk => ?_⟩)
    · rw [he]; simp
    · exact fun b o nb e => k₄ b o (fun z => nb (.inr (.inr z))) (k₀₂ b o (fun z => nb (.inl z)) (fun z => nb (.inr (.inl z))) (hst b o nb e))
    · have g₄ : GL c X C I S r s₄ := ⟨ia, ⟨oS, kS⟩, t₂.mix k₄ (nP _ t₂.lo) fun a e => .inl (e ▸ g.xok.P), ⟨_, hn₂.at' fun o e => k₄ _ o (nP _ g.lC) e⟩, ⟨g.xok.P, xex_st (c := c.any) (s := { s₁ with heap := h₂ }) ia k₄ ex₂, g.xok.lo, g.xok.top⟩, g.xS, g.xC, g.xI, g.lS, g.lC, g.nC, g.nS, g.nSC⟩
      exact seg_again rfl (ih (done ++ [F d]) s'' s'' (fun d' q => hel d' (List.mem_cons_of_mem _ q)) (by rw [he]; simp) (g₄.frame ho hS kk) rfl rfl (fun b o nb e => e))
end
end Mine
end
section
namespace Mine
open PySem PySem.W PySem.Calls PyProof.Rows Builtin
section
variable {c : Cx} {n : Nat}
theorem iter_self {X : Addr → Prop} {A : Around} {s : Shared} {it : Addr} {ds : List D} {Q : Value → Shared → Prop} {E : Value → Shared → Prop} (x : ItAt c X s.heap it ds) (h : Q (.ref it) s) : wpAny (model c.prog c.w) A (pyIter (.ref it)) Q E s := by
  cases x with
  | list l i vs m lo hi xl g r => exact wpAny_pyIter_listiter hi h
  | tup l i vs m lo hi xl g r => exact wpAny_pyIter_tupleiter hi h
  | range x k lo hi e => exact wpAny_pyIter_rangeiter hi h
theorem seg_startR (O : c.Ok) {A : Around} (G : Good (n + 1) A) {X : Addr → Prop} {C I S : Addr} {elt iter : Expr} {x : Str} {px : Pos} {scope : Scope} {code : Value} {qual : Str} {pos : Pos} {cenv : Env} {i : Nat} (hx : scope.names[i]? = some (x, .local)) (hfc : FC.ok (gfc scope code qual) = true) (hco : scope.isCoroutine = false) (hcell : ∀ y ∈ scope.names, y.2 ≠ .cell)
    (hev : EnvOk (gfc scope code qual) cenv) (hL : cenv.locals = C) (hcl : cenv.cells = []) (F : D → D) (ds : List D) (s : Shared) (hel : ∀ d ∈ ds, ∀ GI, Ev { c with GI := GI } n (gfc scope code qual) (grho i d) elt (· = F d)) (g : GL c X C I S ds s) :
      Seg (model c.prog c.w) A (gEnd c C I) (gProto c X C I S (ds.map F)) ds.length s
        (.compStart (.GeneratorExp elt [⟨.Name x px, iter, [], 0⟩] scope pos) 0 (.ref I) .none cenv)
        ((model c.prog c.w).den (.compStart (.GeneratorExp elt [⟨.Name x px, iter, [], 0⟩] scope pos) 0 (.ref I) .none cenv)) [] s := by
  have loop := seg_loopR (iter := iter) (px := px) (pos := pos) O G hx hfc hco hcell hev hL hcl F (ds.map F) ds [] s s hel rfl g rfl rfl fun b o _ e => e
  show Seg _ A _ _ _ s _ ((compStart (.GeneratorExp elt [⟨.Name x px, iter, [], 0⟩] scope pos) 0 (.ref I) .none cenv).onRaise (leaving cenv)) [] s
  unfold compStart
  rw [Sem.onRaise_eq_wrap]
  show Seg _ A _ _ _ s _ ((ask >>= _).wrap _ _ _ _) [] s
  refine seg_bind_wrap (wpAny_askSetting ?_)
  split
  · exact seg_again rfl loop
  · refine seg_bind_wrap (wpAny_rule ?_)
    show Seg _ A _ _ _ s _ ((standAt iter.pos >>= _).wrap _ _ _ _) [] s
    exact seg_bind_wrap (wpAny_standAt (seg_bind_wrap (iter_self g.it (seg_again rfl loop))))

/-- the generator's state in the consumer's eyes -/
structure GS (c : Cx) (A : Around) (X : Addr → Prop) (C I S a g : Nat) (es : List D) (gs₀ : Array GenState) (dr₀ : Drawn) (h₀ : Heap) (i : Nat) (vs : List Value) (s : Shared) : Prop where
  inv : Inv c.any s
  gen : s.heap.IsGen a g
  gens : ∀ y ∈ s.gens, y ∈ gs₀ ∨ y.bare = true
  drawn : s.drawn = dr₀
  rep : RepL X s.heap (es.take i) vs
  stay : Stay (fun b => Zs c C I b ∨ b = S) h₀ s.heap
  slot : ∃ o, s.heap.get? S = some o
  goes : ∃ gs, s.gens[g]? = some gs ∧ ∀ s'' : Shared, s''.os = c.os₁ → (∃ o, s''.heap.get? S = some o) → (∀ b o, b ≠ S → s.heap.get? b = some o → s''.heap.get? b = some o) → gs.Goes (model c.prog c.w) A.in1 (gEnd c C I) (gProto c X C I S es) (es.length - i) (.send .none) s''
structure GF (c : Cx) (X : Addr → Prop) (C I S : Nat) (es : List D) (gs₀ : Array GenState) (dr₀ : Drawn) (h₀ : Heap) (vs : List Value) (s : Shared) : Prop where
  inv : Inv c.any s
  gens : ∀ y ∈ s.gens, y ∈ gs₀ ∨ y.bare = true
  drawn : s.drawn = dr₀
  rep : RepL X s.heap es vs
  stay : Stay (fun b => Zs c C I b ∨ b = S) h₀ s.heap
theorem setGen_mem {s : Shared} {g : Nat} {x y : GenState} (h : y ∈ (s.setGen g x).gens) : y ∈ s.gens ∨ y = x := by
  have : y ∈ s.gens.setIfInBounds g x := h
  exact Array.mem_or_eq_of_mem_setIfInBounds this
theorem gen_walkR (O : c.Ok) {A : Around} (G : Good (n + 1) A) {X : Addr → Prop} {C I S a g : Nat} {es : List D} {gs₀ : Array GenState} {dr₀ : Drawn} {h₀ : Heap} (xP : X c.P) (xC : X C) (xI : X I) (xS : X S) (lS : c.h₁.objs.size ≤ S) (lC : c.h₁.objs.size ≤ C) (lI : c.h₁.objs.size ≤ I) (la : c.h₁.objs.size ≤ a) (na : a ≠ I ∧ a ≠ C ∧ a ≠ S) (nS : S ≠ I ∧ S ≠ C) :
    WalkR c.prog c.w A a S es.length (GS c A X C I S a g es gs₀ dr₀ h₀) (GF c X C I S es gs₀ dr₀ h₀) := by
  have xZ : ∀ b, Zs c C I b → X b := by rintro b (e | e | e) <;> subst e <;> assumption
  have room : A.depth < recursionLimit := G.depth
  have run : ∀ {s : Shared} {y : GenState}, (∀ y ∈ s.gens, y ∈ gs₀ ∨ y.bare = true) → ∀ {s₁ : Shared} {z : GenState}, s₁.gens = (s.setGen g .running).gens → z.bare = true → y ∈ (s₁.setGen g z).gens → y ∈ gs₀ ∨ y.bare = true := fun {s y} h {s₁ z} e hz m => by
    rcases setGen_mem m with m | m
    · rw [e] at m
      rcases setGen_mem m with m | m
      · exact h y m
      · exact .inr (by rw [m]; rfl)
    · exact .inr (by rw [m]; exact hz)
  refine ⟨fun e => na.2.2 e.symm, fun i vs s st => st.gen.typeIs, fun i vs s h' tk st hS k => ?_, fun i vs s Q E o hi gS st hQ => ?_, fun vs s Q E o gS st hQ => ?_, fun i vs s Q E st hQ => wpAny_pyIter_gen st.gen hQ⟩
  · obtain ⟨oS, gS⟩ := hS
    have hz : ∀ b, b = S → X b ∨ Side s.heap b := fun b e => .inl (e ▸ xS)
    refine ⟨st.inv.side lS (fun b o nb e => k b o nb e) (Nat.le_trans lS (Nat.le_of_lt (Heap.lt_size gS))), ?_, st.gens, st.drawn, st.rep.mix hz (fun b o nb e => k b o nb e), fun b o nb e => k b o (fun z => nb (.inr z)) (st.stay b o nb e), ⟨oS, gS⟩, ?_⟩
    · obtain ⟨o, nm, qn, ho, r⟩ := st.gen
      exact ⟨o, nm, qn, k a o na.2.2 ho, r⟩
    · obtain ⟨gs, hgs, hgo⟩ := st.goes
      exact ⟨gs, hgs, fun s'' ho hS kk => hgo s'' ho hS fun b o nb e => kk b o nb (k b o nb e)⟩
  · obtain ⟨gs, hgs, hgo⟩ := st.goes
    have hgo := hgo (s.setGen g .running) st.inv.os st.slot fun b o _ e => e
    obtain ⟨m, hm⟩ : ∃ m, es.length - i = m + 1 := ⟨es.length - i - 1, by omega⟩
    rw [hm] at hgo
    refine wpAny_pyNext_genexpQ (P := fun n s₀ s₁ => n = 0 ∧ s₁.gens = s₀.gens ∧ s₁.drawn = s₀.drawn ∧ Inv c.any s₁ ∧ Stay (Zs c C I) s₀.heap s₁.heap) G.1 (st.inv.nolimit (c := c.any) (O.to _)) room st.gen hgs hgo (fun v s₁ gs' hb hv => ?_) (fun s₁ hp h' hk => ?_)
    · obtain ⟨⟨e, he, re⟩, hgens, hdr, ia, sty, slot, kap⟩ := hv
      have sty : Stay (Zs c C I) s.heap s₁.heap := sty
      have hidx : es.length - 1 - (m + 1 - 1) = i := by omega
      rw [hidx] at he
      have nz : ¬ Zs c C I a := by rintro (q | q | q); exact na.1 q; exact na.2.1 q; exact absurd st.inv.lo.1 (Nat.not_lt.mpr (q ▸ la))
      have nzS : ¬ Zs c C I S := by rintro (q | q | q); exact nS.1 q; exact nS.2 q; exact absurd st.inv.lo.1 (Nat.not_lt.mpr (q ▸ lS))
      refine hQ v _ ⟨⟨ia.stay, ia.old, ia.tab, ia.os, trivial, ia.lo, ia.big⟩, ?_, fun y hy => run st.gens hgens hb hy, hdr.trans st.drawn, ?_, fun b o nb q => sty b o (fun z => nb (.inl z)) (st.stay b o nb q), slot, ⟨gs', ?_, fun s'' ho hS kk => ?_⟩⟩ (sty _ _ nzS gS)
      · obtain ⟨o, nm, qn, ho, r⟩ := st.gen
        exact ⟨o, nm, qn, sty a o nz ho, r⟩
      · have et : es.take (i + 1) = es.take i ++ [e] := by rw [List.take_add_one, he]; rfl
        rw [et]
        exact (st.rep.mix (fun b z => .inl (xZ b z)) sty).append ⟨v, [], rfl, re, rfl⟩
      · have hr : s₁.gens[g]? = some .running := by rw [hgens]; exact setGen_self hgs
        exact setGen_self hr
      · have e : es.length - (i + 1) = m := by omega
        rw [e]
        exact kap s'' ho hS kk
    · exact absurd hp.1 (Nat.succ_ne_zero m)
  · obtain ⟨gs, hgs, hgo⟩ := st.goes
    have hgo := hgo (s.setGen g .running) st.inv.os st.slot fun b o _ e => e
    rw [Nat.sub_self] at hgo
    refine wpAny_pyNext_genexpQ (P := fun n s₀ s₁ => n = 0 ∧ s₁.gens = s₀.gens ∧ s₁.drawn = s₀.drawn ∧ Inv c.any s₁ ∧ Stay (Zs c C I) s₀.heap s₁.heap) G.1 (st.inv.nolimit (c := c.any) (O.to _)) room st.gen hgs hgo (fun v s₁ gs' hb hv => ?_) (fun s₁ hp h' hk => ?_)
    · obtain ⟨_, _, _, ia, _, slot, kap⟩ := hv
      exact False.elim (kap s₁ ia.os slot fun _ _ _ e => e)
    · obtain ⟨_, hgens, hdr, ia, sty⟩ := hp
      have sty : Stay (Zs c C I) s.heap s₁.heap := sty
      have nzS : ¬ Zs c C I S := by rintro (q | q | q); exact nS.1 q; exact nS.2 q; exact absurd st.inv.lo.1 (Nat.not_lt.mpr (q ▸ lS))
      have gS' := sty _ _ nzS gS
      have rep : RepL X s.heap es vs := by have := st.rep; rwa [List.take_length] at this
      refine hQ _ ⟨⟨ia.stay.trans fun b o _ e => hk b o e, ia.old.step_keeps hk, ?_, ia.os, trivial, ia.lo, Nat.le_trans lS (Nat.le_of_lt (Heap.lt_size (hk _ _ gS')))⟩, fun y hy => run st.gens hgens rfl hy, hdr.trans st.drawn, (rep.mix (fun b z => .inl (xZ b z)) sty).stay (fun b o _ e => hk b o e), fun b o nb q => hk b o (sty b o (fun z => nb (.inl z)) (st.stay b o nb q))⟩ (hk _ _ gS')
      obtain ⟨ps, x, y⟩ := ia.tab
      exact ⟨ps, x.keeps hk, y.keeps hk⟩
end
end Mine
end
section
namespace Mine
open PySem PySem.W PySem.Calls PyProof.Rows Builtin
section
variable {c : Cx} {n : Nat} {fc : FC} {ρ : Rho} {Pq : D → Prop}
/-- the builtins of a new frame -/
def BI (c : Cx) : Prop := ∀ (A : Around) (E : Value → Shared → Prop) (s : Shared) (Q : Addr → Shared → Prop), c.K.In s.heap → Q builtinsNs s → wpAny (model c.prog c.w) A (builtinsFor mainGlobals builtinsNs) Q E s
/-- a code object of the one table -/
theorem gen_code (O : c.Ok) {A : Around} {s : Shared} {env : Env} {pos : Pos} {qual : Str} {scope : Scope} {E : Value → Shared → Prop} {Q : Value → Shared → Prop} (I : Inv c s) (hc : env.code = .ref c.cP)
    (h : ∀ code s', Inv c s' → Stay (· = c.P) s.heap s'.heap → s'.gens = s.gens → s'.drawn = s.drawn → Q code s') : wpAny (model c.prog c.w) A (genexprCode env pos qual scope) Q E s := by
  obtain ⟨ps, isc, tab⟩ := I.tab
  cases hnf : codeAmong pos ps.toList with
  | some cv => exact wpAny_genexprCode_hit hc isc hnf (h _ _ I (Stay.refl _ _) rfl rfl)
  | none =>
    refine wpAny_genexprCodeX hc isc tab hnf fun c' h' tk ext lo hi isc' rec tab' _ => ?_
    obtain ⟨ps₀, t₀⟩ := O.tab₁
    have hP : c.P ≠ cStatics := O.pS
    refine h _ _ ⟨fun b o nb e => ext b o nb (I.stay b o nb e), OldK.step_table I.old t₀ tab tab' ext hP, ⟨_, isc', tab'⟩, I.os, I.gens, I.lo, Nat.le_trans I.big (Nat.le_of_lt (Nat.lt_of_le_of_lt lo hi))⟩ (fun b o nb e => ext b o nb e) rfl rfl
theorem Good.mono {m : Nat} {A A' : Around} (G : Good m A) {k : Nat} (hh : A'.handled = A.handled) (hd : A'.depth + 4 * k ≤ A.depth + 4 * m) (hu : A'.units + 16 * k ≤ A.units + 16 * m) : Good k A' := ⟨hh.trans G.1, Nat.le_trans hd G.2.1, Nat.le_trans hu G.2.2⟩

theorem ev_tuple_gen (O : c.Ok) (hGI : ∀ a b d, c.GI a d → (∀ y ∈ b, y ∈ a ∨ y.bare = true) → c.GI b d) (hBI : BI c) {p px pos gpos : Pos} {elt iter : Expr} {x : Str} {scope : Scope} {j i : Nat}
    (e : placeIn "tuple" fc.scope.names 0 = some j) (hk : fc.scope.names[j]? = some ((Str.ofString "tuple"), NameKind.globalImplicit)) (g : nsIn c.K mainGlobals "tuple" = some none)
    (hcode : fc.code = .ref c.cP) (hx : scope.names[i]? = some (x, .local)) (hfc : FC.ok (gfc scope .none fc.qual) = true) (hco : scope.isCoroutine = false) (hcell : (scope.names.all fun y => y.2 != .cell) = true) (hclos : ∀ env, closureFor scope env = pure []) (h0 : scope.names.lookup (".0" : Str) = some NameKind.local)
    (hs : ∀ env x, genFold iter env x = pure x) (F : D → D)
    (h : Ev c (n + 2) fc ρ iter (fun d => ∃ ds, Items d ds ∧ ds.length ≤ sizeLine ∧ (∀ code, ∀ d ∈ ds, ∀ GI, Ev { c with GI := GI } n (gfc scope code fc.qual) (grho i d) elt (· = F d)) ∧ Pq (.tup (ds.map F)))) :
    Ev c (n + 2) fc ρ (.Call (.Name "tuple" p) [.GeneratorExp elt [⟨.Name x px, iter, [], 0⟩] scope gpos] [] pos) Pq := fun W Xc X env A s G S => by
  have hname : Ev c (n + 2) fc ρ (.Name "tuple" p) (· = .raw (.type "tuple")) := ev_builtin O j hk g boot_tuple (by decide) rfl rfl
  refine wpAny_Call_Name_kw (keywords := []) (hname.use G S fun v s₁ d S₁ st e r => ?_)
  subst e
  have e : v = .type "tuple" := r
  subst e
  show wpAny _ _ (callWith pos (.type "tuple") [] (backTo pos (starEach [.GeneratorExp elt [⟨.Name x px, iter, [], 0⟩] scope gpos] env)) []) _ _ _
  refine callWith_of (P := c.K.In) (by rw [plain_of rfl]; rfl) (fun _ h => keeps_type _ _ h) (evalArgs_of rfl ?_)
  rw [starEach_cons rfl]
  have hkind : scope.kind = .function := by
    have h := hfc; unfold FC.ok at h; exact beq_iff_eq.mp (Bool.and_eq_true_iff.mp h).1
  have hcell' : ∀ y ∈ scope.names, y.2 ≠ .cell := fun y hy => by simpa using List.all_eq_true.mp hcell y hy
  refine spliced_cons (wpAny_GeneratorExp_make hco (hclos env) hcell' h0 hkind G.depth (h.use G S₁ fun xv s₂ d₂ S₂ st₂ hd rd => ?_) (hs env))
  obtain ⟨ds, it, hlen, hel, hp⟩ := hd
  have shX : ∀ a, (X a ∨ s₂.heap.objs.size ≤ a) → X a ∨ s₂.heap.get? a = none := fun a q => q.imp id fun q => gone_of q
  refine iter_of (X := fun a => X a ∨ s₂.heap.objs.size ≤ a) S₂.inv it (Rep.shun shX rd) fun ob ia => ⟨(S₂.inv.push (t := s₂.toks)).nolimit O, ?_⟩
  have I₂ : Inv c { s₂ with heap := s₂.heap.push ob } := S₂.inv.push (t := s₂.toks)
  refine gen_code O I₂ (S₂.ev.code.trans hcode) fun code s₃ I₃ st₃ hg₃ hd₃ => ?_
  rw [S₂.ev.globals, S₂.ev.builtins]
  refine hBI _ _ _ _ (I₃.kin O) ?_
  intro h' hn' hs'
  have nP : ∀ a, c.h₁.objs.size ≤ a → a ≠ c.P := fun a la e => absurd I₃.lo.1 (Nat.not_lt.mpr (e ▸ la))
  have lI : c.h₁.objs.size ≤ s₂.heap.objs.size := S₂.inv.big
  have lC : c.h₁.objs.size ≤ s₃.heap.objs.size := I₃.big
  have hsz : h'.objs.size = s₃.heap.objs.size + 1 := by rw [hs'.1, Heap.size_push]
  have gI : s₂.heap.objs.size < s₃.heap.objs.size := by
    obtain ⟨o, vs, q, _⟩ := ia.side
    exact Heap.lt_size (st₃ _ _ (nP _ lI) q)
  have keep' : ∀ b o, s₃.heap.get? b = some o → h'.get? b = some o := fun b o e => hs'.extBut b o (Nat.ne_of_lt (Heap.lt_size e)) (Heap.get?_push_of_some _ e)
  refine spliced_nil ⟨fun b o e => Heap.get?_push_of_some _ (keep' _ _ (I₃.kin O b o e)), ?_⟩
  generalize hob : ({ cls := Value.type "generator", data := Data.fields #[Value.int (↑s₃.gens.size) 0, Value.str (Str.ofString "<genexpr>") (s₃.toks + 1), Value.str (env.qual ++ Str.ofString "<genexpr>") (s₃.toks + 1 + 1)] } : Obj) = og
  have k₅ : ∀ b o, s₃.heap.get? b = some o → (h'.push og).get? b = some o := fun b o e => Heap.get?_push_of_some _ (keep' b o e)
  have sz₅ : (h'.push og).objs.size = s₃.heap.objs.size + 1 + 1 := by rw [Heap.size_push, hsz]
  have ga : (h'.push og).get? h'.objs.size = some og := by rw [← hob]; exact Heap.get?_push_size _ rfl
  show wpAny _ A (call (.type "tuple") [.ref h'.objs.size]) _ _ _
  have G' : Good (n + 1) A.in1.in1.in1 := G.mono rfl (by show A.depth + _ ≤ _; omega) (by show A.units + 1 + 1 + 1 + _ ≤ _; omega)
  have G'' : Good (n + 1) A.in1.in1.in1.in1 := G.mono rfl (by show A.depth + _ ≤ _; omega) (by show A.units + 1 + 1 + 1 + 1 + _ ≤ _; omega)
  have Z3 : ∀ b, (X b ∨ b = s₂.heap.objs.size ∨ b = s₃.heap.objs.size ∨ b = (h'.push og).objs.size) → X b ∨ s₂.heap.objs.size ≤ b := fun b q => by
    rcases q with q | q | q | q
    · exact .inl q
    · exact .inr (Nat.le_of_eq q.symm)
    · exact .inr (by rw [show b = _ from q]; exact Nat.le_of_lt gI)
    · exact .inr (by rw [show b = _ from q]; omega)
  have xP : X c.P := S.xc _ S.xP
  refine call_tupleR (Fn := GF c (fun b => X b ∨ b = s₂.heap.objs.size ∨ b = s₃.heap.objs.size ∨ b = (h'.push og).objs.size) s₃.heap.objs.size s₂.heap.objs.size (h'.push og).objs.size (ds.map F) s₃.gens s₃.drawn (h'.push og))
    (gen_walkR (c := c) (n := n) (C := s₃.heap.objs.size) (I := s₂.heap.objs.size) (g := s₃.gens.size) (es := ds.map F) (gs₀ := s₃.gens) (dr₀ := s₃.drawn) (h₀ := h'.push og) O G' (.inl xP) (.inr (.inr (.inl rfl))) (.inr (.inl rfl)) (.inr (.inr (.inr rfl))) (by show _ ≤ (h'.push og).objs.size; omega) lC lI (by omega) ⟨by omega, by omega, by show _ ≠ (h'.push og).objs.size; omega⟩ ⟨by show (h'.push og).objs.size ≠ _; omega, by show (h'.push og).objs.size ≠ _; omega⟩)
    ⟨og, ga, by rw [← hob]⟩ (fun o h'' kk gS => ?_) (fun s' vs hl hF hS => ?_) (by rw [List.length_map]; exact hlen)
  · have gS : h''.get? (h'.push og).objs.size = some o := gS
    have kk : ∀ b o, (h'.push og).get? b = some o → h''.get? b = some o := kk
    have k6 : ∀ b o, s₃.heap.get? b = some o → h''.get? b = some o := fun b o e => kk b o (k₅ b o e)
    have I6 : Inv c.any { s₃ with heap := h'' } := I₃.any.ext k6 (Nat.le_of_lt (Nat.lt_of_le_of_lt (by omega : s₃.heap.objs.size ≤ (h'.push og).objs.size) (Heap.lt_size gS))) rfl ⟨rfl, rfl⟩
    have I7 : ∀ (gs : Array GenState) (t : Nat), Inv c.any { s₃ with heap := h'', gens := gs, toks := t } := fun gs t => ⟨I6.stay, I6.old, I6.tab, I6.os, trivial, I6.lo, I6.big⟩
    refine ⟨I7 _ _, ⟨og, _, _, kk _ _ ga, by rw [← hob], by rw [← hob], by rw [← hob]⟩, fun y hy => ?_, rfl, rfl, fun b o nb q => kk b o q, ⟨o, gS⟩, ⟨_, Array.getElem?_push_size .., fun s'' ho hS k7 => ⟨rfl, ?_⟩⟩⟩
    · rcases Array.mem_push.mp hy with m | m
      · exact .inl m
      · exact .inr (by rw [m]; rfl)
    · have t₁ : ItAt c (fun b => X b ∨ s₂.heap.objs.size ≤ b) s₃.heap s₂.heap.objs.size ds := ia.mix st₃ (nP _ lI) fun b q => .inl (q ▸ .inl xP)
      have t₂ : ItAt c (fun b => X b ∨ s₂.heap.objs.size ≤ b) h'' s₂.heap.objs.size ds := t₁.mix (Z := fun _ => False) (fun b o _ e => k6 b o e) id fun b q => q.elim
      have gl : GL c (fun b => X b ∨ b = s₂.heap.objs.size ∨ b = s₃.heap.objs.size ∨ b = (h'.push og).objs.size) s₃.heap.objs.size s₂.heap.objs.size (h'.push og).objs.size ds { s₃ with heap := h'' } := by
        refine ⟨I6, ⟨o, gS⟩, t₂.anti Z3, ⟨_, (hn'.push og).keeps kk⟩, ⟨.inl xP, ?_, ?_, ?_⟩, .inr (.inr (.inr rfl)), .inr (.inr (.inl rfl)), .inr (.inl rfl), by show _ ≤ (h'.push og).objs.size; omega, lC, Nat.ne_of_lt gI, by show _ ≠ (h'.push og).objs.size; omega, by show _ ≠ (h'.push og).objs.size; omega⟩
        · rintro b (q | q | q | q)
          · have x2 := S₂.xex b q
            by_cases eb : b = c.P
            · subst eb; exact let ⟨ps, z⟩ := I6.atP; ⟨_, z⟩
            · obtain ⟨o, z⟩ := x2; exact ⟨o, k6 _ _ (st₃ b o eb (Heap.get?_push_of_some _ z))⟩
          · subst q; obtain ⟨o, vs, z, _⟩ := t₂.side; exact ⟨o, z⟩
          · subst q; obtain ⟨o, _, _, z, _⟩ := (hn'.push og).keeps kk; exact ⟨o, z⟩
          · subst q; exact ⟨o, gS⟩
        · rintro b (q | q | q | q)
          · exact S.xlo b q
          · exact .inr (by rw [show b = _ from q]; exact lI)
          · exact .inr (by rw [show b = _ from q]; exact lC)
          · exact .inr (by rw [show b = _ from q]; omega)
        · exact ⟨_, .inr (.inl rfl), lI⟩
      have gl' := gl.frame ho hS k7
      rw [Nat.sub_zero, List.length_map]
      exact seg_startR (code := code) (qual := fc.qual) (cenv := genEnv scope [] s₃.heap.objs.size code builtinsNs env) O G'' hx hfc hco hcell' ⟨rfl, S₂.ev.globals, rfl, rfl, congrArg (· ++ Str.ofString "<genexpr>.") S₂.ev.qual⟩ rfl rfl F ds s'' (hel code) gl'
  · have I' : Inv c s' := hF.inv.of_any (hGI s₃.gens s'.gens s'.drawn (by rw [hF.drawn]; exact I₃.gens) hF.gens)
    have sty : ∀ b o, b ≠ c.P → s.heap.get? b = some o → s'.heap.get? b = some o := fun b o nb e => by
      have e2 := st₂ b o nb (st b o nb e)
      have lt := Heap.lt_size e2
      refine hF.stay b o (fun z => ?_) (k₅ b o (st₃ b o nb (Heap.get?_push_of_some _ e2)))
      rcases z with (z | z | z) | z
      · exact absurd lt (Nat.not_lt.mpr (Nat.le_of_eq z.symm))
      · exact absurd lt (Nat.not_lt.mpr (by rw [show b = _ from z]; exact Nat.le_of_lt gI))
      · exact nb z
      · exact absurd lt (Nat.not_lt.mpr (by rw [show b = _ from z]; omega))
    refine ⟨I'.push (t := s'.toks), fun b o nb e => Heap.get?_push_of_some _ (sty b o nb e), .tup (ds.map F), hp, s'.heap.objs.size, vs, _, rfl, fun xa => ?_, Heap.get?_push_size _ rfl, (hF.rep.anti fun a q => .inl q).stay stay_push⟩
    by_cases ea : s'.heap.objs.size = c.P
    · exact absurd I'.lo.1 (Nat.not_lt.mpr (ea ▸ I'.big))
    · obtain ⟨o, z⟩ := S.xex _ xa
      exact absurd (Heap.lt_size (sty _ o ea z)) (Nat.lt_irrefl _)
def biIn (K : Frag) : Bool := match nsIn K mainGlobals "__builtins__" with
  | some (some (.ref bm)) => bm != builtinsNs && (match K.lookup bm with
    | some ⟨.type t, some d, .plain, _⟩ => t == "module" && d == builtinsNs
    | _ => false)
  | some none => true
  | _ => false
theorem bi_of (h : biIn c.K = true) : BI c := fun A E s Q K q => by
  unfold biIn at h
  unfold builtinsFor
  split at h
  · rename_i bm e
    simp only [Bool.and_eq_true, bne_iff_ne, ne_eq] at h
    obtain ⟨h1, h2⟩ := h
    split at h2
    · rename_i t d sl e2
      simp only [Bool.and_eq_true, beq_iff_eq] at h2
      obtain ⟨rfl, rfl⟩ := h2
      refine wpAny_bind ((looks_nsIn K e).here ?_)
      show wpAny _ A (if (bm == builtinsNs) = true then _ else _) _ _ _
      rw [if_neg (by simpa using h1)]
      exact wpAny_bind (wpAny_load (K _ _ e2) (wpAny_pure q))
    · cases h2
  · rename_i e
    exact wpAny_bind ((looks_nsIn K e).here (wpAny_pure q))
  · cases h
end
end Mine
end
section
namespace Mine
open PySem PySem.W PySem.Calls PyProof.Rows Builtin
section
variable {c : Cx} {n : Nat} {Pq : D → Prop}

/-- how two data compare -/
structure CmpR (c : Cx) (n : Nat) (a b : D) (o : Ordering) : Prop where
  nf : ∀ X h v, Rep X h a v → ∀ x t, v ≠ .float x t
  same : ∀ X h v, Rep X h a v → Rep X h b v → o = .eq
  eq : Two c n (richCompare .Eq) a b (· = .raw (.bool (o == .eq)))
  lt : Two c n (richCompare .Lt) a b (· = .raw (.bool (o == .lt)))
  le : Two c n (richCompare .LtE) a b (· = .raw (.bool (o != .gt)))

theorem CmpR.eqb {a b : D} {o : Ordering} (h : CmpR c n a b o) {X : Addr → Prop} {A : Around} {s : Shared} {u v : Value} (G : Good n A) (I : Inv c s) (xP : Xok c X s) (ra : Rep X s.heap a u) (rb : Rep X s.heap b v) :
    Wp c A (eqBool u v) (fun r s' => Inv c s' ∧ Stay (· = c.P) s.heap s'.heap ∧ r = (o == .eq)) s := by
  unfold eqBool
  refine wpAny_holding ?_
  refine wpAny_ite_split (fun e => ?_) (fun ne => ?_)
  · have e : u = v := eq_of_beq e
    subst e
    exact wpAny_bind (wpAny_rule (wpAny_pure ⟨I, Stay.refl _ _, by rw [h.same _ _ _ ra rb]; rfl⟩))
  · have go : Wp c A (richCompare .Eq u v >>= truthOfDropped) (fun r s' => Inv c s' ∧ Stay (· = c.P) s.heap s'.heap ∧ r = (o == .eq)) s := by
      refine wpAny_bind (Wp.mono (h.eq X A s u v G I xP ra rb) fun x s' ⟨I', st, d, hd, r⟩ => ?_)
      subst hd
      have e : x = .bool (o == .eq) := r
      subst e
      exact wpAny_truthy_bool ⟨I', st, rfl⟩
    have nf := h.nf X _ _ ra
    cases u with
    | float x t => exact absurd rfl (nf x t)
    | _ => exact go

inductive CmpL (c : Cx) (n : Nat) : List D → List D → Ordering → Prop
  | nil : CmpL c n [] [] .eq
  | short {b : D} {l : List D} : CmpL c n [] (b :: l) .lt
  | long {a : D} {l : List D} : CmpL c n (a :: l) [] .gt
  | diff {a b : D} {l l' : List D} {o : Ordering} : CmpR c n a b o → o ≠ .eq → CmpL c n (a :: l) (b :: l') o
  | step {a b : D} {l l' : List D} {o : Ordering} : CmpR c n a b .eq → CmpL c n l l' o → CmpL c n (a :: l) (b :: l') o
theorem CmpL.same {l l' : List D} {o : Ordering} (h : CmpL c n l l' o) : ∀ {X : Addr → Prop} {hp : Heap} {vs : List Value}, RepL X hp l vs → RepL X hp l' vs → o = .eq := by
  induction h with
  | nil => intros; rfl
  | short => rintro X hp vs r ⟨v, vs', e, _⟩; have r : vs = [] := r; rw [r] at e; cases e
  | long => rintro X hp vs ⟨v, vs', e, _⟩ r; have r : vs = [] := r; rw [r] at e; cases e
  | diff q ne => rintro X hp vs ⟨v, vs', e, r1, r2⟩ ⟨u, us', e', r1', r2'⟩; rw [e] at e'; cases e'; exact q.same _ _ _ r1 r1'
  | step q _ ih => rintro X hp vs ⟨v, vs', e, r1, r2⟩ ⟨u, us', e', r1', r2'⟩; rw [e] at e'; cases e'; exact ih r2 r2'
/-- what an ordering says of a test -/
def tst : CmpOp → Ordering → Bool
  | .Eq, o => o == .eq
  | .NotEq, o => o != .eq
  | .Lt, o => o == .lt
  | .LtE, o => o != .gt
  | _, _ => false
def known : CmpOp → Bool
  | .Eq => true
  | .NotEq => true
  | .Lt => true
  | .LtE => true
  | _ => false
theorem CmpR.rc {a b : D} {o : Ordering} {op : CmpOp} (h : CmpR c n a b o) (hop : op = .Lt ∨ op = .LtE) : Two c n (richCompare op) a b (· = .raw (.bool (tst op o))) := by
  rcases hop with rfl | rfl
  · exact h.lt
  · exact h.le
theorem sizes_succ (op : CmpOp) (m k : Nat) : Tuple.tupleCompareSizes op (m + 1) (k + 1) = Tuple.tupleCompareSizes op m k := by cases op <;> simp [Tuple.tupleCompareSizes]
def Differs (c : Cx) (op : CmpOp) (A : Around) (p q : Value) (R : Value → Shared → Prop) (s : Shared) : Prop := match op with
  | .Eq => R (.bool false) s
  | .NotEq => R (.bool true) s
  | _ => Wp c A (richCompare op p q) R s
theorem tup_loop {op : CmpOp} (hop : known op = true) {A : Around} (G : Good n A) {X : Addr → Prop} {body : Value × Value → Option PySem.Fin × PUnit → Sem (ForInStep (Option PySem.Fin × PUnit))}
    (hb : ∀ p q s (R : ForInStep (Option PySem.Fin × PUnit) → Shared → Prop), Wp c A (eqBool p q) (fun e s' => if e = true then R (.yield (none, ())) s' else Differs c op A p q (fun v s'' => R (.done (some (.done (.ret v)), ())) s'') s') s → Wp c A (body (p, q) (none, ())) R s) :
    ∀ {l l' : List D} {o : Ordering}, CmpL c n l l' o → ∀ {vs us : List Value} {s : Shared} {Q : Option PySem.Fin × PUnit → Shared → Prop}, Inv c s → Xok c X s → RepL X s.heap l vs → RepL X s.heap l' us →
    (∀ s', Inv c s' → Stay (· = c.P) s.heap s'.heap → Q (some (.done (.ret (.bool (tst op o)))), ()) s') →
    (∀ s', Inv c s' → Stay (· = c.P) s.heap s'.heap → Tuple.tupleCompareSizes op vs.length us.length = .bool (tst op o) → Q (none, ()) s') → Wp c A (forIn (vs.zip us) (none, ()) body) Q s := by
  intro l l' o h
  induction h with
  | nil =>
    intro vs us s Q I xP r1 r2 h1 h2
    have r1 : vs = [] := r1
    have r2 : us = [] := r2
    subst r1 r2
    rw [List.zip_nil_left, List.forIn_nil]
    exact wpAny_pure (h2 s I (Stay.refl _ _) (by cases op <;> first | rfl | cases hop))
  | short =>
    rintro vs us s Q I xP r1 ⟨u, us', rfl, _, _⟩ h1 h2
    have r1 : vs = [] := r1
    subst r1
    rw [List.zip_nil_left, List.forIn_nil]
    exact wpAny_pure (h2 s I (Stay.refl _ _) (by cases op <;> first | rfl | cases hop | simp [Tuple.tupleCompareSizes, tst]))
  | long =>
    rintro vs us s Q I xP ⟨u, us', rfl, _, _⟩ r1 h1 h2
    have r1 : us = [] := r1
    subst r1
    rw [List.zip_nil_right, List.forIn_nil]
    exact wpAny_pure (h2 s I (Stay.refl _ _) (by cases op <;> first | rfl | cases hop | simp [Tuple.tupleCompareSizes, tst]))
  | @diff a b l l' o q ne =>
    rintro vs us s Q I xP ⟨v, vs', rfl, ra, _⟩ ⟨u, us', rfl, rb, _⟩ h1 h2
    rw [List.zip_cons_cons, List.forIn_cons]
    refine wpAny_bind (hb _ _ _ _ (Wp.mono (q.eqb G I xP ra rb) fun e s' ⟨I', st, he⟩ => ?_))
    have e0 : e = false := by rw [he]; cases hq : (_ == Ordering.eq) with
      | false => rfl
      | true => exact absurd (eq_of_beq hq) ne
    rw [if_neg (by rw [e0]; simp)]
    have ra' := ra.st xP.P st
    have rb' := rb.st xP.P st
    have x' := xP.st I' st
    have two : op = .Lt ∨ op = .LtE → Wp c A (richCompare op v u) (fun w s'' => Wp c A (pure (some (.done (.ret w)), ())) Q s'') s' := fun ho =>
      Wp.mono (q.rc ho X A s' v u G I' x' ra' rb') fun w s'' ⟨I'', st', d, hd, r⟩ => by
        subst hd
        have e : w = .bool (tst op _) := r
        subst e
        exact wpAny_pure (h1 s'' I'' (st.trans st'))
    cases op <;> first | cases hop | skip
    · show Wp c A (pure _) Q s'
      have e1 : tst .Eq o = false := he.symm.trans e0
      rw [e1] at h1
      exact wpAny_pure (h1 s' I' st)
    · show Wp c A (pure _) Q s'
      have e1 : tst .NotEq o = true := by show (!(o == Ordering.eq)) = true; rw [← he, e0]; rfl
      rw [e1] at h1
      exact wpAny_pure (h1 s' I' st)
    · exact two (.inl rfl)
    · exact two (.inr rfl)
  | step q h ih =>
    rintro vs us s Q I xP ⟨v, vs', rfl, ra, rs⟩ ⟨u, us', rfl, rb, rt⟩ h1 h2
    rw [List.zip_cons_cons, List.forIn_cons]
    refine wpAny_bind (hb _ _ _ _ (Wp.mono (q.eqb G I xP ra rb) fun e s' ⟨I', st, he⟩ => ?_))
    rw [if_pos (by rw [he]; rfl)]
    exact ih I' (xP.st I' st) (rs.st xP.P st) (rt.st xP.P st) (fun s'' I'' st' => h1 s'' I'' (st.trans st')) (fun s'' I'' st' z => h2 s'' I'' (st.trans st') (by rw [List.length_cons, List.length_cons, sizes_succ]; exact z))
theorem tup_eq {l l' : List D} {o : Ordering} (h : CmpL c n l l' o) {X : Addr → Prop} {A : Around} {s : Shared} {a b : Addr} {vs us : List Value} {k k' : Nat} (G : Good n A) (I : Inv c s) (xP : Xok c X s)
    (ga : s.heap.get? a = some (tupObj vs k)) (gb : s.heap.get? b = some (tupObj us k')) (ra : RepL X s.heap l vs) (rb : RepL X s.heap l' us) :
    Wp c A (Builtin.«tuple.__eq__» ⟨[.ref a, .ref b], []⟩) (fun fin s' => fin = .done (.ret (.bool (tst .Eq o))) ∧ Inv c s' ∧ Stay (· = c.P) s.heap s'.heap) s := by
  show wpAny _ _ (isInstance (.ref b) (.type "tuple") >>= _) _ _ s
  refine wpAny_bind (wpAny_isInstance ⟨_, gb, rfl⟩ isSubtype_tuple_tuple ?_)
  simp only [Bool.not_true, Bool.false_eq_true, if_false]
  refine wpAny_bind (wpAny_tupleItemsOf ga rfl ?_)
  refine wpAny_bind (wpAny_tupleItemsOf gb rfl ?_)
  refine wpAny_bind ?_
  refine tup_loop (op := .Eq) rfl G (fun p q s R hp => wpAny_bind (Wp.mono hp fun e s' z => ?_)) h I xP ra rb (fun s' I' st => wpAny_pure ⟨rfl, I', st⟩) (fun s' I' st z => ?_)
  · cases e with
    | true => exact wpAny_pure z
    | false => exact wpAny_bind (wpAny_pure (wpAny_pure z))
  · show Wp c A (ret _) _ s'
    rw [List.size_toArray, List.size_toArray, z]
    exact wpAny_pure ⟨rfl, I', st⟩
theorem tup_ne {l l' : List D} {o : Ordering} (h : CmpL c n l l' o) {X : Addr → Prop} {A : Around} {s : Shared} {a b : Addr} {vs us : List Value} {k k' : Nat} (G : Good n A) (I : Inv c s) (xP : Xok c X s)
    (ga : s.heap.get? a = some (tupObj vs k)) (gb : s.heap.get? b = some (tupObj us k')) (ra : RepL X s.heap l vs) (rb : RepL X s.heap l' us) :
    Wp c A (Builtin.«tuple.__ne__» ⟨[.ref a, .ref b], []⟩) (fun fin s' => fin = .done (.ret (.bool (tst .NotEq o))) ∧ Inv c s' ∧ Stay (· = c.P) s.heap s'.heap) s := by
  show wpAny _ _ (isInstance (.ref b) (.type "tuple") >>= _) _ _ s
  refine wpAny_bind (wpAny_isInstance ⟨_, gb, rfl⟩ isSubtype_tuple_tuple ?_)
  simp only [Bool.not_true, Bool.false_eq_true, if_false]
  refine wpAny_bind (wpAny_tupleItemsOf ga rfl ?_)
  refine wpAny_bind (wpAny_tupleItemsOf gb rfl ?_)
  refine wpAny_bind ?_
  refine tup_loop (op := .NotEq) rfl G (fun p q s R hp => wpAny_bind (Wp.mono hp fun e s' z => ?_)) h I xP ra rb (fun s' I' st => wpAny_pure ⟨rfl, I', st⟩) (fun s' I' st z => ?_)
  · cases e with
    | true => exact wpAny_pure z
    | false => exact wpAny_bind (wpAny_pure (wpAny_pure z))
  · show Wp c A (ret _) _ s'
    rw [List.size_toArray, List.size_toArray, z]
    exact wpAny_pure ⟨rfl, I', st⟩
theorem tup_lt {l l' : List D} {o : Ordering} (h : CmpL c n l l' o) {X : Addr → Prop} {A : Around} {s : Shared} {a b : Addr} {vs us : List Value} {k k' : Nat} (G : Good n A) (I : Inv c s) (xP : Xok c X s)
    (ga : s.heap.get? a = some (tupObj vs k)) (gb : s.heap.get? b = some (tupObj us k')) (ra : RepL X s.heap l vs) (rb : RepL X s.heap l' us) :
    Wp c A (Builtin.«tuple.__lt__» ⟨[.ref a, .ref b], []⟩) (fun fin s' => fin = .done (.ret (.bool (tst .Lt o))) ∧ Inv c s' ∧ Stay (· = c.P) s.heap s'.heap) s := by
  show wpAny _ _ (isInstance (.ref b) (.type "tuple") >>= _) _ _ s
  refine wpAny_bind (wpAny_isInstance ⟨_, gb, rfl⟩ isSubtype_tuple_tuple ?_)
  simp only [Bool.not_true, Bool.false_eq_true, if_false]
  refine wpAny_bind (wpAny_tupleItemsOf ga rfl ?_)
  refine wpAny_bind (wpAny_tupleItemsOf gb rfl ?_)
  refine wpAny_bind ?_
  refine tup_loop (op := .Lt) rfl G (fun p q s R hp => wpAny_bind (Wp.mono hp fun e s' z => ?_)) h I xP ra rb (fun s' I' st => wpAny_pure ⟨rfl, I', st⟩) (fun s' I' st z => ?_)
  · cases e with
    | true => exact wpAny_pure z
    | false => exact wpAny_bind (wpAny_rule (wpAny_bind (Wp.mono z fun v s'' z' => wpAny_bind (wpAny_pure (wpAny_pure z')))))
  · show Wp c A (ret _) _ s'
    rw [List.size_toArray, List.size_toArray, z]
    exact wpAny_pure ⟨rfl, I', st⟩
theorem tup_le {l l' : List D} {o : Ordering} (h : CmpL c n l l' o) {X : Addr → Prop} {A : Around} {s : Shared} {a b : Addr} {vs us : List Value} {k k' : Nat} (G : Good n A) (I : Inv c s) (xP : Xok c X s)
    (ga : s.heap.get? a = some (tupObj vs k)) (gb : s.heap.get? b = some (tupObj us k')) (ra : RepL X s.heap l vs) (rb : RepL X s.heap l' us) :
    Wp c A (Builtin.«tuple.__le__» ⟨[.ref a, .ref b], []⟩) (fun fin s' => fin = .done (.ret (.bool (tst .LtE o))) ∧ Inv c s' ∧ Stay (· = c.P) s.heap s'.heap) s := by
  show wpAny _ _ (isInstance (.ref b) (.type "tuple") >>= _) _ _ s
  refine wpAny_bind (wpAny_isInstance ⟨_, gb, rfl⟩ isSubtype_tuple_tuple ?_)
  simp only [Bool.not_true, Bool.false_eq_true, if_false]
  refine wpAny_bind (wpAny_tupleItemsOf ga rfl ?_)
  refine wpAny_bind (wpAny_tupleItemsOf gb rfl ?_)
  refine wpAny_bind ?_
  refine tup_loop (op := .LtE) rfl G (fun p q s R hp => wpAny_bind (Wp.mono hp fun e s' z => ?_)) h I xP ra rb (fun s' I' st => wpAny_pure ⟨rfl, I', st⟩) (fun s' I' st z => ?_)
  · cases e with
    | true => exact wpAny_pure z
    | false => exact wpAny_bind (wpAny_rule (wpAny_bind (Wp.mono z fun v s'' z' => wpAny_bind (wpAny_pure (wpAny_pure z')))))
  · show Wp c A (ret _) _ s'
    rw [List.size_toArray, List.size_toArray, z]
    exact wpAny_pure ⟨rfl, I', st⟩
theorem Good.in1 {A : Around} (G : Good (n + 1) A) : Good n A.in1 := G.mono rfl (by show A.depth + _ ≤ _; omega) (by show A.units + 1 + _ ≤ _; omega)
theorem Good.room {A : Around} (G : Good n A) : A.units < cLine := by have := G.units; omega
theorem rc_of {op : CmpOp} {a b : D} {o : Ordering} {T id : String} {B : Builtin} (slot : Slot T (cmpInfo op).2.1 id) (entry : entryFor table id = some B) (ok : ∀ u v, argsOk id ⟨[u, v], []⟩)
    (ta : ∀ X (s : Shared) u, Rep X s.heap a u → s.TypeIs u T) (tb : ∀ X (s : Shared) u, Rep X s.heap b u → s.TypeIs u T)
    (h : ∀ X A s u v, Good n A → Inv c s → Xok c X s → Rep X s.heap a u → Rep X s.heap b v → Wp c A (B ⟨[u, v], []⟩) (fun fin s' => fin = .done (.ret (.bool (tst op o))) ∧ Inv c s' ∧ Stay (· = c.P) s.heap s'.heap) s) :
    Two c (n + 1) (richCompare op) a b (· = .raw (.bool (tst op o))) := fun X A s u v G I xP ra rb =>
  wpAny_richCompare_same_room (ta _ _ _ ra) (tb _ _ _ rb) slot (wpAny_call_entry slot (ta _ _ _ ra) entry (Wp.mono (h X A.in1 s u v G.in1 I xP ra rb) fun fin s' ⟨e, I', st⟩ => ⟨_, e, (fun q => nomatch q), I', st, _, rfl, rfl⟩) (ok _ _)) G.room
theorem tup_type {l : List D} {X : Addr → Prop} {s : Shared} {u : Value} (r : Rep X s.heap (.tup l) u) : s.TypeIs u "tuple" := by
  obtain ⟨a, vs, m, rfl, _, g, _⟩ := r
  exact ⟨_, g, rfl⟩
theorem CmpL.r {l l' : List D} {o : Ordering} (h : CmpL c n l l' o) : CmpR c (n + 1) (.tup l) (.tup l') o := by
  refine ⟨?_, ?_, ?_, ?_, ?_⟩
  · rintro X h v ⟨a, vs, m, rfl, _⟩ x t e; cases e
  · rintro X hp v ⟨a, vs, m, rfl, _, g, r⟩ ⟨a', vs', m', e, _, g', r'⟩
    cases e
    rw [g] at g'
    have e2 : vs = vs' := by have := congrArg (fun o : Option Obj => o.map (·.data)) g'; simp at this; exact this.1
    subst e2
    exact h.same r r'
  · exact rc_of (op := .Eq) F.slot_tuple_eq F.entry_tuple_eq (F.args_tuple_eq_2) (fun _ _ _ => tup_type) (fun _ _ _ => tup_type) (by rintro X A s u v G I xP ⟨a, vs, m, rfl, _, g, r⟩ ⟨a', vs', m', rfl, _, g', r'⟩; exact tup_eq h G I xP g g' r r')
  · exact rc_of (op := .Lt) F.slot_tuple_lt F.entry_tuple_lt (F.args_tuple_lt_2) (fun _ _ _ => tup_type) (fun _ _ _ => tup_type) (by rintro X A s u v G I xP ⟨a, vs, m, rfl, _, g, r⟩ ⟨a', vs', m', rfl, _, g', r'⟩; exact tup_lt h G I xP g g' r r')
  · exact rc_of (op := .LtE) F.slot_tuple_le F.entry_tuple_le (F.args_tuple_le_2) (fun _ _ _ => tup_type) (fun _ _ _ => tup_type) (by rintro X A s u v G I xP ⟨a, vs, m, rfl, _, g, r⟩ ⟨a', vs', m', rfl, _, g', r'⟩; exact tup_le h G I xP g g' r r')
theorem CmpL.tne {l l' : List D} {o : Ordering} (h : CmpL c n l l' o) : Two c (n + 1) (richCompare .NotEq) (.tup l) (.tup l') (· = .raw (.bool (o != .eq))) :=
  rc_of (op := .NotEq) F.slot_tuple_ne F.entry_tuple_ne (F.args_tuple_ne_2) (fun _ _ _ => tup_type) (fun _ _ _ => tup_type) (by rintro X A s u v G I xP ⟨a, vs, m, rfl, _, g, r⟩ ⟨a', vs', m', rfl, _, g', r'⟩; exact tup_ne h G I xP g g' r r')
theorem Two.mono {t : Value → Value → Sem Value} {a b : D} {Pq Pq' : D → Prop} (h : Two c n t a b Pq) (k : ∀ d, Pq d → Pq' d) : Two c n t a b Pq' := fun X A s u v G I xP ra rb => Wp.mono (h X A s u v G I xP ra rb) fun x s' ⟨I', st, d, hd, r⟩ => ⟨I', st, d, k d hd, r⟩
theorem CmpR.up {a b : D} {o : Ordering} {m : Nat} (h : CmpR c n a b o) (le : n ≤ m) : CmpR c m a b o :=
  ⟨h.nf, h.same, fun X A s u v G => h.eq X A s u v (G.le le), fun X A s u v G => h.lt X A s u v (G.le le), fun X A s u v G => h.le X A s u v (G.le le)⟩
/-- ints and texts -/
theorem int_cases (a b : Int) : (compare a b == .eq) = (a == b) ∧ (compare a b == .lt) = decide (a < b) ∧ (compare a b != .gt) = decide (a ≤ b) := by
  rcases hq : compare a b with _ | _ | _
  · have := Int.compare_eq_lt.mp hq
    refine ⟨?_, ?_, ?_⟩
    · exact (beq_eq_false_iff_ne.mpr (by omega)).symm
    · exact (decide_eq_true this).symm
    · exact (decide_eq_true (by omega)).symm
  · have := Int.compare_eq_eq.mp hq
    subst this
    exact ⟨(beq_self_eq_true a).symm, (decide_eq_false (by omega)).symm, (decide_eq_true (by omega)).symm⟩
  · have := Int.compare_eq_gt.mp hq
    refine ⟨?_, ?_, ?_⟩
    · exact (beq_eq_false_iff_ne.mpr (by omega)).symm
    · exact (decide_eq_false (by omega)).symm
    · exact (decide_eq_false (by omega)).symm
theorem cmp_int (a b : Int) : CmpR c n (.int a) (.int b) (compare a b) := by
  refine ⟨?_, ?_, ?_, ?_, ?_⟩
  · rintro X h v ⟨t, rfl⟩ x t' e; cases e
  · rintro X h v ⟨t, rfl⟩ ⟨t', e⟩; cases e; exact Int.compare_eq_eq.mpr rfl
  · exact i_eq (by rw [(int_cases a b).1])
  · exact i_lt (by rw [(int_cases a b).2.1])
  · exact i_le (by rw [(int_cases a b).2.2])
/-- signs in order -/
def cmpN : List Nat → List Nat → Ordering
  | [], [] => .eq
  | [], _ :: _ => .lt
  | _ :: _, [] => .gt
  | a :: l, b :: l' => if a < b then .lt else if b < a then .gt else cmpN l l'
theorem cmpN_cases : ∀ (a b : List Nat), (cmpN a b == .eq) = (a == b) ∧ (cmpN a b == .lt) = decide (a < b) ∧ (cmpN a b != .gt) = !decide (b < a)
  | [], [] => ⟨rfl, rfl, rfl⟩
  | [], _ :: _ => ⟨rfl, by simp [cmpN], by simp [cmpN]⟩
  | _ :: _, [] => ⟨rfl, by simp [cmpN], by simp [cmpN]⟩
  | a :: l, b :: l' => by
    obtain ⟨h1, h2, h3⟩ := cmpN_cases l l'
    unfold cmpN
    by_cases q : a < b
    · rw [if_pos q]
      have ne : a ≠ b := by omega
      have nl : ¬ b < a := by omega
      refine ⟨?_, ?_, ?_⟩
      · exact (beq_eq_false_iff_ne.mpr (by simp [ne])).symm
      · exact (decide_eq_true (by rw [List.cons_lt_cons_iff]; exact .inl q)).symm
      · rw [decide_eq_false (by rw [List.cons_lt_cons_iff]; omega)]; rfl
    · rw [if_neg q]
      by_cases q' : b < a
      · rw [if_pos q']
        have ne : a ≠ b := by omega
        refine ⟨?_, ?_, ?_⟩
        · exact (beq_eq_false_iff_ne.mpr (by simp [ne])).symm
        · exact (decide_eq_false (by rw [List.cons_lt_cons_iff]; omega)).symm
        · rw [decide_eq_true (by rw [List.cons_lt_cons_iff]; exact .inl q')]; rfl
      · rw [if_neg q']
        have e : a = b := by omega
        subst e
        refine ⟨?_, ?_, ?_⟩
        · rw [h1]; simp
        · rw [h2]; simp
        · rw [h3]; simp
theorem cmp_str (a b : List Nat) : CmpR c n (.str (T a)) (.str (T b)) (cmpN a b) := by
  refine ⟨?_, ?_, ?_, ?_, ?_⟩
  · rintro X h v ⟨t, rfl⟩ x t' e; cases e
  · rintro X h v ⟨t, rfl⟩ ⟨t', e⟩
    have e : T a = T b := by injection e
    have := (cmpN_cases a b).1
    rw [T_inj e] at this ⊢
    exact eq_of_beq (this.trans (beq_self_eq_true b))
  · exact s_eqT (by rw [(cmpN_cases a b).1])
  · rintro X A s u v G I xP ⟨t, rfl⟩ ⟨t', rfl⟩
    exact PyProof.Rows.lt_str (got_now (d := .raw (.bool (decide ((T a).cps.toList < (T b).cps.toList)))) I (by rw [(cmpN_cases a b).2.1, T_cps, T_cps]) rfl)
  · rintro X A s u v G I xP ⟨t, rfl⟩ ⟨t', rfl⟩
    exact PySem.P.le_str (got_now (d := .raw (.bool (!(decide ((T b).cps.toList < (T a).cps.toList))))) I (by rw [(cmpN_cases a b).2.2, T_cps, T_cps]) rfl)
end
end Mine
end
section
namespace Mine
open PySem PySem.W PySem.Calls PyProof.Rows Builtin
open PySem.MeetsSeq3 (entry_eq_loop plain_eq_loop)
section
variable {c : Cx} {n : Nat} {Pq : D → Prop}
def codeOf : CmpOp → Int
  | .Lt => 0
  | .LtE => 1
  | .Eq => 2
  | _ => 3
theorem at_none {vs : List Value} {i : Nat} (h : vs.drop i = []) : vs.toArray[((i : Nat) : Int).toNat]? = none := by
  have := List.drop_eq_nil_iff.mp h
  simp; omega
theorem at_some {vs r : List Value} {v : Value} {i : Nat} (h : vs.drop i = v :: r) : vs.toArray[((i : Nat) : Int).toNat]? = some v := by
  have : (vs.drop i)[0]? = some v := by rw [h]; rfl
  rw [List.getElem?_drop] at this
  simpa using this
theorem drop_next {vs r : List Value} {v : Value} {i : Nat} (h : vs.drop i = v :: r) : vs.drop (i + 1) = r := by
  have : (vs.drop i).drop 1 = r := by rw [h]; rfl
  rwa [List.drop_drop] at this
theorem drop_size {vs r : List Value} {i : Nat} (h : vs.drop i = r) : vs.length - i = r.length := by rw [← h, List.length_drop]
theorem list_end {op : CmpOp} (hop : known op = true) {A : Around} {a b : Addr} {vs us : List Value} {m m' : Meta} {s : Shared} {i : Nat} {R : Result → Shared → Prop} (ga : s.heap.get? a = some (listObj vs m)) (gb : s.heap.get? b = some (listObj us m'))
    (hn : vs.drop i = [] ∨ us.drop i = []) (h : R (.ok (.ret (Tuple.tupleCompareSizes op vs.length us.length))) s) : codeAny (model c.prog c.w) A (.builtin "list.__eq__.loop" ⟨[.ref a, .ref b, rawInt i, rawInt (codeOf op)], []⟩) R s := by
  refine codeAny_builtin entry_eq_loop ?_
  rw [Around.under_plainId plain_eq_loop _]
  have fin : wpAny (model c.prog c.w) A.in1 (List.listItems (.ref a) >>= fun xs => List.listItems (.ref b) >>= fun ys => ret (Tuple.tupleCompareSizes op xs.size ys.size)) (fun fin s' => match fin with | .done f => R (.ok f) s' | .again c' => c'.quiet = true ∧ codeAny (model c.prog c.w) A c' R s') (fun e s' => R (.error e) s') s := by
    refine wpAny_bind (listItems_at ga rfl (wpAny_bind (listItems_at gb rfl (wpAny_pure ?_))))
    simpa using h
  cases op <;> first | cases hop | skip
  all_goals
    refine wpAny_bind (listItems_at ga rfl (wpAny_bind (listItems_at gb rfl ?_)))
    rcases hn with hn | hn
    · rw [at_none hn]; exact fin
    · rw [at_none hn]
      cases vs.toArray[((i : Nat) : Int).toNat]? <;> exact fin
theorem list_turn {op : CmpOp} (hop : known op = true) {A : Around} {a b : Addr} {vs us vr ur : List Value} {v u : Value} {m m' : Meta} {s : Shared} {i : Nat} {R : Result → Shared → Prop} (ga : s.heap.get? a = some (listObj vs m)) (gb : s.heap.get? b = some (listObj us m'))
    (hv : vs.drop i = v :: vr) (hu : us.drop i = u :: ur) (h : Wp c A.in1 (eqBool v u) (fun e s' => s'.heap.get? a = some (listObj vs m) ∧ s'.heap.get? b = some (listObj us m') ∧ if e = true then codeAny (model c.prog c.w) A (.builtin "list.__eq__.loop" ⟨[.ref a, .ref b, rawInt ((i + 1 : Nat) : Int), rawInt (codeOf op)], []⟩) R s' else Differs c op A.in1 v u (fun w s'' => R (.ok (.ret w)) s'') s') s) :
    codeAny (model c.prog c.w) A (.builtin "list.__eq__.loop" ⟨[.ref a, .ref b, rawInt i, rawInt (codeOf op)], []⟩) R s := by
  refine codeAny_builtin entry_eq_loop ?_
  rw [Around.under_plainId plain_eq_loop _]
  cases op <;> first | cases hop | skip
  all_goals
    refine wpAny_bind (listItems_at ga rfl (wpAny_bind (listItems_at gb rfl ?_)))
    rw [at_some hv, at_some hu]
    refine wpAny_bind (wpAny_mono h (fun e s' ⟨ga', gb', z⟩ => ?_) fun _ _ x => x.elim)
    cases e with
    | true => exact wpAny_pure ⟨plainId_quiet plain_eq_loop _, z⟩
    | false =>
      refine wpAny_bind (listItems_at ga' rfl (wpAny_bind (listItems_at gb' rfl ?_)))
      rw [at_some hv, at_some hu]
      first
        | exact wpAny_pure z
        | exact wpAny_bind (wpAny_mono (show Wp c A.in1 (richCompare _ _ _) _ _ from z) (fun w s'' z' => wpAny_pure z') fun _ _ x => x.elim)
theorem list_loop {op : CmpOp} (hop : known op = true) {A : Around} (G : Good (n + 1) A) {X : Addr → Prop} {a b : Addr} {vs us : List Value} {m m' : Meta} (xa : ¬ X a) (xb : ¬ X b) :
    ∀ {l l' : List D} {o : Ordering}, CmpL c n l l' o → ∀ {s : Shared} {i : Nat} {R : Result → Shared → Prop}, i ≤ vs.length → i ≤ us.length → Inv c s → Xok c X s → s.heap.get? a = some (listObj vs m) → s.heap.get? b = some (listObj us m') → RepL X s.heap l (vs.drop i) → RepL X s.heap l' (us.drop i) →
    (∀ s', Inv c s' → Stay (· = c.P) s.heap s'.heap → R (.ok (.ret (.bool (tst op o)))) s') → codeAny (model c.prog c.w) A (.builtin "list.__eq__.loop" ⟨[.ref a, .ref b, rawInt i, rawInt (codeOf op)], []⟩) R s := by
  intro l l' o h
  induction h with
  | nil =>
    intro s i R li lu I xP ga gb r1 r2 hR
    have r1 : vs.drop i = [] := r1
    have r2 : us.drop i = [] := r2
    have e1 := drop_size r1
    have e2 := drop_size r2
    refine list_end hop ga gb (.inl r1) ?_
    have e : vs.length = us.length := by simp at e1 e2; omega
    rw [e]
    refine Eq.mp ?_ (hR s I (Stay.refl _ _))
    congr 3
    cases op <;> first | (cases hop; done) | simp [Tuple.tupleCompareSizes, tst]
  | short =>
    rintro s i R li lu I xP ga gb r1 ⟨u, us', r2, _, _⟩ hR
    have r1 : vs.drop i = [] := r1
    have e1 := drop_size r1
    have e2 := drop_size r2
    refine list_end hop ga gb (.inl r1) ?_
    refine Eq.mp ?_ (hR s I (Stay.refl _ _))
    congr 3
    simp at e1 e2
    have lt : vs.length < us.length := by omega
    cases op <;> first | (cases hop; done) | simp [Tuple.tupleCompareSizes, tst, Nat.ne_of_lt lt, lt, Nat.le_of_lt lt, bne, beq_eq_false_iff_ne.mpr (Nat.ne_of_lt lt)]
  | long =>
    rintro s i R li lu I xP ga gb ⟨u, us', r2, _, _⟩ r1 hR
    have r1 : us.drop i = [] := r1
    have e1 := drop_size r1
    have e2 := drop_size r2
    refine list_end hop ga gb (.inr r1) ?_
    refine Eq.mp ?_ (hR s I (Stay.refl _ _))
    congr 3
    simp at e1 e2
    have lt : us.length < vs.length := by omega
    cases op <;> first | (cases hop; done) | simp [Tuple.tupleCompareSizes, tst, Nat.ne_of_gt lt, lt, Nat.le_of_lt lt, bne, beq_eq_false_iff_ne.mpr (Nat.ne_of_gt lt)]
  | @diff d d' l l' o q ne =>
    rintro s i R li lu I xP ga gb ⟨v, vs', hv, ra, _⟩ ⟨u, us', hu, rb, _⟩ hR
    have na : a ≠ c.P := fun e => xa (e ▸ xP.P)
    have nb : b ≠ c.P := fun e => xb (e ▸ xP.P)
    refine list_turn hop ga gb hv hu (Wp.mono (q.eqb G.in1 I xP ra rb) fun e s' ⟨I', st, he⟩ => ⟨st _ _ na ga, st _ _ nb gb, ?_⟩)
    have e0 : e = false := by rw [he]; cases hq : (o == Ordering.eq) with
      | false => rfl
      | true => exact absurd (eq_of_beq hq) ne
    rw [if_neg (by rw [e0]; simp)]
    have two : op = .Lt ∨ op = .LtE → Wp c A.in1 (richCompare op v u) (fun w s'' => R (.ok (.ret w)) s'') s' := fun ho =>
      Wp.mono (q.rc ho X A.in1 s' v u G.in1 I' (xP.st I' st) (ra.st xP.P st) (rb.st xP.P st)) fun w s'' ⟨I'', st', d, hd, r⟩ => by
        subst hd
        have e : w = .bool (tst op o) := r
        subst e
        exact hR s'' I'' (st.trans st')
    cases op <;> first | cases hop | skip
    · have e1 : tst .Eq o = false := he.symm.trans e0
      rw [e1] at hR
      exact hR s' I' st
    · have e1 : tst .NotEq o = true := by show (!(o == Ordering.eq)) = true; rw [← he, e0]; rfl
      rw [e1] at hR
      exact hR s' I' st
    · exact two (.inl rfl)
    · exact two (.inr rfl)
  | step q h ih =>
    rintro s i R li lu I xP ga gb ⟨v, vs', hv, ra, rs⟩ ⟨u, us', hu, rb, rt⟩ hR
    have na : a ≠ c.P := fun e => xa (e ▸ xP.P)
    have nb : b ≠ c.P := fun e => xb (e ▸ xP.P)
    have e1 := drop_size hv
    have e2 := drop_size hu
    refine list_turn hop ga gb hv hu (Wp.mono (q.eqb G.in1 I xP ra rb) fun e s' ⟨I', st, he⟩ => ⟨st _ _ na ga, st _ _ nb gb, ?_⟩)
    rw [if_pos (by rw [he]; rfl)]
    exact ih (i := i + 1) (by simp at e1; omega) (by simp at e2; omega) I' (xP.st I' st) (st _ _ na ga) (st _ _ nb gb) (by rw [drop_next hv]; exact rs.st xP.P st) (by rw [drop_next hu]; exact rt.st xP.P st) (fun s'' I'' st' => hR s'' I'' (st.trans st'))
theorem CmpL.eq_len {l l' : List D} {o : Ordering} (h : CmpL c n l l' o) (ne : l.length ≠ l'.length) : o ≠ .eq := by
  induction h with
  | nil => exact absurd rfl ne
  | short => intro e; cases e
  | long => intro e; cases e
  | diff _ q => exact q
  | step _ _ ih => exact ih fun e => ne (by simp [e])
theorem list_type {l : List D} {X : Addr → Prop} {s : Shared} {u : Value} (r : Rep X s.heap (.list l) u) : s.TypeIs u "list" := by
  obtain ⟨a, vs, m, rfl, _, g, _⟩ := r
  exact ⟨_, g, rfl⟩
theorem rc_list {op : CmpOp} (hop : known op = true) {l l' : List D} {o : Ordering} (h : CmpL c n l l' o) : Two c (n + 2) (richCompare op) (.list l) (.list l') (· = .raw (.bool (tst op o))) := by
  rintro X A s u v G I xP ⟨a, vs, m, rfl, xa, g, r⟩ ⟨b, us, m', rfl, xb, g', r'⟩
  have hT : s.TypeIs (.ref a) "list" := ⟨_, g, rfl⟩
  have hT' : s.TypeIs (.ref b) "list" := ⟨_, g', rfl⟩
  have f3 := AutoSeq1.sub_list_list
  have l1 := r.length
  have l2 := r'.length
  have go : ∀ {id : String} (slot : Slot "list" (cmpInfo op).2.1 id) {B : Builtin} (entry : entryFor table id = some B) (ok : argsOk id ⟨[.ref a, .ref b], []⟩)
      (h : ∀ (R : Result → Shared → Prop), (∀ s', Inv c s' → Stay (· = c.P) s.heap s'.heap → R (.ok (.ret (.bool (tst op o)))) s') → wpAny (model c.prog c.w) A.in1 (B ⟨[.ref a, .ref b], []⟩) (fun fin s' => match fin with | .done f => R (.ok f) s' | .again c' => c'.quiet = true ∧ codeAny (model c.prog c.w) A c' R s') (fun e s' => R (.error e) s') s),
      Wp c A (richCompare op (.ref a) (.ref b)) (Got c X s (· = .raw (.bool (tst op o)))) s := fun slot B entry ok h =>
    wpAny_richCompare_same_room hT hT' slot (wpAny_call (codeAny_call_builtin slot.plain entry (slot.check _ _ _ _ _ _ _ _ hT ok (h (wants _ (fun _ _ => False)) fun s' I' st => ⟨(fun q => nomatch q), I', st, _, rfl, rfl⟩)))) G.room
  have lp : ∀ (R : Result → Shared → Prop), (∀ s', Inv c s' → Stay (· = c.P) s.heap s'.heap → R (.ok (.ret (.bool (tst op o)))) s') → codeAny (model c.prog c.w) A (.builtin "list.__eq__.loop" ⟨[.ref a, .ref b, rawInt (0 : Nat), rawInt (codeOf op)], []⟩) R s := fun R hR =>
    list_loop hop (G.le (Nat.le_succ _)) xa xb h (Nat.zero_le _) (Nat.zero_le _) I xP g g' (by simpa using r) (by simpa using r') hR
  cases op <;> first | (cases hop; done) | skip
  · refine go F.slot_list_eq F.entry_list_eq (F.args_list_eq_2 _ _) fun R hR => ?_
    show wpAny _ _ (isInstance (.ref b) (.type "list") >>= _) _ _ s
    refine wpAny_bind (wpAny_isInstance hT' f3 ?_)
    refine wpAny_bind (listItems_at g rfl (wpAny_bind (listItems_at g' rfl ?_)))
    by_cases q : vs.length = us.length
    · simp only [List.size_toArray, q, bne_self_eq_false, Bool.false_eq_true, if_false]
      exact wpAny_pure ⟨plainId_quiet plain_eq_loop _, lp R hR⟩
    · have q' : (vs.length != us.length) = true := by simpa using q
      simp only [List.size_toArray, q', if_true]
      have e : tst .Eq o = false := by show (o == .eq) = false; exact beq_eq_false_iff_ne.mpr (h.eq_len (by omega))
      rw [e] at hR
      exact wpAny_bind (wpAny_rule (wpAny_pure (hR s I (Stay.refl _ _))))
  · refine go F.slot_list_ne F.entry_list_ne (F.args_list_ne_2 _ _) fun R hR => ?_
    show wpAny _ _ (isInstance (.ref b) (.type "list") >>= _) _ _ s
    refine wpAny_bind (wpAny_isInstance hT' f3 ?_)
    refine wpAny_bind (listItems_at g rfl (wpAny_bind (listItems_at g' rfl ?_)))
    by_cases q : vs.length = us.length
    · simp only [List.size_toArray, q, bne_self_eq_false, Bool.false_eq_true, if_false]
      exact wpAny_pure ⟨plainId_quiet plain_eq_loop _, lp R hR⟩
    · have q' : (vs.length != us.length) = true := by simpa using q
      simp only [List.size_toArray, q', if_true]
      have e : tst .NotEq o = true := by show (!(o == .eq)) = true; rw [beq_eq_false_iff_ne.mpr (h.eq_len (by omega))]; rfl
      rw [e] at hR
      exact wpAny_bind (wpAny_rule (wpAny_pure (hR s I (Stay.refl _ _))))
  · refine go F.slot_list_lt F.entry_list_lt (F.args_list_lt_2 _ _) fun R hR => ?_
    show wpAny _ _ (isInstance (.ref b) (.type "list") >>= _) _ _ s
    refine wpAny_bind (wpAny_isInstance hT' f3 ?_)
    exact wpAny_pure ⟨plainId_quiet plain_eq_loop _, lp R hR⟩
  · refine go F.slot_list_le F.entry_list_le (F.args_list_le_2 _ _) fun R hR => ?_
    show wpAny _ _ (isInstance (.ref b) (.type "list") >>= _) _ _ s
    refine wpAny_bind (wpAny_isInstance hT' f3 ?_)
    exact wpAny_pure ⟨plainId_quiet plain_eq_loop _, lp R hR⟩
theorem CmpL.rl {l l' : List D} {o : Ordering} (h : CmpL c n l l' o) : CmpR c (n + 2) (.list l) (.list l') o := by
  refine ⟨?_, ?_, rc_list (op := .Eq) rfl h, rc_list (op := .Lt) rfl h, rc_list (op := .LtE) rfl h⟩
  · rintro X h v ⟨a, vs, m, rfl, _⟩ x t e; cases e
  · rintro X hp v ⟨a, vs, m, rfl, _, g, r⟩ ⟨a', vs', m', e, _, g', r'⟩
    cases e
    rw [g] at g'
    have e2 : vs = vs' := by have := congrArg (fun o : Option Obj => o.map (·.data)) g'; simp at this; exact this.1
    subst e2
    exact h.same r r'
end
end Mine
end
section
namespace Mine
open PySem PySem.W PySem.Calls PyProof.Rows Builtin
section
variable {c : Cx} {n : Nat} {fc : FC} {ρ : Rho} {Pq : D → Prop} {Pb : Bool → Prop}
/-- a compare's function of a class -/
def cmpIn (K : Frag) (C : Addr) (name : Str) (f : Addr) : Bool := findIn K (.ref C) name == some (some (.ref f)) && isFn K (.ref f)
/-- what such a function gives -/
def CmpF (Pn : Prop) (Pb : Bool → Prop) (d : D) : Prop := (d = .raw .notImplemented ∧ Pn) ∨ ∃ b, d = .raw (.bool b) ∧ Pb b
theorem try_own (O : c.Ok) {C f : Addr} {fs : List (Str × D)} {b : D} {name : Str} {Pn : Prop} (hf : cmpIn c.K C name f = true) (h : CallV c n (.ref f) [.dat (.inst C fs), .dat b] [] (CmpF Pn Pb)) {X : Addr → Prop} {A : Around} {s : Shared} {u v : Value}
    (G : Good n A) (I : Inv c s) (xP : Xok c X s) (ra : Rep X s.heap (.inst C fs) u) (rb : Rep X s.heap b v) :
    Wp c A (tryCompare u name v) (fun r s' => Inv c s' ∧ Stay (· = c.P) s.heap s'.heap ∧ ((r = none ∧ Pn) ∨ ∃ b, r = some (.bool b) ∧ Pb b)) s := by
  unfold cmpIn at hf
  rw [Bool.and_eq_true] at hf
  obtain ⟨h1, h2⟩ := hf
  obtain ⟨a, dd, es, m, rfl, at_, rf⟩ := inst_at (W := fun _ => True) (lv := .dat (.inst C fs)) rfl ra
  unfold tryCompare
  refine wpAny_bind (ifBound_K (I.kin O) at_ (beq_iff_eq.mp h1) h2 (Wp.mono (h X A s [.ref a, v] [] G I xP ⟨_, _, rfl, ra, _, _, rfl, rb, rfl⟩ rfl) fun w s' ⟨I', st, d, hd, r⟩ => ?_))
  rcases hd with ⟨rfl, p⟩ | ⟨b, rfl, p⟩
  · have e : w = .notImplemented := r
    subst e
    exact wpAny_pure ⟨I', st, .inl ⟨rfl, p⟩⟩
  · have e : w = .bool b := r
    subst e
    exact wpAny_pure ⟨I', st, .inr ⟨b, rfl, p⟩⟩
theorem cmp_own (O : c.Ok) {op : CmpOp} {C C' f : Addr} {fs fs' : List (Str × D)} {P1 : Prop} (hn : notFirst c.K C (.ref C') = true) (hf : cmpIn c.K C (cmpInfo op).2.1 f = true)
    (h : CallV c n (.ref f) [.dat (.inst C fs), .dat (.inst C' fs')] [] (CmpF P1 Pb))
    (h2 : P1 → ∃ r P2, cmpIn c.K C' (cmpInfo op).2.2 r = true ∧ CallV c n (.ref r) [.dat (.inst C' fs'), .dat (.inst C fs)] [] (CmpF P2 Pb) ∧ (P2 → op = .Eq ∧ C ≠ C' ∧ Pb false)) :
    Two c n (richCompare op) (.inst C fs) (.inst C' fs') (fun d => ∃ b, d = .raw (.bool b) ∧ Pb b) := by
  intro X A s u v G I xP ra rb
  obtain ⟨a, dd, es, m, rfl, at_, rf⟩ := inst_at (W := fun _ => True) (lv := .dat (.inst C fs)) rfl ra
  obtain ⟨b, dd', es', m', rfl, bt_, rf'⟩ := inst_at (W := fun _ => True) (lv := .dat (.inst C' fs')) rfl rb
  have K := I.kin O
  have one := try_own O hf h G I xP ra rb
  have fin : Wp c A (do
      if let some v ← tryCompare (.ref a) (cmpInfo op).2.1 (.ref b) then return v
      if let some v ← tryCompare (.ref b) (cmpInfo op).2.2 (.ref a) then return v
      match op with
      | .Eq => rule "compare.eq-identity"; return .bool (← isSame (.ref a) (.ref b))
      | .NotEq => rule "compare.ne-identity"; return .bool (!(← isSame (.ref a) (.ref b)))
      | _ =>
        rule "compare.unsupported"
        raiseError "TypeError" s!"'{(cmpInfo op).1}' not supported between instances of '{← typeNameOf (.ref a)}' and '{← typeNameOf (.ref b)}'") (Got c X s (fun d => ∃ b, d = .raw (.bool b) ∧ Pb b)) s := by
    refine wpAny_bind (Wp.mono one fun r s' ⟨I', st, hr⟩ => ?_)
    rcases hr with ⟨rfl, p⟩ | ⟨t, rfl, p⟩
    · obtain ⟨rr, P2, q1, q2, q3⟩ := h2 p
      refine wpAny_bind (Wp.mono (try_own O q1 q2 G I' (xP.st I' st) (rb.st xP.P st) (ra.st xP.P st)) fun r s'' ⟨I'', st', hr⟩ => ?_)
      rcases hr with ⟨rfl, p⟩ | ⟨t, rfl, p⟩
      · obtain ⟨rfl, ne, pf⟩ := q3 p
        refine wpAny_bind (wpAny_rule (wpAny_bind ?_))
        obtain ⟨a', _, _, _, e1, _, _, g1, _⟩ := ra.st xP.P (st.trans st')
        obtain ⟨b', _, _, _, e2, _, _, g2, _⟩ := rb.st xP.P (st.trans st')
        cases e1
        cases e2
        refine wpAny_isSame_ref_other (fun e => ?_) g1 g2 (by simp [instObj]) (wpAny_pure ⟨I'', st.trans st', _, ⟨false, rfl, pf⟩, rfl⟩)
        rw [e, g2] at g1
        have := congrArg (fun o : Option Obj => o.map (·.cls)) g1
        simp at this
        exact ne this.symm
      · exact wpAny_pure ⟨I'', st.trans st', _, ⟨t, rfl, p⟩, rfl⟩
    · exact wpAny_pure ⟨I', st, _, ⟨t, rfl, p⟩, rfl⟩
  unfold richCompare
  simp only [oneThing_ref]
  refine wpAny_holding (wpAny_bind (wpAny_cRoomFor G.room ?_))
  refine wpAny_bind (at_.type.here (wpAny_bind (bt_.type.here ?_)))
  split
  · rename_i q
    have e : subIn c.K (.ref C') (.ref C) = some false := by
      rcases Bool.or_eq_true_iff.mp hn with e | e
      · rw [beq_iff_eq.mp e] at q; simp at q
      · exact beq_iff_eq.mp e
    refine wpAny_bind ((looks_subIn K e).here ?_)
    simp only [Bool.false_eq_true, if_false]
    exact fin
  · refine wpAny_bind (wpAny_pure ?_)
    simp only [Bool.false_eq_true, if_false]
    exact fin
/-! isinstance of an own class -/
theorem c_isi (O : c.Ok) {D' C : Addr} {fs : List (Str × D)} (e : isIn c.K (.ref D') C = true) (h : Pq (.raw (.bool true))) : CallV c n (.builtin "isinstance") [.dat (.inst D' fs), .dat (.raw (.ref C))] [] Pq := cv2 fun X A s u v G I xP ra rb => by
  obtain ⟨a, dd, es, m, rfl, at_, rf⟩ := inst_at (W := fun _ => True) (lv := .dat (.inst D' fs)) rfl ra
  have e2 : v = .ref C := rb
  subst e2
  exact isi_call (I.kin O) (fun M => at_.type) e (by intro q; cases q) (got_now I h rfl)
def isnIn (K : Frag) (D' C : Addr) : Bool := kin_not K D' C && plainGet K D' "__class__" && hasDictIn K D' && findIn K (.ref D') "__class__" == some (some (.builtin "object.__class__")) &&
  specialIn K (.builtin "object.__class__") "__get__" == some (some (.builtin "getset_descriptor.__get__")) && takesIn K (.builtin "object.__class__") == some true && mroIn K D' (.type "object") == some true
theorem c_isn (O : c.Ok) {D' C : Addr} {fs : List (Str × D)} (e : isnIn c.K D' C = true) (h : Pq (.raw (.bool false))) : CallV c n (.builtin "isinstance") [.dat (.inst D' fs), .dat (.raw (.ref C))] [] Pq := cv2 fun X A s u v G I xP ra rb => by
  obtain ⟨a, dd, es, m, rfl, at_, rf⟩ := inst_at (W := fun _ => True) (lv := .dat (.inst D' fs)) rfl ra
  have e2 : v = .ref C := rb
  subst e2
  unfold isnIn at e
  simp only [Bool.and_eq_true, beq_iff_eq] at e
  obtain ⟨⟨⟨⟨⟨⟨e1, e2⟩, e3⟩, e4⟩, e5⟩, e6⟩, e7⟩ := e
  exact kin_callC (I.kin O) at_ e1 e2 e3 e4 e5 e6 e7 (got_tok I h rfl)
/-! str of an own object -/
theorem c_str_o (O : c.Ok) {C f : Addr} {fs : List (Str × D)} {x : Str} (hf : cmpIn c.K C "__str__" f = true) (h : CallV c n (.ref f) [.dat (.inst C fs)] [] (fun d => d = .str x ∧ Pq (.str x))) : CallV c (n + 1) (.type "str") [.dat (.inst C fs)] [] Pq := cv1 fun X A s u G I xP ra => by
  unfold cmpIn at hf
  rw [Bool.and_eq_true] at hf
  obtain ⟨h1, h2⟩ := hf
  obtain ⟨a, dd, es, m, rfl, at_, rf⟩ := inst_at (W := fun _ => True) (lv := .dat (.inst C fs)) rfl ra
  have G2 : Good n A.in1.in1 := G.mono rfl (by show A.depth + _ ≤ _; omega) (by show A.units + 1 + 1 + _ ≤ _; omega)
  refine kso_call G2.room (I.kin O) at_ (beq_iff_eq.mp h1) h2 (Wp.mono (h X A.in1.in1 s [.ref a] [] G2 I xP ⟨_, _, rfl, ra, rfl⟩ rfl) fun v s' ⟨I', st, d, ⟨hd, hp⟩, r⟩ => ?_)
  subst hd
  obtain ⟨t, rfl⟩ := r
  exact ⟨I', st, _, hp, t, rfl⟩
/-! list() of a list, of a tuple -/
theorem got_list' {X : Addr → Prop} {s : Shared} {h' : Heap} {l : List D} {vs : List Value} {m : Nat} (I : Inv c s) (xP : Xok c X s) (h : Pq (.list l)) (r : RepL X s.heap l vs) (k : ∀ b o, s.heap.get? b = some o → h'.get? b = some o)
    (g : h'.get? s.heap.objs.size = some { cls := .type "list", dict := none, data := .seq vs.toArray m, slots := #[] }) : Got c X s Pq (.ref s.heap.objs.size) { s with heap := h' } :=
  ⟨I.grow (t := s.toks) xP k, fun b o _ e => k b o e, _, h, _, vs, (m, none, #[]), rfl, fun q => by
    obtain ⟨o, e⟩ := xP.ex _ q
    exact absurd (Heap.lt_size e) (Nat.lt_irrefl _), g, r.stay' k⟩
theorem c_list_l {l : List D} (hl : l.length ≤ sizeLine) (h : Pq (.list l)) : CallV c n (.type "list") [.dat (.list l)] [] Pq := cv1 fun X A s v G I xP r => by
  obtain ⟨a, vs, m, rfl, x, g, rl⟩ := r
  exact call_list_seq a (.inl rfl) g rfl rfl (fun h' c' k g' => got_list' I xP h rl k g') (by rw [List.size_toArray, rl.length]; exact hl)
theorem c_list_t {l : List D} (hl : l.length ≤ sizeLine) (h : Pq (.list l)) : CallV c n (.type "list") [.dat (.tup l)] [] Pq := cv1 fun X A s v G I xP r => by
  obtain ⟨a, vs, m, rfl, x, g, rl⟩ := r
  exact call_list_seq a (.inr rfl) g rfl rfl (fun h' c' k g' => got_list' I xP h rl k g') (by rw [List.size_toArray, rl.length]; exact hl)
/-! max, min -/
theorem ints_are {X : Addr → Prop} {h : Heap} : ∀ {l : List Int} {vs : List Value}, RepL X h (l.map .int) vs → ∃ xs : Array (Int × Tok), vs = (intItems xs).toList ∧ xs.toList.map (·.1) = l
  | [], vs, r => ⟨#[], by have r : vs = [] := r; rw [r]; simp [intItems], rfl⟩
  | i :: l, _, ⟨v, vs', e, ⟨t, ev⟩, r⟩ => by
    obtain ⟨xs, e2, e3⟩ := ints_are r
    refine ⟨#[(i, t)] ++ xs, ?_, ?_⟩
    · rw [e, ev, e2]; simp [intItems]
    · simp [e3]
theorem c_max_l {l : List Int} (hl : l ≠ []) (h : ∀ M, M ∈ l → (∀ a ∈ l, a ≤ M) → Pq (.int M)) : CallV c n (.builtin "max") [.dat (.list (l.map .int))] [] Pq := cv1 fun X A s v G I xP r => by
  obtain ⟨a, vs, m, rfl, x, g, rl⟩ := r
  obtain ⟨xs, e, e2⟩ := ints_are rl
  have hsz : 0 < xs.size := by
    have : 0 < (xs.toList.map (·.1)).length := by rw [e2]; exact List.length_pos_iff.mpr hl
    simpa using this
  have hL : s.heap.IsList a (intItems xs) := ⟨_, g, rfl, _, by rw [e]⟩
  refine max_intList G.1 hL hsz fun v h' tk hv hk => ?_
  obtain ⟨t, rfl⟩ := intItems_at hv
  obtain ⟨h1, h2⟩ := argBest_gt (numAt xs) (xs.size - 1)
  refine ⟨I.grow xP hk, fun b o _ q => hk b o q, _, h _ ?_ (fun a ha => ?_), t, rfl⟩
  · rw [← e2, numAt_eq]; exact getD_mem (by rw [List.length_map, Array.length_toList]; omega)
  · rw [← e2] at ha
    obtain ⟨j, hj, rfl⟩ := mem_getD ha
    rw [List.length_map, Array.length_toList] at hj
    rw [← numAt_eq]; exact h2 j (by omega)
theorem c_max2 {a b : Int} (h : Pq (.int (if b > a then b else a))) : CallV c n (.builtin "max") [.dat (.int a), .dat (.int b)] [] Pq := cv2 fun X A s u v G I xP ra rb => by
  obtain ⟨t, rfl⟩ := ra
  obtain ⟨t', rfl⟩ := rb
  refine max_two_ints G.1 fun h' tk hk => ⟨I.grow xP hk, fun b o _ q => hk b o q, _, h, ?_⟩
  by_cases q : b > a
  · rw [if_pos q, if_pos q]; exact ⟨_, rfl⟩
  · rw [if_neg q, if_neg q]; exact ⟨_, rfl⟩
theorem c_min2 {a b : Int} (h : Pq (.int (if b < a then b else a))) : CallV c n (.builtin "min") [.dat (.int a), .dat (.int b)] [] Pq := cv2 fun X A s u v G I xP ra rb => by
  obtain ⟨t, rfl⟩ := ra
  obtain ⟨t', rfl⟩ := rb
  refine min_two_ints G.1 fun h' tk hk => ⟨I.grow xP hk, fun b o _ q => hk b o q, _, h, ?_⟩
  by_cases q : b < a
  · rw [if_pos q, if_pos q]; exact ⟨_, rfl⟩
  · rw [if_neg q, if_neg q]; exact ⟨_, rfl⟩
/-! chains of two -/
theorem tst_chain {l r1 r2 : Expr} {o1 o2 : CmpOp} {pos : Pos} (hm : lastMarks [o1, o2] [r1, r2] = false)
    (h : Ev c n fc ρ l (fun a => Ev c n fc ρ r1 (fun b => Two c n (compareOp o1) a b (fun d => Tru c n d (fun t => if t = true then Ev c n fc ρ r2 (fun e => Two c n (compareOp o2) b e (fun d => Tru c n d Pb)) else Pb false))))) :
    Tst c n fc ρ (.Compare l [o1, o2] [r1, r2] pos) Pb := fun W Xc X env A s G S => by
  refine isTrue_chain (h.use G S fun u s₁ a S₁ st₁ p ra => ?_) hm
  refine test_link (p.use G S₁ fun v s₂ b S₂ st₂ q rb => ?_)
  have xP : X c.P := S.xc _ S.xP
  refine Wp.mono (q X A s₂ u v G S₂.inv S₂.xok (ra.st xP st₂) rb) fun x s₃ ⟨I₃, st₃, d, hd, r⟩ => ?_
  refine Wp.mono (hd X A s₃ x G I₃ (S₂.xok.st I₃ st₃) r) fun t s₄ ⟨I₄, st₄, ht⟩ => ?_
  have S₄ := (S₂.keep I₃ st₃).keep I₄ st₄
  cases t with
  | false => exact ⟨I₄, ((st₁.trans st₂).trans st₃).trans st₄, ht⟩
  | true =>
    refine test_last (Ev.use ht G S₄ fun e s₅ d₅ S₅ st₅ q₅ r₅ => ?_)
    refine Wp.mono (q₅ X A s₅ v e G S₅.inv S₅.xok (((rb.st xP st₃).st xP st₄).st xP st₅) r₅) fun y s₆ ⟨I₆, st₆, d₆, h₆, r₆⟩ => ?_
    exact Wp.mono (h₆ X A s₆ y G I₆ (S₅.xok.st I₆ st₆) r₆) fun t s₇ ⟨I₇, st₇, ht⟩ => ⟨I₇, (((((st₁.trans st₂).trans st₃).trans st₄).trans st₅).trans st₆).trans st₇, ht⟩
end
end Mine
end
section
namespace Mine
open PySem PySem.W PySem.Calls PyProof.Rows Builtin Builtin.Str
section
variable {M : Model} {A : Around} {E : Value → Shared → Prop} {s : Shared} {l : List Nat} {p : List Value} {r : List Nat}
  {f : Nat → List Value × Writer × List Nat → Sem (ForInStep (List Value × Writer × List Nat))} {Q : List Value × Writer × List Nat → Shared → Prop}
  {w : Writer} {T : PySem.Str} {N K : Nat} {o : Option Value}
theorem after_intB {c : Percent} {n : Int} {d : List Nat} (g : KPc.Good w T N) (h1 : c.alt = false) (h2 : c.type = 100 ∨ c.type = 105 ∨ c.type = 117) (h3 : c.prec = none) (hn : 0 ≤ n) (hm : (PySem.Str.ofString (toString n)).length ≤ K)
    (hd : d = (PySem.Str.ofString (toString ((n.natAbs : Nat) : Int))).cps.toList) (ho : o = none) (h : ∀ w', KPc.Good w' (T ++ PySem.Str.ofString (toString n)) (N + K) → wpAny M A (forIn l (p, w', r) f) Q E s) :
    wpAny M A (forIn l (p, w.add ⟨(percentInt c (decide (n < 0)) d).toArray⟩ o, r) f) Q E s := by
  have en : ((n.natAbs : Nat) : Int) = n := Int.natAbs_of_nonneg hn
  rw [KPc.int_text c h1 h2 h3 hn, hd, en]
  exact KPc.after_str g hm (KPc.obj_none ho) h
theorem after_intB0 {c : Percent} {n : Int} {d : List Nat} (g : KPc.Good w PySem.Str.empty N) (h1 : c.alt = false) (h2 : c.type = 100 ∨ c.type = 105 ∨ c.type = 117) (h3 : c.prec = none) (hn : 0 ≤ n) (hm : (PySem.Str.ofString (toString n)).length ≤ K)
    (hd : d = (PySem.Str.ofString (toString ((n.natAbs : Nat) : Int))).cps.toList) (ho : o = none) (h : ∀ w', KPc.Good w' (PySem.Str.ofString (toString n)) (N + K) → wpAny M A (forIn l (p, w', r) f) Q E s) :
    wpAny M A (forIn l (p, w.add ⟨(percentInt c (decide (n < 0)) d).toArray⟩ o, r) f) Q E s :=
  after_intB g h1 h2 h3 hn hm hd ho fun w' g' => h w' (by rw [KPc.empty_app] at g'; exact g')
end
local macro_rules | `(tactic| kpt_hd) => `(tactic| assumption)
local macro_rules | `(tactic| kpt_piece) => `(tactic| first
  | (refine KPc.after_add0 (by kpc_g) (by kpc_text) (by kpc_obj) ?_; intro _ _)
  | (refine KPc.after_add (by kpc_g) (by kpc_text) (by kpc_obj) ?_; intro _ _)
  | (refine after_intB0 (by kpc_g) rfl (by kpc_kind) rfl (by with_reducible assumption) (by with_reducible assumption) rfl (by kpc_none) ?_; intro _ _)
  | (refine after_intB (by kpc_g) rfl (by kpc_kind) rfl (by with_reducible assumption) (by with_reducible assumption) rfl (by kpc_none) ?_; intro _ _)
  | (refine KPc.after_str0 (by kpc_g) (by with_reducible assumption) (by kpc_obj) ?_; intro _ _)
  | (refine KPc.after_str (by kpc_g) (by with_reducible assumption) (by kpc_obj) ?_; intro _ _))
set_option maxHeartbeats 4000000 in
theorem meets_sd {x : Str} {i : Int} {t tx ti : Tok} {b : Addr} (hx : x.length ≤ 5000) (hn : 0 ≤ i) (hk : (PySem.Str.ofString (toString i)).length ≤ 5000) (hd : i.natAbs.log2 < 1920) (hd2 : ((i.natAbs : Nat) : Int).natAbs.log2 < 1920) :
    Meets («str.__mod__» ⟨[.str ⟨#[37, 115, 46, 37, 100]⟩ t, .ref b], []⟩) (fun _ R s => IsTup s.heap b #[.str x tx, .int i ti] ∧ ∀ t' k, R (.ok (.ret (.str (x ++ Str.ofString "." ++ Str.ofString (toString i)) t'))) { s with toks := k }) := by kpt_run
local macro_rules | `(tactic| kpc_piece) => `(tactic| first
  | (refine after_intB0 (by kpc_g) rfl (by kpc_kind) rfl (by with_reducible assumption) (by with_reducible assumption) rfl (by kpc_none) ?_; intro _ _)
  | (refine after_intB (by kpc_g) rfl (by kpc_kind) rfl (by with_reducible assumption) (by with_reducible assumption) rfl (by kpc_none) ?_; intro _ _))
set_option maxHeartbeats 4000000 in
theorem meets_d {i : Int} {t ti : Tok} (hn : 0 ≤ i) (hk : (PySem.Str.ofString (toString i)).length ≤ 5000) (hd : i.natAbs.log2 < 1920) (hd2 : ((i.natAbs : Nat) : Int).natAbs.log2 < 1920) :
    Meets («str.__mod__» ⟨[.str ⟨#[37, 100]⟩ t, .int i ti], []⟩) (fun _ R s => ∀ t' k, R (.ok (.ret (.str (Str.ofString (toString i)) t'))) { s with toks := k }) := by kpc_run
/-- a number's signs -/
def decL (i : Int) : List Nat := (Str.ofString (toString i)).cps.toList
theorem decL_T (i : Int) : Str.ofString (toString i) = T (decL i) := T_of _
theorem decL_len (i : Int) : (Str.ofString (toString i)).length = (decL i).length := by rw [decL_T, T_length]
section
variable {c : Cx} {n : Nat} {Pq : D → Prop}
theorem m_tup {X : Str} {its : List D} {R : Str} (hm : ∀ (t : Tok) (b : Addr) (vs : List Value) (Xa : Addr → Prop) (h : Heap), RepL Xa h its vs → Meets («str.__mod__» ⟨[.str X t, .ref b], []⟩) (fun _ P s => IsTup s.heap b vs.toArray ∧ ∀ t' k, P (.ok (.ret (.str R t'))) { s with toks := k }))
    (h : Pq (.str R)) : Two c n (binaryOp .Mod) (.str X) (.tup its) Pq := by
  rintro Xa A s u v G I xP ⟨t, rfl⟩ ⟨b, vs, m, rfl, xb, g, r⟩
  have ht : IsTup s.heap b vs.toArray := ⟨_, g, rfl, _, rfl⟩
  have hT : s.TypeIs (.ref b) "tuple" := ⟨_, g, rfl⟩
  exact KPt.bin_left (T := "str") (U := "tuple") (op := .Mod) (by decide) (typeIs_str s X t) hT PySem.F.fills_str_mod KPt.fills_tuple PySem.F.slot_str_mod
    (call_meets PySem.F.slot_str_mod (typeIs_str s X t) PySem.F.entry_str_mod (PySem.F.args_str_mod_2 _ _) (hm t b vs Xa s.heap r) ⟨ht, fun t' k => ⟨(fun e => nomatch e), got_tok I h ⟨_, rfl⟩⟩⟩)
theorem m_sd {x : List Nat} {i : Int} (hx : x.length ≤ 5000) (hn : 0 ≤ i) (hk : (decL i).length ≤ 5000) (hd : i.natAbs.log2 < 1920) (h : Pq (.str (T (x ++ 46 :: decL i)))) : Two c n (binaryOp .Mod) (.str (T [37, 115, 46, 37, 100])) (.tup [.str (T x), .int i]) Pq := by
  refine m_tup (R := T x ++ Str.ofString "." ++ Str.ofString (toString i)) ?_ ?_
  · rintro t b vs Xa hp ⟨v, _, rfl, ⟨t1, rfl⟩, v2, _, rfl, ⟨t2, rfl⟩, rfl⟩
    exact meets_sd (by rw [T_length]; exact hx) hn (by rw [decL_len]; exact hk) hd hd
  · rw [lit_dot, decL_T, T_append, T_append, List.append_assoc]; exact h
theorem m_d {i : Int} (hn : 0 ≤ i) (hk : (decL i).length ≤ 5000) (hd : i.natAbs.log2 < 1920) (h : Pq (.str (T (decL i)))) : Two c n (binaryOp .Mod) (.str (T [37, 100])) (.int i) Pq := by
  rintro Xa A s u v G I xP ⟨t, rfl⟩ ⟨t2, rfl⟩
  exact KPc.mod_lit (X' := T [37, 100]) rfl hd (fun a b => meets_d hn (by rw [decL_len]; exact hk) a b) fun t' k => by rw [decL_T]; exact got_tok I h ⟨_, rfl⟩
theorem lit_fd : Str.ofString "%d" = T [37, 100] := by kernel_rfl
theorem lit_fsd : Str.ofString "%s.%d" = T [37, 115, 46, 37, 100] := by kernel_rfl
/-! texts put together -/
variable {fc : FC} {ρ : Rho}
def EvJ (c : Cx) (n : Nat) (fc : FC) (ρ : Rho) : List Expr → List Nat → (List Nat → Prop) → Prop
  | [], acc, P => P acc
  | e :: es, acc, P => Ev c n fc ρ e (fun d => ∃ x, d = .str (T x) ∧ (acc ++ x).length ≤ 100000 ∧ EvJ c n fc ρ es (acc ++ x) P)
theorem EvJ.use {W Xc X : Addr → Prop} {env : Env} {A : Around} {P : List Nat → Prop} {Q : Value → Shared → Prop} (G : Good n A) : ∀ {es : List Expr} {acc : List Nat} {s : Shared}, EvJ c n fc ρ es acc P → acc.length ≤ 100000 → Sat c W Xc X fc env ρ s →
    (∀ acc s' t, P acc → Sat c W Xc X fc env ρ s' → Stay (· = c.P) s.heap s'.heap → Q (.str (T acc) t) { s' with toks := s'.toks + 1 }) → Wp c A (joinParts (T acc) (evalEach es env)) Q s
  | [], acc, s, h, hl, S, q => joinParts_nil (q acc s _ h S (Stay.refl _ _)) (by have := sizeLine_eq; rw [T_length]; omega)
  | e :: es, acc, s, h, hl, S, q => by
    refine joinParts_cons (Ev.use h G S fun v s₁ d S₁ st hd r => ?_)
    obtain ⟨x, rfl, hx, k⟩ := hd
    obtain ⟨t, rfl⟩ := r
    refine ⟨by have := sizeLine_eq; rw [T_append, T_length]; omega, ?_⟩
    rw [T_append]
    exact EvJ.use G k hx S₁ fun acc' s' t' p S' st' => q acc' s' t' p S' (st.trans st')
theorem ev_join {e1 e2 : Expr} {es : List Expr} {pos : Pos} (h : EvJ c n fc ρ (e1 :: e2 :: es) [] (fun x => Pq (.str (T x)))) : Ev c n fc ρ (.JoinedStr (e1 :: e2 :: es) pos) Pq := fun W Xc X env A s G S => by
  refine JoinedStr_many ?_
  have e : PySem.Str.empty = T [] := rfl
  rw [e]
  exact EvJ.use G h (by simp) S fun acc s' t p S' st => ⟨S'.inv.toks _, st, _, p, t, rfl⟩
theorem ev_fmt {e : Expr} {pos : Pos} (h : Ev c n fc ρ e (fun d => ∃ x, d = .str (T x) ∧ x.length ≤ 100000 ∧ Pq (.str (T x)))) : Ev c n fc ρ (.FormattedValue e 115 none pos) Pq := fun W Xc X env A s G S => by
  show wpAny _ A (do let v ← PySem.eval e env; standAt pos; formatted pos (← holding [v] (converted 115 v)) none) _ _ s
  refine wpAny_bind (h.use G S fun v s₁ d S₁ st hd r => ?_)
  obtain ⟨x, rfl, hx, hp⟩ := hd
  obtain ⟨t, rfl⟩ := r
  refine wpAny_bind (wpAny_standAt ?_)
  have hz : (T x).length ≤ sizeLine := by have := sizeLine_eq; rw [T_length]; omega
  refine wpAny_bind (wpAny_holding (habitSame_str (hsz := hz) fun t' tk => ?_))
  show wpAny _ A (formatField (.str (T x) t') PySem.Str.empty) _ _ _
  exact formatField_str (hsz := hz) fun t'' tk' => ⟨S₁.inv.toks _, st, _, hp, t'', rfl⟩
end
end Mine
end
section
namespace Mine
open PySem PySem.W PySem.Calls PyProof.Rows Builtin
theorem slot_blt : Slot "bytes" (cmpInfo .Lt).2.1 "bytes.__lt__" :=
  .of (owner := "bytes") (n := "__lt__") (by rw [typeLookup_type, builtinLookup_eq_fast]; kernel_rfl) (by decide +kernel) (by decide +kernel) (by decide +kernel)
    (by first | exact .inl (by decide +kernel) | exact .inr (by decide +kernel)) (by rw [isSubtype_type]; kernel_rfl)
theorem entry_blt : entryFor table "bytes.__lt__" = some Builtin.«bytes.__lt__» := entryFor_of_tree (by kernel_rfl)
theorem args_blt (a b : Value) : argsOk "bytes.__lt__" ⟨[a, b], []⟩ := by
  unfold argsOk; rw [signature?_of (id := "bytes.__lt__") (n := ['_', '_', 't', 'l', '_', '_']) (o := ['s', 'e', 't', 'y', 'b']) (by kernel_rfl) FB.owner_bytes]; kernel_rfl
theorem gives_blt (b c : Array UInt8) (t u : Tok) : Gives («bytes.__lt__» ⟨[.bytes b t, .bytes c u], []⟩) (.val (.bool (Bytes.order b.toList c.toList == .lt))) := by
  refine .of_wp fun M A E s Q hq => ?_
  show wpAny M A (isInstance (.bytes c u) (.type "bytes") >>= fun r => _) _ E s
  refine wpAny_bind (wpAny_isInstance (typeIs_bytes s c u) F.sub_bytes_bytes ?_)
  exact wpAny_pure ⟨_, rfl, hq⟩
theorem order_sign : ∀ (a b : List Nat), (∀ x ∈ a, x < 128) → (∀ x ∈ b, x < 128) → Bytes.order (a.map fun ch => ch.toUInt8) (b.map fun ch => ch.toUInt8) = cmpN a b
  | [], [], _, _ => rfl
  | [], _ :: _, _, _ => rfl
  | _ :: _, [], _, _ => rfl
  | x :: a, y :: b, ha, hb => by
    have hx := ha x List.mem_cons_self
    have hy := hb y List.mem_cons_self
    have e : ∀ p q : Nat, p < 128 → q < 128 → (p.toUInt8 < q.toUInt8 ↔ p < q) := fun p q hp hq => by
      rw [UInt8.lt_iff_toNat_lt]
      simp only [Nat.toUInt8_eq, UInt8.toNat_ofNat']
      rw [Nat.mod_eq_of_lt (by omega), Nat.mod_eq_of_lt (by omega)]
    simp only [List.map_cons, Bytes.order, cmpN, gt_iff_lt]
    rw [order_sign a b (fun z hz => ha z (List.mem_cons_of_mem _ hz)) (fun z hz => hb z (List.mem_cons_of_mem _ hz))]
    simp only [e x y hx hy, e y x hy hx]
section
variable {c : Cx} {n : Nat} {Pq : D → Prop}
theorem bytes_toList (a : List Nat) : (bytesOf a).toList = a.map fun ch => ch.toUInt8 := by unfold bytesOf; simp
theorem b_eq {a b : List Nat} (ha : ∀ x ∈ a, x < 128) (hb : ∀ x ∈ b, x < 128) (h : Pq (.raw (.bool (cmpN a b == .eq)))) : Two c n (compareOp .Eq) (.bytes (bytesOf a)) (.bytes (bytesOf b)) Pq := by
  rintro X A s u v G I xP ⟨t, rfl⟩ ⟨t', rfl⟩
  exact eq_bytes (by rw [← order_eq, bytes_toList, bytes_toList, order_sign a b ha hb]; exact got_now I h rfl)
theorem b_lt {a b : List Nat} (ha : ∀ x ∈ a, x < 128) (hb : ∀ x ∈ b, x < 128) (h : Pq (.raw (.bool (cmpN a b == .lt)))) : Two c n (compareOp .Lt) (.bytes (bytesOf a)) (.bytes (bytesOf b)) Pq := by
  rintro X A s u v G I xP ⟨t, rfl⟩ ⟨t', rfl⟩
  exact compareOp_gives (op := .Lt) (typeIs_bytes s _ t) (typeIs_bytes s _ t') slot_blt entry_blt (args_blt _ _) (gives_blt _ _ t t') (fun e => nomatch e) (by rw [bytes_toList, bytes_toList, order_sign a b ha hb]; exact got_now I h rfl)
/-- identifiers of keys -/
inductive Idn where
  | max
  | num (i : Int)
  | alpha (x : List Nat)
def Idn.ok : Idn → Prop
  | .alpha x => ∀ ch ∈ x, ch < 128
  | _ => True
def icmp : Idn → Idn → Ordering
  | .max, .max => .eq
  | .max, _ => .gt
  | _, .max => .lt
  | .num a, .num b => compare a b
  | .num _, .alpha _ => .lt
  | .alpha _, .num _ => .gt
  | .alpha a, .alpha b => cmpN a b
end
end Mine
end
section
namespace Mine
open PySem PySem.W PySem.Calls PyProof.Rows Builtin
section
variable {c : Cx} {n : Nat} {fc : FC} {ρ : Rho} {Pq : D → Prop} {R : Out → Prop}
theorem CompIfs.mono {P P' : Bool → Prop} (k : ∀ b, P b → P' b) : ∀ {ifs : List Expr}, CompIfs c n fc ρ ifs P → CompIfs c n fc ρ ifs P'
  | [], h => k _ h
  | t :: ts, h => Tst.mono (show Tst c n fc ρ t _ from h) fun b q => by
    cases b with
    | true => exact CompIfs.mono k (ifs := ts) q
    | false => exact k _ q
/-- a comprehension over a list of things, with a test -/
theorem CompL.fm {α : Type} {elt iter : Expr} {x : Str} {p : Pos} {ifs : List Expr} {scope : Scope} {pos : Pos} {Pl : List D → Prop} {i : Nat} (e : placeIn x fc.scope.names 0 = some i) (hk : fc.scope.names[i]? = some (x, .local)) (g : α → D) (F : α → D) (q : α → Bool) :
    ∀ (l : List α) (ρ : Rho) (acc : List D), Nat.blt i ρ.length = true → (∀ d ∈ l, CompIfs c n fc (ρ.set i (some (.dat (g d)))) ifs (fun b => b = q d) ∧ (q d = true → Ev c n fc (ρ.set i (some (.dat (g d)))) elt (· = F d))) → acc.length + l.length ≤ sizeLine →
    Pl (acc ++ (l.filter q).map F) → CompL c n fc ρ elt (.Name x p) iter ifs scope pos (l.map g) acc Pl
  | [], ρ, acc, il, h, hl, hP => CompL.done (by simpa using hP)
  | d :: l, ρ, acc, il, h, hl, hP => by
    obtain ⟨h1, h2⟩ := h d List.mem_cons_self
    have hl' : acc.length + l.length + 1 ≤ sizeLine := hl
    have il' : Nat.blt i (ρ.set i (some (.dat (g d)))).length = true := by rw [List.length_set]; exact il
    have hr : ∀ d' ∈ l, CompIfs c n fc ((ρ.set i (some (.dat (g d)))).set i (some (.dat (g d')))) ifs (fun b => b = q d') ∧ (q d' = true → Ev c n fc ((ρ.set i (some (.dat (g d)))).set i (some (.dat (g d')))) elt (· = F d')) := fun d' m => by
      rw [List.set_set]; exact h d' (List.mem_cons_of_mem _ m)
    refine CompL.turn (by omega) (asg_n e hk il (CompIfs.mono (fun b hb => ?_) h1))
    subst hb
    cases hq : q d with
    | true =>
      rw [if_pos rfl]
      refine (h2 hq).mono fun y hy => ?_
      subst hy
      refine CompL.fm e hk g F q l _ (acc ++ [F d]) il' hr (by simp only [List.length_append, List.length_singleton]; omega) ?_
      rw [List.filter_cons_of_pos hq] at hP
      simpa using hP
    | false =>
      rw [if_neg (by simp)]
      refine CompL.fm e hk g F q l _ acc il' hr (by omega) ?_
      rw [List.filter_cons_of_neg (by simpa using hq)] at hP
      exact hP
theorem comp_map {α : Type} {elt iter : Expr} {x : Str} {p : Pos} {scope : Scope} {pos : Pos} {Pl : List D → Prop} {i : Nat} (e : placeIn x fc.scope.names 0 = some i) (hk : fc.scope.names[i]? = some (x, .local)) (il : Nat.blt i ρ.length = true) {l : List α} {g F : α → D} (hl : l.length ≤ sizeLine)
    (h : ∀ d ∈ l, Ev c n fc (ρ.set i (some (.dat (g d)))) elt (· = F d)) (hP : Pl (l.map F)) : CompL c n fc ρ elt (.Name x p) iter [] scope pos (l.map g) [] Pl :=
  CompL.fm e hk g F (fun _ => true) l ρ [] il (fun d m => ⟨rfl, fun _ => h d m⟩) (by simpa using hl) (by rw [List.filter_eq_self.mpr (fun _ _ => rfl)]; simpa using hP)
theorem comp_filter {α : Type} {elt iter t : Expr} {x : Str} {p : Pos} {scope : Scope} {pos : Pos} {Pl : List D → Prop} {i : Nat} (e : placeIn x fc.scope.names 0 = some i) (hk : fc.scope.names[i]? = some (x, .local)) (il : Nat.blt i ρ.length = true) {l : List α} {g F : α → D} (q : α → Bool) (hl : l.length ≤ sizeLine)
    (ht : ∀ d ∈ l, Tst c n fc (ρ.set i (some (.dat (g d)))) t (fun b => b = q d)) (h : ∀ d ∈ l, q d = true → Ev c n fc (ρ.set i (some (.dat (g d)))) elt (· = F d)) (hP : Pl ((l.filter q).map F)) : CompL c n fc ρ elt (.Name x p) iter [t] scope pos (l.map g) [] Pl :=
  CompL.fm e hk g F q l ρ [] il (fun d m => ⟨(ht d m).mono fun b hb => by cases b <;> exact hb, h d m⟩) (by simpa using hl) (by simpa using hP)
theorem upInts_eq : ∀ (k : Nat) (a : Int), upInts a k = (List.range k).map fun j => .int (a + (j : Int))
  | 0, a => rfl
  | k + 1, a => by
    rw [List.range_succ_eq_map]
    simp only [upInts, List.map_cons, List.map_map]
    congr 1
    · simp
    · rw [upInts_eq k (a + 1)]
      apply List.map_congr_left
      intro j _
      simp only [Function.comp]
      congr 1
      push_cast
      omega
theorem items_range {a b : Int} (h : -(2 ^ 62) ≤ a ∧ a < 2 ^ 62 ∧ -(2 ^ 62) ≤ b ∧ b < 2 ^ 62) : Items (.range a b) ((List.range (b - a).toNat).map fun (j : Nat) => D.int (a + (j : Int))) := by
  rw [← upInts_eq]; exact .range h
theorem items_range0 {m : Nat} (h : m < 2 ^ 62) : Items (.range 0 (m : Int)) ((List.range m).map fun (j : Nat) => D.int (j : Int)) := by
  have := items_range (a := 0) (b := (m : Int)) ⟨by omega, by omega, by omega, by omega⟩
  simpa using this
theorem ints_map {α : Type} (f : α → Int) (l : List α) : (l.map fun j => D.int (f j)) = (l.map f).map .int := by rw [List.map_map]; rfl
end
end Mine
end
section
namespace Mine
open PySem PySem.W PySem.Calls PyProof.Rows Builtin
section
variable {c : Cx} {n : Nat} {fc : FC} {ρ : Rho} {Pq : D → Prop} {R : Out → Prop}
/-- a for by what holds between its turns -/
theorem ForL.inv {α : Type} {x : Str} {p : Pos} {body orelse : List Stmt} {i : Nat} (e : placeIn x fc.scope.names 0 = some i) (hk : fc.scope.names[i]? = some (x, .local)) (l : List α) (g : α → D) (I : Nat → Rho → Prop)
    (hI : ∀ k ρ d, l[k]? = some d → I k ρ → Nat.blt i ρ.length = true ∧ Ex c n fc (ρ.set i (some (.dat (g d)))) body (fun o => match o with
      | .next ρ' => I (k + 1) ρ'
      | .cont ρ' => I (k + 1) ρ'
      | .brk ρ' => R (.next ρ')
      | .ret d => R (.ret d)))
    (hend : ∀ ρ, I l.length ρ → Ex c n fc ρ orelse R) : ∀ (m k : Nat) (ρ : Rho), k + m = l.length → I k ρ → ForL c n fc ρ (.Name x p) body orelse ((l.drop k).map g) R
  | 0, k, ρ, hk', h => by
    rw [List.drop_eq_nil_of_le (by omega)]
    exact ForL.done (hend ρ (by rw [show l.length = k from by omega]; exact h))
  | m + 1, k, ρ, hk', h => by
    have lt : k < l.length := by omega
    rw [List.drop_eq_getElem_cons lt]
    obtain ⟨h1, h2⟩ := hI k ρ l[k] (List.getElem?_eq_getElem lt) h
    refine ForL.turn (asg_n e hk h1 (h2.mono fun o ho => ?_))
    cases o with
    | next ρ' => exact ForL.inv e hk l g I hI hend m (k + 1) ρ' (by omega) ho
    | cont ρ' => exact ForL.inv e hk l g I hI hend m (k + 1) ρ' (by omega) ho
    | brk ρ' => exact ho
    | ret d => exact ho
theorem for_inv {α : Type} {x : Str} {p : Pos} {body orelse : List Stmt} {i : Nat} (e : placeIn x fc.scope.names 0 = some i) (hk : fc.scope.names[i]? = some (x, .local)) {l : List α} {g : α → D} (I : Nat → Rho → Prop) (h0 : I 0 ρ)
    (hI : ∀ k ρ d, l[k]? = some d → I k ρ → Nat.blt i ρ.length = true ∧ Ex c n fc (ρ.set i (some (.dat (g d)))) body (fun o => match o with
      | .next ρ' => I (k + 1) ρ'
      | .cont ρ' => I (k + 1) ρ'
      | .brk ρ' => R (.next ρ')
      | .ret d => R (.ret d)))
    (hend : ∀ ρ, I l.length ρ → Ex c n fc ρ orelse R) : ForL c n fc ρ (.Name x p) body orelse (l.map g) R := by
  have := ForL.inv (p := p) e hk l g I hI hend l.length 0 ρ (by omega) h0
  simpa using this
theorem ints_refl : ∀ (l : List Int), CmpL c n (l.map .int) (l.map .int) .eq
  | [] => .nil
  | a :: l => .step (by have := cmp_int (c := c) (n := n) a a; rwa [Int.compare_eq_eq.mpr rfl] at this) (ints_refl l)
theorem l_ne {l l' : List D} {o : Ordering} (h : CmpL c n l l' o) (q : Pq (.raw (.bool (o != .eq)))) : Two c (n + 2) (compareOp .NotEq) (.list l) (.list l') Pq := (rc_list (op := .NotEq) rfl h).mono fun d e => by rw [e]; exact q
theorem l_eq {l l' : List D} {o : Ordering} (h : CmpL c n l l' o) (q : Pq (.raw (.bool (o == .eq)))) : Two c (n + 2) (compareOp .Eq) (.list l) (.list l') Pq := (rc_list (op := .Eq) rfl h).mono fun d e => by rw [e]; exact q
/-- whether a list is empty -/
theorem l_ne_nil {l : List D} (q : Pq (.raw (.bool (!l.isEmpty)))) : Two c (n + 2) (compareOp .NotEq) (.list l) (.list []) Pq := by
  cases l with
  | nil => exact l_ne (n := n) .nil q
  | cons a r => exact l_ne (n := n) .long q
theorem l_eq_nil {l : List D} (q : Pq (.raw (.bool l.isEmpty))) : Two c (n + 2) (compareOp .Eq) (.list l) (.list []) Pq := by
  cases l with
  | nil => exact l_eq (n := n) .nil q
  | cons a r => exact l_eq (n := n) .long q
end
section
variable {c : Cx} {n : Nat} {Pq : D → Prop}
/-- the first call of all: no address but the table's is shunned yet -/
def CallRoot (c : Cx) (n : Nat) (f : Value) (as : List LV) (Pq : D → Prop) : Prop :=
  ∀ X A s vs, Good n A → Inv c s → X c.P → (∀ a, X a → ∃ o, s.heap.get? a = some o) → (∀ a, X a → a = c.P ∨ c.h₁.objs.size ≤ a) → LRepL X s.heap as vs → codeAny (model c.prog c.w) A (.call f ⟨vs, []⟩) (RetPost (Got c X s Pq)) s
theorem root_def (O : c.Ok) {f : Addr} {name qual : Str} {params : Arguments} {body : List Stmt} {scope : Scope} {dV kV doc pm cdv ct oc : Value} {an od : Option Addr} {osl : Array (Option Value)} {as : List LV}
    (hf : c.K.lookup f = some ⟨oc, od, .func (fnOf name qual params body scope dV kV doc pm an cdv ct), osl⟩) (hcode : codeIn c.K cdv qual = true) (hsc : (!scope.isCoroutine && !scope.isGenerator && FC.ok ⟨scope, cdv, qual ++ ".<locals>.", fun _ => true, false⟩) = true)
    (ρ : Rho) (hno : noOwn ρ = true)
    (hb : ∀ X s vs, Inv c s → LRepL X s.heap as vs → ∃ binds, BindsTo s (fnOf name qual params body scope dV kV doc pm an cdv ct) ⟨vs, []⟩ binds ∧
      (binds.all fun y => scope.names.lookup y.1 == some .local || scope.names.lookup y.1 == some .cell) = true ∧ RhoOk X s.heap binds scope.names ρ)
    (h : Ex c n ⟨scope, cdv, qual ++ ".<locals>.", fun _ => true, false⟩ ρ body (Back Pq)) : CallRoot c (n + 1) (.ref f) as Pq := by
  intro X A s vs G I xP xex xlo ra
  obtain ⟨binds, b1, b2, b3⟩ := hb X s vs I ra
  refine run_def (W₀ := fun _ => False) O hf hcode hsc G I xP xex xlo (fun _ q => q.elim) b1 b2 ρ b3 hno (fun q => by cases q) fun W Xc X' env A' s₁ eX eW G' S k _ => ?_
  subst eX
  exact Wp.mono (h _ _ _ env A' s₁ G' S) fun fl s' e => got_back eW k e
end
/-! numbers' signs -/
theorem decL_nat (m : Nat) : decL (m : Int) = (Nat.toDigits 10 m).map Char.toNat := KIN.signs_num m
theorem dig_of {ch : Char} (h : ch.isDigit = true) : 48 ≤ ch.toNat ∧ ch.toNat ≤ 57 := digit_range h
theorem decL_dig {i : Int} (h0 : 0 ≤ i) : ∀ ch ∈ decL i, 48 ≤ ch ∧ ch ≤ 57 := by
  obtain ⟨m, rfl⟩ := Int.eq_ofNat_of_zero_le h0
  intro c hc
  rw [decL_nat] at hc
  obtain ⟨ch, hch, e⟩ := List.mem_map.mp hc
  rw [← e]
  exact dig_of (Nat.isDigit_of_mem_toDigits (by decide) (by decide) hch)
theorem decL_ne {i : Int} (h0 : 0 ≤ i) : decL i ≠ [] := by
  obtain ⟨m, rfl⟩ := Int.eq_ofNat_of_zero_le h0
  rw [decL_nat]
  intro e
  have e := List.map_eq_nil_iff.mp e
  by_cases h : m < 10
  · rw [Nat.toDigits_of_lt_base h] at e; cases e
  · have t : Nat.toDigits 10 (m / 10) ++ Nat.toDigits 10 (m % 10) = Nat.toDigits 10 (10 * (m / 10) + m % 10) := Nat.toDigits_append_toDigits (by decide) (by omega) (Nat.mod_lt m (by decide))
    rw [Nat.div_add_mod, e, Nat.toDigits_of_lt_base (Nat.mod_lt m (by decide))] at t
    simp at t
theorem toDigits_step {m : Nat} (h : ¬ m < 10) : Nat.toDigits 10 m = Nat.toDigits 10 (m / 10) ++ [Nat.digitChar (m % 10)] := by
  have t : Nat.toDigits 10 (m / 10) ++ Nat.toDigits 10 (m % 10) = Nat.toDigits 10 (10 * (m / 10) + m % 10) := Nat.toDigits_append_toDigits (by decide) (by omega) (Nat.mod_lt m (by decide))
  rw [Nat.div_add_mod, Nat.toDigits_of_lt_base (Nat.mod_lt m (by decide))] at t
  exact t.symm
theorem digitChar_pos : ∀ d : Nat, d < 10 → 0 < d → (Nat.digitChar d).toNat ≠ 48 := by decide
theorem lead_pos (m : Nat) (hm : 0 < m) : ∃ x r, (Nat.toDigits 10 m).map Char.toNat = x :: r ∧ x ≠ 48 := by
  induction m using Nat.strongRecOn with
  | _ m ih =>
    by_cases h : m < 10
    · rw [Nat.toDigits_of_lt_base h]
      exact ⟨_, [], rfl, digitChar_pos m h hm⟩
    · obtain ⟨x, r, e, ne⟩ := ih (m / 10) (by omega) (by omega)
      rw [toDigits_step h, List.map_append, e]
      exact ⟨x, _, rfl, ne⟩
theorem decL_lead {i : Int} (h0 : 0 ≤ i) : ∃ x r, decL i = x :: r ∧ (x ≠ 48 ∨ r = []) := by
  obtain ⟨m, rfl⟩ := Int.eq_ofNat_of_zero_le h0
  rw [decL_nat]
  by_cases h : m = 0
  · subst h; exact ⟨48, [], rfl, .inr rfl⟩
  · obtain ⟨x, r, e, ne⟩ := lead_pos m (by omega)
    exact ⟨x, r, e, .inl ne⟩
theorem decL_length {i : Int} {k : Nat} (h0 : 0 ≤ i) (hk : 0 < k) (h : i < 10 ^ k) : (decL i).length ≤ k := by
  rw [← decL_len]; exact toString_length_le h0 hk h
theorem decL_val {i : Int} (h0 : 0 ≤ i) (h : i < 10 ^ 100) : PySem.intText? (T (decL i)) = some i := by
  have hl := decL_length h0 (by decide) h
  have hd : NumText.AllDigits (T (decL i)).cps.toList := by rw [T_cps]; exact decL_dig h0
  have e := intText_digits hd (by rw [T_cps]; exact decL_ne h0) (by rw [T_length]; omega)
  rw [T_cps] at e
  obtain ⟨m, rfl⟩ := Int.eq_ofNat_of_zero_le h0
  rw [e, decL_nat, KIN.val_back]
theorem log_small {i : Int} (h0 : 0 ≤ i) (h : i < 10 ^ 100) : i.natAbs.log2 < 1920 := by
  by_cases e : i.natAbs = 0
  · rw [e]; decide
  · rw [Nat.log2_lt e]
    have : i.natAbs < 10 ^ 100 := by omega
    exact Nat.lt_trans this (by decide)
end Mine
end
section
namespace Mine
open PySem PySem.W PySem.Calls PyProof.Rows Builtin
section
variable {c : Cx} {n : Nat} {fc : FC} {ρ : Rho} {Pq : D → Prop} {R : Out → Prop}
abbrev strL (l : List (List Nat)) : D := .list (l.map fun x => .str (T x))
theorem s_addT {x y : List Nat} (hl : x.length + y.length ≤ 100000) (h : Pq (.str (T (x ++ y)))) : Two c n (binaryOp .Add) (.str (T x)) (.str (T y)) Pq :=
  s_add (by have := sizeLine_eq; rw [T_length, T_length]; omega) (by rw [T_append]; exact h)
theorem item_menu {ls : List (List Nat)} {i : Int} (h0 : 0 ≤ i) (h1 : i < ls.length) (h2 : ls.length ≤ 100000) (h : Pq (.str (T (ls.getD i.toNat [])))) : Item c n (strL ls) (.int i) Pq := by
  refine item_l h0 (by omega) (d := .str (T (ls.getD i.toNat []))) ?_ h
  have lt : i.toNat < ls.length := by omega
  rw [List.getElem?_map, List.getElem?_eq_getElem lt, List.getD_eq_getElem?_getD, List.getElem?_eq_getElem lt]; rfl
theorem item_int {ls : List Int} {i : Int} (h0 : 0 ≤ i) (h1 : i < ls.length) (h2 : ls.length ≤ 100000) (h : Pq (.int (ls.getD i.toNat 0))) : Item c n (.list (ls.map .int)) (.int i) Pq := by
  refine item_l h0 (by omega) (d := .int (ls.getD i.toNat 0)) ?_ h
  have lt : i.toNat < ls.length := by omega
  rw [List.getElem?_map, List.getElem?_eq_getElem lt, List.getD_eq_getElem?_getD, List.getElem?_eq_getElem lt]; rfl
theorem sum_le' : ∀ {l : List (List Nat)} {k : Nat}, (∀ x ∈ l, x.length ≤ k) → ((l.map T).map (·.length)).sum ≤ l.length * k
  | [], k, _ => by simp
  | x :: r, k, h => by
    have h1 := h x List.mem_cons_self
    have h2 := sum_le' (l := r) (k := k) fun y q => h y (List.mem_cons_of_mem _ q)
    simp only [List.map_cons, List.sum_cons, List.length_cons, T_length, Nat.succ_mul]
    omega
theorem join_list {l : List (List Nat)} (hl : l.length ≤ 100) (h1 : ∀ x ∈ l, x.length ≤ 1000) (h : Pq (.str (T (jn l)))) : CallV c n (.builtin "str.join") [.dat (.str (T [46])), .dat (strL l)] [] Pq := by
  have e : strL l = .list ((l.map T).map .str) := by rw [List.map_map]; rfl
  rw [e]
  refine c_join_l ?_ ?_
  · have s := sum_le' h1
    have : l.length * 1000 ≤ 100 * 1000 := Nat.mul_le_mul_right _ hl
    rw [T_length, List.length_map]
    simp only [List.length_cons, List.length_nil]
    omega
  · rw [join_T]; exact h
end
end Mine
end
section
namespace Mine
open PySem PySem.W PySem.Calls PyProof.Rows Builtin
section
variable {c : Cx} {n : Nat} {fc : FC} {ρ : Rho} {Pq : D → Prop} {R : Out → Prop}
/-! two names at once -/
def notFolded (e1 e2 : Expr) : Bool := !isStar e1 && !isStar e2 && !([e1, e2].all (foldedForSure 8)) && !([e1, e2].all (constantsAlone 8))
theorem swap_eq {x y : Str} {px py tp vp : Pos} {k k' : Nat} {e1 e2 : Expr} {env : Env} (hb : env.blockKind = .function) (hx : env.kindOf x = some .local) (hy : env.kindOf y = some .local) (hl : (py.line == px.line) = true) (hne : (x == y) = false) (hf : notFolded e1 e2 = true) :
    swappedStores [.Tuple [.Name x px, .Name y py] k tp] (.Tuple [e1, e2] k' vp) env = pure (some [x, y]) := by
  unfold notFolded at hf
  simp only [Bool.and_eq_true, Bool.not_eq_true'] at hf
  obtain ⟨⟨⟨h1, h2⟩, h3⟩, h4⟩ := hf
  unfold swappedStores
  have hs : ([e1, e2].any fun | .Starred .. => true | _ => false) = false := by
    cases e1 <;> first | (cases h1; done) | skip
    all_goals (cases e2 <;> first | (cases h2; done) | rfl)
  have hxx : (x == x) = true := beq_self_eq_true x
  have hyx : (y == x) = false := by rw [Bool.eq_false_iff]; intro q; rw [eq_of_beq q, beq_self_eq_true] at hne; cases hne
  have hd : [x, y].eraseDups = [x, y] := by simp [List.eraseDups_cons, hyx]
  have hll : (some NameKind.local == some NameKind.local) = true := rfl
  have hp : (Expr.Name x px).pos.line = px.line := rfl
  simp only [List.length_cons, List.length_nil, hb, hs, h3, h4, bne_self_eq_false, Bool.or_false, List.head?_cons, Option.map_some, Option.getD_some, List.filterMap_cons, List.filterMap_nil, hx, hy, hp, hll, hl, Bool.and_self, beq_self_eq_true, if_true, hd, Bool.true_and]
  rw [if_neg (by decide)]
  refine (if_neg (fun q => Bool.false_ne_true (hs.symm.trans q))).trans ?_
  rfl
theorem Sat.block {W Xc X : Addr → Prop} {env : Env} {s : Shared} (S : Sat c W Xc X fc env ρ s) : env.blockKind = .function := by
  unfold Env.blockKind
  rw [S.fn]; rfl
theorem ex_swap2 {x y : Str} {px py tp vp pos : Pos} {k k' : Nat} {e1 e2 : Expr} {i j : Nat} (ex : placeIn x fc.scope.names 0 = some i) (hkx : fc.scope.names[i]? = some (x, .local)) (ey : placeIn y fc.scope.names 0 = some j) (hky : fc.scope.names[j]? = some (y, .local))
    (il : Nat.blt i ρ.length = true) (jl : Nat.blt j ρ.length = true) (hl : (py.line == px.line) = true) (hne : (x == y) = false) (hf : notFolded e1 e2 = true)
    (h : EvL c n fc ρ [e1, e2] (fun l => ∃ d1 d2, l = [d1, d2] ∧ R (.next ((ρ.set j (some (.dat d2))).set i (some (.dat d1)))))) : Ex1 c n fc ρ (.Assign [.Tuple [.Name x px, .Name y py] k tp] (.Tuple [e1, e2] k' vp) pos) R := fun W Xc X env A s G S => by
  refine Assign_Tuple_swapped (names := [x, y]) ?_ rfl (swap_eq S.block (S.kind hkx) (S.kind hky) hl hne hf)
  have h' : Ev c n fc ρ (.Tuple [e1, e2] k' vp) (fun d => ∃ d1 d2, d = .tup [d1, d2] ∧ R (.next ((ρ.set j (some (.dat d2))).set i (some (.dat d1))))) := ev_tup fun W Xc X env A s pos G S => Wp.mono (h W Xc X env A s pos G S) fun vs s' ⟨I, st, ds, ⟨d1, d2, e, q⟩, r⟩ => ⟨I, st, ds, ⟨by rw [e]; simp [sizeLine_eq], d1, d2, by rw [e], q⟩, r⟩
  refine Ev.use h' G S fun v s₁ d S₁ st hd r => ?_
  obtain ⟨d1, d2, rfl, q⟩ := hd
  refine unpack_of (ds := [d1, d2]) G S₁ .tup r fun vs s₂ S₂ st₂ r₂ => ?_
  obtain ⟨v1, _, rfl, r1, v2, _, rfl, r2', rfl⟩ := r₂
  show Wp c A (assignInOrder [bindName env y, bindName env x] [v2, v1]) _ _
  have il' : i < ρ.length := Nat.blt_eq.mp il
  have jl' : j < ρ.length := Nat.blt_eq.mp jl
  refine assignInOrder_cons (bindName_ (S₂.storeD (by rfl) hky (.inl rfl) jl' r2' fun s₃ S₃ lw₃ => ?_))
  refine assignInOrder_cons (bindName_ (S₃.storeD (by rfl) hkx (.inl rfl) (by rw [List.length_set]; exact il') ((r1.mix (fun z hz => hz.elim (fun w => .inl (S₂.wx z w)) (fun e => .inl (e ▸ S₂.xc _ S₂.xP))) lw₃)) fun s₄ S₄ lw₄ => ?_))
  refine assignInOrder_nil ⟨?_, _, q, rfl, W, X, Grow.refl _ _ _, S₄⟩
  exact (Low.of_stay (st.trans (st₂.mono fun _ q => q.elim))).trans (lw₃.trans lw₄)
/-! one's own list: more ways -/
theorem Sat.wmono {W W' Xc X : Addr → Prop} {env : Env} {s : Shared} (S : Sat c W Xc X fc env ρ s) (h : ∀ a, W a → W' a) (hx : ∀ a, W' a → X a) (hb : ∀ a, W' a → c.h₁.objs.size ≤ a) : Sat c W' Xc X fc env ρ s := by
  obtain ⟨m, hn, B⟩ := S.ns
  refine ⟨S.inv, S.ev, S.fok, S.xP, S.xc, S.xex, S.xlo, hx, h _ S.wL, hb, ⟨m, hn, fun i x kd lv h1 h2 => ?_⟩, S.cells, S.celled, S.capart, fun x a f e => h _ (S.cellN x a f e), fun i a l e => ⟨(S.owns i a l e).1, (S.owns i a l e).2.1, h _ (S.owns i a l e).2.2⟩, S.apart, fun f i a dd C fs e => h _ (S.selfW f i a dd C fs e)⟩
  obtain ⟨kk, v, lr, b1, b2⟩ := B i x kd lv h1 h2
  refine ⟨kk, v, ?_, b1, b2⟩
  cases lv with
  | dat d => exact lr
  | own a l => obtain ⟨e, x1, w1, q⟩ := lr; exact ⟨e, x1, h _ w1, q⟩
  | self a dd C fs => exact lr
theorem ex_swap_own {x y : Str} {px py tp vp lp pos : Pos} {k k' : Nat} {es : List Expr} {e2 : Expr} {i j : Nat} (ex : placeIn x fc.scope.names 0 = some i) (hkx : fc.scope.names[i]? = some (x, .local)) (ey : placeIn y fc.scope.names 0 = some j) (hky : fc.scope.names[j]? = some (y, .local))
    (il : Nat.blt i ρ.length = true) (jl : Nat.blt j ρ.length = true) (hl : (py.line == px.line) = true) (hne : (x == y) = false) (hf : notFolded (.List es lp) e2 = true)
    (h : EvL c n fc ρ es (fun l => l.length ≤ sizeLine ∧ Ev c n fc ρ e2 (fun d2 => ∀ a, R (.next ((ρ.set j (some (.dat d2))).set i (some (.own a l))))))) : Ex1 c n fc ρ (.Assign [.Tuple [.Name x px, .Name y py] k tp] (.Tuple [.List es lp, e2] k' vp) pos) R := fun W Xc X env A s G S => by
  have hst : isStar (.List es lp) = false := rfl
  have hst2 : isStar e2 = false := by
    unfold notFolded at hf
    simp only [Bool.and_eq_true, Bool.not_eq_true'] at hf
    exact hf.1.1.2
  refine Assign_Tuple_swapped (names := [x, y]) (PySem.wpAny_Tuple ?_) rfl (swap_eq S.block (S.kind hkx) (S.kind hky) hl hne hf)
  rw [starEach_cons hst, starEach_cons hst2]
  refine spliced_cons (PySem.wpAny_List (Wp.mono (h W Xc X env A s lp G S) fun vs s₁ ⟨I, st, l, ⟨hlen, p⟩, r⟩ => ⟨by rw [r.length]; exact hlen, ?_⟩))
  have S₁ := S.keep I st
  have fresh : Gone s₁.heap s₁.heap.objs.size := gone_of (Nat.le_refl _)
  have S₂ : Sat c W Xc (fun a => X a ∨ a = s₁.heap.objs.size) fc env ρ { s₁ with heap := s₁.heap.push { cls := .type "list", data := .seq vs.toArray } } :=
    S₁.keepC (I.push (t := s₁.toks)) stay_push fresh ⟨_, Heap.get?_push_size _ rfl⟩ I.big
  have nX : ¬ X s₁.heap.objs.size := S₁.xok.new (Nat.le_refl _)
  have nP : s₁.heap.objs.size ≠ c.P := fun e => absurd I.lo.1 (Nat.not_lt.mpr (e ▸ I.big))
  have nW : ¬ W s₁.heap.objs.size := fun w => nX (S.wx _ w)
  have g₂ : (s₁.heap.push { cls := .type "list", data := .seq vs.toArray }).get? s₁.heap.objs.size = some (ownObj vs 0) := Heap.get?_push_size _ rfl
  have r' : RepL (fun a => X a ∨ a = s₁.heap.objs.size) (s₁.heap.push { cls := .type "list", data := .seq vs.toArray }) l vs := (RepL.shun (fun a q => q.imp id fun e => by rw [e]; exact fresh) r).stay stay_push
  refine spliced_cons (p.use G S₂ fun v2 s₃ d2 S₃ st₃ q r₃ => ?_)
  refine spliced_nil ⟨by simp [sizeLine_eq], ?_⟩
  have S₄ : Sat c W Xc (fun a => X a ∨ a = s₁.heap.objs.size) fc env ρ { s₃ with heap := s₃.heap.push { cls := .type "tuple", data := .seq ([.ref s₁.heap.objs.size, v2] : List Value).toArray } } := S₃.keep (S₃.inv.push (t := s₃.toks)) stay_push
  have nT : ¬ (X s₃.heap.objs.size ∨ s₃.heap.objs.size = s₁.heap.objs.size) := S₃.xok.new (Nat.le_refl _)
  have rt : Rep (fun a => X a ∨ a = s₁.heap.objs.size) (s₃.heap.push { cls := .type "tuple", data := .seq ([.ref s₁.heap.objs.size, v2] : List Value).toArray }) (.tup [.raw (.ref s₁.heap.objs.size), d2]) (.ref s₃.heap.objs.size) :=
    ⟨_, _, _, rfl, nT, Heap.get?_push_size _ rfl, _, _, rfl, rfl, _, _, rfl, r₃.stay stay_push, rfl⟩
  refine unpack_of (ds := [.raw (.ref s₁.heap.objs.size), d2]) G S₄ .tup rt fun us s₅ S₅ st₅ r₅ => ?_
  obtain ⟨v1, _, rfl, e1, v2', _, rfl, r2', rfl⟩ := r₅
  have e1 : v1 = .ref s₁.heap.objs.size := e1
  subst e1
  show Wp c A (assignInOrder [bindName env y, bindName env x] [v2', .ref s₁.heap.objs.size]) _ _
  have il' : i < ρ.length := Nat.blt_eq.mp il
  have jl' : j < ρ.length := Nat.blt_eq.mp jl
  refine assignInOrder_cons (bindName_ (S₅.storeD (by rfl) hky (.inl rfl) jl' r2' fun s₆ S₆ lw₆ => ?_))
  have xP : (fun a => X a ∨ a = s₁.heap.objs.size) c.P := .inl (S.xc _ S.xP)
  have g₃ : s₃.heap.get? s₁.heap.objs.size = some (ownObj vs 0) := st₃ _ _ nP g₂
  have g₅ : s₅.heap.get? s₁.heap.objs.size = some (ownObj vs 0) := st₅ _ _ id (Heap.get?_push_of_some _ g₃)
  have g₆ : s₆.heap.get? s₁.heap.objs.size = some (ownObj vs 0) := lw₆ _ _ (fun z => z.elim nW nP) g₅
  have r₆ : RepL (fun a => X a ∨ a = s₁.heap.objs.size) s₆.heap l vs := RepL.mix (fun z hz => hz.elim (fun w => .inl (S₅.wx z w)) (fun e => .inl (e ▸ xP))) lw₆ ((((r'.st xP st₃).stay (stay_push (Z := fun a => X a ∨ a = s₁.heap.objs.size))).stay (st₅.mono fun _ q => q.elim)))
  have S₇ : Sat c (fun a => W a ∨ a = s₁.heap.objs.size) Xc (fun a => X a ∨ a = s₁.heap.objs.size) fc env (ρ.set j (some (.dat d2))) s₆ := S₆.wmono (fun a w => .inl w) (fun a w => w.imp (S.wx a) id) (fun a w => w.elim (S.base a) fun e => e ▸ I.big)
  refine assignInOrder_cons (bindName_ (S₇.store (by rfl) hkx (.inl rfl) (by rw [List.length_set]; exact il') (lv := .own s₁.heap.objs.size l) ⟨rfl, .inr rfl, .inr rfl, vs, 0, g₆, r₆⟩ ?_ (fun _ _ _ _ z => by cases z) fun s₈ S₈ lw₈ => ?_))
  · intro a l' z
    cases z
    exact ⟨fun q => nX (S.xc _ q), fun jj b l'' ne z e => by
      by_cases q : jj = j
      · subst q; rw [List.getElem?_set_self jl'] at z; cases z
      · rw [List.getElem?_set_ne (Ne.symm q)] at z
        exact nX (e ▸ (S₁.owns jj b l'' z).2.1)⟩
  · have gn : Gone s.heap s₁.heap.objs.size := by
      rcases old_stay (W := fun _ => False) st S₁.inv.someP s₁.heap.objs.size fresh with z | z
      · exact z.elim
      · exact z
    refine assignInOrder_nil ⟨fun b o nz g => ?_, _, q s₁.heap.objs.size, rfl, _, _, ⟨fun a q => q.imp id fun e => by rw [e]; exact gn, fun a q _ => .inl q, fun a q => q.imp id fun e => by rw [e]; exact gn⟩, S₈⟩
    have nb : b ≠ s₁.heap.objs.size := fun e => by rw [e, show s.heap.get? _ = none from gn] at g; cases g
    have nbP : b ≠ c.P := fun e => nz (.inr e)
    have g1 := st b o nbP g
    have g5 := st₅ b o id (Heap.get?_push_of_some _ (st₃ b o nbP (Heap.get?_push_of_some _ g1)))
    have g6 := lw₆ b o nz g5
    exact lw₈ b o (fun z => z.elim (fun z => z.elim (fun w => nz (.inl w)) nb) nbP) g6
end
end Mine
end
section
namespace Mine
open PySem PySem.W PySem.Calls PyProof.Rows Builtin
section
variable {c : Cx} {n : Nat} {fc : FC} {ρ : Rho} {Pq : D → Prop} {R : Out → Prop}
/-! an item of one's own list -/
theorem setItem_own {A : Around} {s : Shared} {a : Addr} {items : Array Value} {m : Nat} {k : Int} {t : Tok} {v : Value} {Q : Unit → Shared → Prop} (ho : s.heap.get? a = some { cls := .type "list", data := .seq items m })
    (h0 : 0 ≤ k) (hfit : k < 2 ^ 63) (hn : k < items.size)
    (hQ : ∀ h' m', h'.get? a = some { cls := .type "list", data := .seq (items.setIfInBounds k.toNat v) m' } → Heap.SameBut a s.heap h' → Q () { s with heap := h' }) : Wp c A (setItem (.ref a) (.int k t) v) Q s := by
  have hl : s.heap.IsList a items := ⟨_, ho, rfl, _, rfl⟩
  unfold setItem
  try with_reducible refine wpAny_holding ?_
  first | refine wpAny_bind (wpAny_pure ?_) | skip
  refine wpAny_bind (wpAny_sequenceKey hl.typeIs (by decide) ?_)
  refine wpAny_bind (wpAny_callSpecial?_slot (name := Str.ofString "__setitem__") hl.typeIs slot_list_setitem
    (wpAny_call_entry slot_list_setitem hl.typeIs entry_list_setitem ?_ (args_list_setitem _ _ _)))
  show wpAny _ _ (Builtin.List.listSubscript? (.int k t) >>= _) _ _ s
  refine wpAny_bind (wpAny_listSubscript_int (fitsIndex_of h0 hfit) ?_)
  clear hfit
  obtain ⟨j, rfl⟩ := Int.eq_ofNat_of_zero_le h0
  have hj : j < items.size := by omega
  have hx' : items[j]? = some items[j] := Array.getElem?_eq_getElem hj
  show wpAny _ _ ((seqItemAt a j >>= fun r => pure (r.map (j, ·))) >>= _) _ _ s
  refine wpAny_bind (wpAny_bind (wpAny_seqItemAt ho rfl (wpAny_pure ?_)))
  rw [hx']
  show wpAny _ _ (setSeqItemAt a j v >>= _) _ _ s
  have hfin : ∃ m', (s.heap.update a (Obj.mapSeq (·.setIfInBounds j v))).get? a = some { cls := .type "list", data := .seq (items.setIfInBounds j v) m' } := by
    rw [Heap.get?_update_self _ ho rfl]
    exact ⟨_, rfl⟩
  obtain ⟨m', hfin⟩ := hfin
  refine wpAny_bind (wpAny_setSeqItemAt ho rfl ?_)
  first
    | exact wpAny_bind (wpAny_pure (wpAny_pure ⟨.none, rfl, wpAny_pure (hQ _ m' hfin (Heap.SameBut.update ..))⟩))
    | exact wpAny_pure ⟨.none, rfl, wpAny_pure (hQ _ m' hfin (Heap.SameBut.update ..))⟩
theorem RepL.set {X : Addr → Prop} {h : Heap} {d : D} {v : Value} (r : Rep X h d v) : ∀ {l : List D} {vs : List Value} {j : Nat}, RepL X h l vs → RepL X h (l.set j d) (vs.set j v)
  | [], _, _, q => by have q : _ = [] := q; rw [q]; rfl
  | _ :: _, _, 0, ⟨u, us, e, r1, r2⟩ => ⟨v, us, by rw [e]; rfl, r, r2⟩
  | _ :: _, _, j + 1, ⟨u, us, e, r1, r2⟩ => ⟨u, us.set j v, by rw [e]; rfl, r1, RepL.set r r2⟩
theorem asg_item {x : Str} {p pos : Pos} {idx : Expr} {i : Nat} {a : Addr} {l : List D} {d : D} {Q : Rho → Prop} (e : placeIn x fc.scope.names 0 = some i) (hk : fc.scope.names[i]? = some (x, .local)) (r : ρ[i]? = some (some (.own a l))) (hd : (x == ("__debug__" : Str)) = false) (hsz : l.length ≤ 100000)
    (h : Ev c n fc ρ idx (fun kd => ∃ j : Nat, kd = .int (j : Int) ∧ j < l.length ∧ Q (ρ.set i (some (.own a (l.set j d)))))) : Asg c n fc ρ (.Subscript (.Name x p) idx pos) d Q := fun W Xc X env A s v G S rd => by
  rw [assign_Subscript]
  refine wpAny_bind (wpAny_holding (wpAny_Name (S.load hk r fun u lr => ?_) hd))
  obtain ⟨rfl, xa, wa, vs, m, g, rl⟩ := lr
  refine wpAny_bind (wpAny_holding (h.use G S fun kv s₁ kd S₁ st hkd rk => ?_))
  obtain ⟨j, rfl, hj, q⟩ := hkd
  obtain ⟨t, rfl⟩ := rk
  refine wpAny_bind (wpAny_standAt (wpAny_bind (wpAny_holding ?_)))
  obtain ⟨mm, hn, B⟩ := S₁.ns
  obtain ⟨_, v', ⟨ev', _, _, vs₁, m₁, g₁, rl₁⟩, _⟩ := B i x _ _ hk r
  refine setItem_own g₁ (Int.natCast_nonneg j) (by omega) (by rw [List.size_toArray, rl₁.length]; omega) fun h' m' g' hs => ?_
  rw [show vs₁.toArray.setIfInBounds (j : Int).toNat v = (vs₁.set j v).toArray from by rw [Int.toNat_natCast]; simp] at g'
  have k' : Stay X s₁.heap h' := fun b o nb q => (hs.2 b (fun z => nb (z ▸ xa))).trans q
  have xP : X c.P := S.xc _ S.xP
  have S₂ : Sat c W Xc X fc env (ρ.set i (some (.own a (l.set j d)))) { s₁ with heap := h' } := S₁.turnOwn (t := s₁.toks) (vs := vs₁.set j v) (m := m') hk r hs g' ((RepL.set (rd.st xP st) rl₁).stay k')
  refine wpAny_release' ?_
  exact ⟨_, q, S₂, fun b o nz q => (hs.2 b (fun z => nz (.inl (z ▸ wa)))).trans (st b o (fun z => nz (.inr z)) q)⟩
theorem ex_setitem {x : Str} {p ip pos : Pos} {idx value : Expr} (hs : ∀ env, swapsWith value (some (.Subscript (.Name x p) idx ip)) pos.line env = pure false) (h : Ev c n fc ρ value (fun d => Asg c n fc ρ (.Subscript (.Name x p) idx ip) d (fun ρ' => R (.next ρ')))) :
    Ex1 c n fc ρ (.Assign [.Subscript (.Name x p) idx ip] value pos) R := fun W Xc X env A s G S => by
  rw [exec_Assign_Subscript _ _ _ _ _ (hs env)]
  refine wpAny_bind (wpAny_standAt (wpAny_bind (h.use G S fun v s₁ d S₁ st q r => wpAny_bind (Wp.mono (q W Xc X env A s₁ v G S₁ r) fun _ s₂ ⟨ρ', hr, S₂, lw⟩ => ?_))))
  exact wpAny_pure ⟨(Low.of_stay st).trans lw, _, hr, rfl, W, X, Grow.refl _ _ _, S₂⟩
/-- a copy of one's own list -/
theorem ev_copy (O : c.Ok) {x : Str} {p lp pos : Pos} {i j : Nat} {a : Addr} {l : List D} (e : placeIn x fc.scope.names 0 = some i) (hk : fc.scope.names[i]? = some (x, .local)) (r : ρ[i]? = some (some (.own a l))) (hd : (x == ("__debug__" : Str)) = false) (hsz : l.length ≤ 100000)
    (e' : placeIn "list" fc.scope.names 0 = some j) (hk' : fc.scope.names[j]? = some ((Str.ofString "list"), NameKind.globalImplicit)) (g : nsIn c.K mainGlobals "list" = some none) (h : Pq (.list l)) : Ev c n fc ρ (.Call (.Name "list" lp) [.Name x p] [] pos) Pq := fun W Xc X env A s G S => by
  have hname : Ev c n fc ρ (.Name "list" lp) (· = .raw (.type "list")) := ev_builtin O j hk' g boot_list (by decide) rfl rfl
  refine wpAny_Call_Name_kw (keywords := []) (hname.use G S fun v s₁ d S₁ st ed rd => ?_)
  subst ed
  have ev : v = .type "list" := rd
  subst ev
  show wpAny _ _ (callWith pos (.type "list") [] (backTo pos (starEach [.Name x p] env)) []) _ _ _
  refine callWith_of (P := c.K.In) (by rw [plain_of rfl]; rfl) (fun _ h => keeps_type _ _ h) (evalArgs_of rfl ?_)
  rw [starEach_cons rfl]
  refine spliced_cons (wpAny_Name (S₁.load hk r fun u lr => ?_) hd)
  obtain ⟨rfl, xa, wa, vs, m, g', rl⟩ := lr
  refine spliced_nil ⟨S₁.inv.kin O, ?_⟩
  have := sizeLine_eq
  exact call_list_seq a (.inl rfl) g' rfl rfl (fun h' c' k g'' => (got_list' S₁.inv S₁.xok h rl k g'').next st) (by rw [List.size_toArray, rl.length]; omega)
end
end Mine
end
section
namespace Mine
open PySem PySem.W PySem.Calls PyProof.Rows Builtin
theorem swap_item {o i : Expr} {y : Str} {sp py tp vp : Pos} {k k' : Nat} {e1 e2 : Expr} (env : Env) : swappedStores [.Tuple [.Subscript o i sp, .Name y py] k tp] (.Tuple [e1, e2] k' vp) env = pure none := by
  unfold swappedStores
  simp only [List.length_cons, List.length_nil, List.filterMap_cons, List.filterMap_nil, List.head?_cons, Option.map_some, Option.getD_some]
  split
  · rfl
  · split
    · rfl
    · by_cases h : (env.kindOf y == some NameKind.local && py.line == (o.Subscript i sp).pos.line) = true
      · simp only [h, if_true]
        rfl
      · simp only [h]
        rfl
end Mine
end
section
namespace Mine
open PySem PySem.W PySem.Calls PyProof.Rows Builtin
section
variable {c : Cx} {n : Nat} {Pq : D → Prop}
theorem b_ne {p q : Bool} (h : Pq (.raw (.bool (p != q)))) : Two c n (compareOp .NotEq) (.raw (.bool p)) (.raw (.bool q)) Pq := fun X A s u v G I xP r r' => by
  have e : u = .bool p := r
  have e' : v = .bool q := r'
  subst e e'
  exact PyProof.Rows.ne_bool (got_now I h rfl)
theorem item_map {α : Type} {l : List α} {g : α → D} {i : Int} {a : α} (h0 : 0 ≤ i) (hx : l[i.toNat]? = some a) (hz : l.length ≤ 100000) (h : Pq (g a)) : Item c n (.list (l.map g)) (.int i) Pq := by
  have := (List.getElem?_eq_some_iff.mp hx).1
  exact item_l h0 (by omega) (d := g a) (by rw [List.getElem?_map, hx]; rfl) h
end
end Mine
end
section
namespace Mine
open PySem PySem.W PySem.Calls PyProof.Rows Builtin
section
variable {c : Cx} {n : Nat} {fc : FC} {ρ : Rho} {Pq : D → Prop}
theorem flat_rep {X : Addr → Prop} {h : Heap} {l : List D} {vs : List Value} (r : RepL X h l vs) : ∀ k : Nat, RepL X h (List.replicate k l).flatten (List.replicate k vs).flatten
  | 0 => rfl
  | k + 1 => by
    rw [List.replicate_succ, List.replicate_succ, List.flatten_cons, List.flatten_cons]
    exact r.append (flat_rep r k)
/-- a list, some times over -/
theorem l_mul {l : List D} {x : Int} (hlo : -(2 ^ 63 : Int) ≤ x) (hhi : x < 2 ^ 63) (hz : l.length * x.toNat ≤ 256) (h : Pq (.list (List.replicate x.toNat l).flatten)) : Two c n (binaryOp .Mult) (.list l) (.int x) Pq := fun X A s u v G I xP r r' => by
  obtain ⟨a, vs, m, rfl, xa, g, rl⟩ := r
  obtain ⟨u, rfl⟩ := r'
  have hz' : vs.toArray.size * x.toNat ≤ 256 := by rw [List.size_toArray, rl.length]; exact hz
  refine wpAny_binaryOp_repeat_ref (T := "list") (U := "int") (by decide) ⟨_, g, rfl⟩ (fun s' => typeIs_int s' x u) noFill_list_mul F.fills_int_mul F.slot_int_rmul repeat_list F.slot_int_index.lookup
    (call_meets F.slot_int_rmul (typeIs_int s x u) F.entry_int_rmul (F.args_int_rmul_2 _ _) (lm_int_rmul_list_any x u a vs.toArray m.1 _ _)
      ⟨g, rfl, ⟨_, g, rfl⟩, call_meets F.slot_list_mul ⟨_, g, rfl⟩ F.entry_list_mul (F.args_list_mul_2 _ _)
        (lm_list_mul_any a vs.toArray m.1 _ _ x u (by simp [Builtin.List.listFitsIndex]; omega) (by omega) (by simp [Builtin.List.listTooLong, sizeLine]; simp at hz'; omega))
        ⟨g, ?_⟩⟩)
  rw [listMul_foldl_if]
  exact got_list I xP h (flat_rep rl _)
/-- a text among a tuple's -/
theorem strs_are {X : Addr → Prop} {h : Heap} : ∀ {l : List Str} {vs : List Value}, RepL X h (l.map D.str) vs → StrsAre vs l
  | [], vs, r => by cases (r : vs = []); exact .nil
  | y :: l, vs, r => by
    obtain ⟨_, vs', rfl, ⟨t, rfl⟩, r'⟩ := r
    exact .cons y t (strs_are r')
theorem s_in_tup {l : List Str} {x : Str} (h : Pq (.raw (.bool (l.any (· == x))))) : Two c n (compareOp .In) (.str x) (.tup (l.map D.str)) Pq := fun X A s u v G I xP r r' => by
  obtain ⟨t1, rfl⟩ := r
  obtain ⟨a, vs, m, rfl, xa, g, rl⟩ := r'
  exact in_tuple_strs (items := vs.toArray) ⟨_, g, rfl, _, rfl⟩ (strs_are rl) (got_now I h rfl)
/-! a tuple of texts that a global names -/
def strsEq : List Value → List (List Nat) → Bool
  | [], [] => true
  | .str x _ :: vs, l :: ls => (x == T l) && strsEq vs ls
  | _, _ => false
def tupsIn (K : Frag) (a : Addr) (ls : List (List Nat)) : Bool := match K.lookup a with
  | some ⟨.type t, .none, .seq vs n, sl⟩ => t == "tuple" && sl.isEmpty && strsEq vs.toList ls
  | _ => false
theorem strs_rep {X : Addr → Prop} {h : Heap} : ∀ {vs : List Value} {ls : List (List Nat)}, strsEq vs ls = true → RepL X h (ls.map fun x => .str (T x)) vs
  | [], [], _ => rfl
  | .str x t :: vs, l :: ls, e => by
    simp only [strsEq, Bool.and_eq_true, beq_iff_eq] at e
    exact ⟨_, vs, rfl, ⟨t, by rw [e.1]⟩, strs_rep e.2⟩
theorem ev_gtup (O : c.Ok) {x : Str} {pos : Pos} {a : Addr} {ls : List (List Nat)} {i : Nat} (e : placeIn x fc.scope.names 0 = some i) (hk : fc.scope.names[i]? = some (x, .globalImplicit)) (g : nsIn c.K mainGlobals x = some (some (.ref a))) (t : tupsIn c.K a ls = true) (hd : (x == ("__debug__" : Str)) = false) (h : Pq (.tup (ls.map fun x => .str (T x)))) :
    Ev c n fc ρ (.Name x pos) Pq := by
  unfold tupsIn at t
  split at t
  · rename_i t' vs n sl e1
    simp only [Bool.and_eq_true, beq_iff_eq] at t
    obtain ⟨⟨t1, t2⟩, t3⟩ := t
    have hsl : sl = #[] := Array.isEmpty_iff.mp t2
    subst t1 hsl
    refine ev_gn O e hk g hd (d := .tup (ls.map fun x => .str (T x))) (fun X s I xo => ⟨a, vs.toList, n, rfl, fun xa => ?_, I.kin O _ _ e1, strs_rep t3⟩) h
    rcases xo.lo a xa with q | q
    · exact O.noP _ _ e1 q
    · exact absurd (Heap.lt_size (O.kin _ _ e1)) (Nat.not_lt.mpr q)
  · cases t
end
end Mine
end
section
namespace Mine
open PySem PySem.W PySem.Calls PyProof.Rows Builtin
/-! a thing of an own class, taken up by a consumer that asks its class how it is iterated -/
section
variable {prog : Program} {w : World} {A : Around} {E : Value → Shared → Prop} {s : Shared} {a C f : Addr} {ox : Obj} {od : Option Obj} {n : Nat} {K : Frag}
theorem special_own {M : Model} {Q : Option Value → Shared → Prop} {name : Str} {r : Option Value} (X : K.In s.heap) (I : InstAt s.heap a ox C od) (hs : findIn K (.ref C) name = some r) (h : Q r s) : wpAny M A (specialOf (.ref a) name) Q E s :=
  wpAny_bind (I.type.here ((looks_findIn X hs).here h))
theorem iter_own {M : Model} {Q : Value → Shared → Prop} (X : K.In s.heap) (I : InstAt s.heap a ox C od) (hs : findIn K (.ref C) "__iter__" = some (some (.ref f))) (hf : isFn K (.ref f) = true)
    (h : wpAny M A (call (.ref f) [.ref a]) (fun it s' => s'.TypeIs it "generator" ∧ Q it s') E s) : wpAny M A (pyIter (.ref a)) Q E s := by
  have one : ∀ refuse : Sem Value, wpAny M A (callSpecialIfBoundUnlessNone? (.ref a) "__iter__" refuse) (fun r s' => ∃ v, r = some v ∧ s'.TypeIs v "generator" ∧ Q v s') E s := by
    intro refuse
    simp only [callSpecialIfBoundUnlessNone?, bindSpecialIfBound?]
    refine wpAny_holding (wpAny_bind (wpAny_bind (wpAny_bind (I.type.here ((looks_findIn X hs).here ?_)))))
    refine wpAny_bind (wpAny_askSetting (wpAny_ite ?_))
    have fin : wpAny M A (if (Value.ref f == Value.none) = true then (refuse >>= fun v => pure (some v)) else (call (.ref f) [.ref a] >>= fun v => pure (some v))) (fun r s' => ∃ v, r = some v ∧ s'.TypeIs v "generator" ∧ Q v s') E s := by
      rw [if_neg (show ¬ ((Value.ref f == Value.none) = true) from Bool.false_ne_true)]
      exact wpAny_bind (wpAny_mono h (fun v s' h' => wpAny_pure ⟨v, rfl, h'⟩) fun _ _ z => z)
    split
    · exact wpAny_bind ((bind_fn X _ (beq_iff_eq.mp hf)).here (wpAny_pure (by exact fin)))
    · exact wpAny_tryCatch (wpAny_bind ((bind_fn X _ (beq_iff_eq.mp hf)).here (wpAny_pure (by exact fin))))
  unfold pyIter
  refine wpAny_bind (special_own X I hs ?_)
  show wpAny M A (callSpecialIfBoundUnlessNone? (.ref a) "__iter__" _ >>= _) Q E s
  refine wpAny_bind (wpAny_mono (one _) (fun r s' hr => ?_) fun _ _ z => z)
  obtain ⟨v, rfl, ht, hv⟩ := hr
  exact wpAny_bind (wpAny_specialOf ht slot_gen_next.lookup (wpAny_pure hv))

/-- what the call of such a method must bring: a generator that walks -/
def Brings (prog : Program) (w : World) (A : Around) (K : Frag) (S a C : Addr) (ox : Obj) (od : Option Obj) (n : Nat) (Q : List Value → Shared → Prop) (it : Value) (s' : Shared) : Prop :=
  ∃ I St Fn, it = .ref I ∧ WalkR prog w A I S n St Fn ∧ St 0 [] s' ∧ s'.heap.get? S = some { cls := .type "list", data := .seq ([] : List Value).toArray } ∧ K.In s'.heap ∧ InstAt s'.heap a ox C od ∧
    ∀ s'' vs, vs.length = n → Fn vs s'' → (∃ o, s''.heap.get? S = some o) → Q vs s''
theorem collectO {Q : List Value → Shared → Prop} (X : K.In s.heap) (I : InstAt s.heap a ox C od) (hs : findIn K (.ref C) "__iter__" = some (some (.ref f))) (hf : isFn K (.ref f) = true) (hl : findIn K (.ref C) "__len__" = some none) (hh : findIn K (.ref C) "__length_hint__" = some none) (hn : n ≤ sizeLine)
    (h : wpAny (model prog w) A.in1 (call (.ref f) [.ref a]) (Brings prog w A.in1 K s.heap.objs.size a C ox od n Q) (fun _ _ => False) { s with heap := s.heap.push { cls := .type "list", data := .seq ([] : List Value).toArray } }) : wpAny (model prog w) A (collect (.ref a)) Q E s := by
  unfold collect
  refine wpAny_bind (wpAny_runValue (codeAny_builtin F.entry_proto_collect ?_))
  rw [Around.under_plainId F.plain_proto_collect _]
  show wpAny _ A.in1 (newList [] >>= fun l => again (.builtin "list.__iadd__" ⟨[l, .ref a], []⟩)) _ _ s
  refine wpAny_bind (wpAny_newObj_type ?_)
  refine wpAny_pure ⟨plainId_quiet F.plain_list_iadd _, codeAny_builtin F.entry_list_iadd ?_⟩
  rw [Around.under_plainId F.plain_list_iadd _]
  have k : ∀ b o, s.heap.get? b = some o → (s.heap.push { cls := .type "list", data := .seq ([] : List Value).toArray }).get? b = some o := fun b o e => Heap.get?_push_of_some _ e
  have X₁ : K.In (s.heap.push { cls := .type "list", data := .seq ([] : List Value).toArray }) := X.keeps k
  have I₁ : InstAt (s.heap.push { cls := .type "list", data := .seq ([] : List Value).toArray }) a ox C od := ⟨k _ _ I.at_, I.cls, I.no, by
    have := I.dict
    revert this
    split
    · exact fun e => k _ _ e
    · exact id
    · exact id⟩
  have na : s.heap.objs.size ≠ a := fun e => Nat.lt_irrefl _ (e ▸ Heap.lt_size I.at_)
  show wpAny _ A.in1 (Builtin.List.listExtendWith (.ref s.heap.objs.size) (.ref a) (.ref s.heap.objs.size)) _ _ _
  unfold Builtin.List.listExtendWith
  refine wpAny_bind (I₁.type.here ?_)
  have h1 : Builtin.List.listSameRef (.ref s.heap.objs.size) (.ref a) = false := by simp [Builtin.List.listSameRef, na]
  have h2 : (Value.ref C == Value.type "list") = false := rfl
  have h3 : (Value.ref C == Value.type "tuple") = false := rfl
  simp only [h1, h2, h3, Bool.or_false, Bool.false_eq_true, if_false]
  refine wpAny_bind (iter_own X₁ I₁ hs hf (wpAny_mono h (fun it s₂ hb => ?_) fun _ _ e => e.elim))
  obtain ⟨G, St, Fn, rfl, W, hst, hS, X₂, I₂, hQ⟩ := hb
  refine ⟨W.ty 0 _ _ hst, ?_⟩
  refine wpAny_bind (wpAny_holding ?_)
  unfold Builtin.List.listLengthHint
  refine wpAny_bind (special_own X₂ I₂ hl ?_)
  show wpAny _ A.in1 (specialOf (Value.ref a) (Str.ofString "__length_hint__") >>= _) _ _ _
  refine wpAny_bind (special_own X₂ I₂ hh ?_)
  refine wpAny_pure ?_
  show wpAny _ A.in1 (rule "list.extend.makes-room" >>= fun _ => Builtin.List.listTouch (.ref s.heap.objs.size) >>= fun _ =>
    again (.builtin "list.extend.loop" ⟨[.ref s.heap.objs.size, .ref G, .ref s.heap.objs.size], []⟩)) _ _ _
  refine wpAny_bind (wpAny_rule ?_)
  refine wpAny_bind ?_
  show wpAny _ A.in1 (updateSeq s.heap.objs.size (·.push .none) >>= fun _ => updateSeq s.heap.objs.size (·.pop)) _ _ _
  refine wpAny_bind (wpAny_updateSeq hS rfl ?_)
  have hS₂ := Heap.get?_update_self (Obj.mapSeq (·.push Value.none)) hS rfl
  refine wpAny_updateSeq hS₂ rfl ?_
  have hS₃ := Heap.get?_update_self (Obj.mapSeq (·.pop)) hS₂ rfl
  have oth : ∀ b o, b ≠ s.heap.objs.size → s₂.heap.get? b = some o →
      ((s₂.heap.update s.heap.objs.size (Obj.mapSeq (·.push Value.none))).update s.heap.objs.size (Obj.mapSeq (·.pop))).get? b = some o :=
    fun b o hb e => (Heap.get?_update_other _ _ (Ne.symm hb)).trans ((Heap.get?_update_other _ _ (Ne.symm hb)).trans e)
  refine wpAny_pure ⟨plainId_quiet F.plain_extend_loop _, extend_loopR _ W hn _ n 0 _ [] _ rfl (Nat.zero_le _) rfl
    (W.frame 0 _ s₂ _ s₂.toks hst ⟨_, hS₃⟩ oth) hS₃ fun s' vs' c' hl hS' hF => ?_⟩
  show wpAny _ A (load s.heap.objs.size >>= _) _ _ s'
  refine wpAny_bind (wpAny_load hS' ?_)
  refine wpAny_pure ?_
  show Q vs'.toArray.toList s'
  rw [List.toList_toArray]
  exact hQ s' vs' hl hF ⟨_, hS'⟩
theorem call_tupleO {Q : Value → Shared → Prop} (X : K.In s.heap) (I : InstAt s.heap a ox C od) (hs : findIn K (.ref C) "__iter__" = some (some (.ref f))) (hf : isFn K (.ref f) = true) (hl : findIn K (.ref C) "__len__" = some none) (hh : findIn K (.ref C) "__length_hint__" = some none) (hn : n ≤ sizeLine)
    (h : codeAny (model prog w) A.in1.in1.in1 (.call (.ref f) ⟨[.ref a], []⟩) (RetPost (Brings prog w A.in1.in1.in1 K s.heap.objs.size a C ox od n fun vs s' => Q (.ref s'.heap.objs.size) { s' with heap := s'.heap.push { cls := .type "tuple", data := .seq vs.toArray } })) { s with heap := s.heap.push { cls := .type "list", data := .seq ([] : List Value).toArray } }) :
    wpAny (model prog w) A (call (.type "tuple") [.ref a]) Q E s := by
  refine callType_codes (Q₁ := fun obj s₁ => s₁.TypeIs obj "tuple" ∧ Q obj s₁) F.called_tuple (F.typeCall_tuple_1 _) F.entry_object_init ?_ fun obj s₁ h₁ => ?_
  · refine codeAny_of_tree ?_
    show wpAny _ A.in1.in1 (do checkBuiltinCall "tuple.__new__" ⟨[.type "tuple", .ref a], []⟩; again (.builtin "tuple.__new__" ⟨[.type "tuple", .ref a], []⟩)) _ _ s
    refine wpAny_bind (wpAny_of_eq (F.newCall_tuple_1 _) (wpAny_pure ⟨plainId_quiet F.plain_tuple_new _, codeAny_builtin F.entry_tuple_new ?_⟩))
    rw [Around.under_plainId F.plain_tuple_new _]
    have hsub := sub_tuple_self
    have hinit := init_tuple_lookup
    have hmh := madeHere_tuple
    wp_walk using I.type.here, collectO (n := n) (hn := hn) X I hs hf hl hh
    refine codeAny_mono h fun r s' hr => ?_
    rcases r with _ | (_ | _ | _ | v)
    · exact hr.elim
    · exact hr.elim
    · exact hr.elim
    · exact hr.elim
    obtain ⟨G, St, Fn, e, W, hst, hS, X₂, I₂, hQ⟩ := (hr : Brings prog w A.in1.in1.in1 K s.heap.objs.size a C ox od n _ v s')
    refine ⟨G, St, Fn, e, W, hst, hS, X₂, I₂, fun s'' vs hv hF hS' => ?_⟩
    show wpAny _ _ (Builtin.Tuple.tupleExact vs.toArray >>= fun v => ret v) _ _ _
    unfold Builtin.Tuple.tupleExact
    refine wpAny_bind (wpAny_newObj_type ?_ (by show vs.toArray.size ≤ sizeLine; simp only [List.size_toArray]; rw [hv]; exact hn))
    refine wpAny_pure ?_
    exact ⟨⟨_, Heap.get?_push_size _ rfl, rfl⟩, hQ s'' vs hv hF hS'⟩
  · exact ⟨h₁.1, F.args_object_init_2 obj _, object_init_meets F.called_tuple.init.lookup F.called_tuple.made (by decide) prog w A.in1 _ s₁ ⟨h₁.1, rfl, h₁.2⟩⟩
end
end Mine
end
section
namespace Mine
open PySem PySem.W PySem.Calls PyProof.Rows Builtin
section
variable {prog : Program} {w : World} {A : Around} {E : Value → Shared → Prop} {s : Shared}
/-- the next value of a generator that a function's body feeds -/
theorem next_fn {a : Addr} {g n : Nat} {gs : GenState} {P : Nat → Shared → Shared → Prop} {Y : Protocol} {Q : Option Value → Shared → Prop} (hh : A.handled = none) (hl : s.heap.NoLimit) (hroom : A.depth < recursionLimit) (hg : s.heap.IsGen a g) (hgs : s.gens[g]? = some gs)
    (hgo : gs.Goes (model prog w) A.in1 (fun n s₀ r s₁ => r = .ok (.ret .none) ∧ P n s₀ s₁) Y n (.send .none) (s.setGen g .running))
    (hY : ∀ v s₁ gs', gs'.bare = true → Y (n - 1) (s.setGen g .running) v s₁ (fun r' s'' => match n with
        | 0 => False
        | m + 1 => gs'.Goes (model prog w) A.in1 (fun n s₀ r s₁ => r = .ok (.ret .none) ∧ P n s₀ s₁) Y m r' s'') → Q (some v) (s₁.setGen g gs'))
    (hP : ∀ s₁, P n (s.setGen g .running) s₁ → ∀ h', (∀ b o, s₁.heap.get? b = some o → h'.get? b = some o) → Q none { s₁.setGen g .finished with heap := h' }) :
    wpAny (model prog w) A (pyNext (.ref a)) Q E s := by
  unfold pyNext
  refine wpAny_bind (wpAny_attempt (wpAny_callSpecial?_slot (name := Str.ofString "__next__") hg.typeIs slot_gen_next (wpAny_call_entry slot_gen_next hg.typeIs entry_gen_next ?_ (args_gen_next _))))
  show wpAny _ A.in1 (Builtin.Generator.genWake (.ref a) (.send .none)) _ _ s
  unfold Builtin.Generator.genWake
  refine wpAny_bind (wpAny_holding (wpAny_genNumber hg (wpAny_bind (wpAny_genState hgs ?_))))
  cases gs with
  | running => exact hgo.elim
  | finished => exact hgo.elim
  | _ =>
    refine wpAny_bind (wpAny_roomToWake hl hroom ?_)
    show wpAny _ A.in1 (.resume g (.send .none) [] _) _ _ s
    refine wpAny_resumeQ hgs hgo (fun x s₁ hx => ?_) (fun v s₁ gs' hb hv => ?_)
    · obtain ⟨rfl, hp⟩ := hx
      show wpAny _ A.in1 (newExc (.type "StopIteration") [] >>= _) _ _ _
      refine wpAny_bind ?_
      simp only [newExc, newTuple]
      refine wpAny_bind (wpAny_newObj_type ?_ (by size_fits))
      refine wpAny_bind (m := firstArgMember _ _) (wpAny_of_eq (a := Value.none) (by first | rfl | (simp only [firstArgMember]; rfl)) ?_)
      refine wpAny_newObj_type ?_ (by size_fits)
      simp only [raiseNew]
      refine wpAny_bind (wpAny_bind (wpAny_handled ?_))
      rw [show A.in1.handled = none from hh]
      refine wpAny_throw ?_
      refine wpAny_bind (wpAny_isInstance (T := "StopIteration") (b := true) ⟨_, Heap.get?_push_size _ rfl, rfl⟩ isSubtype_stop ?_)
      exact wpAny_pure (hP s₁ hp _ fun b o hb => Heap.get?_push_of_some _ (Heap.get?_push_of_some _ hb))
    · exact wpAny_pure ⟨v, rfl, wpAny_pure (hY v s₁ gs' hb hv)⟩
end

section
variable {c : Cx} {n : Nat}
abbrev fEnd (c : Cx) (C : Addr) : GenEnd := fun n s₀ r s₁ => r = .ok (.ret .none) ∧ (n = 0 ∧ s₁.gens = s₀.gens ∧ s₁.drawn = s₀.drawn ∧ Inv c.any s₁ ∧ Stay (Zs c C C) s₀.heap s₁.heap)
/-- where the body of such a function stands -/
structure FL (c : Cx) (X : Addr → Prop) (S : Addr) (x : Str) (env : Env) (d : D) (s : Shared) : Prop where
  inv : Inv c.any s
  slot : ∃ o, s.heap.get? S = some o
  ns : ∃ m v, s.heap.Ns env.locals m ∧ m x = some v ∧ Rep X s.heap d v
  xok : Xok c X s
  xS : X S
  xC : X env.locals
  lS : c.h₁.objs.size ≤ S
  lC : c.h₁.objs.size ≤ env.locals
  nSC : env.locals ≠ S
theorem FL.frame {X : Addr → Prop} {S : Addr} {x : Str} {env : Env} {d : D} {s s'' : Shared} (g : FL c X S x env d s) (ho : s''.os = c.os₁) (hS : ∃ o, s''.heap.get? S = some o) (k : ∀ b o, b ≠ S → s.heap.get? b = some o → s''.heap.get? b = some o) : FL c X S x env d s'' := by
  obtain ⟨oS, gS⟩ := hS
  have big : c.h₁.objs.size ≤ s''.heap.objs.size := Nat.le_trans g.lS (Nat.le_of_lt (Heap.lt_size gS))
  have I' : Inv c.any { s with heap := s''.heap, toks := s.toks } := g.inv.side g.lS (fun b o nb e => k b o nb e) big
  refine ⟨⟨I'.stay, I'.old, I'.tab, ho, trivial, I'.lo, I'.big⟩, ⟨oS, gS⟩, ?_, ⟨g.xok.P, fun a xa => ?_, g.xok.lo, g.xok.top⟩, g.xS, g.xC, g.lS, g.lC, g.nSC⟩
  · obtain ⟨m, v, q, mx, r⟩ := g.ns
    exact ⟨m, v, q.at' fun o e => k _ o g.nSC e, mx, r.mix (Z := (· = S)) (fun a e => .inl (e ▸ g.xS)) fun b o nb e => k b o nb e⟩
  · by_cases e : a = S
    · exact ⟨oS, e ▸ gS⟩
    · obtain ⟨o, q⟩ := g.xok.ex a xa; exact ⟨o, k a o e q⟩
theorem FL.sat {X : Addr → Prop} {S : Addr} {x : Str} {fc : FC} {env : Env} {d : D} {s : Shared} (g : FL c X S x env d s) (hev : EnvOk fc env) (hfc : fc.ok = true) (hn : fc.scope.names = [(x, .local)]) (hcl : env.cells = []) (hini : fc.ini = false) : Sat (c.at' s.gens s.drawn) (· = env.locals) X X fc env [some (.dat d)] s := by
  have one : ∀ (j : Nat) (lv : LV), ([some (.dat d)] : Rho)[j]? = some (some lv) → j = 0 ∧ lv = .dat d := fun j lv e => by
    cases j with
    | zero => cases e; exact ⟨rfl, rfl⟩
    | succ j => cases e
  obtain ⟨m, v, q, mx, r⟩ := g.ns
  refine ⟨⟨g.inv.stay, g.inv.old, g.inv.tab, g.inv.os, ⟨rfl, rfl⟩, g.inv.lo, g.inv.big⟩, hev, hfc, g.xok.P, fun a q => q, g.xok.ex, g.xok.lo, fun a q => q ▸ g.xC, rfl, fun a q => q ▸ g.lC, ⟨_, q, fun j y ky lv h1 h2 => ?_⟩, fun y a q => ?_, fun j y q => ?_, fun y z a q => ?_, fun y a f q => ?_, fun j a l q => ?_, apart_dat fun j lv e => ⟨d, (one j lv e).2⟩, fun f => by rw [hini] at f; cases f⟩
  · obtain ⟨rfl, rfl⟩ := one j lv h2
    rw [hn] at h1
    cases h1
    exact ⟨.inl rfl, v, r, fun _ => mx, fun q => by cases q⟩
  · rw [hcl] at q; cases q
  · rw [hn] at q
    cases j with
    | zero => cases q
    | succ j => cases q
  · rw [hcl] at q; cases q
  · rw [hcl] at q; cases q
  · obtain ⟨_, e'⟩ := one j _ q; cases e'
abbrev yStm (y : Expr × Pos × Pos × D) : Stmt := .Expr (.Yield (some y.1) y.2.1) y.2.2.1
theorem seg_yields (O : c.Ok) {A : Around} {X : Addr → Prop} {S : Addr} {x : Str} {fc : FC} {env : Env} {d : D} {body : List Stmt} {H : Value → Sem Fin} (G : Good n (A.over (.func body env) [])) (hev : EnvOk fc env) (hfc : fc.ok = true) (hn : fc.scope.names = [(x, .local)]) (hcl : env.cells = []) (hini : fc.ini = false) (hco : env.scope.isCoroutine = false) (hin : interactive env = false) (es : List D) :
    ∀ (ys : List (Expr × Pos × Pos × D)) (done : List D) (s₀ s : Shared), (∀ y ∈ ys, ∀ GI, Ev { c with GI := GI } n fc [some (.dat d)] y.1 (· = y.2.2.2)) → es = done ++ ys.map (·.2.2.2) → FL c X S x env d s → s.gens = s₀.gens → s.drawn = s₀.drawn → Stay (Zs c env.locals env.locals) s₀.heap s.heap →
      Seg (model c.prog c.w) A (fEnd c env.locals) (gProto c X env.locals env.locals S es) ys.length s₀ (.func body env)
        ((execs (ys.map yStm) env).wrap (fun f => .pure (.done (.ret (match f with | .ret v => v | _ => .none)))) H id id) [] s := by
  intro ys
  induction ys with
  | nil =>
    intro done s₀ s hel he g hg hd hst
    exact seg_execs_nil (seg_end (.ok (.ret .none)) ⟨rfl, rfl, hg, hd, g.inv, hst⟩)
  | cons y r ih =>
    intro done s₀ s hel he g hg hd hst
    refine seg_execs_cons (seg_Expr_Yield rfl rfl rfl ?_ hco hin)
    refine wpAny_mono (hel y List.mem_cons_self (fun a b => a = s.gens ∧ b = s.drawn) _ _ _ _ _ _ G (g.sat hev hfc hn hcl hini)) (fun v s₄ h₄ => ?_) fun _ _ e => e.elim
    obtain ⟨I₄, k₄, e, rfl, re⟩ := h₄
    obtain ⟨ia, h1, h2⟩ := I₄.off
    obtain ⟨oS, gS⟩ := g.slot
    have nP : ∀ a, c.h₁.objs.size ≤ a → a ≠ c.P := fun a la e => absurd g.inv.lo.1 (Nat.not_lt.mpr (e ▸ la))
    have kS : s₄.heap.get? S = some oS := k₄ _ _ (nP _ g.lS) gS
    intro kap hk
    refine ⟨⟨y.2.2.2, ?_, re⟩, h1.trans hg, h2.trans hd, ia, ?_, ⟨oS, kS⟩, fun s'' ho hS kk => hk .none s'' ?_⟩
    · rw [he]; simp
    · exact fun b o nb e => k₄ b o (fun z => nb (.inr (.inr z))) (hst b o nb e)
    · have g₄ : FL c X S x env d s₄ := by
        refine ⟨ia, ⟨oS, kS⟩, ?_, ⟨g.xok.P, xex_st (c := c.any) (s := s) ia k₄ g.xok.ex, g.xok.lo, g.xok.top⟩, g.xS, g.xC, g.lS, g.lC, g.nSC⟩
        obtain ⟨m, v, q, mx, rr⟩ := g.ns
        exact ⟨m, v, q.at' fun o e => k₄ _ o (nP _ g.lC) e, mx, rr.mix (fun a e => .inl (e ▸ g.xok.P)) k₄⟩
      exact ih (done ++ [y.2.2.2]) s'' s'' (fun d' q => hel d' (List.mem_cons_of_mem _ q)) (by rw [he]; simp) (g₄.frame ho hS kk) rfl rfl (fun b o nb e => e)
end
end Mine
end
section
namespace Mine
open PySem PySem.W PySem.Calls PyProof.Rows Builtin
section
variable {c : Cx} {n : Nat}
/-- such a generator in the consumer's eyes -/
structure FS (c : Cx) (A : Around) (X : Addr → Prop) (C S a g : Nat) (es : List D) (gs₀ : Array GenState) (dr₀ : Drawn) (h₀ : Heap) (i : Nat) (vs : List Value) (s : Shared) : Prop where
  inv : Inv c.any s
  gen : s.heap.IsGen a g
  gens : ∀ y ∈ s.gens, y ∈ gs₀ ∨ y.bare = true
  drawn : s.drawn = dr₀
  rep : RepL X s.heap (es.take i) vs
  stay : Stay (fun b => Zs c C C b ∨ b = S) h₀ s.heap
  slot : ∃ o, s.heap.get? S = some o
  goes : ∃ gs, s.gens[g]? = some gs ∧ ∀ s'' : Shared, s''.os = c.os₁ → (∃ o, s''.heap.get? S = some o) → (∀ b o, b ≠ S → s.heap.get? b = some o → s''.heap.get? b = some o) → gs.Goes (model c.prog c.w) A.in1 (fEnd c C) (gProto c X C C S es) (es.length - i) (.send .none) s''
theorem fn_walk (O : c.Ok) {A : Around} (G : Good (n + 1) A) {X : Addr → Prop} {C S a g : Nat} {es : List D} {gs₀ : Array GenState} {dr₀ : Drawn} {h₀ : Heap} (xP : X c.P) (xC : X C) (xS : X S) (lS : c.h₁.objs.size ≤ S) (lC : c.h₁.objs.size ≤ C) (la : c.h₁.objs.size ≤ a) (na : a ≠ C ∧ a ≠ S) (nS : S ≠ C) :
    WalkR c.prog c.w A a S es.length (FS c A X C S a g es gs₀ dr₀ h₀) (GF c X C C S es gs₀ dr₀ h₀) := by
  have xZ : ∀ b, Zs c C C b → X b := by rintro b (e | e | e) <;> subst e <;> assumption
  have room : A.depth < recursionLimit := G.depth
  have run : ∀ {s : Shared} {y : GenState}, (∀ y ∈ s.gens, y ∈ gs₀ ∨ y.bare = true) → ∀ {s₁ : Shared} {z : GenState}, s₁.gens = (s.setGen g .running).gens → z.bare = true → y ∈ (s₁.setGen g z).gens → y ∈ gs₀ ∨ y.bare = true := fun {s y} h {s₁ z} e hz m => by
    rcases setGen_mem m with m | m
    · rw [e] at m
      rcases setGen_mem m with m | m
      · exact h y m
      · exact .inr (by rw [m]; rfl)
    · exact .inr (by rw [m]; exact hz)
  have nz : ∀ {s : Shared}, Inv c.any s → ¬ Zs c C C a := fun I q => by
    rcases q with q | q | q
    · exact na.1 q
    · exact na.1 q
    · exact absurd I.lo.1 (Nat.not_lt.mpr (q ▸ la))
  have nzS : ∀ {s : Shared}, Inv c.any s → ¬ Zs c C C S := fun I q => by
    rcases q with q | q | q
    · exact nS q
    · exact nS q
    · exact absurd I.lo.1 (Nat.not_lt.mpr (q ▸ lS))
  refine ⟨fun e => na.2 e.symm, fun i vs s st => st.gen.typeIs, fun i vs s h' tk st hS k => ?_, fun i vs s Q E o hi gS st hQ => ?_, fun vs s Q E o gS st hQ => ?_, fun i vs s Q E st hQ => wpAny_pyIter_gen st.gen hQ⟩
  · obtain ⟨oS, gS⟩ := hS
    have hz : ∀ b, b = S → X b ∨ Side s.heap b := fun b e => .inl (e ▸ xS)
    refine ⟨st.inv.side lS (fun b o nb e => k b o nb e) (Nat.le_trans lS (Nat.le_of_lt (Heap.lt_size gS))), ?_, st.gens, st.drawn, st.rep.mix hz (fun b o nb e => k b o nb e), fun b o nb e => k b o (fun z => nb (.inr z)) (st.stay b o nb e), ⟨oS, gS⟩, ?_⟩
    · obtain ⟨o, nm, qn, ho, r⟩ := st.gen
      exact ⟨o, nm, qn, k a o na.2 ho, r⟩
    · obtain ⟨gs, hgs, hgo⟩ := st.goes
      exact ⟨gs, hgs, fun s'' ho hS kk => hgo s'' ho hS fun b o nb e => kk b o nb (k b o nb e)⟩
  · obtain ⟨gs, hgs, hgo⟩ := st.goes
    have hgo := hgo (s.setGen g .running) st.inv.os st.slot fun b o _ e => e
    obtain ⟨m, hm⟩ : ∃ m, es.length - i = m + 1 := ⟨es.length - i - 1, by omega⟩
    rw [hm] at hgo
    refine next_fn (P := fun n s₀ s₁ => n = 0 ∧ s₁.gens = s₀.gens ∧ s₁.drawn = s₀.drawn ∧ Inv c.any s₁ ∧ Stay (Zs c C C) s₀.heap s₁.heap) G.1 (st.inv.nolimit (c := c.any) (O.to _)) room st.gen hgs hgo (fun v s₁ gs' hb hv => ?_) (fun s₁ hp h' hk => ?_)
    · obtain ⟨⟨e, he, re⟩, hgens, hdr, ia, sty, slot, kap⟩ := hv
      have sty : Stay (Zs c C C) s.heap s₁.heap := sty
      have hidx : es.length - 1 - (m + 1 - 1) = i := by omega
      rw [hidx] at he
      refine hQ v _ ⟨⟨ia.stay, ia.old, ia.tab, ia.os, trivial, ia.lo, ia.big⟩, ?_, fun y hy => run st.gens hgens hb hy, hdr.trans st.drawn, ?_, fun b o nb q => sty b o (fun z => nb (.inl z)) (st.stay b o nb q), slot, ⟨gs', ?_, fun s'' ho hS kk => ?_⟩⟩ (sty _ _ (nzS ia) gS)
      · obtain ⟨o, nm, qn, ho, r⟩ := st.gen
        exact ⟨o, nm, qn, sty a o (nz ia) ho, r⟩
      · have et : es.take (i + 1) = es.take i ++ [e] := by rw [List.take_add_one, he]; rfl
        rw [et]
        exact (st.rep.mix (fun b z => .inl (xZ b z)) sty).append ⟨v, [], rfl, re, rfl⟩
      · have hr : s₁.gens[g]? = some .running := by rw [hgens]; exact setGen_self hgs
        exact setGen_self hr
      · have e : es.length - (i + 1) = m := by omega
        rw [e]
        exact kap s'' ho hS kk
    · exact absurd hp.1 (Nat.succ_ne_zero m)
  · obtain ⟨gs, hgs, hgo⟩ := st.goes
    have hgo := hgo (s.setGen g .running) st.inv.os st.slot fun b o _ e => e
    rw [Nat.sub_self] at hgo
    refine next_fn (P := fun n s₀ s₁ => n = 0 ∧ s₁.gens = s₀.gens ∧ s₁.drawn = s₀.drawn ∧ Inv c.any s₁ ∧ Stay (Zs c C C) s₀.heap s₁.heap) G.1 (st.inv.nolimit (c := c.any) (O.to _)) room st.gen hgs hgo (fun v s₁ gs' hb hv => ?_) (fun s₁ hp h' hk => ?_)
    · obtain ⟨_, _, _, ia, _, slot, kap⟩ := hv
      exact False.elim (kap s₁ ia.os slot fun _ _ _ e => e)
    · obtain ⟨_, hgens, hdr, ia, sty⟩ := hp
      have sty : Stay (Zs c C C) s.heap s₁.heap := sty
      have gS' := sty _ _ (nzS ia) gS
      have rep : RepL X s.heap es vs := by have := st.rep; rwa [List.take_length] at this
      refine hQ _ ⟨⟨ia.stay.trans fun b o _ e => hk b o e, ia.old.step_keeps hk, ?_, ia.os, trivial, ia.lo, Nat.le_trans lS (Nat.le_of_lt (Heap.lt_size (hk _ _ gS')))⟩, fun y hy => run st.gens hgens rfl hy, hdr.trans st.drawn, (rep.mix (fun b z => .inl (xZ b z)) sty).stay (fun b o _ e => hk b o e), fun b o nb q => hk b o (sty b o (fun z => nb (.inl z)) (st.stay b o nb q))⟩ (hk _ _ gS')
      obtain ⟨ps, x, y⟩ := ia.tab
      exact ⟨ps, x.keeps hk, y.keeps hk⟩
theorem Good.func {A : Around} {body : List Stmt} {env : Env} (G : Good (n + 1) A) : Good n (A.over (.func body env) []) := by
  refine ⟨?_, ?_, ?_⟩
  · exact G.1
  · have e : (A.over (.func body env) []).depth = A.depth + 0 + (Code.func body env).weight := rfl
    have w : (Code.func body env).weight ≤ 4 := by
      show _ ≤ 4; unfold Code.weight; simp [Code.frames, Code.isCreation, Code.isGuard, Code.isCaller]
      split <;> omega
    have := G.2.1; rw [e]; omega
  · have e : (A.over (.func body env) []).units = A.units + 0 + (Code.func body env).cUnits := rfl
    have w : (Code.func body env).cUnits ≤ 16 := by
      show _ ≤ 16; simp [Code.cUnits, Code.frames]
      split <;> omega
    have := G.2.2; rw [e]; omega
/-- tuple of a thing whose class iterates it by a function that yields -/
theorem c_tuple_own (O : c.Ok) (hGI : ∀ a b d, c.GI a d → (∀ y ∈ b, y ∈ a ∨ y.bare = true) → c.GI b d) {C f : Addr} {fs : List (Str × D)} {Pq : D → Prop} {name qual x : Str} {params : Arguments} {scope : Scope} {dV kV doc pm cdv ct oc : Value} {an od : Option Addr} {osl : Array (Option Value)}
    (hs : findIn c.K (.ref C) "__iter__" = some (some (.ref f))) (hfn : isFn c.K (.ref f) = true) (hl : findIn c.K (.ref C) "__len__" = some none) (hh : findIn c.K (.ref C) "__length_hint__" = some none) (ys : List (Expr × Pos × Pos × D)) (hlen : ys.length ≤ sizeLine)
    (hf : c.K.lookup f = some ⟨oc, od, .func (fnOf name qual params (ys.map yStm) scope dV kV doc pm an cdv ct), osl⟩) (hcode : codeIn c.K cdv qual = true) (hco : scope.isCoroutine = false) (hgen : scope.isGenerator = true) (hfc : FC.ok ⟨scope, cdv, qual ++ ".<locals>.", fun _ => true, false⟩ = true) (hn : scope.names = [(x, .local)])
    (hb : ∀ (s : Shared) a, BindsTo s (fnOf name qual params (ys.map yStm) scope dV kV doc pm an cdv ct) ⟨[.ref a], []⟩ [(x, .ref a)])
    (hel : ∀ y ∈ ys, ∀ GI, Ev { c with GI := GI } n ⟨scope, cdv, qual ++ ".<locals>.", fun _ => true, false⟩ [some (.dat (.inst C fs))] y.1 (· = y.2.2.2))
    (h : Pq (.tup (ys.map (·.2.2.2)))) : CallV c (n + 3) (.type "tuple") [.dat (.inst C fs)] [] Pq := cv1 fun X A s v G I xP r => by
  obtain ⟨a, dd, es, m, rfl, at_, rf⟩ := inst_at (W := fun _ => True) (lv := .dat (.inst C fs)) rfl r
  have hk : scope.kind = .function := by
    have h := hfc; unfold FC.ok at h; exact beq_iff_eq.mp (Bool.and_eq_true_iff.mp h).1
  refine call_tupleO (n := ys.length) (I.kin O) at_ hs hfn hl hh hlen ?_
  have I₁ : Inv c { s with heap := s.heap.push { cls := .type "list", data := .seq ([] : List Value).toArray } } := I.push (t := s.toks)
  have K₁ := I₁.kin O
  have G1 : Good (n + 1) A.in1.in1.in1 := G.mono rfl (by show A.depth + _ ≤ _; omega) (by show A.units + 1 + 1 + 1 + _ ≤ _; omega)
  have G2 : Good (n + 1) A.in1.in1.in1.in1 := G.mono rfl (by show A.depth + _ ≤ _; omega) (by show A.units + 1 + 1 + 1 + 1 + _ ≤ _; omega)
  refine codeAny_call_generator (fd := fnOf name qual params (ys.map yStm) scope dV kV doc pm an cdv ct) (body := ys.map yStm) G1.depth (K₁ _ _ hf) rfl hco hgen rfl (codeRec_of K₁ hcode) (hb _ a _ _ _ _ ?_)
  refine wpAny_newFunctionEnv (fun y hy => ?_) (fun y hy => ?_) (fun h' hn' hs' => ?_) hk
  · rw [show (fnOf name qual params (ys.map yStm) scope dV kV doc pm an cdv ct).scope.names = scope.names from rfl, hn] at hy
    rw [List.mem_singleton.mp hy]
    exact fun e => by cases e
  · rw [List.mem_singleton.mp hy, show (fnOf name qual params (ys.map yStm) scope dV kV doc pm an cdv ct).scope.names = scope.names from rfl, hn]
    simp [List.lookup]
  replace hn' : h'.Ns (s.heap.push { cls := .type "list", data := .seq ([] : List Value).toArray }).objs.size (fun y => List.lookup y [(x, Value.ref a)].reverse) := hn'
  replace hs' : Heap.SameBut (s.heap.push { cls := .type "list", data := .seq ([] : List Value).toArray }).objs.size ((s.heap.push { cls := .type "list", data := .seq ([] : List Value).toArray }).push { cls := Value.type "frame", data := Data.dict #[] }) h' := hs'
  have hL : (s.heap.push { cls := .type "list", data := .seq ([] : List Value).toArray }).objs.size = s.heap.objs.size + 1 := Heap.size_push ..
  have hsz : h'.objs.size = s.heap.objs.size + 1 + 1 := by rw [hs'.1, Heap.size_push, hL]
  have keep' : ∀ b o, (s.heap.push { cls := .type "list", data := .seq ([] : List Value).toArray }).get? b = some o → h'.get? b = some o := fun b o e => hs'.extBut b o (Nat.ne_of_lt (Heap.lt_size e)) (Heap.get?_push_of_some _ e)
  refine ⟨(I₁.nolimit O).keeps keep', ?_⟩
  obtain ⟨L, eL⟩ : ∃ L, L = (s.heap.push { cls := .type "list", data := .seq ([] : List Value).toArray }).objs.size := ⟨_, rfl⟩
  rw [← eL] at hn' hL
  show Brings c.prog c.w A.in1.in1.in1 c.K s.heap.objs.size a C (instObj C dd) (some (dictOf es m)) ys.length _ (.ref h'.objs.size) _
  generalize hob : ({ cls := Value.type "generator", data := Data.fields #[Value.int (↑s.gens.size) 0, _, _] } : Obj) = og
  have k₀ : ∀ b o, s.heap.get? b = some o → (h'.push og).get? b = some o := fun b o e => Heap.get?_push_of_some _ (keep' b o (Heap.get?_push_of_some _ e))
  have gS : (h'.push og).get? s.heap.objs.size = some { cls := .type "list", data := .seq ([] : List Value).toArray } := Heap.get?_push_of_some _ (keep' _ _ (Heap.get?_push_size _ rfl))
  have ga : (h'.push og).get? h'.objs.size = some og := by rw [← hob]; exact Heap.get?_push_size _ rfl
  have nP : ∀ a, c.h₁.objs.size ≤ a → a ≠ c.P := fun a la e => absurd I.lo.1 (Nat.not_lt.mpr (e ▸ la))
  have lS : c.h₁.objs.size ≤ s.heap.objs.size := I.big
  have Z3 : ∀ b, (X b ∨ b = L ∨ b = s.heap.objs.size) → X b ∨ s.heap.get? b = none := fun b q => by
    rcases q with q | q | q
    · exact .inl q
    · exact .inr (gone_of (by rw [show b = L from q]; omega))
    · exact .inr (gone_of (by rw [show b = _ from q]; exact Nat.le_refl _))
  have I₃ : ∀ (gs : Array GenState) (t : Nat), Inv c.any { s with heap := h'.push og, gens := gs, toks := t } := fun gs t =>
    let q : Inv c.any { s with heap := h'.push og } := I.any.ext k₀ (by show _ ≤ (h'.push og).objs.size; rw [Heap.size_push, hsz]; omega) rfl ⟨rfl, rfl⟩
    ⟨q.stay, q.old, q.tab, q.os, trivial, q.lo, q.big⟩
  refine ⟨h'.objs.size, FS c A.in1.in1.in1 (fun b => X b ∨ b = L ∨ b = s.heap.objs.size) (L) s.heap.objs.size h'.objs.size s.gens.size (ys.map (·.2.2.2)) s.gens s.drawn (h'.push og), GF c (fun b => X b ∨ b = L ∨ b = s.heap.objs.size) (L) (L) s.heap.objs.size (ys.map (·.2.2.2)) s.gens s.drawn (h'.push og), rfl, ?_, ?_, gS, (show c.K.In (h'.push og) from (I₃ s.gens s.toks).kin (c := c.any) (O.to _)), ?_, fun s'' vs hl hF hS => ?_⟩
  · have W := fn_walk (c := c) (n := n) (A := A.in1.in1.in1) (X := fun b => X b ∨ b = L ∨ b = s.heap.objs.size) (C := L) (S := s.heap.objs.size) (a := h'.objs.size) (g := s.gens.size) (es := ys.map (·.2.2.2)) (gs₀ := s.gens) (dr₀ := s.drawn) (h₀ := h'.push og) O G1 (.inl xP.P) (.inr (.inl rfl)) (.inr (.inr rfl)) lS (by omega) (by omega) ⟨by omega, by omega⟩ (by omega)
    rwa [List.length_map] at W
  · refine ⟨I₃ _ _, ⟨og, _, _, ga, by rw [← hob], by rw [← hob], by rw [← hob]⟩, fun y hy => ?_, rfl, rfl, Stay.refl _ _, ⟨_, gS⟩, ⟨_, Array.getElem?_push_size .., fun s'' ho hS k7 => ⟨rfl, ?_⟩⟩⟩
    · rcases Array.mem_push.mp hy with q | q
      · exact .inl q
      · exact .inr (by rw [q]; rfl)
    · rw [Nat.sub_zero, List.length_map]
      have fl : FL c (fun b => X b ∨ b = L ∨ b = s.heap.objs.size) s.heap.objs.size x (newEnv scope (L) mainGlobals [] (qual ++ ".<locals>.") (some f) cdv none builtinsNs) (.inst C fs) { s with heap := h'.push og } := by
        refine ⟨I₃ s.gens s.toks, ⟨_, gS⟩, ⟨_, _, hn'.push og, by simp [List.lookup], (Rep.shun Z3 r).stay fun b o _ e => k₀ b o e⟩, ⟨.inl xP.P, ?_, ?_, ?_⟩, .inr (.inr rfl), .inr (.inl rfl), lS, by show _ ≤ L; omega, by show L ≠ _; omega⟩
        · rintro b (q | q | q)
          · obtain ⟨o, z⟩ := xP.ex b q; exact ⟨o, k₀ _ _ z⟩
          · obtain ⟨o, _, _, z, _⟩ := hn'.push og; exact ⟨o, q ▸ z⟩
          · exact ⟨_, q ▸ gS⟩
        · rintro b (q | q | q)
          · exact xP.lo b q
          · exact .inr (by rw [show b = L from q]; omega)
          · exact .inr (by rw [show b = _ from q]; exact lS)
        · exact ⟨_, .inr (.inr rfl), lS⟩
      have fl' := fl.frame ho hS k7
      have G3 : Good n (A.in1.in1.in1.in1.over (.func (ys.map yStm) (newEnv scope (L) mainGlobals [] (qual ++ ".<locals>.") (some f) cdv none builtinsNs)) []) := G2.func
      have sy := seg_yields (c := c) (n := n) (A := A.in1.in1.in1.in1) (H := fun e => (leaving (newEnv scope (L) mainGlobals [] (qual ++ ".<locals>.") (some f) cdv none builtinsNs) e).wrap (fun _ => .raise e) .raise id id) (fc := ⟨scope, cdv, qual ++ ".<locals>.", fun _ => true, false⟩) O G3 ⟨rfl, rfl, rfl, rfl, rfl⟩ hfc hn rfl rfl hco (by show (scope.kind == _ && _) = false; rw [hk]; rfl) (ys.map (·.2.2.2)) ys [] s'' s'' hel rfl fl' rfl rfl (fun b o _ e => e)
      have sf := seg_func sy
      subst eL
      exact sf
  · exact ⟨k₀ _ _ at_.at_, at_.cls, at_.no, by
      have q : s.heap.get? dd = some (dictOf es m) := at_.dict
      exact k₀ _ _ q⟩
  · have I' : Inv c s'' := hF.inv.of_any (hGI s.gens s''.gens s''.drawn (by rw [hF.drawn]; exact I.gens) hF.gens)
    have sty : ∀ b o, b ≠ c.P → s.heap.get? b = some o → s''.heap.get? b = some o := fun b o nb e => by
      have lt := Heap.lt_size e
      refine hF.stay b o (fun z => ?_) (k₀ b o e)
      rcases z with (z | z | z) | z
      · exact absurd lt (Nat.not_lt.mpr (by rw [show b = _ from z]; omega))
      · exact absurd lt (Nat.not_lt.mpr (by rw [show b = _ from z]; omega))
      · exact nb z
      · exact absurd lt (Nat.not_lt.mpr (by rw [show b = _ from z]; omega))
    refine ⟨I'.push (t := s''.toks), fun b o nb e => Heap.get?_push_of_some _ (sty b o nb e), .tup (ys.map (·.2.2.2)), h, s''.heap.objs.size, vs, _, rfl, fun xa => ?_, Heap.get?_push_size _ rfl, (hF.rep.anti fun a q => .inl q).stay stay_push⟩
    by_cases ea : s''.heap.objs.size = c.P
    · exact absurd I'.lo.1 (Nat.not_lt.mpr (ea ▸ I'.big))
    · obtain ⟨o, z⟩ := xP.ex _ xa
      exact absurd (Heap.lt_size (sty _ o ea z)) (Nat.lt_irrefl _)
/-- a body that yields, and what it yields -/
inductive YEv (c : Cx) (n : Nat) (fc : FC) (ρ : Rho) : List Stmt → List D → Prop
  | nil : YEv c n fc ρ [] []
  | cons {e : Expr} {p q : Pos} {r : List Stmt} {d : D} {ds : List D} : (∀ GI, Ev { c with GI := GI } n fc ρ e (· = d)) → YEv c n fc ρ r ds → YEv c n fc ρ (.Expr (.Yield (some e) p) q :: r) (d :: ds)
theorem YEv.ys {fc : FC} {ρ : Rho} {body : List Stmt} {ds : List D} (h : YEv c n fc ρ body ds) : ∃ ys : List (Expr × Pos × Pos × D), ys.map yStm = body ∧ ys.map (·.2.2.2) = ds ∧ ∀ y ∈ ys, ∀ GI, Ev { c with GI := GI } n fc ρ y.1 (· = y.2.2.2) := by
  induction h with
  | nil => exact ⟨[], rfl, rfl, fun _ h => nomatch h⟩
  | @cons e p q r d ds h1 _ ih =>
    obtain ⟨ys, e1, e2, e3⟩ := ih
    refine ⟨(e, p, q, d) :: ys, by rw [List.map_cons, e1], by rw [List.map_cons, e2], fun y hy => ?_⟩
    rcases List.mem_cons.mp hy with rfl | hy
    · exact h1
    · exact e3 y hy
theorem c_tuple_yields (O : c.Ok) (hGI : ∀ a b d, c.GI a d → (∀ y ∈ b, y ∈ a ∨ y.bare = true) → c.GI b d) {C f : Addr} {fs : List (Str × D)} {Pq : D → Prop} {name qual x : Str} {params : Arguments} {body : List Stmt} {scope : Scope} {dV kV doc pm cdv ct oc : Value} {an od : Option Addr} {osl : Array (Option Value)}
    (hs : findIn c.K (.ref C) "__iter__" = some (some (.ref f))) (hfn : isFn c.K (.ref f) = true) (hl : findIn c.K (.ref C) "__len__" = some none) (hh : findIn c.K (.ref C) "__length_hint__" = some none) (ds : List D) (hlen : ds.length ≤ sizeLine)
    (hf : c.K.lookup f = some ⟨oc, od, .func (fnOf name qual params body scope dV kV doc pm an cdv ct), osl⟩) (hcode : codeIn c.K cdv qual = true) (hco : scope.isCoroutine = false) (hgen : scope.isGenerator = true) (hfc : FC.ok ⟨scope, cdv, qual ++ ".<locals>.", fun _ => true, false⟩ = true) (hn : scope.names = [(x, .local)])
    (hb : ∀ (s : Shared) a, BindsTo s (fnOf name qual params body scope dV kV doc pm an cdv ct) ⟨[.ref a], []⟩ [(x, .ref a)])
    (hel : YEv c n ⟨scope, cdv, qual ++ ".<locals>.", fun _ => true, false⟩ [some (.dat (.inst C fs))] body ds)
    (h : Pq (.tup ds)) : CallV c (n + 3) (.type "tuple") [.dat (.inst C fs)] [] Pq := by
  obtain ⟨ys, e1, e2, e3⟩ := hel.ys
  subst e1 e2
  exact c_tuple_own O hGI hs hfn hl hh ys (by rwa [List.length_map] at hlen) hf hcode hco hgen hfc hn hb e3 h
end
end Mine
end
section
namespace Mine
open PySem PySem.W PySem.Calls PyProof.Rows Builtin
section
variable {c : Cx} {n : Nat} {fc : FC} {ρ : Rho} {Pq : D → Prop} {R : Out → Prop}
/-- a for whose name is a cell's -/
theorem ForL.invc {α : Type} {x : Str} {p : Pos} {body orelse : List Stmt} {i : Nat} (F : (NameKind.cell != .cell || fc.wr x) = true) (hk : fc.scope.names[i]? = some (x, .cell)) (l : List α) (g : α → D) (I : Nat → Rho → Prop)
    (hI : ∀ k ρ d, l[k]? = some d → I k ρ → Nat.blt i ρ.length = true ∧ Ex c n fc (ρ.set i (some (.dat (g d)))) body (fun o => match o with
      | .next ρ' => I (k + 1) ρ'
      | .cont ρ' => I (k + 1) ρ'
      | .brk ρ' => R (.next ρ')
      | .ret d => R (.ret d)))
    (hend : ∀ ρ, I l.length ρ → Ex c n fc ρ orelse R) : ∀ (m k : Nat) (ρ : Rho), k + m = l.length → I k ρ → ForL c n fc ρ (.Name x p) body orelse ((l.drop k).map g) R
  | 0, k, ρ, hk', h => by
    rw [List.drop_eq_nil_of_le (by omega)]
    exact ForL.done (hend ρ (by rw [show l.length = k from by omega]; exact h))
  | m + 1, k, ρ, hk', h => by
    have lt : k < l.length := by omega
    rw [List.drop_eq_getElem_cons lt]
    obtain ⟨h1, h2⟩ := hI k ρ l[k] (List.getElem?_eq_getElem lt) h
    refine ForL.turn (asg_name F i hk (.inr rfl) (Nat.blt_eq.mp h1) (h2.mono fun o ho => ?_))
    cases o with
    | next ρ' => exact ForL.invc F hk l g I hI hend m (k + 1) ρ' (by omega) ho
    | cont ρ' => exact ForL.invc F hk l g I hI hend m (k + 1) ρ' (by omega) ho
    | brk ρ' => exact ho
    | ret d => exact ho
theorem for_invc {α : Type} {x : Str} {p : Pos} {body orelse : List Stmt} (i : Nat) (F : (NameKind.cell != .cell || fc.wr x) = true) (hk : fc.scope.names[i]? = some (x, .cell)) {l : List α} {g : α → D} (I : Nat → Rho → Prop) (h0 : I 0 ρ)
    (hI : ∀ k ρ d, l[k]? = some d → I k ρ → Nat.blt i ρ.length = true ∧ Ex c n fc (ρ.set i (some (.dat (g d)))) body (fun o => match o with
      | .next ρ' => I (k + 1) ρ'
      | .cont ρ' => I (k + 1) ρ'
      | .brk ρ' => R (.next ρ')
      | .ret d => R (.ret d)))
    (hend : ∀ ρ, I l.length ρ → Ex c n fc ρ orelse R) : ForL c n fc ρ (.Name x p) body orelse (l.map g) R := by
  have := ForL.invc (p := p) F hk l g I hI hend l.length 0 ρ (by omega) h0
  simpa using this
theorem CompL.mc {α : Type} {elt iter : Expr} {x : Str} {p : Pos} {scope : Scope} {pos : Pos} {Pl : List D → Prop} {i : Nat} (Fc : (NameKind.cell != .cell || fc.wr x) = true) (hk : fc.scope.names[i]? = some (x, .cell)) (g : α → D) (F : α → D) :
    ∀ (l : List α) (ρ : Rho) (acc : List D), Nat.blt i ρ.length = true → (∀ d ∈ l, Ev c n fc (ρ.set i (some (.dat (g d)))) elt (· = F d)) → acc.length + l.length ≤ sizeLine →
    Pl (acc ++ l.map F) → CompL c n fc ρ elt (.Name x p) iter [] scope pos (l.map g) acc Pl
  | [], ρ, acc, il, h, hl, hP => CompL.done (by simpa using hP)
  | d :: l, ρ, acc, il, h, hl, hP => by
    have h2 := h d List.mem_cons_self
    have hl' : acc.length + l.length + 1 ≤ sizeLine := hl
    have il' : Nat.blt i (ρ.set i (some (.dat (g d)))).length = true := by rw [List.length_set]; exact il
    have hr : ∀ d' ∈ l, Ev c n fc ((ρ.set i (some (.dat (g d)))).set i (some (.dat (g d')))) elt (· = F d') := fun d' m => by
      rw [List.set_set]; exact h d' (List.mem_cons_of_mem _ m)
    refine CompL.turn (by omega) (asg_name Fc i hk (.inr rfl) (Nat.blt_eq.mp il) (CompIfs.mono (P := fun b => b = true) (fun b hb => ?_) rfl))
    subst hb
    rw [if_pos rfl]
    refine h2.mono fun y hy => ?_
    subst hy
    refine CompL.mc Fc hk g F l _ (acc ++ [F d]) il' hr (by simp only [List.length_append, List.length_singleton]; omega) ?_
    simpa using hP
theorem comp_mapc {α : Type} {elt iter : Expr} {x : Str} {p : Pos} {scope : Scope} {pos : Pos} {Pl : List D → Prop} (i : Nat) (Fc : (NameKind.cell != .cell || fc.wr x) = true) (hk : fc.scope.names[i]? = some (x, .cell)) (il : Nat.blt i ρ.length = true) {l : List α} {g F : α → D} (hl : l.length ≤ sizeLine)
    (h : ∀ d ∈ l, Ev c n fc (ρ.set i (some (.dat (g d)))) elt (· = F d)) (hP : Pl (l.map F)) : CompL c n fc ρ elt (.Name x p) iter [] scope pos (l.map g) [] Pl :=
  CompL.mc Fc hk g F l ρ [] il h (by simpa using hl) (by simpa using hP)
end
end Mine
end
section
open PySem PySem.W PyProof.Rows
set_option maxHeartbeats 0
namespace Mine
local macro_rules | `(tactic| k_head) => `(tactic| x_head)
open_top hd for PySem.Challenge.rw_br0026_03
end Mine
end
section
set_option maxHeartbeats 0
namespace Mine
open PySem PySem.W PySem.Calls PyProof.Rows Builtin

noncomputable abbrev cx (w : World) (h₁ : Heap) (os₁ : OsState) (GI : Array GenState → Drawn → Prop) : Cx := { prog := PySem.Challenge.rw_br0026_03.prog, w, K := but (hd.heap_39 w.params) 323, P := 323, cP := 327, h₁, os₁, GI }


section
variable {w : World} {h₁ : Heap} {os₁ : OsState} {GI : Array GenState → Drawn → Prop}

theorem behind (O : (cx w h₁ os₁ GI).Ok) {n : Nat} {l y : List Nat} {i : Nat} (hx : l.length ≤ sizeLine) {Pq : D → Prop} (h : Pq (.int (bh y l i))) :
    CallK (cx w h₁ os₁ GI) (n + 2) (.ref 28) [.dat (.str (T l)), .dat (.int i), .dat (.str (T y))] [] Pq := by
  refine' call_def O ?hf ?hc ?hs ?ρ ?hno ?hb ?_
  case hf => exact rfl
  case hc => kernel_rfl
  case hs => kernel_rfl
  case ρ => exact [some (.dat (.str (T l))), some (.dat (.int i)), some (.dat (.str (T y))), none]
  case hno => exact rfl
  case hb =>
    rintro X s vs kvs I ⟨v1, _, rfl, r1, v2, _, rfl, r2, v3, _, rfl, r3, rfl⟩ rk
    have e : kvs = [] := rk
    subst e
    refine ⟨_, BindsTo.of_eq rfl, rfl, ⟨⟨_, rfl, r1⟩, .inl rfl⟩, ⟨⟨_, rfl, r2⟩, .inl rfl⟩, ⟨⟨_, rfl, r3⟩, .inl rfl⟩, trivial⟩
  refine ex_cons (ex_while ?_)
  generalize hk : l.length - i = k
  induction k generalizing i with
  | zero =>
    refine WhileL.turn (tst_and (tst_cmp rfl (ev_nm rfl rfl rfl (call_b O boot_len rfl rfl rfl (by kernel_rfl) keeps_builtin (by decide) rfl (evl_cons rfl (ev_nm rfl rfl rfl (evl_nil (c_len_s (by rw [T_length]; exact hx) (i_lt (tru_bool ?_)))))))))) 
    rw [if_neg (by rw [T_length]; simp; omega)]
    rw [if_neg (by simp)]
    refine ex_nil (ex_cons (ex_return (ev_nm rfl rfl rfl ?_)))
    have e : bh y l i = i := by unfold bh; rw [List.drop_eq_nil_of_le (Nat.le_of_sub_eq_zero hk)]; rfl
    rw [e] at h
    exact h
  | succ k ih =>
    have lt : i < l.length := by omega
    obtain ⟨ch, hch⟩ : ∃ ch, l[i]? = some ch := ⟨_, List.getElem?_eq_getElem lt⟩
    have hd : l.drop i = ch :: l.drop (i + 1) := by
      rw [List.drop_eq_getElem_cons lt]; congr 1; rw [List.getElem?_eq_getElem lt] at hch; exact Option.some.inj hch
    refine WhileL.turn (tst_and (tst_cmp rfl (ev_nm rfl rfl rfl (call_b O boot_len rfl rfl rfl (by kernel_rfl) keeps_builtin (by decide) rfl (evl_cons rfl (ev_nm rfl rfl rfl (evl_nil (c_len_s (by rw [T_length]; exact hx) (i_lt (tru_bool ?_)))))))))) 
    rw [if_pos (by rw [T_length]; simp; omega)]
    refine tst_and (tst_cmp rfl (ev_item rfl (ev_nm rfl rfl rfl (ev_nm rfl rfl rfl (item_T hx hch (ev_nm rfl rfl rfl (s_in1 (tru_bool ?_))))))))
    cases hc : y.contains ch with
    | true =>
      rw [if_pos rfl]
      refine tst_and_nil ?_
      rw [if_pos rfl]
      refine ex_cons (ex_aug rfl 1 rfl rfl rfl (ev_int (ip_add (ex_nil ?_))))
      refine ih (i := i + 1) ?_ (by omega)
      have e : bh y l (i + 1) = bh y l i := by unfold bh; rw [hd, List.takeWhile_cons, hc]; simp; omega
      rw [e]; exact h
    | false =>
      rw [if_neg (by simp), if_neg (by simp)]
      refine ex_nil (ex_cons (ex_return (ev_nm rfl rfl rfl ?_)))
      have e : bh y l i = i := by unfold bh; rw [hd, List.takeWhile_cons, hc]; rfl
      rw [e] at h
      exact h
end
end Mine
end
section
set_option maxHeartbeats 0
namespace Mine
open PySem PySem.W PySem.Calls PyProof.Rows Builtin
section
variable {w : World} {h₁ : Heap} {os₁ : OsState} {GI : Array GenState → Drawn → Prop}
theorem gl_digits : nsIn (cx w h₁ os₁ GI).K mainGlobals "_DIGITS" = some (some (.str (T DG) 196)) := by kernel_rfl
theorem gl_signs : nsIn (cx w h₁ os₁ GI).K mainGlobals "_SIGNS" = some (some (.str (T SG) 198)) := by kernel_rfl
theorem nm_digits (O : (cx w h₁ os₁ GI).Ok) {n : Nat} {fc : FC} {ρ : Rho} {Pq : D → Prop} {pos : Pos} {i : Nat} (e : placeIn "_DIGITS" fc.scope.names 0 = some i) (hk : fc.scope.names[i]? = some ((Str.ofString "_DIGITS"), NameKind.globalImplicit)) (h : Pq (.str (T DG))) : Ev (cx w h₁ os₁ GI) n fc ρ (.Name "_DIGITS" pos) Pq := ev_gT O e hk gl_digits rfl rfl h
theorem nm_signs (O : (cx w h₁ os₁ GI).Ok) {n : Nat} {fc : FC} {ρ : Rho} {Pq : D → Prop} {pos : Pos} {i : Nat} (e : placeIn "_SIGNS" fc.scope.names 0 = some i) (hk : fc.scope.names[i]? = some ((Str.ofString "_SIGNS"), NameKind.globalImplicit)) (h : Pq (.str (T SG))) : Ev (cx w h₁ os₁ GI) n fc ρ (.Name "_SIGNS" pos) Pq := ev_gT O e hk gl_signs rfl rfl h
theorem gl_behind : nsIn (cx w h₁ os₁ GI).K mainGlobals "_behind" = some (some (.ref 28)) := by kernel_rfl
theorem gk_behind : keepIn (cx w h₁ os₁ GI).K (.ref 28) = true := by kernel_rfl
theorem nm_behind (O : (cx w h₁ os₁ GI).Ok) {n : Nat} {fc : FC} {ρ : Rho} {Pq : D → Prop} {pos : Pos} {i : Nat} (e : placeIn "_behind" fc.scope.names 0 = some i) (hk : fc.scope.names[i]? = some ((Str.ofString "_behind"), NameKind.globalImplicit)) (h : Pq (.raw (.ref 28))) : Ev (cx w h₁ os₁ GI) n fc ρ (.Name "_behind" pos) Pq := ev_gn O e hk gl_behind rfl (d := .raw (.ref 28)) (fun _ _ _ _ => rfl) h
theorem cl_behind (O : (cx w h₁ os₁ GI).Ok) {n : Nat} {fc : FC} {ρ : Rho} {Pq : D → Prop} {p pos : Pos} {args : List Expr} {i : Nat} (hs : noStar args = true) (e : placeIn "_behind" fc.scope.names 0 = some i) (hk : fc.scope.names[i]? = some ((Str.ofString "_behind"), NameKind.globalImplicit)) (h : EvL (cx w h₁ os₁ GI) n fc ρ args (fun ds => CallK (cx w h₁ os₁ GI) n (.ref 28) (ds.map .dat) [] Pq)) : Ev (cx w h₁ os₁ GI) n fc ρ (.Call (.Name "_behind" p) args [] pos) Pq := call_g O hs e hk gl_behind gk_behind rfl h
theorem gl_groups : nsIn (cx w h₁ os₁ GI).K mainGlobals "_version_groups" = some (some (.ref 42)) := by kernel_rfl
theorem gk_groups : keepIn (cx w h₁ os₁ GI).K (.ref 42) = true := by kernel_rfl
theorem nm_groups (O : (cx w h₁ os₁ GI).Ok) {n : Nat} {fc : FC} {ρ : Rho} {Pq : D → Prop} {pos : Pos} {i : Nat} (e : placeIn "_version_groups" fc.scope.names 0 = some i) (hk : fc.scope.names[i]? = some ((Str.ofString "_version_groups"), NameKind.globalImplicit)) (h : Pq (.raw (.ref 42))) : Ev (cx w h₁ os₁ GI) n fc ρ (.Name "_version_groups" pos) Pq := ev_gn O e hk gl_groups rfl (d := .raw (.ref 42)) (fun _ _ _ _ => rfl) h
theorem cl_groups (O : (cx w h₁ os₁ GI).Ok) {n : Nat} {fc : FC} {ρ : Rho} {Pq : D → Prop} {p pos : Pos} {args : List Expr} {i : Nat} (hs : noStar args = true) (e : placeIn "_version_groups" fc.scope.names 0 = some i) (hk : fc.scope.names[i]? = some ((Str.ofString "_version_groups"), NameKind.globalImplicit)) (h : EvL (cx w h₁ os₁ GI) n fc ρ args (fun ds => CallK (cx w h₁ os₁ GI) n (.ref 42) (ds.map .dat) [] Pq)) : Ev (cx w h₁ os₁ GI) n fc ρ (.Call (.Name "_version_groups" p) args [] pos) Pq := call_g O hs e hk gl_groups gk_groups rfl h
theorem gl_hlz : nsIn (cx w h₁ os₁ GI).K mainGlobals "_has_leading_zero" = some (some (.ref 49)) := by kernel_rfl
theorem gk_hlz : keepIn (cx w h₁ os₁ GI).K (.ref 49) = true := by kernel_rfl
theorem nm_hlz (O : (cx w h₁ os₁ GI).Ok) {n : Nat} {fc : FC} {ρ : Rho} {Pq : D → Prop} {pos : Pos} {i : Nat} (e : placeIn "_has_leading_zero" fc.scope.names 0 = some i) (hk : fc.scope.names[i]? = some ((Str.ofString "_has_leading_zero"), NameKind.globalImplicit)) (h : Pq (.raw (.ref 49))) : Ev (cx w h₁ os₁ GI) n fc ρ (.Name "_has_leading_zero" pos) Pq := ev_gn O e hk gl_hlz rfl (d := .raw (.ref 49)) (fun _ _ _ _ => rfl) h
theorem cl_hlz (O : (cx w h₁ os₁ GI).Ok) {n : Nat} {fc : FC} {ρ : Rho} {Pq : D → Prop} {p pos : Pos} {args : List Expr} {i : Nat} (hs : noStar args = true) (e : placeIn "_has_leading_zero" fc.scope.names 0 = some i) (hk : fc.scope.names[i]? = some ((Str.ofString "_has_leading_zero"), NameKind.globalImplicit)) (h : EvL (cx w h₁ os₁ GI) n fc ρ args (fun ds => CallK (cx w h₁ os₁ GI) n (.ref 49) (ds.map .dat) [] Pq)) : Ev (cx w h₁ os₁ GI) n fc ρ (.Call (.Name "_has_leading_zero" p) args [] pos) Pq := call_g O hs e hk gl_hlz gk_hlz rfl h
theorem gl_max : nsIn (cx w h₁ os₁ GI).K mainGlobals "MaxIdentifier" = some (some (.ref 94)) := by kernel_rfl
theorem gk_max : keepIn (cx w h₁ os₁ GI).K (.ref 94) = true := by kernel_rfl
theorem nm_max (O : (cx w h₁ os₁ GI).Ok) {n : Nat} {fc : FC} {ρ : Rho} {Pq : D → Prop} {pos : Pos} {i : Nat} (e : placeIn "MaxIdentifier" fc.scope.names 0 = some i) (hk : fc.scope.names[i]? = some ((Str.ofString "MaxIdentifier"), NameKind.globalImplicit)) (h : Pq (.raw (.ref 94))) : Ev (cx w h₁ os₁ GI) n fc ρ (.Name "MaxIdentifier" pos) Pq := ev_gn O e hk gl_max rfl (d := .raw (.ref 94)) (fun _ _ _ _ => rfl) h
theorem cl_max (O : (cx w h₁ os₁ GI).Ok) {n : Nat} {fc : FC} {ρ : Rho} {Pq : D → Prop} {p pos : Pos} {args : List Expr} {i : Nat} (hs : noStar args = true) (e : placeIn "MaxIdentifier" fc.scope.names 0 = some i) (hk : fc.scope.names[i]? = some ((Str.ofString "MaxIdentifier"), NameKind.globalImplicit)) (h : EvL (cx w h₁ os₁ GI) n fc ρ args (fun ds => CallK (cx w h₁ os₁ GI) n (.ref 94) (ds.map .dat) [] Pq)) : Ev (cx w h₁ os₁ GI) n fc ρ (.Call (.Name "MaxIdentifier" p) args [] pos) Pq := call_g O hs e hk gl_max gk_max rfl h
theorem gl_num : nsIn (cx w h₁ os₁ GI).K mainGlobals "NumericIdentifier" = some (some (.ref 150)) := by kernel_rfl
theorem gk_num : keepIn (cx w h₁ os₁ GI).K (.ref 150) = true := by kernel_rfl
theorem nm_num (O : (cx w h₁ os₁ GI).Ok) {n : Nat} {fc : FC} {ρ : Rho} {Pq : D → Prop} {pos : Pos} {i : Nat} (e : placeIn "NumericIdentifier" fc.scope.names 0 = some i) (hk : fc.scope.names[i]? = some ((Str.ofString "NumericIdentifier"), NameKind.globalImplicit)) (h : Pq (.raw (.ref 150))) : Ev (cx w h₁ os₁ GI) n fc ρ (.Name "NumericIdentifier" pos) Pq := ev_gn O e hk gl_num rfl (d := .raw (.ref 150)) (fun _ _ _ _ => rfl) h
theorem cl_num (O : (cx w h₁ os₁ GI).Ok) {n : Nat} {fc : FC} {ρ : Rho} {Pq : D → Prop} {p pos : Pos} {args : List Expr} {i : Nat} (hs : noStar args = true) (e : placeIn "NumericIdentifier" fc.scope.names 0 = some i) (hk : fc.scope.names[i]? = some ((Str.ofString "NumericIdentifier"), NameKind.globalImplicit)) (h : EvL (cx w h₁ os₁ GI) n fc ρ args (fun ds => CallK (cx w h₁ os₁ GI) n (.ref 150) (ds.map .dat) [] Pq)) : Ev (cx w h₁ os₁ GI) n fc ρ (.Call (.Name "NumericIdentifier" p) args [] pos) Pq := call_g O hs e hk gl_num gk_num rfl h
theorem gl_alpha : nsIn (cx w h₁ os₁ GI).K mainGlobals "AlphaIdentifier" = some (some (.ref 206)) := by kernel_rfl
theorem gk_alpha : keepIn (cx w h₁ os₁ GI).K (.ref 206) = true := by kernel_rfl
theorem nm_alpha (O : (cx w h₁ os₁ GI).Ok) {n : Nat} {fc : FC} {ρ : Rho} {Pq : D → Prop} {pos : Pos} {i : Nat} (e : placeIn "AlphaIdentifier" fc.scope.names 0 = some i) (hk : fc.scope.names[i]? = some ((Str.ofString "AlphaIdentifier"), NameKind.globalImplicit)) (h : Pq (.raw (.ref 206))) : Ev (cx w h₁ os₁ GI) n fc ρ (.Name "AlphaIdentifier" pos) Pq := ev_gn O e hk gl_alpha rfl (d := .raw (.ref 206)) (fun _ _ _ _ => rfl) h
theorem cl_alpha (O : (cx w h₁ os₁ GI).Ok) {n : Nat} {fc : FC} {ρ : Rho} {Pq : D → Prop} {p pos : Pos} {args : List Expr} {i : Nat} (hs : noStar args = true) (e : placeIn "AlphaIdentifier" fc.scope.names 0 = some i) (hk : fc.scope.names[i]? = some ((Str.ofString "AlphaIdentifier"), NameKind.globalImplicit)) (h : EvL (cx w h₁ os₁ GI) n fc ρ args (fun ds => CallK (cx w h₁ os₁ GI) n (.ref 206) (ds.map .dat) [] Pq)) : Ev (cx w h₁ os₁ GI) n fc ρ (.Call (.Name "AlphaIdentifier" p) args [] pos) Pq := call_g O hs e hk gl_alpha gk_alpha rfl h
theorem gl_ver : nsIn (cx w h₁ os₁ GI).K mainGlobals "Version" = some (some (.ref 388)) := by kernel_rfl
theorem gk_ver : keepIn (cx w h₁ os₁ GI).K (.ref 388) = true := by kernel_rfl
theorem nm_ver (O : (cx w h₁ os₁ GI).Ok) {n : Nat} {fc : FC} {ρ : Rho} {Pq : D → Prop} {pos : Pos} {i : Nat} (e : placeIn "Version" fc.scope.names 0 = some i) (hk : fc.scope.names[i]? = some ((Str.ofString "Version"), NameKind.globalImplicit)) (h : Pq (.raw (.ref 388))) : Ev (cx w h₁ os₁ GI) n fc ρ (.Name "Version" pos) Pq := ev_gn O e hk gl_ver rfl (d := .raw (.ref 388)) (fun _ _ _ _ => rfl) h
theorem cl_ver (O : (cx w h₁ os₁ GI).Ok) {n : Nat} {fc : FC} {ρ : Rho} {Pq : D → Prop} {p pos : Pos} {args : List Expr} {i : Nat} (hs : noStar args = true) (e : placeIn "Version" fc.scope.names 0 = some i) (hk : fc.scope.names[i]? = some ((Str.ofString "Version"), NameKind.globalImplicit)) (h : EvL (cx w h₁ os₁ GI) n fc ρ args (fun ds => CallK (cx w h₁ os₁ GI) n (.ref 388) (ds.map .dat) [] Pq)) : Ev (cx w h₁ os₁ GI) n fc ρ (.Call (.Name "Version" p) args [] pos) Pq := call_g O hs e hk gl_ver gk_ver rfl h
theorem ck_ver (O : (cx w h₁ os₁ GI).Ok) {n : Nat} {fc : FC} {ρ : Rho} {Pq : D → Prop} {p pos : Pos} {args : List Expr} {kws : List Keyword} {i : Nat} (hs : noStar args = true) (hkw : (kwNames kws).isSome = true) (e : placeIn "Version" fc.scope.names 0 = some i) (hk : fc.scope.names[i]? = some ((Str.ofString "Version"), NameKind.globalImplicit)) (h : EvL (cx w h₁ os₁ GI) n fc ρ args (fun ds => EvK (cx w h₁ os₁ GI) n fc ρ kws (fun ks => CallK (cx w h₁ os₁ GI) n (.ref 388) (ds.map .dat) ks Pq))) : Ev (cx w h₁ os₁ GI) n fc ρ (.Call (.Name "Version" p) args kws pos) Pq := call_gk O hs hkw e hk gl_ver gk_ver rfl h
theorem gl_lcut : nsIn (cx w h₁ os₁ GI).K mainGlobals "_law_cut" = some (some (.ref 400)) := by kernel_rfl
theorem gk_lcut : keepIn (cx w h₁ os₁ GI).K (.ref 400) = true := by kernel_rfl
theorem nm_lcut (O : (cx w h₁ os₁ GI).Ok) {n : Nat} {fc : FC} {ρ : Rho} {Pq : D → Prop} {pos : Pos} {i : Nat} (e : placeIn "_law_cut" fc.scope.names 0 = some i) (hk : fc.scope.names[i]? = some ((Str.ofString "_law_cut"), NameKind.globalImplicit)) (h : Pq (.raw (.ref 400))) : Ev (cx w h₁ os₁ GI) n fc ρ (.Name "_law_cut" pos) Pq := ev_gn O e hk gl_lcut rfl (d := .raw (.ref 400)) (fun _ _ _ _ => rfl) h
theorem cl_lcut (O : (cx w h₁ os₁ GI).Ok) {n : Nat} {fc : FC} {ρ : Rho} {Pq : D → Prop} {p pos : Pos} {args : List Expr} {i : Nat} (hs : noStar args = true) (e : placeIn "_law_cut" fc.scope.names 0 = some i) (hk : fc.scope.names[i]? = some ((Str.ofString "_law_cut"), NameKind.globalImplicit)) (h : EvL (cx w h₁ os₁ GI) n fc ρ args (fun ds => CallK (cx w h₁ os₁ GI) n (.ref 400) (ds.map .dat) [] Pq)) : Ev (cx w h₁ os₁ GI) n fc ρ (.Call (.Name "_law_cut" p) args [] pos) Pq := call_g O hs e hk gl_lcut gk_lcut rfl h
theorem gl_ltext : nsIn (cx w h₁ os₁ GI).K mainGlobals "_law_text" = some (some (.ref 405)) := by kernel_rfl
theorem gk_ltext : keepIn (cx w h₁ os₁ GI).K (.ref 405) = true := by kernel_rfl
theorem nm_ltext (O : (cx w h₁ os₁ GI).Ok) {n : Nat} {fc : FC} {ρ : Rho} {Pq : D → Prop} {pos : Pos} {i : Nat} (e : placeIn "_law_text" fc.scope.names 0 = some i) (hk : fc.scope.names[i]? = some ((Str.ofString "_law_text"), NameKind.globalImplicit)) (h : Pq (.raw (.ref 405))) : Ev (cx w h₁ os₁ GI) n fc ρ (.Name "_law_text" pos) Pq := ev_gn O e hk gl_ltext rfl (d := .raw (.ref 405)) (fun _ _ _ _ => rfl) h
theorem cl_ltext (O : (cx w h₁ os₁ GI).Ok) {n : Nat} {fc : FC} {ρ : Rho} {Pq : D → Prop} {p pos : Pos} {args : List Expr} {i : Nat} (hs : noStar args = true) (e : placeIn "_law_text" fc.scope.names 0 = some i) (hk : fc.scope.names[i]? = some ((Str.ofString "_law_text"), NameKind.globalImplicit)) (h : EvL (cx w h₁ os₁ GI) n fc ρ args (fun ds => CallK (cx w h₁ os₁ GI) n (.ref 405) (ds.map .dat) [] Pq)) : Ev (cx w h₁ os₁ GI) n fc ρ (.Call (.Name "_law_text" p) args [] pos) Pq := call_g O hs e hk gl_ltext gk_ltext rfl h
theorem gl_lkey : nsIn (cx w h₁ os₁ GI).K mainGlobals "_law_key" = some (some (.ref 410)) := by kernel_rfl
theorem gk_lkey : keepIn (cx w h₁ os₁ GI).K (.ref 410) = true := by kernel_rfl
theorem nm_lkey (O : (cx w h₁ os₁ GI).Ok) {n : Nat} {fc : FC} {ρ : Rho} {Pq : D → Prop} {pos : Pos} {i : Nat} (e : placeIn "_law_key" fc.scope.names 0 = some i) (hk : fc.scope.names[i]? = some ((Str.ofString "_law_key"), NameKind.globalImplicit)) (h : Pq (.raw (.ref 410))) : Ev (cx w h₁ os₁ GI) n fc ρ (.Name "_law_key" pos) Pq := ev_gn O e hk gl_lkey rfl (d := .raw (.ref 410)) (fun _ _ _ _ => rfl) h
theorem cl_lkey (O : (cx w h₁ os₁ GI).Ok) {n : Nat} {fc : FC} {ρ : Rho} {Pq : D → Prop} {p pos : Pos} {args : List Expr} {i : Nat} (hs : noStar args = true) (e : placeIn "_law_key" fc.scope.names 0 = some i) (hk : fc.scope.names[i]? = some ((Str.ofString "_law_key"), NameKind.globalImplicit)) (h : EvL (cx w h₁ os₁ GI) n fc ρ args (fun ds => CallK (cx w h₁ os₁ GI) n (.ref 410) (ds.map .dat) [] Pq)) : Ev (cx w h₁ os₁ GI) n fc ρ (.Call (.Name "_law_key" p) args [] pos) Pq := call_g O hs e hk gl_lkey gk_lkey rfl h
theorem gb_len : nsIn (cx w h₁ os₁ GI).K mainGlobals "len" = some none := by kernel_rfl
theorem bl_len (O : (cx w h₁ os₁ GI).Ok) {n : Nat} {fc : FC} {ρ : Rho} {Pq : D → Prop} {p pos : Pos} {args : List Expr} {i : Nat} (hs : noStar args = true) (e : placeIn "len" fc.scope.names 0 = some i) (hk : fc.scope.names[i]? = some ((Str.ofString "len"), NameKind.globalImplicit)) (h : EvL (cx w h₁ os₁ GI) n fc ρ args (fun ds => CallV (cx w h₁ os₁ GI) n (.builtin "len") (ds.map .dat) [] Pq)) : Ev (cx w h₁ os₁ GI) n fc ρ (.Call (.Name "len" p) args [] pos) Pq := call_bf O boot_len hs e hk gb_len (by decide) rfl h
theorem gb_int : nsIn (cx w h₁ os₁ GI).K mainGlobals "int" = some none := by kernel_rfl
theorem bl_int (O : (cx w h₁ os₁ GI).Ok) {n : Nat} {fc : FC} {ρ : Rho} {Pq : D → Prop} {p pos : Pos} {args : List Expr} {i : Nat} (hs : noStar args = true) (e : placeIn "int" fc.scope.names 0 = some i) (hk : fc.scope.names[i]? = some ((Str.ofString "int"), NameKind.globalImplicit)) (h : EvL (cx w h₁ os₁ GI) n fc ρ args (fun ds => CallV (cx w h₁ os₁ GI) n (.type "int") (ds.map .dat) [] Pq)) : Ev (cx w h₁ os₁ GI) n fc ρ (.Call (.Name "int" p) args [] pos) Pq := call_bt O boot_int hs e hk gb_int (by decide) rfl h
theorem gb_str : nsIn (cx w h₁ os₁ GI).K mainGlobals "str" = some none := by kernel_rfl
theorem bl_str (O : (cx w h₁ os₁ GI).Ok) {n : Nat} {fc : FC} {ρ : Rho} {Pq : D → Prop} {p pos : Pos} {args : List Expr} {i : Nat} (hs : noStar args = true) (e : placeIn "str" fc.scope.names 0 = some i) (hk : fc.scope.names[i]? = some ((Str.ofString "str"), NameKind.globalImplicit)) (h : EvL (cx w h₁ os₁ GI) n fc ρ args (fun ds => CallV (cx w h₁ os₁ GI) n (.type "str") (ds.map .dat) [] Pq)) : Ev (cx w h₁ os₁ GI) n fc ρ (.Call (.Name "str" p) args [] pos) Pq := call_bt O boot_str hs e hk gb_str (by decide) rfl h
theorem gb_abs : nsIn (cx w h₁ os₁ GI).K mainGlobals "abs" = some none := by kernel_rfl
theorem bl_abs (O : (cx w h₁ os₁ GI).Ok) {n : Nat} {fc : FC} {ρ : Rho} {Pq : D → Prop} {p pos : Pos} {args : List Expr} {i : Nat} (hs : noStar args = true) (e : placeIn "abs" fc.scope.names 0 = some i) (hk : fc.scope.names[i]? = some ((Str.ofString "abs"), NameKind.globalImplicit)) (h : EvL (cx w h₁ os₁ GI) n fc ρ args (fun ds => CallV (cx w h₁ os₁ GI) n (.builtin "abs") (ds.map .dat) [] Pq)) : Ev (cx w h₁ os₁ GI) n fc ρ (.Call (.Name "abs" p) args [] pos) Pq := call_bf O boot_abs hs e hk gb_abs (by decide) rfl h
theorem gb_max : nsIn (cx w h₁ os₁ GI).K mainGlobals "max" = some none := by kernel_rfl
theorem bl_max (O : (cx w h₁ os₁ GI).Ok) {n : Nat} {fc : FC} {ρ : Rho} {Pq : D → Prop} {p pos : Pos} {args : List Expr} {i : Nat} (hs : noStar args = true) (e : placeIn "max" fc.scope.names 0 = some i) (hk : fc.scope.names[i]? = some ((Str.ofString "max"), NameKind.globalImplicit)) (h : EvL (cx w h₁ os₁ GI) n fc ρ args (fun ds => CallV (cx w h₁ os₁ GI) n (.builtin "max") (ds.map .dat) [] Pq)) : Ev (cx w h₁ os₁ GI) n fc ρ (.Call (.Name "max" p) args [] pos) Pq := call_bf O boot_max hs e hk gb_max (by decide) rfl h
theorem gb_min : nsIn (cx w h₁ os₁ GI).K mainGlobals "min" = some none := by kernel_rfl
theorem bl_min (O : (cx w h₁ os₁ GI).Ok) {n : Nat} {fc : FC} {ρ : Rho} {Pq : D → Prop} {p pos : Pos} {args : List Expr} {i : Nat} (hs : noStar args = true) (e : placeIn "min" fc.scope.names 0 = some i) (hk : fc.scope.names[i]? = some ((Str.ofString "min"), NameKind.globalImplicit)) (h : EvL (cx w h₁ os₁ GI) n fc ρ args (fun ds => CallV (cx w h₁ os₁ GI) n (.builtin "min") (ds.map .dat) [] Pq)) : Ev (cx w h₁ os₁ GI) n fc ρ (.Call (.Name "min" p) args [] pos) Pq := call_bf O boot_min hs e hk gb_min (by decide) rfl h
theorem gb_range : nsIn (cx w h₁ os₁ GI).K mainGlobals "range" = some none := by kernel_rfl
theorem bl_range (O : (cx w h₁ os₁ GI).Ok) {n : Nat} {fc : FC} {ρ : Rho} {Pq : D → Prop} {p pos : Pos} {args : List Expr} {i : Nat} (hs : noStar args = true) (e : placeIn "range" fc.scope.names 0 = some i) (hk : fc.scope.names[i]? = some ((Str.ofString "range"), NameKind.globalImplicit)) (h : EvL (cx w h₁ os₁ GI) n fc ρ args (fun ds => CallV (cx w h₁ os₁ GI) n (.type "range") (ds.map .dat) [] Pq)) : Ev (cx w h₁ os₁ GI) n fc ρ (.Call (.Name "range" p) args [] pos) Pq := call_bt O boot_range hs e hk gb_range (by decide) rfl h
theorem gb_tuple : nsIn (cx w h₁ os₁ GI).K mainGlobals "tuple" = some none := by kernel_rfl
theorem bl_tuple (O : (cx w h₁ os₁ GI).Ok) {n : Nat} {fc : FC} {ρ : Rho} {Pq : D → Prop} {p pos : Pos} {args : List Expr} {i : Nat} (hs : noStar args = true) (e : placeIn "tuple" fc.scope.names 0 = some i) (hk : fc.scope.names[i]? = some ((Str.ofString "tuple"), NameKind.globalImplicit)) (h : EvL (cx w h₁ os₁ GI) n fc ρ args (fun ds => CallV (cx w h₁ os₁ GI) n (.type "tuple") (ds.map .dat) [] Pq)) : Ev (cx w h₁ os₁ GI) n fc ρ (.Call (.Name "tuple" p) args [] pos) Pq := call_bt O boot_tuple hs e hk gb_tuple (by decide) rfl h
theorem gb_list : nsIn (cx w h₁ os₁ GI).K mainGlobals "list" = some none := by kernel_rfl
theorem bl_list (O : (cx w h₁ os₁ GI).Ok) {n : Nat} {fc : FC} {ρ : Rho} {Pq : D → Prop} {p pos : Pos} {args : List Expr} {i : Nat} (hs : noStar args = true) (e : placeIn "list" fc.scope.names 0 = some i) (hk : fc.scope.names[i]? = some ((Str.ofString "list"), NameKind.globalImplicit)) (h : EvL (cx w h₁ os₁ GI) n fc ρ args (fun ds => CallV (cx w h₁ os₁ GI) n (.type "list") (ds.map .dat) [] Pq)) : Ev (cx w h₁ os₁ GI) n fc ρ (.Call (.Name "list" p) args [] pos) Pq := call_bt O boot_list hs e hk gb_list (by decide) rfl h
theorem gb_isinstance : nsIn (cx w h₁ os₁ GI).K mainGlobals "isinstance" = some none := by kernel_rfl
theorem bl_isinstance (O : (cx w h₁ os₁ GI).Ok) {n : Nat} {fc : FC} {ρ : Rho} {Pq : D → Prop} {p pos : Pos} {args : List Expr} {i : Nat} (hs : noStar args = true) (e : placeIn "isinstance" fc.scope.names 0 = some i) (hk : fc.scope.names[i]? = some ((Str.ofString "isinstance"), NameKind.globalImplicit)) (h : EvL (cx w h₁ os₁ GI) n fc ρ args (fun ds => CallV (cx w h₁ os₁ GI) n (.builtin "isinstance") (ds.map .dat) [] Pq)) : Ev (cx w h₁ os₁ GI) n fc ρ (.Call (.Name "isinstance" p) args [] pos) Pq := call_bf O boot_isinstance hs e hk gb_isinstance (by decide) rfl h
theorem at_major : attrIn (cx w h₁ os₁ GI).K 388 "major" = true := by kernel_rfl
theorem at_minor : attrIn (cx w h₁ os₁ GI).K 388 "minor" = true := by kernel_rfl
theorem at_patch : attrIn (cx w h₁ os₁ GI).K 388 "patch" = true := by kernel_rfl
theorem at_pre : attrIn (cx w h₁ os₁ GI).K 388 "prerelease" = true := by kernel_rfl
theorem at_build : attrIn (cx w h₁ os₁ GI).K 388 "build" = true := by kernel_rfl
theorem at_partial : attrIn (cx w h₁ os₁ GI).K 388 "partial" = true := by kernel_rfl
theorem at_cmpk : attrIn (cx w h₁ os₁ GI).K 388 "_cmp_precedence_key" = true := by kernel_rfl
theorem boot_ni : bootBuiltins "NotImplemented" = some .notImplemented := by kernel_rfl
theorem gb_ni : nsIn (cx w h₁ os₁ GI).K mainGlobals "NotImplemented" = some none := by kernel_rfl
theorem nm_ni (O : (cx w h₁ os₁ GI).Ok) {n : Nat} {fc : FC} {ρ : Rho} {Pq : D → Prop} {pos : Pos} {i : Nat} (e : placeIn "NotImplemented" fc.scope.names 0 = some i) (hk : fc.scope.names[i]? = some ((Str.ofString "NotImplemented"), NameKind.globalImplicit)) (h : Pq (.raw .notImplemented)) : Ev (cx w h₁ os₁ GI) n fc ρ (.Name "NotImplemented" pos) Pq := ev_bn O e hk gb_ni boot_ni (by decide) rfl h
theorem behind_z (O : (cx w h₁ os₁ GI).Ok) {n : Nat} {l y : List Nat} (i : Nat) {z : Int} (hz : z = (i : Int)) (hx : l.length ≤ sizeLine) {Pq : D → Prop} (h : Pq (.int (bh y l i))) :
    CallK (cx w h₁ os₁ GI) (n + 2) (.ref 28) [.dat (.str (T l)), .dat (.int z), .dat (.str (T y))] [] Pq := by subst hz; exact behind O hx h
end
end Mine
end
section
set_option maxHeartbeats 0
namespace Mine
open PySem PySem.W PySem.Calls PyProof.Rows Builtin
section
variable {w : World} {h₁ : Heap} {os₁ : OsState} {GI : Array GenState → Drawn → Prop}
local macro_rules
  | `(tactic| kd_subs) => `(tactic| first
    | ((with_reducible show Ev _ _ _ _ _ _); first
      | ((with_reducible show Ev _ _ _ _ (Expr.Name _ _) _); first
        | ((with_reducible show Ev _ _ _ _ (Expr.Name (Str.ofString "_DIGITS") _) _); refine nm_digits (by assumption) rfl rfl ?_)
        | ((with_reducible show Ev _ _ _ _ (Expr.Name (Str.ofString "_SIGNS") _) _); refine nm_signs (by assumption) rfl rfl ?_)
        | ((with_reducible show Ev _ _ _ _ (Expr.Name (Str.ofString "Version") _) _); refine nm_ver (by assumption) rfl rfl ?_)
        | ((with_reducible show Ev _ _ _ _ (Expr.Name (Str.ofString "MaxIdentifier") _) _); refine nm_max (by assumption) rfl rfl ?_)
        | ((with_reducible show Ev _ _ _ _ (Expr.Name (Str.ofString "NumericIdentifier") _) _); refine nm_num (by assumption) rfl rfl ?_)
        | ((with_reducible show Ev _ _ _ _ (Expr.Name (Str.ofString "AlphaIdentifier") _) _); refine nm_alpha (by assumption) rfl rfl ?_)
        | ((with_reducible show Ev _ _ _ _ (Expr.Name (Str.ofString "NotImplemented") _) _); refine nm_ni (by assumption) rfl rfl ?_)
        | refine ev_nm rfl rfl rfl ?_)
      | ((with_reducible show Ev _ _ _ _ (Expr.Constant _ _ _) _); first
        | ((with_reducible show Ev _ _ _ _ (Expr.Constant (Const.int _) _ _) _); refine ev_int ?_)
        | ((with_reducible show Ev _ _ _ _ (Expr.Constant Const.none _ _) _); refine ev_none ?_)
        | ((with_reducible show Ev _ _ _ _ (Expr.Constant (Const.bool _) _ _) _); refine ev_bool ?_)
        | ((with_reducible show Ev _ _ _ _ (Expr.Constant (Const.str (Str.ofString ".")) _ _) _); refine ev_strT lit_dot ?_)
        | ((with_reducible show Ev _ _ _ _ (Expr.Constant (Const.str (Str.ofString "-")) _ _) _); refine ev_strT lit_dash ?_)
        | ((with_reducible show Ev _ _ _ _ (Expr.Constant (Const.str (Str.ofString "+")) _ _) _); refine ev_strT lit_plus ?_)
        | ((with_reducible show Ev _ _ _ _ (Expr.Constant (Const.str (Str.ofString "\n")) _ _) _); refine ev_strT lit_nl ?_)
        | ((with_reducible show Ev _ _ _ _ (Expr.Constant (Const.str (Str.ofString "")) _ _) _); refine ev_strT lit_empty ?_)
        | ((with_reducible show Ev _ _ _ _ (Expr.Constant (Const.str (Str.ofString "0")) _ _) _); refine ev_strT lit_zero ?_))
      | ((with_reducible show Ev _ _ _ _ (Expr.Call (Expr.Name _ _) _ _ _) _); first
        | ((with_reducible show Ev _ _ _ _ (Expr.Call (Expr.Name (Str.ofString "len") _) _ [] _) _); refine bl_len (by assumption) rfl rfl rfl ?_)
        | ((with_reducible show Ev _ _ _ _ (Expr.Call (Expr.Name (Str.ofString "int") _) _ [] _) _); refine bl_int (by assumption) rfl rfl rfl ?_)
        | ((with_reducible show Ev _ _ _ _ (Expr.Call (Expr.Name (Str.ofString "str") _) _ [] _) _); refine bl_str (by assumption) rfl rfl rfl ?_)
        | ((with_reducible show Ev _ _ _ _ (Expr.Call (Expr.Name (Str.ofString "abs") _) _ [] _) _); refine bl_abs (by assumption) rfl rfl rfl ?_)
        | ((with_reducible show Ev _ _ _ _ (Expr.Call (Expr.Name (Str.ofString "max") _) _ [] _) _); refine bl_max (by assumption) rfl rfl rfl ?_)
        | ((with_reducible show Ev _ _ _ _ (Expr.Call (Expr.Name (Str.ofString "min") _) _ [] _) _); refine bl_min (by assumption) rfl rfl rfl ?_)
        | ((with_reducible show Ev _ _ _ _ (Expr.Call (Expr.Name (Str.ofString "range") _) _ [] _) _); refine bl_range (by assumption) rfl rfl rfl ?_)
        | ((with_reducible show Ev _ _ _ _ (Expr.Call (Expr.Name (Str.ofString "tuple") _) _ [] _) _); (fail_if_success (with_reducible show Ev _ _ _ _ (Expr.Call _ [Expr.GeneratorExp _ _ _ _] _ _) _)); refine bl_tuple (by assumption) rfl rfl rfl ?_)
        | ((with_reducible show Ev _ _ _ _ (Expr.Call (Expr.Name (Str.ofString "list") _) _ [] _) _); refine bl_list (by assumption) rfl rfl rfl ?_)
        | ((with_reducible show Ev _ _ _ _ (Expr.Call (Expr.Name (Str.ofString "isinstance") _) _ [] _) _); refine bl_isinstance (by assumption) rfl rfl rfl ?_)
        | ((with_reducible show Ev _ _ _ _ (Expr.Call (Expr.Name (Str.ofString "_behind") _) _ [] _) _); refine cl_behind (by assumption) rfl rfl rfl ?_)
        | ((with_reducible show Ev _ _ _ _ (Expr.Call (Expr.Name (Str.ofString "_version_groups") _) _ [] _) _); refine cl_groups (by assumption) rfl rfl rfl ?_)
        | ((with_reducible show Ev _ _ _ _ (Expr.Call (Expr.Name (Str.ofString "_has_leading_zero") _) _ [] _) _); refine cl_hlz (by assumption) rfl rfl rfl ?_)
        | ((with_reducible show Ev _ _ _ _ (Expr.Call (Expr.Name (Str.ofString "MaxIdentifier") _) _ [] _) _); refine cl_max (by assumption) rfl rfl rfl ?_)
        | ((with_reducible show Ev _ _ _ _ (Expr.Call (Expr.Name (Str.ofString "NumericIdentifier") _) _ [] _) _); refine cl_num (by assumption) rfl rfl rfl ?_)
        | ((with_reducible show Ev _ _ _ _ (Expr.Call (Expr.Name (Str.ofString "AlphaIdentifier") _) _ [] _) _); refine cl_alpha (by assumption) rfl rfl rfl ?_)
        | ((with_reducible show Ev _ _ _ _ (Expr.Call (Expr.Name (Str.ofString "Version") _) _ [] _) _); refine cl_ver (by assumption) rfl rfl rfl ?_)
        | ((with_reducible show Ev _ _ _ _ (Expr.Call (Expr.Name (Str.ofString "Version") _) _ _ _) _); refine ck_ver (by assumption) rfl rfl rfl rfl ?_))
      | ((with_reducible show Ev _ _ _ _ (Expr.Compare _ _ _ _) _); refine ev_cmp rfl ?_)
      | ((with_reducible show Ev _ _ _ _ (Expr.Call (Expr.Attribute _ _ _) _ [] _) _); first
        | ((with_reducible show Ev _ _ _ _ (Expr.Call (Expr.Attribute _ (Str.ofString "isdigit") _) _ [] _) _); refine ev_methv (by assumption) (fun _ => rfl) rfl (evv_dat ?_))
        | ((with_reducible show Ev _ _ _ _ (Expr.Call (Expr.Attribute _ (Str.ofString "split") _) _ [] _) _); refine ev_methv (by assumption) (fun _ => rfl) rfl (evv_dat ?_))
        | ((with_reducible show Ev _ _ _ _ (Expr.Call (Expr.Attribute _ (Str.ofString "join") _) _ [] _) _); refine ev_methv (by assumption) (fun _ => rfl) rfl (evv_dat ?_))
        | ((with_reducible show Ev _ _ _ _ (Expr.Call (Expr.Attribute _ (Str.ofString "encode") _) _ [] _) _); refine ev_methv (by assumption) (fun _ => rfl) rfl (evv_dat ?_)))
      | ((with_reducible show Ev _ _ _ _ (Expr.Attribute (Expr.Name _ _) _ _) _); first
        | ((with_reducible show Ev _ _ _ _ (Expr.Attribute (Expr.Name _ _) (Str.ofString "major") _) _); refine ev_attr (fun _ => rfl) (evv_nm rfl rfl rfl (attr_inst (by assumption) rfl at_major rfl rfl ?_)))
        | ((with_reducible show Ev _ _ _ _ (Expr.Attribute (Expr.Name _ _) (Str.ofString "minor") _) _); refine ev_attr (fun _ => rfl) (evv_nm rfl rfl rfl (attr_inst (by assumption) rfl at_minor rfl rfl ?_)))
        | ((with_reducible show Ev _ _ _ _ (Expr.Attribute (Expr.Name _ _) (Str.ofString "patch") _) _); refine ev_attr (fun _ => rfl) (evv_nm rfl rfl rfl (attr_inst (by assumption) rfl at_patch rfl rfl ?_)))
        | ((with_reducible show Ev _ _ _ _ (Expr.Attribute (Expr.Name _ _) (Str.ofString "prerelease") _) _); refine ev_attr (fun _ => rfl) (evv_nm rfl rfl rfl (attr_inst (by assumption) rfl at_pre rfl rfl ?_)))
        | ((with_reducible show Ev _ _ _ _ (Expr.Attribute (Expr.Name _ _) (Str.ofString "build") _) _); refine ev_attr (fun _ => rfl) (evv_nm rfl rfl rfl (attr_inst (by assumption) rfl at_build rfl rfl ?_)))
        | ((with_reducible show Ev _ _ _ _ (Expr.Attribute (Expr.Name _ _) (Str.ofString "partial") _) _); refine ev_attr (fun _ => rfl) (evv_nm rfl rfl rfl (attr_inst (by assumption) rfl at_partial rfl rfl ?_)))
        | ((with_reducible show Ev _ _ _ _ (Expr.Attribute (Expr.Name _ _) (Str.ofString "_cmp_precedence_key") _) _); refine ev_attr (fun _ => rfl) (evv_nm rfl rfl rfl (attr_inst (by assumption) rfl at_cmpk rfl rfl ?_))))
      | ((with_reducible show Ev _ _ _ _ (Expr.BoolOp BoolOp.And (_ :: _ :: _) _) _); refine ev_and ?_)
      | ((with_reducible show Ev _ _ _ _ (Expr.BoolOp BoolOp.Or (_ :: _ :: _) _) _); refine ev_or ?_)
      | ((with_reducible show Ev _ _ _ _ (Expr.BoolOp _ [_] _) _); refine ev_bool1 ?_)
      | ((with_reducible show Ev _ _ _ _ (Expr.BinOp _ _ _ _) _); refine ev_bin ?_)
      | ((with_reducible show Ev _ _ _ _ (Expr.Tuple _ _ _) _); refine ev_tup ?_)
      | ((with_reducible show Ev _ _ _ _ (Expr.List _ _) _); refine ev_list ?_)
      | ((with_reducible show Ev _ _ _ _ (Expr.UnaryOp UnaryOp.Not _ _) _); refine ev_not ?_)
      | ((with_reducible show Ev _ _ _ _ (Expr.UnaryOp _ _ _) _); refine ev_un ?_)
      | ((with_reducible show Ev _ _ _ _ (Expr.Subscript _ (Expr.Slice _ _ _ _) _) _); refine ev_cut ?_)
      | ((with_reducible show Ev _ _ _ _ (Expr.Subscript _ _ _) _); refine ev_item rfl ?_))
    | ((with_reducible show MethV _ _ _ _ _); first
      | refine m_isdigit ?_
      | refine m_split ?_
      | refine m_join ?_
      | refine m_encode ?_)
    | ((with_reducible show EvK _ _ _ _ _ _); first
      | refine evk_cons rfl ?_
      | refine evk_nil ?_)
    | ((with_reducible show EvL _ _ _ _ _ _); first
      | ((with_reducible show EvL _ _ _ _ (_ :: _) _); refine evl_cons rfl ?_)
      | refine evl_nil ?_)
    | ((with_reducible show Ex _ _ _ _ _ _); first
      | ((with_reducible show Ex _ _ _ _ (_ :: _) _); (try conv => arg 4; simp only [List.set_cons_succ, List.set_cons_zero]); refine ex_cons ?_)
      | refine ex_nil ?_)
    | ((with_reducible show Ex1 _ _ _ _ _ _); first
      | ((with_reducible show Ex1 _ _ _ _ (Stmt.If _ _ _ _) _); refine ex_if ?_)
      | ((with_reducible show Ex1 _ _ _ _ (Stmt.Return (some _) _) _); refine ex_return ?_)
      | ((with_reducible show Ex1 _ _ _ _ (Stmt.Assign [Expr.Name _ _] _ _) _); refine ex_as rfl rfl rfl (fun _ => rfl) ?_))
    | ((with_reducible show Two _ _ _ _ _ _); first
      | ((with_reducible show Two _ _ (binaryOp Operator.Add) _ _ _); refine i_add ?_)
      | ((with_reducible show Two _ _ (binaryOp Operator.Sub) _ _ _); refine i_sub ?_)
      | ((with_reducible show Two _ _ (binaryOp Operator.BitXor) _ _ _); refine b_xor ?_)
      | ((with_reducible show Two _ _ (compareOp CmpOp.Lt) _ _ _); refine i_lt ?_)
      | ((with_reducible show Two _ _ (compareOp CmpOp.Gt) _ _ _); refine i_gt ?_)
      | ((with_reducible show Two _ _ (compareOp CmpOp.LtE) _ _ _); refine i_le ?_)
      | ((with_reducible show Two _ _ (compareOp CmpOp.GtE) _ _ _); refine i_ge ?_)
      | ((with_reducible show Two _ _ (compareOp CmpOp.Is) _ _ _); refine is_no ?_)
      | ((with_reducible show Two _ _ (compareOp CmpOp.IsNot) _ _ _); refine isnt_no ?_)
      | ((with_reducible show Two _ _ (compareOp CmpOp.Eq) (D.int _) _ _); refine i_eq ?_)
      | ((with_reducible show Two _ _ (compareOp CmpOp.Eq) (D.str (T _)) _ _); refine s_eqT ?_)
      | ((with_reducible show Two _ _ (compareOp CmpOp.NotEq) (D.int _) _ _); refine i_ne ?_)
      | ((with_reducible show Two _ _ (compareOp CmpOp.NotEq) (D.str (T _)) _ _); refine s_neT ?_))
    | ((with_reducible show Tst _ _ _ _ _ _); first
      | ((with_reducible show Tst _ _ _ _ (Expr.Compare _ _ _ _) _); refine tst_cmp rfl ?_)
      | ((with_reducible show Tst _ _ _ _ (Expr.Name _ _) _); refine tst_of (fun _ _ => rfl) ?_)
      | ((with_reducible show Tst _ _ _ _ (Expr.Call _ _ _ _) _); refine tst_of (fun _ _ => rfl) ?_)
      | ((with_reducible show Tst _ _ _ _ (Expr.Attribute _ _ _) _); refine tst_of (fun _ _ => rfl) ?_)
      | ((with_reducible show Tst _ _ _ _ (Expr.BinOp _ _ _ _) _); refine tst_of (fun _ _ => rfl) ?_)
      | ((with_reducible show Tst _ _ _ _ (Expr.Subscript _ _ _) _); refine tst_of (fun _ _ => rfl) ?_)
      | ((with_reducible show Tst _ _ _ _ (Expr.BoolOp BoolOp.And [] _) _); refine tst_and_nil ?_)
      | ((with_reducible show Tst _ _ _ _ (Expr.BoolOp BoolOp.Or [] _) _); refine tst_or_nil ?_)
      | ((with_reducible show Tst _ _ _ _ (Expr.UnaryOp UnaryOp.Not _ _) _); refine tst_not ?_)
      | ((with_reducible show Tst _ _ _ _ (Expr.BoolOp BoolOp.And (_ :: _) _) _); refine tst_and ?_)
      | ((with_reducible show Tst _ _ _ _ (Expr.BoolOp BoolOp.Or (_ :: _) _) _); refine tst_or ?_))
    | ((with_reducible show EvP _ _ _ _ _ _); first
      | refine evp_some ?_
      | refine evp_none ?_)
    | ((with_reducible show Tru _ _ _ _); first
      | refine tru_T (by assumption) ?_
      | refine tru_bool ?_
      | refine tru_none ?_)
    | ((with_reducible show One _ _ (unaryOp UnaryOp.USub) _ _); refine i_neg ?_)
    | ((with_reducible show Cut _ _ (D.str (T _)) _ _ _); refine cut_T (by assumption) ?_)
    | ((with_reducible show CallV _ _ (Value.builtin "len") _ _ _); refine c_len_T (by assumption) ?_)
    | ((with_reducible show CallV _ _ (Value.builtin "str.isdigit") _ _ _); refine c_isdigit ?_)
    | ((with_reducible show ∃ _, _ ∧ _); refine ⟨_, rfl, ?_⟩))

def orNone : Option (List Nat) → D
  | some p => .str (T p)
  | none => .raw .none
theorem groups (O : (cx w h₁ os₁ GI).Ok) {n : Nat} {a b d tail : List Nat} {pre bld : Option (List Nat)} {Pq : D → Prop} (ht : Tail tail pre bld tail) (ha : a ≠ [] ∧ ∀ ch ∈ a, DG.contains ch = true) (hb : b ≠ [] ∧ ∀ ch ∈ b, DG.contains ch = true) (hd : d ≠ [] ∧ ∀ ch ∈ d, DG.contains ch = true)
    (hz : (a ++ (46 :: (b ++ (46 :: (d ++ tail))))).length ≤ 1000) (h : Pq (.list [.str (T a), .str (T b), .str (T d), orNone pre, orNone bld])) :
    CallK (cx w h₁ os₁ GI) (n + 4) (.ref 42) [.dat (.str (T (a ++ (46 :: (b ++ (46 :: (d ++ tail))))))), .dat (.raw (.bool false))] [] Pq := by
  generalize hl : a ++ (46 :: (b ++ (46 :: (d ++ tail)))) = l at hz ⊢
  have hsz : l.length ≤ sizeLine := by have := sizeLine_eq; omega
  refine' call_def O ?hf ?hc ?hs ?ρ ?hno ?hb ?_
  case hf => exact rfl
  case hc => kernel_rfl
  case hs => kernel_rfl
  case ρ => exact [some (.dat (.str (T l))), some (.dat (.raw (.bool false))), none, none, none, none, none]
  case hno => exact rfl
  case hb =>
    rintro X s vs kvs I ⟨v1, _, rfl, r1, v2, _, rfl, r2, rfl⟩ rk
    have e : kvs = [] := rk
    subst e
    refine ⟨_, BindsTo.of_eq rfl, rfl, ⟨⟨_, rfl, r1⟩, .inl rfl⟩, ⟨⟨_, rfl, r2⟩, .inl rfl⟩, trivial⟩
  have szl := sizeLine_eq
  have dot : ∀ ch, (46 :: (b ++ (46 :: (d ++ tail)))).head? = some ch → DG.contains ch = false := fun ch q => by cases q; rfl
  have dot' : ∀ ch, (46 :: (d ++ tail)).head? = some ch → DG.contains ch = false := fun ch q => by cases q; rfl
  have tl0 : ∀ ch, tail.head? = some ch → ch = 45 ∨ ch = 43 := fun ch q => by
    rw [ht.eq] at q
    cases pre with
    | some p => cases q; exact .inl rfl
    | none =>
      cases bld with
      | some p => cases q; exact .inr rfl
      | none => cases q
  have dot3 : ∀ ch, tail.head? = some ch → DG.contains ch = false := fun ch q => by
    rcases tl0 ch q with rfl | rfl <;> rfl
  have l1 : l = a ++ (46 :: (b ++ (46 :: (d ++ tail)))) := hl.symm
  have l2 : l = (a ++ [46]) ++ (b ++ (46 :: (d ++ tail))) := by rw [l1]; simp
  have l3 : l = (a ++ [46] ++ b) ++ (46 :: (d ++ tail)) := by rw [l1]; simp
  have l4 : l = (a ++ [46] ++ b ++ [46]) ++ (d ++ tail) := by rw [l1]; simp
  have l5 : l = (a ++ [46] ++ b ++ [46] ++ d) ++ tail := by rw [l1]; simp
  have e1 : bh DG l 0 = a.length := by rw [l1, ← List.nil_append (a ++ _)]; exact (bh_run (u := []) ha.2 dot).trans (Nat.zero_add _)
  have q2 : (a ++ [46]).length = a.length + 1 := by simp
  have q3 : (a ++ [46] ++ b).length = a.length + 1 + b.length := by simp; omega
  have q4 : (a ++ [46] ++ b ++ [46]).length = a.length + 1 + b.length + 1 := by simp; omega
  have q5 : (a ++ [46] ++ b ++ [46] ++ d).length = a.length + 1 + b.length + 1 + d.length := by simp; omega
  have e2 : bh DG l (a.length + 1) = a.length + 1 + b.length := by rw [l2, ← q2]; exact bh_run hb.2 dot'
  have e3 : bh DG l (a.length + 1 + b.length + 1) = a.length + 1 + b.length + 1 + d.length := by rw [l4, ← q4]; exact bh_run hd.2 dot3
  have c0 : cut l none (some (a.length : Int)) = a := by rw [l1, cut_upto]; simp
  have c1 : cut l (some (a.length : Int)) (some ((a.length : Int) + 1)) = [46] := by rw [l1]; exact cut_one
  have c2 : cut l (some ((a.length : Int) + 1)) (some ((a.length + 1 + b.length : Nat) : Int)) = b := by
    have := cut_mid (u := a ++ [46]) (v := b) (r := 46 :: (d ++ tail)); rw [← l2, q2] at this; exact this
  have c3 : cut l (some ((a.length + 1 + b.length : Nat) : Int)) (some (((a.length + 1 + b.length : Nat) : Int) + 1)) = [46] := by rw [l3, ← q3]; exact cut_one
  have c4 : cut l (some (((a.length + 1 + b.length : Nat) : Int) + 1)) (some ((a.length + 1 + b.length + 1 + d.length : Nat) : Int)) = d := by
    have := cut_mid (u := a ++ [46] ++ b ++ [46]) (v := d) (r := tail); rw [← l4, q4] at this; exact this
  have na : 0 < a.length := List.length_pos_iff.mpr ha.1
  have nb : 0 < b.length := List.length_pos_iff.mpr hb.1
  have nd : 0 < d.length := List.length_pos_iff.mpr hd.1
  have n10 : (10 : Nat) ∉ l := by
    have dg : ∀ x : List Nat, (∀ ch ∈ x, DG.contains ch = true) → (10 : Nat) ∉ x := fun x h q => by have := h 10 q; revert this; decide
    have sg : ∀ x : List Nat, (∀ ch ∈ x, SG.contains ch = true) → (10 : Nat) ∉ x := fun x h q => by have := h 10 q; revert this; decide
    have tn : (10 : Nat) ∉ tail := by
      rw [ht.eq]
      intro q
      rcases List.mem_append.mp q with q | q
      · cases pre with
        | none => cases q
        | some p => rcases List.mem_cons.mp q with q | q; cases q; exact sg p (ht.pre p rfl).2 q
      · cases bld with
        | none => cases q
        | some p => rcases List.mem_cons.mp q with q | q; cases q; exact sg p (ht.bld p rfl).2 q
    rw [l1]
    simp only [List.mem_append, List.mem_cons, not_or]
    exact ⟨dg a ha.2, by decide, dg b hb.2, by decide, dg d hd.2, tn⟩
  have cl : (cut l (some (-1)) none == [10]) = false := by
    rw [beq_eq_false_iff_ne, cut_last]
    intro q
    exact n10 (List.drop_subset _ _ (by rw [q]; exact List.mem_singleton.mpr rfl))
  repeat kd_subs
  rw [if_neg (by rw [cl]; simp)]
  refine ex_nil ?_
  repeat kd_subs
  refine behind_z O 0 rfl hsz ?_
  rw [e1]
  repeat kd_subs
  rw [if_neg (by simp [ha.1])]
  refine ex_nil ?_
  refine ex_cons (ex_ow rfl rfl rfl ?_)
  repeat kd_subs
  refine ⟨by show 1 ≤ sizeLine; omega, fun a0 => ?_⟩
  rw [c0]
  refine ex_cons (ex_while (WhileL.turn (tst_and (tst_borrow 3 rfl rfl rfl ?_))))
  repeat kd_subs
  refine c_len_l (by show 1 ≤ sizeLine; omega) ?_
  repeat kd_subs
  rw [if_pos (by rfl)]
  repeat kd_subs
  rw [c1, if_pos (by rfl)]
  refine tst_and_nil ?_
  rw [if_pos rfl]
  repeat kd_subs
  refine behind_z O (a.length + 1) (by simp) hsz ?_
  rw [e2]
  repeat kd_subs
  rw [if_neg (by simp; omega)]
  refine ex_nil ?_
  refine ex_cons (ex_app rfl rfl rfl rfl rfl rfl (by show 1 ≤ sizeLine; omega) ?_)
  repeat kd_subs
  rw [c2]
  repeat kd_subs
  refine WhileL.turn (tst_and (tst_borrow 3 rfl rfl rfl ?_))
  repeat kd_subs
  refine c_len_l (by show 2 ≤ sizeLine; omega) ?_
  repeat kd_subs
  rw [if_pos (by rfl)]
  repeat kd_subs
  rw [c3, if_pos (by rfl)]
  refine tst_and_nil ?_
  rw [if_pos rfl]
  repeat kd_subs
  refine behind_z O (a.length + 1 + b.length + 1) (by simp) hsz ?_
  rw [e3]
  repeat kd_subs
  rw [if_neg (by simp; omega)]
  refine ex_nil ?_
  refine ex_cons (ex_app rfl rfl rfl rfl rfl rfl (by show 2 ≤ sizeLine; omega) ?_)
  repeat kd_subs
  rw [c4]
  repeat kd_subs
  refine WhileL.turn (tst_and (tst_borrow 3 rfl rfl rfl ?_))
  repeat kd_subs
  refine c_len_l (by show 3 ≤ sizeLine; omega) ?_
  repeat kd_subs
  rw [if_neg (by simp), if_neg (by simp)]
  refine ex_nil ?_
  refine ex_cons (ex_if (tst_and (tst_borrow 3 rfl rfl rfl ?_)))
  repeat kd_subs
  refine c_len_l (by show 3 ≤ sizeLine; omega) ?_
  repeat kd_subs
  rw [if_neg (by simp), if_neg (by simp)]
  refine ex_nil ?_
  refine ex_cons (ex_while (WhileL.turn (tst_borrow 3 rfl rfl rfl ?_)))
  repeat kd_subs
  refine c_len_l (by show 3 ≤ sizeLine; omega) ?_
  repeat kd_subs
  rw [if_neg (by simp)]
  refine ex_nil ?_
  simp only [List.set_cons_succ, List.set_cons_zero]
  refine ex_cons (ex_for rfl (ev_tup ?_))
  repeat kd_subs
  refine ⟨by show 2 ≤ sizeLine; omega, _, .tup, ?_⟩
  obtain ⟨heq, hpre, hbld⟩ := ht
  generalize hu : a ++ [46] ++ b ++ [46] ++ d = u at l5 q5
  rw [← q5]
  clear e1 e2 e3 c0 c1 c2 c3 c4 dot dot' dot3 tl0 l1 l2 l3 l4 q2 q3 q4 hl
  rcases pre with _ | p
  · rcases bld with _ | q
    · have lu : l = u := by rw [l5, heq]; simp
      have f1 : cut l (some (u.length : Int)) (some ((u.length : Int) + 1)) = [] := by rw [lu]; exact cut_end
      have lz : l.length = u.length := by rw [lu]
      refine ForL.turn ?_
      refine asg_n rfl rfl rfl ?_
      repeat kd_subs
      refine behind_z O (u.length + 1) (by simp) hsz ?_
      repeat kd_subs
      rw [if_neg (by rw [f1]; decide), if_neg (by simp)]
      refine ex_cons (ex_app rfl rfl rfl rfl rfl rfl (by show 3 ≤ sizeLine; omega) ?_)
      repeat kd_subs
      refine ForL.turn ?_
      refine asg_n rfl rfl rfl ?_
      repeat kd_subs
      refine behind_z O (u.length + 1) (by simp) hsz ?_
      repeat kd_subs
      rw [if_neg (by rw [f1]; decide), if_neg (by simp)]
      refine ex_cons (ex_app rfl rfl rfl rfl rfl rfl (by show 4 ≤ sizeLine; omega) ?_)
      repeat kd_subs
      refine ForL.done (ex_nil ?_)
      repeat kd_subs
      rw [if_neg (by simp; omega)]
      refine ex_nil ?_
      refine ex_freeze 3 rfl rfl rfl ?_
      repeat kd_subs
      exact h
    · obtain ⟨nq, sq⟩ := hbld q rfl
      have lu : l = u ++ (43 :: q) := by rw [l5, heq]; simp
      have f1 : cut l (some (u.length : Int)) (some ((u.length : Int) + 1)) = [43] := by rw [lu]; exact cut_one
      have lq : l = (u ++ [43]) ++ (q ++ []) := by rw [lu]; simp
      have k2 : (u ++ [43]).length = u.length + 1 := by simp
      have g1 : bh SG l (u.length + 1) = u.length + 1 + q.length := by rw [lq, ← k2]; exact bh_run sq (fun ch z => by cases z)
      have g2 : cut l (some ((u.length : Int) + 1)) (some ((u.length + 1 + q.length : Nat) : Int)) = q := by
        have := cut_mid (u := u ++ [43]) (v := q) (r := []); rw [← lq, k2] at this; exact this
      have np : 0 < q.length := List.length_pos_iff.mpr nq
      have lz : l.length = u.length + 1 + q.length := by rw [lu]; simp; omega
      refine ForL.turn ?_
      refine asg_n rfl rfl rfl ?_
      repeat kd_subs
      refine behind_z O (u.length + 1) (by simp) hsz ?_
      repeat kd_subs
      rw [if_neg (by rw [f1]; decide), if_neg (by simp)]
      refine ex_cons (ex_app rfl rfl rfl rfl rfl rfl (by show 3 ≤ sizeLine; omega) ?_)
      repeat kd_subs
      refine ForL.turn ?_
      refine asg_n rfl rfl rfl ?_
      repeat kd_subs
      refine behind_z O (u.length + 1) (by simp) hsz ?_
      rw [g1]
      repeat kd_subs
      rw [if_pos (by rw [f1]; rfl)]
      refine tst_and (tst_or (tst_of (fun _ _ => rfl) (ev_nm rfl rfl rfl (tru_bool ?_))))
      rw [if_neg (by simp)]
      repeat kd_subs
      rw [if_pos (by simp; omega)]
      rw [if_pos rfl]
      refine tst_and_nil ?_
      rw [if_pos rfl]
      refine ex_cons (ex_app rfl rfl rfl rfl rfl rfl (by show 4 ≤ sizeLine; omega) ?_)
      repeat kd_subs
      rw [g2]
      repeat kd_subs
      refine ForL.done (ex_nil ?_)
      repeat kd_subs
      rw [if_neg (by simp; omega)]
      refine ex_nil ?_
      refine ex_freeze 3 rfl rfl rfl ?_
      repeat kd_subs
      exact h
  · obtain ⟨npp, sp⟩ := hpre p rfl
    have nz : 0 < p.length := List.length_pos_iff.mpr npp
    have k2 : (u ++ [45]).length = u.length + 1 := by simp
    have k3 : (u ++ [45] ++ p).length = u.length + 1 + p.length := by simp; omega
    rcases bld with _ | q
    · have lu : l = u ++ (45 :: p) := by rw [l5, heq]; simp
      have f1 : cut l (some (u.length : Int)) (some ((u.length : Int) + 1)) = [45] := by rw [lu]; exact cut_one
      have lq : l = (u ++ [45]) ++ (p ++ []) := by rw [lu]; simp
      have g1 : bh SG l (u.length + 1) = u.length + 1 + p.length := by rw [lq, ← k2]; exact bh_run sp (fun ch z => by cases z)
      have g2 : cut l (some ((u.length : Int) + 1)) (some ((u.length + 1 + p.length : Nat) : Int)) = p := by
        have := cut_mid (u := u ++ [45]) (v := p) (r := []); rw [← lq, k2] at this; exact this
      have lw : l = u ++ [45] ++ p := by rw [lu]; simp
      have f2 : cut l (some ((u.length + 1 + p.length : Nat) : Int)) (some (((u.length + 1 + p.length : Nat) : Int) + 1)) = [] := by rw [lw, ← k3]; exact cut_end
      have lz : l.length = u.length + 1 + p.length := by rw [lu]; simp; omega
      refine ForL.turn ?_
      refine asg_n rfl rfl rfl ?_
      repeat kd_subs
      refine behind_z O (u.length + 1) (by simp) hsz ?_
      rw [g1]
      repeat kd_subs
      rw [if_pos (by rw [f1]; rfl)]
      refine tst_and (tst_or (tst_of (fun _ _ => rfl) (ev_nm rfl rfl rfl (tru_bool ?_))))
      rw [if_neg (by simp)]
      repeat kd_subs
      rw [if_pos (by simp; omega)]
      rw [if_pos rfl]
      refine tst_and_nil ?_
      rw [if_pos rfl]
      refine ex_cons (ex_app rfl rfl rfl rfl rfl rfl (by show 3 ≤ sizeLine; omega) ?_)
      repeat kd_subs
      rw [g2]
      repeat kd_subs
      refine ForL.turn ?_
      refine asg_n rfl rfl rfl ?_
      repeat kd_subs
      refine behind_z O (u.length + 1 + p.length + 1) (by simp) hsz ?_
      repeat kd_subs
      rw [if_neg (by rw [f2]; decide), if_neg (by simp)]
      refine ex_cons (ex_app rfl rfl rfl rfl rfl rfl (by show 4 ≤ sizeLine; omega) ?_)
      repeat kd_subs
      refine ForL.done (ex_nil ?_)
      repeat kd_subs
      rw [if_neg (by simp; omega)]
      refine ex_nil ?_
      refine ex_freeze 3 rfl rfl rfl ?_
      repeat kd_subs
      exact h
    · obtain ⟨nq, sq⟩ := hbld q rfl
      have np : 0 < q.length := List.length_pos_iff.mpr nq
      have lu : l = u ++ (45 :: (p ++ (43 :: q))) := by rw [l5, heq]; simp
      have f1 : cut l (some (u.length : Int)) (some ((u.length : Int) + 1)) = [45] := by rw [lu]; exact cut_one
      have lq : l = (u ++ [45]) ++ (p ++ (43 :: q)) := by rw [lu]; simp
      have g1 : bh SG l (u.length + 1) = u.length + 1 + p.length := by rw [lq, ← k2]; exact bh_run sp (fun ch z => by cases z; rfl)
      have g2 : cut l (some ((u.length : Int) + 1)) (some ((u.length + 1 + p.length : Nat) : Int)) = p := by
        have := cut_mid (u := u ++ [45]) (v := p) (r := 43 :: q); rw [← lq, k2] at this; exact this
      have lw : l = (u ++ [45] ++ p) ++ (43 :: q) := by rw [lu]; simp
      have lv : l = (u ++ [45] ++ p ++ [43]) ++ (q ++ []) := by rw [lu]; simp
      have k4 : (u ++ [45] ++ p ++ [43]).length = u.length + 1 + p.length + 1 := by simp; omega
      have f2 : cut l (some ((u.length + 1 + p.length : Nat) : Int)) (some (((u.length + 1 + p.length : Nat) : Int) + 1)) = [43] := by rw [lw, ← k3]; exact cut_one
      have g3 : bh SG l (u.length + 1 + p.length + 1) = u.length + 1 + p.length + 1 + q.length := by rw [lv, ← k4]; exact bh_run sq (fun ch z => by cases z)
      have g4 : cut l (some (((u.length + 1 + p.length : Nat) : Int) + 1)) (some ((u.length + 1 + p.length + 1 + q.length : Nat) : Int)) = q := by
        have := cut_mid (u := u ++ [45] ++ p ++ [43]) (v := q) (r := []); rw [← lv, k4] at this; exact this
      have lz : l.length = u.length + 1 + p.length + 1 + q.length := by rw [lu]; simp; omega
      refine ForL.turn ?_
      refine asg_n rfl rfl rfl ?_
      repeat kd_subs
      refine behind_z O (u.length + 1) (by simp) hsz ?_
      rw [g1]
      repeat kd_subs
      rw [if_pos (by rw [f1]; rfl)]
      refine tst_and (tst_or (tst_of (fun _ _ => rfl) (ev_nm rfl rfl rfl (tru_bool ?_))))
      rw [if_neg (by simp)]
      repeat kd_subs
      rw [if_pos (by simp; omega)]
      rw [if_pos rfl]
      refine tst_and_nil ?_
      rw [if_pos rfl]
      refine ex_cons (ex_app rfl rfl rfl rfl rfl rfl (by show 3 ≤ sizeLine; omega) ?_)
      repeat kd_subs
      rw [g2]
      repeat kd_subs
      refine ForL.turn ?_
      refine asg_n rfl rfl rfl ?_
      repeat kd_subs
      refine behind_z O (u.length + 1 + p.length + 1) (by simp) hsz ?_
      rw [g3]
      repeat kd_subs
      rw [if_pos (by rw [f2]; rfl)]
      refine tst_and (tst_or (tst_of (fun _ _ => rfl) (ev_nm rfl rfl rfl (tru_bool ?_))))
      rw [if_neg (by simp)]
      repeat kd_subs
      rw [if_pos (by simp; omega)]
      rw [if_pos rfl]
      refine tst_and_nil ?_
      rw [if_pos rfl]
      refine ex_cons (ex_app rfl rfl rfl rfl rfl rfl (by show 4 ≤ sizeLine; omega) ?_)
      repeat kd_subs
      rw [g4]
      repeat kd_subs
      refine ForL.done (ex_nil ?_)
      repeat kd_subs
      rw [if_neg (by simp; omega)]
      refine ex_nil ?_
      refine ex_freeze 3 rfl rfl rfl ?_
      repeat kd_subs
      exact h
end
end Mine
end
section
set_option maxHeartbeats 0
namespace Mine
open PySem PySem.W PySem.Calls PyProof.Rows Builtin
section
variable {w : World} {h₁ : Heap} {os₁ : OsState} {GI : Array GenState → Drawn → Prop}
local macro_rules
  | `(tactic| kd_subs) => `(tactic| first
    | ((with_reducible show Ev _ _ _ _ _ _); first
      | ((with_reducible show Ev _ _ _ _ (Expr.Name _ _) _); first
        | ((with_reducible show Ev _ _ _ _ (Expr.Name (Str.ofString "_DIGITS") _) _); refine nm_digits (by assumption) rfl rfl ?_)
        | ((with_reducible show Ev _ _ _ _ (Expr.Name (Str.ofString "_SIGNS") _) _); refine nm_signs (by assumption) rfl rfl ?_)
        | ((with_reducible show Ev _ _ _ _ (Expr.Name (Str.ofString "Version") _) _); refine nm_ver (by assumption) rfl rfl ?_)
        | ((with_reducible show Ev _ _ _ _ (Expr.Name (Str.ofString "MaxIdentifier") _) _); refine nm_max (by assumption) rfl rfl ?_)
        | ((with_reducible show Ev _ _ _ _ (Expr.Name (Str.ofString "NumericIdentifier") _) _); refine nm_num (by assumption) rfl rfl ?_)
        | ((with_reducible show Ev _ _ _ _ (Expr.Name (Str.ofString "AlphaIdentifier") _) _); refine nm_alpha (by assumption) rfl rfl ?_)
        | ((with_reducible show Ev _ _ _ _ (Expr.Name (Str.ofString "NotImplemented") _) _); refine nm_ni (by assumption) rfl rfl ?_)
        | refine ev_nm rfl rfl rfl ?_)
      | ((with_reducible show Ev _ _ _ _ (Expr.Constant _ _ _) _); first
        | ((with_reducible show Ev _ _ _ _ (Expr.Constant (Const.int _) _ _) _); refine ev_int ?_)
        | ((with_reducible show Ev _ _ _ _ (Expr.Constant Const.none _ _) _); refine ev_none ?_)
        | ((with_reducible show Ev _ _ _ _ (Expr.Constant (Const.bool _) _ _) _); refine ev_bool ?_)
        | ((with_reducible show Ev _ _ _ _ (Expr.Constant (Const.str (Str.ofString ".")) _ _) _); refine ev_strT lit_dot ?_)
        | ((with_reducible show Ev _ _ _ _ (Expr.Constant (Const.str (Str.ofString "-")) _ _) _); refine ev_strT lit_dash ?_)
        | ((with_reducible show Ev _ _ _ _ (Expr.Constant (Const.str (Str.ofString "+")) _ _) _); refine ev_strT lit_plus ?_)
        | ((with_reducible show Ev _ _ _ _ (Expr.Constant (Const.str (Str.ofString "\n")) _ _) _); refine ev_strT lit_nl ?_)
        | ((with_reducible show Ev _ _ _ _ (Expr.Constant (Const.str (Str.ofString "")) _ _) _); refine ev_strT lit_empty ?_)
        | ((with_reducible show Ev _ _ _ _ (Expr.Constant (Const.str (Str.ofString "0")) _ _) _); refine ev_strT lit_zero ?_))
      | ((with_reducible show Ev _ _ _ _ (Expr.Call (Expr.Name _ _) _ _ _) _); first
        | ((with_reducible show Ev _ _ _ _ (Expr.Call (Expr.Name (Str.ofString "len") _) _ [] _) _); refine bl_len (by assumption) rfl rfl rfl ?_)
        | ((with_reducible show Ev _ _ _ _ (Expr.Call (Expr.Name (Str.ofString "int") _) _ [] _) _); refine bl_int (by assumption) rfl rfl rfl ?_)
        | ((with_reducible show Ev _ _ _ _ (Expr.Call (Expr.Name (Str.ofString "str") _) _ [] _) _); refine bl_str (by assumption) rfl rfl rfl ?_)
        | ((with_reducible show Ev _ _ _ _ (Expr.Call (Expr.Name (Str.ofString "abs") _) _ [] _) _); refine bl_abs (by assumption) rfl rfl rfl ?_)
        | ((with_reducible show Ev _ _ _ _ (Expr.Call (Expr.Name (Str.ofString "max") _) _ [] _) _); refine bl_max (by assumption) rfl rfl rfl ?_)
        | ((with_reducible show Ev _ _ _ _ (Expr.Call (Expr.Name (Str.ofString "min") _) _ [] _) _); refine bl_min (by assumption) rfl rfl rfl ?_)
        | ((with_reducible show Ev _ _ _ _ (Expr.Call (Expr.Name (Str.ofString "range") _) _ [] _) _); refine bl_range (by assumption) rfl rfl rfl ?_)
        | ((with_reducible show Ev _ _ _ _ (Expr.Call (Expr.Name (Str.ofString "tuple") _) _ [] _) _); (fail_if_success (with_reducible show Ev _ _ _ _ (Expr.Call _ [Expr.GeneratorExp _ _ _ _] _ _) _)); refine bl_tuple (by assumption) rfl rfl rfl ?_)
        | ((with_reducible show Ev _ _ _ _ (Expr.Call (Expr.Name (Str.ofString "list") _) _ [] _) _); refine bl_list (by assumption) rfl rfl rfl ?_)
        | ((with_reducible show Ev _ _ _ _ (Expr.Call (Expr.Name (Str.ofString "isinstance") _) _ [] _) _); refine bl_isinstance (by assumption) rfl rfl rfl ?_)
        | ((with_reducible show Ev _ _ _ _ (Expr.Call (Expr.Name (Str.ofString "_behind") _) _ [] _) _); refine cl_behind (by assumption) rfl rfl rfl ?_)
        | ((with_reducible show Ev _ _ _ _ (Expr.Call (Expr.Name (Str.ofString "_version_groups") _) _ [] _) _); refine cl_groups (by assumption) rfl rfl rfl ?_)
        | ((with_reducible show Ev _ _ _ _ (Expr.Call (Expr.Name (Str.ofString "_has_leading_zero") _) _ [] _) _); refine cl_hlz (by assumption) rfl rfl rfl ?_)
        | ((with_reducible show Ev _ _ _ _ (Expr.Call (Expr.Name (Str.ofString "MaxIdentifier") _) _ [] _) _); refine cl_max (by assumption) rfl rfl rfl ?_)
        | ((with_reducible show Ev _ _ _ _ (Expr.Call (Expr.Name (Str.ofString "NumericIdentifier") _) _ [] _) _); refine cl_num (by assumption) rfl rfl rfl ?_)
        | ((with_reducible show Ev _ _ _ _ (Expr.Call (Expr.Name (Str.ofString "AlphaIdentifier") _) _ [] _) _); refine cl_alpha (by assumption) rfl rfl rfl ?_)
        | ((with_reducible show Ev _ _ _ _ (Expr.Call (Expr.Name (Str.ofString "Version") _) _ [] _) _); refine cl_ver (by assumption) rfl rfl rfl ?_)
        | ((with_reducible show Ev _ _ _ _ (Expr.Call (Expr.Name (Str.ofString "Version") _) _ _ _) _); refine ck_ver (by assumption) rfl rfl rfl rfl ?_))
      | ((with_reducible show Ev _ _ _ _ (Expr.Compare _ _ _ _) _); refine ev_cmp rfl ?_)
      | ((with_reducible show Ev _ _ _ _ (Expr.Call (Expr.Attribute _ _ _) _ [] _) _); first
        | ((with_reducible show Ev _ _ _ _ (Expr.Call (Expr.Attribute _ (Str.ofString "isdigit") _) _ [] _) _); refine ev_methv (by assumption) (fun _ => rfl) rfl (evv_dat ?_))
        | ((with_reducible show Ev _ _ _ _ (Expr.Call (Expr.Attribute _ (Str.ofString "split") _) _ [] _) _); refine ev_methv (by assumption) (fun _ => rfl) rfl (evv_dat ?_))
        | ((with_reducible show Ev _ _ _ _ (Expr.Call (Expr.Attribute _ (Str.ofString "join") _) _ [] _) _); refine ev_methv (by assumption) (fun _ => rfl) rfl (evv_dat ?_))
        | ((with_reducible show Ev _ _ _ _ (Expr.Call (Expr.Attribute _ (Str.ofString "encode") _) _ [] _) _); refine ev_methv (by assumption) (fun _ => rfl) rfl (evv_dat ?_)))
      | ((with_reducible show Ev _ _ _ _ (Expr.Attribute (Expr.Name _ _) _ _) _); first
        | ((with_reducible show Ev _ _ _ _ (Expr.Attribute (Expr.Name _ _) (Str.ofString "major") _) _); refine ev_attr (fun _ => rfl) (evv_nm rfl rfl rfl (attr_inst (by assumption) rfl at_major rfl rfl ?_)))
        | ((with_reducible show Ev _ _ _ _ (Expr.Attribute (Expr.Name _ _) (Str.ofString "minor") _) _); refine ev_attr (fun _ => rfl) (evv_nm rfl rfl rfl (attr_inst (by assumption) rfl at_minor rfl rfl ?_)))
        | ((with_reducible show Ev _ _ _ _ (Expr.Attribute (Expr.Name _ _) (Str.ofString "patch") _) _); refine ev_attr (fun _ => rfl) (evv_nm rfl rfl rfl (attr_inst (by assumption) rfl at_patch rfl rfl ?_)))
        | ((with_reducible show Ev _ _ _ _ (Expr.Attribute (Expr.Name _ _) (Str.ofString "prerelease") _) _); refine ev_attr (fun _ => rfl) (evv_nm rfl rfl rfl (attr_inst (by assumption) rfl at_pre rfl rfl ?_)))
        | ((with_reducible show Ev _ _ _ _ (Expr.Attribute (Expr.Name _ _) (Str.ofString "build") _) _); refine ev_attr (fun _ => rfl) (evv_nm rfl rfl rfl (attr_inst (by assumption) rfl at_build rfl rfl ?_)))
        | ((with_reducible show Ev _ _ _ _ (Expr.Attribute (Expr.Name _ _) (Str.ofString "partial") _) _); refine ev_attr (fun _ => rfl) (evv_nm rfl rfl rfl (attr_inst (by assumption) rfl at_partial rfl rfl ?_)))
        | ((with_reducible show Ev _ _ _ _ (Expr.Attribute (Expr.Name _ _) (Str.ofString "_cmp_precedence_key") _) _); refine ev_attr (fun _ => rfl) (evv_nm rfl rfl rfl (attr_inst (by assumption) rfl at_cmpk rfl rfl ?_))))
      | ((with_reducible show Ev _ _ _ _ (Expr.BoolOp BoolOp.And (_ :: _ :: _) _) _); refine ev_and ?_)
      | ((with_reducible show Ev _ _ _ _ (Expr.BoolOp BoolOp.Or (_ :: _ :: _) _) _); refine ev_or ?_)
      | ((with_reducible show Ev _ _ _ _ (Expr.BoolOp _ [_] _) _); refine ev_bool1 ?_)
      | ((with_reducible show Ev _ _ _ _ (Expr.BinOp _ _ _ _) _); refine ev_bin ?_)
      | ((with_reducible show Ev _ _ _ _ (Expr.Tuple _ _ _) _); refine ev_tup ?_)
      | ((with_reducible show Ev _ _ _ _ (Expr.List _ _) _); refine ev_list ?_)
      | ((with_reducible show Ev _ _ _ _ (Expr.UnaryOp UnaryOp.Not _ _) _); refine ev_not ?_)
      | ((with_reducible show Ev _ _ _ _ (Expr.UnaryOp _ _ _) _); refine ev_un ?_)
      | ((with_reducible show Ev _ _ _ _ (Expr.Subscript _ (Expr.Slice _ _ _ _) _) _); refine ev_cut ?_)
      | ((with_reducible show Ev _ _ _ _ (Expr.Subscript _ _ _) _); refine ev_item rfl ?_))
    | ((with_reducible show MethV _ _ _ _ _); first
      | refine m_isdigit ?_
      | refine m_split ?_
      | refine m_join ?_
      | refine m_encode ?_)
    | ((with_reducible show EvK _ _ _ _ _ _); first
      | refine evk_cons rfl ?_
      | refine evk_nil ?_)
    | ((with_reducible show EvL _ _ _ _ _ _); first
      | ((with_reducible show EvL _ _ _ _ (_ :: _) _); refine evl_cons rfl ?_)
      | refine evl_nil ?_)
    | ((with_reducible show Ex _ _ _ _ _ _); first
      | ((with_reducible show Ex _ _ _ _ (_ :: _) _); (try conv => arg 4; simp only [List.set_cons_succ, List.set_cons_zero]); refine ex_cons ?_)
      | refine ex_nil ?_)
    | ((with_reducible show Ex1 _ _ _ _ _ _); first
      | ((with_reducible show Ex1 _ _ _ _ (Stmt.If _ _ _ _) _); refine ex_if ?_)
      | ((with_reducible show Ex1 _ _ _ _ (Stmt.Return (some _) _) _); refine ex_return ?_)
      | ((with_reducible show Ex1 _ _ _ _ (Stmt.Assign [Expr.Name _ _] _ _) _); refine ex_as rfl rfl rfl (fun _ => rfl) ?_))
    | ((with_reducible show Two _ _ _ _ _ _); first
      | ((with_reducible show Two _ _ (binaryOp Operator.Add) _ _ _); refine i_add ?_)
      | ((with_reducible show Two _ _ (binaryOp Operator.Sub) _ _ _); refine i_sub ?_)
      | ((with_reducible show Two _ _ (binaryOp Operator.BitXor) _ _ _); refine b_xor ?_)
      | ((with_reducible show Two _ _ (compareOp CmpOp.Lt) _ _ _); refine i_lt ?_)
      | ((with_reducible show Two _ _ (compareOp CmpOp.Gt) _ _ _); refine i_gt ?_)
      | ((with_reducible show Two _ _ (compareOp CmpOp.LtE) _ _ _); refine i_le ?_)
      | ((with_reducible show Two _ _ (compareOp CmpOp.GtE) _ _ _); refine i_ge ?_)
      | ((with_reducible show Two _ _ (compareOp CmpOp.Is) _ _ _); refine is_no ?_)
      | ((with_reducible show Two _ _ (compareOp CmpOp.IsNot) _ _ _); refine isnt_no ?_)
      | ((with_reducible show Two _ _ (compareOp CmpOp.Eq) (D.int _) _ _); refine i_eq ?_)
      | ((with_reducible show Two _ _ (compareOp CmpOp.Eq) (D.str (T _)) _ _); refine s_eqT ?_)
      | ((with_reducible show Two _ _ (compareOp CmpOp.NotEq) (D.int _) _ _); refine i_ne ?_)
      | ((with_reducible show Two _ _ (compareOp CmpOp.NotEq) (D.str (T _)) _ _); refine s_neT ?_))
    | ((with_reducible show Tst _ _ _ _ _ _); first
      | ((with_reducible show Tst _ _ _ _ (Expr.Compare _ _ _ _) _); refine tst_cmp rfl ?_)
      | ((with_reducible show Tst _ _ _ _ (Expr.Name _ _) _); refine tst_of (fun _ _ => rfl) ?_)
      | ((with_reducible show Tst _ _ _ _ (Expr.Call _ _ _ _) _); refine tst_of (fun _ _ => rfl) ?_)
      | ((with_reducible show Tst _ _ _ _ (Expr.Attribute _ _ _) _); refine tst_of (fun _ _ => rfl) ?_)
      | ((with_reducible show Tst _ _ _ _ (Expr.BinOp _ _ _ _) _); refine tst_of (fun _ _ => rfl) ?_)
      | ((with_reducible show Tst _ _ _ _ (Expr.Subscript _ _ _) _); refine tst_of (fun _ _ => rfl) ?_)
      | ((with_reducible show Tst _ _ _ _ (Expr.BoolOp BoolOp.And [] _) _); refine tst_and_nil ?_)
      | ((with_reducible show Tst _ _ _ _ (Expr.BoolOp BoolOp.Or [] _) _); refine tst_or_nil ?_)
      | ((with_reducible show Tst _ _ _ _ (Expr.UnaryOp UnaryOp.Not _ _) _); refine tst_not ?_)
      | ((with_reducible show Tst _ _ _ _ (Expr.BoolOp BoolOp.And (_ :: _) _) _); refine tst_and ?_)
      | ((with_reducible show Tst _ _ _ _ (Expr.BoolOp BoolOp.Or (_ :: _) _) _); refine tst_or ?_))
    | ((with_reducible show EvP _ _ _ _ _ _); first
      | refine evp_some ?_
      | refine evp_none ?_)
    | ((with_reducible show Tru _ _ _ _); first
      | refine tru_T (by assumption) ?_
      | refine tru_bool ?_
      | refine tru_none ?_)
    | ((with_reducible show One _ _ (unaryOp UnaryOp.USub) _ _); refine i_neg ?_)
    | ((with_reducible show Cut _ _ (D.str (T _)) _ _ _); refine cut_T (by assumption) ?_)
    | ((with_reducible show CallV _ _ (Value.builtin "len") _ _ _); refine c_len_T (by assumption) ?_)
    | ((with_reducible show CallV _ _ (Value.builtin "str.isdigit") _ _ _); refine c_isdigit ?_)
    | ((with_reducible show ∃ _, _ ∧ _); refine ⟨_, rfl, ?_⟩))

theorem hlz (O : (cx w h₁ os₁ GI).Ok) {n : Nat} {l : List Nat} {Pq : D → Prop} (hz : l.length ≤ 1000) (h0 : ∃ x r, l = x :: r ∧ (x ≠ 48 ∨ r = [])) (h : Pq (.raw (.bool false))) :
    CallK (cx w h₁ os₁ GI) (n + 2) (.ref 49) [.dat (.str (T l))] [] Pq := by
  have hsz : l.length ≤ sizeLine := by have := sizeLine_eq; omega
  obtain ⟨x, r, hl, hx⟩ := h0
  refine' call_def O ?hf ?hc ?hs ?ρ ?hno ?hb ?_
  case hf => exact rfl
  case hc => kernel_rfl
  case hs => kernel_rfl
  case ρ => exact [some (.dat (.str (T l)))]
  case hno => exact rfl
  case hb =>
    rintro X s vs kvs I ⟨v1, _, rfl, r1, rfl⟩ rk
    have e : kvs = [] := rk
    subst e
    refine ⟨_, BindsTo.of_eq rfl, rfl, ⟨⟨_, rfl, r1⟩, .inl rfl⟩, trivial⟩
  refine ex_cons (ex_return (ev_and (ev_nm rfl rfl rfl (tru_T hsz ?_))))
  rw [if_pos (by rw [hl]; rfl)]
  refine ev_and ?_
  repeat kd_subs
  refine item_T (i := 0) hsz (ch := x) (by rw [hl]; rfl) ?_
  repeat kd_subs
  by_cases e : x = 48
  · subst e
    have hr : r = [] := hx.resolve_left (fun q => q rfl)
    subst hr
    subst hl
    rw [if_pos (show ([48] == [48]) = true from rfl)]
    repeat kd_subs
    rw [if_pos (show Txt.isdigit (T [48]) = true from by kernel_rfl)]
    repeat kd_subs
    exact h
  · rw [if_neg (by simpa using e)]
    rw [show ([x] == [48]) = false from by simpa using e]
    exact h

theorem coerce_s (O : (cx w h₁ os₁ GI).Ok) {n : Nat} {x : Str} {i : Int} {Pq : D → Prop} (hn : PySem.intText? x = some i) (hl : x.length ≤ 640) (h : Pq (.int i)) :
    CallK (cx w h₁ os₁ GI) (n + 2) (.ref 233) [.dat (.raw (.ref 388)), .dat (.str x), .dat (.raw (.bool false))] [] Pq := by
  refine' call_def O ?hf ?hc ?hs ?ρ ?hno ?hb ?_
  case hf => exact rfl
  case hc => kernel_rfl
  case hs => kernel_rfl
  case ρ => exact [some (.dat (.raw (.ref 388))), some (.dat (.str x)), some (.dat (.raw (.bool false)))]
  case hno => exact rfl
  case hb =>
    rintro X s vs kvs I ⟨v1, _, rfl, r1, v2, _, rfl, r2, v3, _, rfl, r3, rfl⟩ rk
    have e : kvs = [] := rk
    subst e
    refine ⟨_, binds_K (I.kin O) rfl rfl rfl rfl rfl, rfl, ⟨⟨_, rfl, r1⟩, .inl rfl⟩, ⟨⟨_, rfl, r2⟩, .inl rfl⟩, ⟨⟨_, rfl, r3⟩, .inl rfl⟩, trivial⟩
  repeat kd_subs
  rw [if_neg (by simp [D.isNone]), if_neg (by simp)]
  repeat kd_subs
  exact c_int_s hn hl h
theorem coerce_i (O : (cx w h₁ os₁ GI).Ok) {n : Nat} {i : Int} {Pq : D → Prop} (h : Pq (.int i)) :
    CallK (cx w h₁ os₁ GI) (n + 2) (.ref 233) [.dat (.raw (.ref 388)), .dat (.int i), .dat (.raw (.bool false))] [] Pq := by
  refine' call_def O ?hf ?hc ?hs ?ρ ?hno ?hb ?_
  case hf => exact rfl
  case hc => kernel_rfl
  case hs => kernel_rfl
  case ρ => exact [some (.dat (.raw (.ref 388))), some (.dat (.int i)), some (.dat (.raw (.bool false)))]
  case hno => exact rfl
  case hb =>
    rintro X s vs kvs I ⟨v1, _, rfl, r1, v2, _, rfl, r2, v3, _, rfl, r3, rfl⟩ rk
    have e : kvs = [] := rk
    subst e
    refine ⟨_, binds_K (I.kin O) rfl rfl rfl rfl rfl, rfl, ⟨⟨_, rfl, r1⟩, .inl rfl⟩, ⟨⟨_, rfl, r2⟩, .inl rfl⟩, ⟨⟨_, rfl, r3⟩, .inl rfl⟩, trivial⟩
  repeat kd_subs
  rw [if_neg (by simp [D.isNone]), if_neg (by simp)]
  repeat kd_subs
  exact c_int_i h

/-- an identifier that none finds fault with -/
def IdOk (lz : Bool) (x : List Nat) : Prop := x ≠ [] ∧ x.length ≤ 1000 ∧ (lz = true ∨ x.head? ≠ some 48 ∨ Txt.isdigit (T x) = false ∨ x = [48])
theorem validate (O : (cx w h₁ os₁ GI).Ok) {n : Nat} {l : List (List Nat)} {lz : Bool} {Pq : D → Prop} (hl : ∀ x ∈ l, IdOk lz x) (h : Pq (.raw .none)) :
    CallK (cx w h₁ os₁ GI) (n + 2) (.ref 293) [.dat (.raw (.ref 388)), .dat (.tup (l.map fun x => .str (T x)))] [("allow_leading_zeroes", .raw (.bool lz))] Pq := by
  refine' call_def O ?hf ?hc ?hs ?ρ ?hno ?hb ?_
  case hf => exact rfl
  case hc => kernel_rfl
  case hs => kernel_rfl
  case ρ => exact [some (.dat (.raw (.ref 388))), some (.dat (.tup (l.map fun x => .str (T x)))), some (.dat (.raw (.bool lz))), none]
  case hno => exact rfl
  case hb =>
    rintro X s vs kvs I ⟨v1, _, rfl, r1, v2, _, rfl, r2, rfl⟩ ⟨v3, _, rfl, r3, rfl⟩
    refine ⟨_, binds_K (I.kin O) rfl rfl rfl rfl rfl, rfl, ⟨⟨_, rfl, r1⟩, .inl rfl⟩, ⟨⟨_, rfl, r2⟩, .inl rfl⟩, ⟨⟨_, rfl, r3⟩, .inl rfl⟩, trivial⟩
  refine ex_cons (ex_for rfl (ev_nm rfl rfl rfl ⟨_, .tup, ?_⟩))
  generalize hρ : (none : Option LV) = o3
  clear hρ
  have szl := sizeLine_eq
  generalize hL : D.tup (l.map fun x => D.str (T x)) = L
  clear hL
  induction l generalizing o3 with
  | nil =>
    refine ForL.done (ex_nil ?_)
    refine ex_nil ?_
    exact h
  | cons x r ih =>
    obtain ⟨hx, hz, hk⟩ := hl x List.mem_cons_self
    have hsz : x.length ≤ sizeLine := by omega
    obtain ⟨y, ys, rfl⟩ := List.exists_cons_of_ne_nil hx
    refine ForL.turn ?_
    refine asg_n rfl rfl rfl ?_
    refine ex_cons (ex_if (tst_not (tst_of (fun _ _ => rfl) (ev_nm rfl rfl rfl (tru_T hsz ?_)))))
    rw [if_neg (by simp)]
    repeat kd_subs
    refine item_T (i := 0) hsz (ch := y) rfl ?_
    repeat kd_subs
    have go : ForL (cx w h₁ os₁ GI) (n + 1) _ _ _ _ _ (r.map fun x => D.str (T x)) _ := ih (fun x hx => hl x (List.mem_cons_of_mem _ hx)) (some (.dat (.str (T (y :: ys)))))
    by_cases e : y = 48
    · subst e
      rw [if_pos (show ([48] == [48]) = true from rfl)]
      repeat kd_subs
      cases hd : Txt.isdigit (T (48 :: ys))
      · rw [if_neg (by simp), if_neg (by simp)]
        exact ex_nil (ex_nil go)
      · rw [if_pos rfl]
        repeat kd_subs
        by_cases ey : ys = []
        · subst ey
          rw [if_neg (show ¬ ([48] != [48]) = true from by decide), if_neg (by simp)]
          exact ex_nil (ex_nil go)
        · rw [if_pos (by simpa using ey)]
          repeat kd_subs
          have hz : lz = true := by
            rcases hk with q | q | q | q
            · exact q
            · exact absurd rfl q
            · rw [hd] at q; cases q
            · exact absurd (List.cons.inj q).2 ey
          subst hz
          rw [if_neg (by simp), if_neg (by simp)]
          exact ex_nil (ex_nil go)
    · rw [if_neg (by simpa using e), if_neg (by simp)]
      exact ex_nil (ex_nil go)
end
end Mine
end
section
set_option maxHeartbeats 0
namespace Mine
open PySem PySem.W PySem.Calls PyProof.Rows Builtin
section
variable {w : World} {h₁ : Heap} {os₁ : OsState} {GI : Array GenState → Drawn → Prop}
local macro_rules
  | `(tactic| kd_subs) => `(tactic| first
    | ((with_reducible show Ev _ _ _ _ _ _); first
      | ((with_reducible show Ev _ _ _ _ (Expr.Name _ _) _); first
        | ((with_reducible show Ev _ _ _ _ (Expr.Name (Str.ofString "_DIGITS") _) _); refine nm_digits (by assumption) rfl rfl ?_)
        | ((with_reducible show Ev _ _ _ _ (Expr.Name (Str.ofString "_SIGNS") _) _); refine nm_signs (by assumption) rfl rfl ?_)
        | ((with_reducible show Ev _ _ _ _ (Expr.Name (Str.ofString "Version") _) _); refine nm_ver (by assumption) rfl rfl ?_)
        | ((with_reducible show Ev _ _ _ _ (Expr.Name (Str.ofString "MaxIdentifier") _) _); refine nm_max (by assumption) rfl rfl ?_)
        | ((with_reducible show Ev _ _ _ _ (Expr.Name (Str.ofString "NumericIdentifier") _) _); refine nm_num (by assumption) rfl rfl ?_)
        | ((with_reducible show Ev _ _ _ _ (Expr.Name (Str.ofString "AlphaIdentifier") _) _); refine nm_alpha (by assumption) rfl rfl ?_)
        | ((with_reducible show Ev _ _ _ _ (Expr.Name (Str.ofString "NotImplemented") _) _); refine nm_ni (by assumption) rfl rfl ?_)
        | refine ev_nm rfl rfl rfl ?_)
      | ((with_reducible show Ev _ _ _ _ (Expr.Constant _ _ _) _); first
        | ((with_reducible show Ev _ _ _ _ (Expr.Constant (Const.int _) _ _) _); refine ev_int ?_)
        | ((with_reducible show Ev _ _ _ _ (Expr.Constant Const.none _ _) _); refine ev_none ?_)
        | ((with_reducible show Ev _ _ _ _ (Expr.Constant (Const.bool _) _ _) _); refine ev_bool ?_)
        | ((with_reducible show Ev _ _ _ _ (Expr.Constant (Const.str (Str.ofString ".")) _ _) _); refine ev_strT lit_dot ?_)
        | ((with_reducible show Ev _ _ _ _ (Expr.Constant (Const.str (Str.ofString "-")) _ _) _); refine ev_strT lit_dash ?_)
        | ((with_reducible show Ev _ _ _ _ (Expr.Constant (Const.str (Str.ofString "+")) _ _) _); refine ev_strT lit_plus ?_)
        | ((with_reducible show Ev _ _ _ _ (Expr.Constant (Const.str (Str.ofString "\n")) _ _) _); refine ev_strT lit_nl ?_)
        | ((with_reducible show Ev _ _ _ _ (Expr.Constant (Const.str (Str.ofString "")) _ _) _); refine ev_strT lit_empty ?_)
        | ((with_reducible show Ev _ _ _ _ (Expr.Constant (Const.str (Str.ofString "0")) _ _) _); refine ev_strT lit_zero ?_))
      | ((with_reducible show Ev _ _ _ _ (Expr.Call (Expr.Name _ _) _ _ _) _); first
        | ((with_reducible show Ev _ _ _ _ (Expr.Call (Expr.Name (Str.ofString "len") _) _ [] _) _); refine bl_len (by assumption) rfl rfl rfl ?_)
        | ((with_reducible show Ev _ _ _ _ (Expr.Call (Expr.Name (Str.ofString "int") _) _ [] _) _); refine bl_int (by assumption) rfl rfl rfl ?_)
        | ((with_reducible show Ev _ _ _ _ (Expr.Call (Expr.Name (Str.ofString "str") _) _ [] _) _); refine bl_str (by assumption) rfl rfl rfl ?_)
        | ((with_reducible show Ev _ _ _ _ (Expr.Call (Expr.Name (Str.ofString "abs") _) _ [] _) _); refine bl_abs (by assumption) rfl rfl rfl ?_)
        | ((with_reducible show Ev _ _ _ _ (Expr.Call (Expr.Name (Str.ofString "max") _) _ [] _) _); refine bl_max (by assumption) rfl rfl rfl ?_)
        | ((with_reducible show Ev _ _ _ _ (Expr.Call (Expr.Name (Str.ofString "min") _) _ [] _) _); refine bl_min (by assumption) rfl rfl rfl ?_)
        | ((with_reducible show Ev _ _ _ _ (Expr.Call (Expr.Name (Str.ofString "range") _) _ [] _) _); refine bl_range (by assumption) rfl rfl rfl ?_)
        | ((with_reducible show Ev _ _ _ _ (Expr.Call (Expr.Name (Str.ofString "tuple") _) _ [] _) _); (fail_if_success (with_reducible show Ev _ _ _ _ (Expr.Call _ [Expr.GeneratorExp _ _ _ _] _ _) _)); refine bl_tuple (by assumption) rfl rfl rfl ?_)
        | ((with_reducible show Ev _ _ _ _ (Expr.Call (Expr.Name (Str.ofString "list") _) _ [] _) _); refine bl_list (by assumption) rfl rfl rfl ?_)
        | ((with_reducible show Ev _ _ _ _ (Expr.Call (Expr.Name (Str.ofString "isinstance") _) _ [] _) _); refine bl_isinstance (by assumption) rfl rfl rfl ?_)
        | ((with_reducible show Ev _ _ _ _ (Expr.Call (Expr.Name (Str.ofString "_behind") _) _ [] _) _); refine cl_behind (by assumption) rfl rfl rfl ?_)
        | ((with_reducible show Ev _ _ _ _ (Expr.Call (Expr.Name (Str.ofString "_version_groups") _) _ [] _) _); refine cl_groups (by assumption) rfl rfl rfl ?_)
        | ((with_reducible show Ev _ _ _ _ (Expr.Call (Expr.Name (Str.ofString "_has_leading_zero") _) _ [] _) _); refine cl_hlz (by assumption) rfl rfl rfl ?_)
        | ((with_reducible show Ev _ _ _ _ (Expr.Call (Expr.Name (Str.ofString "MaxIdentifier") _) _ [] _) _); refine cl_max (by assumption) rfl rfl rfl ?_)
        | ((with_reducible show Ev _ _ _ _ (Expr.Call (Expr.Name (Str.ofString "NumericIdentifier") _) _ [] _) _); refine cl_num (by assumption) rfl rfl rfl ?_)
        | ((with_reducible show Ev _ _ _ _ (Expr.Call (Expr.Name (Str.ofString "AlphaIdentifier") _) _ [] _) _); refine cl_alpha (by assumption) rfl rfl rfl ?_)
        | ((with_reducible show Ev _ _ _ _ (Expr.Call (Expr.Name (Str.ofString "Version") _) _ [] _) _); refine cl_ver (by assumption) rfl rfl rfl ?_)
        | ((with_reducible show Ev _ _ _ _ (Expr.Call (Expr.Name (Str.ofString "Version") _) _ _ _) _); refine ck_ver (by assumption) rfl rfl rfl rfl ?_))
      | ((with_reducible show Ev _ _ _ _ (Expr.Compare _ _ _ _) _); refine ev_cmp rfl ?_)
      | ((with_reducible show Ev _ _ _ _ (Expr.Call (Expr.Attribute _ _ _) _ [] _) _); first
        | ((with_reducible show Ev _ _ _ _ (Expr.Call (Expr.Attribute _ (Str.ofString "isdigit") _) _ [] _) _); refine ev_methv (by assumption) (fun _ => rfl) rfl (evv_dat ?_))
        | ((with_reducible show Ev _ _ _ _ (Expr.Call (Expr.Attribute _ (Str.ofString "split") _) _ [] _) _); refine ev_methv (by assumption) (fun _ => rfl) rfl (evv_dat ?_))
        | ((with_reducible show Ev _ _ _ _ (Expr.Call (Expr.Attribute _ (Str.ofString "join") _) _ [] _) _); refine ev_methv (by assumption) (fun _ => rfl) rfl (evv_dat ?_))
        | ((with_reducible show Ev _ _ _ _ (Expr.Call (Expr.Attribute _ (Str.ofString "encode") _) _ [] _) _); refine ev_methv (by assumption) (fun _ => rfl) rfl (evv_dat ?_)))
      | ((with_reducible show Ev _ _ _ _ (Expr.Attribute (Expr.Name _ _) _ _) _); first
        | ((with_reducible show Ev _ _ _ _ (Expr.Attribute (Expr.Name _ _) (Str.ofString "major") _) _); refine ev_attr (fun _ => rfl) (evv_nm rfl rfl rfl (attr_inst (by assumption) rfl at_major rfl rfl ?_)))
        | ((with_reducible show Ev _ _ _ _ (Expr.Attribute (Expr.Name _ _) (Str.ofString "minor") _) _); refine ev_attr (fun _ => rfl) (evv_nm rfl rfl rfl (attr_inst (by assumption) rfl at_minor rfl rfl ?_)))
        | ((with_reducible show Ev _ _ _ _ (Expr.Attribute (Expr.Name _ _) (Str.ofString "patch") _) _); refine ev_attr (fun _ => rfl) (evv_nm rfl rfl rfl (attr_inst (by assumption) rfl at_patch rfl rfl ?_)))
        | ((with_reducible show Ev _ _ _ _ (Expr.Attribute (Expr.Name _ _) (Str.ofString "prerelease") _) _); refine ev_attr (fun _ => rfl) (evv_nm rfl rfl rfl (attr_inst (by assumption) rfl at_pre rfl rfl ?_)))
        | ((with_reducible show Ev _ _ _ _ (Expr.Attribute (Expr.Name _ _) (Str.ofString "build") _) _); refine ev_attr (fun _ => rfl) (evv_nm rfl rfl rfl (attr_inst (by assumption) rfl at_build rfl rfl ?_)))
        | ((with_reducible show Ev _ _ _ _ (Expr.Attribute (Expr.Name _ _) (Str.ofString "partial") _) _); refine ev_attr (fun _ => rfl) (evv_nm rfl rfl rfl (attr_inst (by assumption) rfl at_partial rfl rfl ?_)))
        | ((with_reducible show Ev _ _ _ _ (Expr.Attribute (Expr.Name _ _) (Str.ofString "_cmp_precedence_key") _) _); refine ev_attr (fun _ => rfl) (evv_nm rfl rfl rfl (attr_inst (by assumption) rfl at_cmpk rfl rfl ?_))))
      | ((with_reducible show Ev _ _ _ _ (Expr.BoolOp BoolOp.And (_ :: _ :: _) _) _); refine ev_and ?_)
      | ((with_reducible show Ev _ _ _ _ (Expr.BoolOp BoolOp.Or (_ :: _ :: _) _) _); refine ev_or ?_)
      | ((with_reducible show Ev _ _ _ _ (Expr.BoolOp _ [_] _) _); refine ev_bool1 ?_)
      | ((with_reducible show Ev _ _ _ _ (Expr.BinOp _ _ _ _) _); refine ev_bin ?_)
      | ((with_reducible show Ev _ _ _ _ (Expr.Tuple _ _ _) _); refine ev_tup ?_)
      | ((with_reducible show Ev _ _ _ _ (Expr.List _ _) _); refine ev_list ?_)
      | ((with_reducible show Ev _ _ _ _ (Expr.UnaryOp UnaryOp.Not _ _) _); refine ev_not ?_)
      | ((with_reducible show Ev _ _ _ _ (Expr.UnaryOp _ _ _) _); refine ev_un ?_)
      | ((with_reducible show Ev _ _ _ _ (Expr.Subscript _ (Expr.Slice _ _ _ _) _) _); refine ev_cut ?_)
      | ((with_reducible show Ev _ _ _ _ (Expr.Subscript _ _ _) _); refine ev_item rfl ?_))
    | ((with_reducible show MethV _ _ _ _ _); first
      | refine m_isdigit ?_
      | refine m_split ?_
      | refine m_join ?_
      | refine m_encode ?_)
    | ((with_reducible show EvK _ _ _ _ _ _); first
      | refine evk_cons rfl ?_
      | refine evk_nil ?_)
    | ((with_reducible show EvL _ _ _ _ _ _); first
      | ((with_reducible show EvL _ _ _ _ (_ :: _) _); refine evl_cons rfl ?_)
      | refine evl_nil ?_)
    | ((with_reducible show Ex _ _ _ _ _ _); first
      | ((with_reducible show Ex _ _ _ _ (_ :: _) _); (try conv => arg 4; simp only [List.set_cons_succ, List.set_cons_zero]); refine ex_cons ?_)
      | refine ex_nil ?_)
    | ((with_reducible show Ex1 _ _ _ _ _ _); first
      | ((with_reducible show Ex1 _ _ _ _ (Stmt.If _ _ _ _) _); refine ex_if ?_)
      | ((with_reducible show Ex1 _ _ _ _ (Stmt.Return (some _) _) _); refine ex_return ?_)
      | ((with_reducible show Ex1 _ _ _ _ (Stmt.Assign [Expr.Name _ _] _ _) _); refine ex_as rfl rfl rfl (fun _ => rfl) ?_))
    | ((with_reducible show Two _ _ _ _ _ _); first
      | ((with_reducible show Two _ _ (binaryOp Operator.Add) _ _ _); refine i_add ?_)
      | ((with_reducible show Two _ _ (binaryOp Operator.Sub) _ _ _); refine i_sub ?_)
      | ((with_reducible show Two _ _ (binaryOp Operator.BitXor) _ _ _); refine b_xor ?_)
      | ((with_reducible show Two _ _ (compareOp CmpOp.Lt) _ _ _); refine i_lt ?_)
      | ((with_reducible show Two _ _ (compareOp CmpOp.Gt) _ _ _); refine i_gt ?_)
      | ((with_reducible show Two _ _ (compareOp CmpOp.LtE) _ _ _); refine i_le ?_)
      | ((with_reducible show Two _ _ (compareOp CmpOp.GtE) _ _ _); refine i_ge ?_)
      | ((with_reducible show Two _ _ (compareOp CmpOp.Is) _ _ _); refine is_no ?_)
      | ((with_reducible show Two _ _ (compareOp CmpOp.IsNot) _ _ _); refine isnt_no ?_)
      | ((with_reducible show Two _ _ (compareOp CmpOp.Eq) (D.int _) _ _); refine i_eq ?_)
      | ((with_reducible show Two _ _ (compareOp CmpOp.Eq) (D.str (T _)) _ _); refine s_eqT ?_)
      | ((with_reducible show Two _ _ (compareOp CmpOp.NotEq) (D.int _) _ _); refine i_ne ?_)
      | ((with_reducible show Two _ _ (compareOp CmpOp.NotEq) (D.str (T _)) _ _); refine s_neT ?_))
    | ((with_reducible show Tst _ _ _ _ _ _); first
      | ((with_reducible show Tst _ _ _ _ (Expr.Compare _ _ _ _) _); refine tst_cmp rfl ?_)
      | ((with_reducible show Tst _ _ _ _ (Expr.Name _ _) _); refine tst_of (fun _ _ => rfl) ?_)
      | ((with_reducible show Tst _ _ _ _ (Expr.Call _ _ _ _) _); refine tst_of (fun _ _ => rfl) ?_)
      | ((with_reducible show Tst _ _ _ _ (Expr.Attribute _ _ _) _); refine tst_of (fun _ _ => rfl) ?_)
      | ((with_reducible show Tst _ _ _ _ (Expr.BinOp _ _ _ _) _); refine tst_of (fun _ _ => rfl) ?_)
      | ((with_reducible show Tst _ _ _ _ (Expr.Subscript _ _ _) _); refine tst_of (fun _ _ => rfl) ?_)
      | ((with_reducible show Tst _ _ _ _ (Expr.BoolOp BoolOp.And [] _) _); refine tst_and_nil ?_)
      | ((with_reducible show Tst _ _ _ _ (Expr.BoolOp BoolOp.Or [] _) _); refine tst_or_nil ?_)
      | ((with_reducible show Tst _ _ _ _ (Expr.UnaryOp UnaryOp.Not _ _) _); refine tst_not ?_)
      | ((with_reducible show Tst _ _ _ _ (Expr.BoolOp BoolOp.And (_ :: _) _) _); refine tst_and ?_)
      | ((with_reducible show Tst _ _ _ _ (Expr.BoolOp BoolOp.Or (_ :: _) _) _); refine tst_or ?_))
    | ((with_reducible show EvP _ _ _ _ _ _); first
      | refine evp_some ?_
      | refine evp_none ?_)
    | ((with_reducible show Tru _ _ _ _); first
      | refine tru_T (by assumption) ?_
      | refine tru_bool ?_
      | refine tru_none ?_)
    | ((with_reducible show One _ _ (unaryOp UnaryOp.USub) _ _); refine i_neg ?_)
    | ((with_reducible show Cut _ _ (D.str (T _)) _ _ _); refine cut_T (by assumption) ?_)
    | ((with_reducible show CallV _ _ (Value.builtin "len") _ _ _); refine c_len_T (by assumption) ?_)
    | ((with_reducible show CallV _ _ (Value.builtin "str.isdigit") _ _ _); refine c_isdigit ?_)
    | ((with_reducible show ∃ _, _ ∧ _); refine ⟨_, rfl, ?_⟩))

theorem cm_coerce : cmIn (cx w h₁ os₁ GI).K 388 "_coerce" 233 = true := by kernel_rfl
theorem cm_val : cmIn (cx w h₁ os₁ GI).K 388 "_validate_identifiers" 293 = true := by kernel_rfl
/-- a number's text -/
structure Num (a : List Nat) (A : Int) : Prop where
  dig : a ≠ [] ∧ ∀ ch ∈ a, DG.contains ch = true
  lead : ∃ x r, a = x :: r ∧ (x ≠ 48 ∨ r = [])
  val : PySem.intText? (T a) = some A
  len : a.length ≤ 200
/-- identifiers that may stand in a text -/
structure Ids (lz : Bool) (l : List (List Nat)) : Prop where
  each : ∀ x ∈ l, IdOk lz x ∧ (∀ ch ∈ x, SG.contains ch = true) ∧ 46 ∉ x
  len : l.length ≤ 100
def tailOf (pre bld : List (List Nat)) : List Nat := (if pre = [] then [] else 45 :: jn pre) ++ (if bld = [] then [] else 43 :: jn bld)
def vtext (a b d : List Nat) (pre bld : List (List Nat)) : List Nat := a ++ (46 :: (b ++ (46 :: (d ++ tailOf pre bld))))
def part (l : List (List Nat)) : Option (List Nat) := if l = [] then none else some (jn l)
theorem jn_sg : ∀ {l : List (List Nat)}, (∀ x ∈ l, x ≠ [] ∧ ∀ ch ∈ x, SG.contains ch = true) → l ≠ [] → jn l ≠ [] ∧ ∀ ch ∈ jn l, SG.contains ch = true
  | [], _, h => absurd rfl h
  | [x], h, _ => h x List.mem_cons_self
  | x :: y :: r, h, _ => by
    obtain ⟨h1, h2⟩ := h x List.mem_cons_self
    obtain ⟨h3, h4⟩ := jn_sg (l := y :: r) (fun z hz => h z (List.mem_cons_of_mem _ hz)) (by simp)
    refine ⟨by show x ++ 46 :: jn (y :: r) ≠ []; simp, fun ch hc => ?_⟩
    have hc : ch ∈ x ++ 46 :: jn (y :: r) := hc
    rcases List.mem_append.mp hc with q | q
    · exact h2 ch q
    · rcases List.mem_cons.mp q with q | q
      · subst q; rfl
      · exact h4 ch q
theorem part_ok {lz : Bool} {l : List (List Nat)} (h : Ids lz l) : ∀ p, part l = some p → p ≠ [] ∧ ∀ ch ∈ p, SG.contains ch = true := fun p e => by
  unfold part at e
  split at e
  · cases e
  · rename_i ne
    cases e
    exact jn_sg (fun x hx => ⟨(h.each x hx).1.1, (h.each x hx).2.1⟩) ne
theorem tail_ok {pre bld : List (List Nat)} (hp : Ids false pre) (hb : Ids true bld) : Tail (tailOf pre bld) (part pre) (part bld) (tailOf pre bld) := by
  refine ⟨?_, part_ok hp, part_ok hb⟩
  unfold tailOf part
  by_cases h1 : pre = [] <;> by_cases h2 : bld = [] <;> simp [h1, h2]
def idsD (l : List (List Nat)) : D := .tup (l.map fun x => .str (T x))
theorem parse (O : (cx w h₁ os₁ GI).Ok) {n : Nat} {a b d : List Nat} {pre bld : List (List Nat)} {A B C : Int} {Pq : D → Prop} (na : Num a A) (nb : Num b B) (nd : Num d C) (hp : Ids false pre) (hb : Ids true bld) (hz : (vtext a b d pre bld).length ≤ 1000)
    (h : Pq (.tup [.int A, .int B, .int C, idsD pre, idsD bld])) :
    CallK (cx w h₁ os₁ GI) (n + 6) (.ref 282) [.dat (.raw (.ref 388)), .dat (.str (T (vtext a b d pre bld))), .dat (.raw (.bool false))] [] Pq := by
  have szl := sizeLine_eq
  have hsz : (vtext a b d pre bld).length ≤ sizeLine := by omega
  have hne : ∃ x r, vtext a b d pre bld = x :: r := by
    obtain ⟨x, r, e, _⟩ := na.lead
    exact ⟨x, r ++ (46 :: (b ++ (46 :: (d ++ tailOf pre bld)))), by unfold vtext; rw [e]; rfl⟩
  refine' call_def O ?hf ?hc ?hs ?ρ ?hno ?hb ?_
  case hf => exact rfl
  case hc => kernel_rfl
  case hs => kernel_rfl
  case ρ => exact [some (.dat (.raw (.ref 388))), some (.dat (.str (T (vtext a b d pre bld)))), some (.dat (.raw (.bool false))), some (.dat (.raw (.bool false))), none, none, none, none, none, none]
  case hno => exact rfl
  case hb =>
    rintro X s vs kvs I ⟨v1, _, rfl, r1, v2, _, rfl, r2, v3, _, rfl, r3, rfl⟩ rk
    have e : kvs = [] := rk
    subst e
    refine ⟨_, binds_K (I.kin O) rfl rfl rfl rfl rfl, rfl, ⟨⟨_, rfl, r1⟩, .inl rfl⟩, ⟨⟨_, rfl, r2⟩, .inl rfl⟩, ⟨⟨_, rfl, r3⟩, .inl rfl⟩, ⟨⟨_, rfl, rfl⟩, .inl rfl⟩, trivial⟩
  refine ex_cons (ex_if (tst_not (tst_of (fun _ _ => rfl) (ev_nm rfl rfl rfl (tru_T hsz ?_)))))
  rw [if_neg (by obtain ⟨x, r, e⟩ := hne; rw [e]; simp)]
  repeat kd_subs
  refine groups O (tail_ok hp hb) na.dig nb.dig nd.dig hz ?_
  repeat kd_subs
  rw [if_neg (by simp [D.isNone])]
  refine ex_nil ?_
  refine ex_cons (ex_unpack (fun _ => rfl) (fun _ => rfl) (ev_nm rfl rfl rfl (asg_tuple rfl .list rfl (asgl_cons (asg_n rfl rfl rfl (asgl_cons (asg_n rfl rfl rfl (asgl_cons (asg_n rfl rfl rfl (asgl_cons (asg_n rfl rfl rfl (asgl_cons (asg_n rfl rfl rfl (asgl_nil ?_))))))))))))))
  repeat kd_subs
  refine hlz O (by have := na.len; omega) na.lead ?_
  repeat kd_subs
  rw [if_neg (by simp)]
  repeat kd_subs
  refine hlz O (by have := nb.len; omega) nb.lead ?_
  repeat kd_subs
  rw [if_neg (by simp)]
  repeat kd_subs
  refine hlz O (by have := nd.len; omega) nd.lead ?_
  repeat kd_subs
  rw [if_neg (by simp)]
  repeat kd_subs
  refine c_int_s na.val (by rw [T_length]; have := na.len; omega) ?_
  repeat kd_subs
  refine ev_meth O (fun _ => rfl) rfl rfl (evv_dat (ev_nm rfl rfl rfl (meth_cls O cm_coerce ?_)))
  repeat kd_subs
  refine coerce_s O nb.val (by rw [T_length]; have := nb.len; omega) ?_
  repeat kd_subs
  refine ev_meth O (fun _ => rfl) rfl rfl (evv_dat (ev_nm rfl rfl rfl (meth_cls O cm_coerce ?_)))
  repeat kd_subs
  refine coerce_s O nd.val (by rw [T_length]; have := nd.len; omega) ?_
  repeat kd_subs
  have jl : ∀ {lz : Bool} {l : List (List Nat)}, Ids lz l → l ≠ [] → splitL (jn l) = l := fun hi ne => splitL_jn ne fun x hx => (hi.each x hx).2.2
  have szp : pre ≠ [] → (jn pre).length ≤ 1000 := fun ne => by
    have : (jn pre).length ≤ (vtext a b d pre bld).length := by unfold vtext tailOf; rw [if_neg ne]; simp; omega
    omega
  have szb : bld ≠ [] → (jn bld).length ≤ 1000 := fun ne => by
    have : (jn bld).length ≤ (vtext a b d pre bld).length := by unfold vtext tailOf; rw [if_neg ne]; simp; omega
    omega
  have hp0 : (orNone (part pre)).isNone = decide (pre = []) := by unfold part; by_cases e : pre = [] <;> simp [e, orNone, D.isNone]
  have hb0 : (orNone (part bld)).isNone = decide (bld = []) := by unfold part; by_cases e : bld = [] <;> simp [e, orNone, D.isNone]
  have hP : pre ≠ [] → orNone (part pre) = .str (T (jn pre)) := fun ne => by unfold part; rw [if_neg ne]; rfl
  have hB : bld ≠ [] → orNone (part bld) = .str (T (jn bld)) := fun ne => by unfold part; rw [if_neg ne]; rfl
  have nP : pre ≠ [] → jn pre ≠ [] := fun ne => (jn_sg (fun x hx => ⟨(hp.each x hx).1.1, (hp.each x hx).2.1⟩) ne).1
  have nB : bld ≠ [] → jn bld ≠ [] := fun ne => (jn_sg (fun x hx => ⟨(hb.each x hx).1.1, (hb.each x hx).2.1⟩) ne).1
  by_cases e1 : pre = []
  · rw [if_pos (by rw [hp0]; simpa using e1)]
    repeat kd_subs
    rw [if_neg (by simp), if_neg (by simp)]
    repeat kd_subs
    refine ⟨by simp, ?_⟩
    repeat kd_subs
    subst e1
    by_cases e2 : bld = []
    · rw [if_pos (by rw [hb0]; simpa using e2)]
      repeat kd_subs
      rw [if_neg (by simp)]
      repeat kd_subs
      refine ⟨by simp, ?_⟩
      repeat kd_subs
      refine ⟨by simp [szl], ?_⟩
      subst e2
      exact h
    · rw [if_neg (by rw [hb0]; simpa using e2), hB e2]
      have lb := szb e2
      repeat kd_subs
      rw [if_neg (by simpa using nB e2)]
      repeat kd_subs
      refine c_split_T (by omega) ?_
      rw [jl hb e2]
      repeat kd_subs
      refine c_tuple_l (by have := hb.len; rw [List.length_map]; omega) ?_
      repeat kd_subs
      refine ex_expr (fun _ => rfl) (ev_meth O (fun _ => rfl) rfl rfl (evv_dat (ev_nm rfl rfl rfl (meth_cls O cm_val ?_))))
      repeat kd_subs
      refine validate O (fun x hx => (hb.each x hx).1) ?_
      repeat kd_subs
      refine ⟨by simp [szl], ?_⟩
      exact h
  · rw [if_neg (by rw [hp0]; simpa using e1), hP e1]
    have lp := szp e1
    repeat kd_subs
    rw [if_neg (by simpa using nP e1)]
    repeat kd_subs
    refine c_split_T (by omega) ?_
    rw [jl hp e1]
    repeat kd_subs
    refine c_tuple_l (by have := hp.len; rw [List.length_map]; omega) ?_
    repeat kd_subs
    refine ex_expr (fun _ => rfl) (ev_meth O (fun _ => rfl) rfl rfl (evv_dat (ev_nm rfl rfl rfl (meth_cls O cm_val ?_))))
    repeat kd_subs
    refine validate O (fun x hx => (hp.each x hx).1) ?_
    repeat kd_subs
    by_cases e2 : bld = []
    · rw [if_pos (by rw [hb0]; simpa using e2)]
      repeat kd_subs
      rw [if_neg (by simp)]
      repeat kd_subs
      refine ⟨by simp, ?_⟩
      repeat kd_subs
      refine ⟨by simp [szl], ?_⟩
      subst e2
      exact h
    · rw [if_neg (by rw [hb0]; simpa using e2), hB e2]
      have lb := szb e2
      repeat kd_subs
      rw [if_neg (by simpa using nB e2)]
      repeat kd_subs
      refine c_split_T (by omega) ?_
      rw [jl hb e2]
      repeat kd_subs
      refine c_tuple_l (by have := hb.len; rw [List.length_map]; omega) ?_
      repeat kd_subs
      refine ex_expr (fun _ => rfl) (ev_meth O (fun _ => rfl) rfl rfl (evv_dat (ev_nm rfl rfl rfl (meth_cls O cm_val ?_))))
      repeat kd_subs
      refine validate O (fun x hx => (hb.each x hx).1) ?_
      repeat kd_subs
      refine ⟨by simp [szl], ?_⟩
      exact h
end
end Mine
end
section
set_option maxHeartbeats 0
namespace Mine
open PySem PySem.W PySem.Calls PyProof.Rows Builtin
section
variable {w : World} {h₁ : Heap} {os₁ : OsState} {GI : Array GenState → Drawn → Prop}
local macro_rules
  | `(tactic| kd_subs) => `(tactic| first
    | ((with_reducible show Ev _ _ _ _ _ _); first
      | ((with_reducible show Ev _ _ _ _ (Expr.Name _ _) _); first
        | ((with_reducible show Ev _ _ _ _ (Expr.Name (Str.ofString "_DIGITS") _) _); refine nm_digits (by assumption) rfl rfl ?_)
        | ((with_reducible show Ev _ _ _ _ (Expr.Name (Str.ofString "_SIGNS") _) _); refine nm_signs (by assumption) rfl rfl ?_)
        | ((with_reducible show Ev _ _ _ _ (Expr.Name (Str.ofString "Version") _) _); refine nm_ver (by assumption) rfl rfl ?_)
        | ((with_reducible show Ev _ _ _ _ (Expr.Name (Str.ofString "MaxIdentifier") _) _); refine nm_max (by assumption) rfl rfl ?_)
        | ((with_reducible show Ev _ _ _ _ (Expr.Name (Str.ofString "NumericIdentifier") _) _); refine nm_num (by assumption) rfl rfl ?_)
        | ((with_reducible show Ev _ _ _ _ (Expr.Name (Str.ofString "AlphaIdentifier") _) _); refine nm_alpha (by assumption) rfl rfl ?_)
        | ((with_reducible show Ev _ _ _ _ (Expr.Name (Str.ofString "NotImplemented") _) _); refine nm_ni (by assumption) rfl rfl ?_)
        | refine ev_nm rfl rfl rfl ?_)
      | ((with_reducible show Ev _ _ _ _ (Expr.Constant _ _ _) _); first
        | ((with_reducible show Ev _ _ _ _ (Expr.Constant (Const.int _) _ _) _); refine ev_int ?_)
        | ((with_reducible show Ev _ _ _ _ (Expr.Constant Const.none _ _) _); refine ev_none ?_)
        | ((with_reducible show Ev _ _ _ _ (Expr.Constant (Const.bool _) _ _) _); refine ev_bool ?_)
        | ((with_reducible show Ev _ _ _ _ (Expr.Constant (Const.str (Str.ofString ".")) _ _) _); refine ev_strT lit_dot ?_)
        | ((with_reducible show Ev _ _ _ _ (Expr.Constant (Const.str (Str.ofString "-")) _ _) _); refine ev_strT lit_dash ?_)
        | ((with_reducible show Ev _ _ _ _ (Expr.Constant (Const.str (Str.ofString "+")) _ _) _); refine ev_strT lit_plus ?_)
        | ((with_reducible show Ev _ _ _ _ (Expr.Constant (Const.str (Str.ofString "\n")) _ _) _); refine ev_strT lit_nl ?_)
        | ((with_reducible show Ev _ _ _ _ (Expr.Constant (Const.str (Str.ofString "")) _ _) _); refine ev_strT lit_empty ?_)
        | ((with_reducible show Ev _ _ _ _ (Expr.Constant (Const.str (Str.ofString "0")) _ _) _); refine ev_strT lit_zero ?_))
      | ((with_reducible show Ev _ _ _ _ (Expr.Call (Expr.Name _ _) _ _ _) _); first
        | ((with_reducible show Ev _ _ _ _ (Expr.Call (Expr.Name (Str.ofString "len") _) _ [] _) _); refine bl_len (by assumption) rfl rfl rfl ?_)
        | ((with_reducible show Ev _ _ _ _ (Expr.Call (Expr.Name (Str.ofString "int") _) _ [] _) _); refine bl_int (by assumption) rfl rfl rfl ?_)
        | ((with_reducible show Ev _ _ _ _ (Expr.Call (Expr.Name (Str.ofString "str") _) _ [] _) _); refine bl_str (by assumption) rfl rfl rfl ?_)
        | ((with_reducible show Ev _ _ _ _ (Expr.Call (Expr.Name (Str.ofString "abs") _) _ [] _) _); refine bl_abs (by assumption) rfl rfl rfl ?_)
        | ((with_reducible show Ev _ _ _ _ (Expr.Call (Expr.Name (Str.ofString "max") _) _ [] _) _); refine bl_max (by assumption) rfl rfl rfl ?_)
        | ((with_reducible show Ev _ _ _ _ (Expr.Call (Expr.Name (Str.ofString "min") _) _ [] _) _); refine bl_min (by assumption) rfl rfl rfl ?_)
        | ((with_reducible show Ev _ _ _ _ (Expr.Call (Expr.Name (Str.ofString "range") _) _ [] _) _); refine bl_range (by assumption) rfl rfl rfl ?_)
        | ((with_reducible show Ev _ _ _ _ (Expr.Call (Expr.Name (Str.ofString "tuple") _) _ [] _) _); (fail_if_success (with_reducible show Ev _ _ _ _ (Expr.Call _ [Expr.GeneratorExp _ _ _ _] _ _) _)); refine bl_tuple (by assumption) rfl rfl rfl ?_)
        | ((with_reducible show Ev _ _ _ _ (Expr.Call (Expr.Name (Str.ofString "list") _) _ [] _) _); refine bl_list (by assumption) rfl rfl rfl ?_)
        | ((with_reducible show Ev _ _ _ _ (Expr.Call (Expr.Name (Str.ofString "isinstance") _) _ [] _) _); refine bl_isinstance (by assumption) rfl rfl rfl ?_)
        | ((with_reducible show Ev _ _ _ _ (Expr.Call (Expr.Name (Str.ofString "_behind") _) _ [] _) _); refine cl_behind (by assumption) rfl rfl rfl ?_)
        | ((with_reducible show Ev _ _ _ _ (Expr.Call (Expr.Name (Str.ofString "_version_groups") _) _ [] _) _); refine cl_groups (by assumption) rfl rfl rfl ?_)
        | ((with_reducible show Ev _ _ _ _ (Expr.Call (Expr.Name (Str.ofString "_has_leading_zero") _) _ [] _) _); refine cl_hlz (by assumption) rfl rfl rfl ?_)
        | ((with_reducible show Ev _ _ _ _ (Expr.Call (Expr.Name (Str.ofString "MaxIdentifier") _) _ [] _) _); refine cl_max (by assumption) rfl rfl rfl ?_)
        | ((with_reducible show Ev _ _ _ _ (Expr.Call (Expr.Name (Str.ofString "NumericIdentifier") _) _ [] _) _); refine cl_num (by assumption) rfl rfl rfl ?_)
        | ((with_reducible show Ev _ _ _ _ (Expr.Call (Expr.Name (Str.ofString "AlphaIdentifier") _) _ [] _) _); refine cl_alpha (by assumption) rfl rfl rfl ?_)
        | ((with_reducible show Ev _ _ _ _ (Expr.Call (Expr.Name (Str.ofString "Version") _) _ [] _) _); refine cl_ver (by assumption) rfl rfl rfl ?_)
        | ((with_reducible show Ev _ _ _ _ (Expr.Call (Expr.Name (Str.ofString "Version") _) _ _ _) _); refine ck_ver (by assumption) rfl rfl rfl rfl ?_))
      | ((with_reducible show Ev _ _ _ _ (Expr.Compare _ _ _ _) _); refine ev_cmp rfl ?_)
      | ((with_reducible show Ev _ _ _ _ (Expr.Call (Expr.Attribute _ _ _) _ [] _) _); first
        | ((with_reducible show Ev _ _ _ _ (Expr.Call (Expr.Attribute _ (Str.ofString "isdigit") _) _ [] _) _); refine ev_methv (by assumption) (fun _ => rfl) rfl (evv_dat ?_))
        | ((with_reducible show Ev _ _ _ _ (Expr.Call (Expr.Attribute _ (Str.ofString "split") _) _ [] _) _); refine ev_methv (by assumption) (fun _ => rfl) rfl (evv_dat ?_))
        | ((with_reducible show Ev _ _ _ _ (Expr.Call (Expr.Attribute _ (Str.ofString "join") _) _ [] _) _); refine ev_methv (by assumption) (fun _ => rfl) rfl (evv_dat ?_))
        | ((with_reducible show Ev _ _ _ _ (Expr.Call (Expr.Attribute _ (Str.ofString "encode") _) _ [] _) _); refine ev_methv (by assumption) (fun _ => rfl) rfl (evv_dat ?_)))
      | ((with_reducible show Ev _ _ _ _ (Expr.Attribute (Expr.Name _ _) _ _) _); first
        | ((with_reducible show Ev _ _ _ _ (Expr.Attribute (Expr.Name _ _) (Str.ofString "major") _) _); refine ev_attr (fun _ => rfl) (evv_nm rfl rfl rfl (attr_inst (by assumption) rfl at_major rfl rfl ?_)))
        | ((with_reducible show Ev _ _ _ _ (Expr.Attribute (Expr.Name _ _) (Str.ofString "minor") _) _); refine ev_attr (fun _ => rfl) (evv_nm rfl rfl rfl (attr_inst (by assumption) rfl at_minor rfl rfl ?_)))
        | ((with_reducible show Ev _ _ _ _ (Expr.Attribute (Expr.Name _ _) (Str.ofString "patch") _) _); refine ev_attr (fun _ => rfl) (evv_nm rfl rfl rfl (attr_inst (by assumption) rfl at_patch rfl rfl ?_)))
        | ((with_reducible show Ev _ _ _ _ (Expr.Attribute (Expr.Name _ _) (Str.ofString "prerelease") _) _); refine ev_attr (fun _ => rfl) (evv_nm rfl rfl rfl (attr_inst (by assumption) rfl at_pre rfl rfl ?_)))
        | ((with_reducible show Ev _ _ _ _ (Expr.Attribute (Expr.Name _ _) (Str.ofString "build") _) _); refine ev_attr (fun _ => rfl) (evv_nm rfl rfl rfl (attr_inst (by assumption) rfl at_build rfl rfl ?_)))
        | ((with_reducible show Ev _ _ _ _ (Expr.Attribute (Expr.Name _ _) (Str.ofString "partial") _) _); refine ev_attr (fun _ => rfl) (evv_nm rfl rfl rfl (attr_inst (by assumption) rfl at_partial rfl rfl ?_)))
        | ((with_reducible show Ev _ _ _ _ (Expr.Attribute (Expr.Name _ _) (Str.ofString "_cmp_precedence_key") _) _); refine ev_attr (fun _ => rfl) (evv_nm rfl rfl rfl (attr_inst (by assumption) rfl at_cmpk rfl rfl ?_))))
      | ((with_reducible show Ev _ _ _ _ (Expr.BoolOp BoolOp.And (_ :: _ :: _) _) _); refine ev_and ?_)
      | ((with_reducible show Ev _ _ _ _ (Expr.BoolOp BoolOp.Or (_ :: _ :: _) _) _); refine ev_or ?_)
      | ((with_reducible show Ev _ _ _ _ (Expr.BoolOp _ [_] _) _); refine ev_bool1 ?_)
      | ((with_reducible show Ev _ _ _ _ (Expr.BinOp _ _ _ _) _); refine ev_bin ?_)
      | ((with_reducible show Ev _ _ _ _ (Expr.Tuple _ _ _) _); refine ev_tup ?_)
      | ((with_reducible show Ev _ _ _ _ (Expr.List _ _) _); refine ev_list ?_)
      | ((with_reducible show Ev _ _ _ _ (Expr.UnaryOp UnaryOp.Not _ _) _); refine ev_not ?_)
      | ((with_reducible show Ev _ _ _ _ (Expr.UnaryOp _ _ _) _); refine ev_un ?_)
      | ((with_reducible show Ev _ _ _ _ (Expr.Subscript _ (Expr.Slice _ _ _ _) _) _); refine ev_cut ?_)
      | ((with_reducible show Ev _ _ _ _ (Expr.Subscript _ _ _) _); refine ev_item rfl ?_))
    | ((with_reducible show MethV _ _ _ _ _); first
      | refine m_isdigit ?_
      | refine m_split ?_
      | refine m_join ?_
      | refine m_encode ?_)
    | ((with_reducible show EvK _ _ _ _ _ _); first
      | refine evk_cons rfl ?_
      | refine evk_nil ?_)
    | ((with_reducible show EvL _ _ _ _ _ _); first
      | ((with_reducible show EvL _ _ _ _ (_ :: _) _); refine evl_cons rfl ?_)
      | refine evl_nil ?_)
    | ((with_reducible show Ex _ _ _ _ _ _); first
      | ((with_reducible show Ex _ _ _ _ (_ :: _) _); (try conv => arg 4; simp only [List.set_cons_succ, List.set_cons_zero]); refine ex_cons ?_)
      | refine ex_nil ?_)
    | ((with_reducible show Ex1 _ _ _ _ _ _); first
      | ((with_reducible show Ex1 _ _ _ _ (Stmt.If _ _ _ _) _); refine ex_if ?_)
      | ((with_reducible show Ex1 _ _ _ _ (Stmt.Return (some _) _) _); refine ex_return ?_)
      | ((with_reducible show Ex1 _ _ _ _ (Stmt.Assign [Expr.Name _ _] _ _) _); refine ex_as rfl rfl rfl (fun _ => rfl) ?_))
    | ((with_reducible show Two _ _ _ _ _ _); first
      | ((with_reducible show Two _ _ (binaryOp Operator.Add) _ _ _); refine i_add ?_)
      | ((with_reducible show Two _ _ (binaryOp Operator.Sub) _ _ _); refine i_sub ?_)
      | ((with_reducible show Two _ _ (binaryOp Operator.BitXor) _ _ _); refine b_xor ?_)
      | ((with_reducible show Two _ _ (compareOp CmpOp.Lt) _ _ _); refine i_lt ?_)
      | ((with_reducible show Two _ _ (compareOp CmpOp.Gt) _ _ _); refine i_gt ?_)
      | ((with_reducible show Two _ _ (compareOp CmpOp.LtE) _ _ _); refine i_le ?_)
      | ((with_reducible show Two _ _ (compareOp CmpOp.GtE) _ _ _); refine i_ge ?_)
      | ((with_reducible show Two _ _ (compareOp CmpOp.Is) _ _ _); refine is_no ?_)
      | ((with_reducible show Two _ _ (compareOp CmpOp.IsNot) _ _ _); refine isnt_no ?_)
      | ((with_reducible show Two _ _ (compareOp CmpOp.Eq) (D.int _) _ _); refine i_eq ?_)
      | ((with_reducible show Two _ _ (compareOp CmpOp.Eq) (D.str (T _)) _ _); refine s_eqT ?_)
      | ((with_reducible show Two _ _ (compareOp CmpOp.NotEq) (D.int _) _ _); refine i_ne ?_)
      | ((with_reducible show Two _ _ (compareOp CmpOp.NotEq) (D.str (T _)) _ _); refine s_neT ?_))
    | ((with_reducible show Tst _ _ _ _ _ _); first
      | ((with_reducible show Tst _ _ _ _ (Expr.Compare _ _ _ _) _); refine tst_cmp rfl ?_)
      | ((with_reducible show Tst _ _ _ _ (Expr.Name _ _) _); refine tst_of (fun _ _ => rfl) ?_)
      | ((with_reducible show Tst _ _ _ _ (Expr.Call _ _ _ _) _); refine tst_of (fun _ _ => rfl) ?_)
      | ((with_reducible show Tst _ _ _ _ (Expr.Attribute _ _ _) _); refine tst_of (fun _ _ => rfl) ?_)
      | ((with_reducible show Tst _ _ _ _ (Expr.BinOp _ _ _ _) _); refine tst_of (fun _ _ => rfl) ?_)
      | ((with_reducible show Tst _ _ _ _ (Expr.Subscript _ _ _) _); refine tst_of (fun _ _ => rfl) ?_)
      | ((with_reducible show Tst _ _ _ _ (Expr.BoolOp BoolOp.And [] _) _); refine tst_and_nil ?_)
      | ((with_reducible show Tst _ _ _ _ (Expr.BoolOp BoolOp.Or [] _) _); refine tst_or_nil ?_)
      | ((with_reducible show Tst _ _ _ _ (Expr.UnaryOp UnaryOp.Not _ _) _); refine tst_not ?_)
      | ((with_reducible show Tst _ _ _ _ (Expr.BoolOp BoolOp.And (_ :: _) _) _); refine tst_and ?_)
      | ((with_reducible show Tst _ _ _ _ (Expr.BoolOp BoolOp.Or (_ :: _) _) _); refine tst_or ?_))
    | ((with_reducible show EvP _ _ _ _ _ _); first
      | refine evp_some ?_
      | refine evp_none ?_)
    | ((with_reducible show Tru _ _ _ _); first
      | refine tru_T (by assumption) ?_
      | refine tru_bool ?_
      | refine tru_none ?_)
    | ((with_reducible show One _ _ (unaryOp UnaryOp.USub) _ _); refine i_neg ?_)
    | ((with_reducible show Cut _ _ (D.str (T _)) _ _ _); refine cut_T (by assumption) ?_)
    | ((with_reducible show CallV _ _ (Value.builtin "len") _ _ _); refine c_len_T (by assumption) ?_)
    | ((with_reducible show CallV _ _ (Value.builtin "str.isdigit") _ _ _); refine c_isdigit ?_)
    | ((with_reducible show ∃ _, _ ∧ _); refine ⟨_, rfl, ?_⟩))

theorem vkw (O : (cx w h₁ os₁ GI).Ok) {n : Nat} {A B C : Int} {Pq : D → Prop} (h : Pq (.raw .none)) :
    CallK (cx w h₁ os₁ GI) (n + 4) (.ref 303) [.dat (.raw (.ref 388)), .dat (.int A), .dat (.int B), .dat (.int C), .dat (.tup []), .dat (.tup []), .dat (.raw (.bool false))] [] Pq := by
  refine' call_def O ?hf ?hc ?hs ?ρ ?hno ?hb ?_
  case hf => exact rfl
  case hc => kernel_rfl
  case hs => kernel_rfl
  case ρ => exact [some (.dat (.raw (.ref 388))), some (.dat (.int A)), some (.dat (.int B)), some (.dat (.int C)), some (.dat (.tup [])), some (.dat (.tup [])), some (.dat (.raw (.bool false)))]
  case hno => exact rfl
  case hb =>
    rintro X s vs kvs I ⟨v1, _, rfl, r1, v2, _, rfl, r2, v3, _, rfl, r3, v4, _, rfl, r4, v5, _, rfl, r5, v6, _, rfl, r6, v7, _, rfl, r7, rfl⟩ rk
    have e : kvs = [] := rk
    subst e
    refine ⟨_, BindsTo.of_eq rfl, rfl, ⟨⟨_, rfl, r1⟩, .inl rfl⟩, ⟨⟨_, rfl, r2⟩, .inl rfl⟩, ⟨⟨_, rfl, r3⟩, .inl rfl⟩, ⟨⟨_, rfl, r4⟩, .inl rfl⟩, ⟨⟨_, rfl, r5⟩, .inl rfl⟩, ⟨⟨_, rfl, r6⟩, .inl rfl⟩, ⟨⟨_, rfl, r7⟩, .inl rfl⟩, trivial⟩
  repeat kd_subs
  refine c_int_i ?_
  repeat kd_subs
  rw [if_neg (by simp)]
  repeat kd_subs
  refine ev_meth O (fun _ => rfl) rfl rfl (evv_dat (ev_nm rfl rfl rfl (meth_cls O cm_coerce ?_)))
  repeat kd_subs
  refine coerce_i O ?_
  repeat kd_subs
  rw [if_neg (by simp)]
  repeat kd_subs
  refine ev_meth O (fun _ => rfl) rfl rfl (evv_dat (ev_nm rfl rfl rfl (meth_cls O cm_coerce ?_)))
  repeat kd_subs
  refine coerce_i O ?_
  repeat kd_subs
  rw [if_neg (by simp)]
  repeat kd_subs
  rw [if_neg (by simp [D.isNone]), if_neg (by simp)]
  repeat kd_subs
  rw [if_neg (by simp [D.isNone]), if_neg (by simp)]
  repeat kd_subs
  rw [if_neg (by simp)]
  repeat kd_subs
  rw [if_pos (by simp [D.isNone])]
  repeat kd_subs
  refine ex_expr (fun _ => rfl) (ev_meth O (fun _ => rfl) rfl rfl (evv_dat (ev_nm rfl rfl rfl (meth_cls O cm_val ?_))))
  repeat kd_subs
  refine validate O (l := []) (by simp) ?_
  repeat kd_subs
  rw [if_pos (by simp [D.isNone])]
  repeat kd_subs
  refine ex_expr (fun _ => rfl) (ev_meth O (fun _ => rfl) rfl rfl (evv_dat (ev_nm rfl rfl rfl (meth_cls O cm_val ?_))))
  repeat kd_subs
  refine validate O (l := []) (by simp) ?_
  repeat kd_subs
  exact h
end
end Mine
end
section
set_option maxHeartbeats 0
namespace Mine
open PySem PySem.W PySem.Calls PyProof.Rows Builtin
section
variable {w : World} {h₁ : Heap} {os₁ : OsState} {GI : Array GenState → Drawn → Prop}
local macro_rules
  | `(tactic| kd_subs) => `(tactic| first
    | ((with_reducible show Ev _ _ _ _ _ _); first
      | ((with_reducible show Ev _ _ _ _ (Expr.Name _ _) _); first
        | ((with_reducible show Ev _ _ _ _ (Expr.Name (Str.ofString "_DIGITS") _) _); refine nm_digits (by assumption) rfl rfl ?_)
        | ((with_reducible show Ev _ _ _ _ (Expr.Name (Str.ofString "_SIGNS") _) _); refine nm_signs (by assumption) rfl rfl ?_)
        | ((with_reducible show Ev _ _ _ _ (Expr.Name (Str.ofString "Version") _) _); refine nm_ver (by assumption) rfl rfl ?_)
        | ((with_reducible show Ev _ _ _ _ (Expr.Name (Str.ofString "MaxIdentifier") _) _); refine nm_max (by assumption) rfl rfl ?_)
        | ((with_reducible show Ev _ _ _ _ (Expr.Name (Str.ofString "NumericIdentifier") _) _); refine nm_num (by assumption) rfl rfl ?_)
        | ((with_reducible show Ev _ _ _ _ (Expr.Name (Str.ofString "AlphaIdentifier") _) _); refine nm_alpha (by assumption) rfl rfl ?_)
        | ((with_reducible show Ev _ _ _ _ (Expr.Name (Str.ofString "NotImplemented") _) _); refine nm_ni (by assumption) rfl rfl ?_)
        | refine ev_nm rfl rfl rfl ?_)
      | ((with_reducible show Ev _ _ _ _ (Expr.Constant _ _ _) _); first
        | ((with_reducible show Ev _ _ _ _ (Expr.Constant (Const.int _) _ _) _); refine ev_int ?_)
        | ((with_reducible show Ev _ _ _ _ (Expr.Constant Const.none _ _) _); refine ev_none ?_)
        | ((with_reducible show Ev _ _ _ _ (Expr.Constant (Const.bool _) _ _) _); refine ev_bool ?_)
        | ((with_reducible show Ev _ _ _ _ (Expr.Constant (Const.str (Str.ofString ".")) _ _) _); refine ev_strT lit_dot ?_)
        | ((with_reducible show Ev _ _ _ _ (Expr.Constant (Const.str (Str.ofString "-")) _ _) _); refine ev_strT lit_dash ?_)
        | ((with_reducible show Ev _ _ _ _ (Expr.Constant (Const.str (Str.ofString "+")) _ _) _); refine ev_strT lit_plus ?_)
        | ((with_reducible show Ev _ _ _ _ (Expr.Constant (Const.str (Str.ofString "\n")) _ _) _); refine ev_strT lit_nl ?_)
        | ((with_reducible show Ev _ _ _ _ (Expr.Constant (Const.str (Str.ofString "")) _ _) _); refine ev_strT lit_empty ?_)
        | ((with_reducible show Ev _ _ _ _ (Expr.Constant (Const.str (Str.ofString "0")) _ _) _); refine ev_strT lit_zero ?_))
      | ((with_reducible show Ev _ _ _ _ (Expr.Call (Expr.Name _ _) _ _ _) _); first
        | ((with_reducible show Ev _ _ _ _ (Expr.Call (Expr.Name (Str.ofString "len") _) _ [] _) _); refine bl_len (by assumption) rfl rfl rfl ?_)
        | ((with_reducible show Ev _ _ _ _ (Expr.Call (Expr.Name (Str.ofString "int") _) _ [] _) _); refine bl_int (by assumption) rfl rfl rfl ?_)
        | ((with_reducible show Ev _ _ _ _ (Expr.Call (Expr.Name (Str.ofString "str") _) _ [] _) _); refine bl_str (by assumption) rfl rfl rfl ?_)
        | ((with_reducible show Ev _ _ _ _ (Expr.Call (Expr.Name (Str.ofString "abs") _) _ [] _) _); refine bl_abs (by assumption) rfl rfl rfl ?_)
        | ((with_reducible show Ev _ _ _ _ (Expr.Call (Expr.Name (Str.ofString "max") _) _ [] _) _); refine bl_max (by assumption) rfl rfl rfl ?_)
        | ((with_reducible show Ev _ _ _ _ (Expr.Call (Expr.Name (Str.ofString "min") _) _ [] _) _); refine bl_min (by assumption) rfl rfl rfl ?_)
        | ((with_reducible show Ev _ _ _ _ (Expr.Call (Expr.Name (Str.ofString "range") _) _ [] _) _); refine bl_range (by assumption) rfl rfl rfl ?_)
        | ((with_reducible show Ev _ _ _ _ (Expr.Call (Expr.Name (Str.ofString "tuple") _) _ [] _) _); (fail_if_success (with_reducible show Ev _ _ _ _ (Expr.Call _ [Expr.GeneratorExp _ _ _ _] _ _) _)); refine bl_tuple (by assumption) rfl rfl rfl ?_)
        | ((with_reducible show Ev _ _ _ _ (Expr.Call (Expr.Name (Str.ofString "list") _) _ [] _) _); refine bl_list (by assumption) rfl rfl rfl ?_)
        | ((with_reducible show Ev _ _ _ _ (Expr.Call (Expr.Name (Str.ofString "isinstance") _) _ [] _) _); refine bl_isinstance (by assumption) rfl rfl rfl ?_)
        | ((with_reducible show Ev _ _ _ _ (Expr.Call (Expr.Name (Str.ofString "_behind") _) _ [] _) _); refine cl_behind (by assumption) rfl rfl rfl ?_)
        | ((with_reducible show Ev _ _ _ _ (Expr.Call (Expr.Name (Str.ofString "_version_groups") _) _ [] _) _); refine cl_groups (by assumption) rfl rfl rfl ?_)
        | ((with_reducible show Ev _ _ _ _ (Expr.Call (Expr.Name (Str.ofString "_has_leading_zero") _) _ [] _) _); refine cl_hlz (by assumption) rfl rfl rfl ?_)
        | ((with_reducible show Ev _ _ _ _ (Expr.Call (Expr.Name (Str.ofString "MaxIdentifier") _) _ [] _) _); refine cl_max (by assumption) rfl rfl rfl ?_)
        | ((with_reducible show Ev _ _ _ _ (Expr.Call (Expr.Name (Str.ofString "NumericIdentifier") _) _ [] _) _); refine cl_num (by assumption) rfl rfl rfl ?_)
        | ((with_reducible show Ev _ _ _ _ (Expr.Call (Expr.Name (Str.ofString "AlphaIdentifier") _) _ [] _) _); refine cl_alpha (by assumption) rfl rfl rfl ?_)
        | ((with_reducible show Ev _ _ _ _ (Expr.Call (Expr.Name (Str.ofString "Version") _) _ [] _) _); refine cl_ver (by assumption) rfl rfl rfl ?_)
        | ((with_reducible show Ev _ _ _ _ (Expr.Call (Expr.Name (Str.ofString "Version") _) _ _ _) _); refine ck_ver (by assumption) rfl rfl rfl rfl ?_))
      | ((with_reducible show Ev _ _ _ _ (Expr.Compare _ _ _ _) _); refine ev_cmp rfl ?_)
      | ((with_reducible show Ev _ _ _ _ (Expr.Call (Expr.Attribute _ _ _) _ [] _) _); first
        | ((with_reducible show Ev _ _ _ _ (Expr.Call (Expr.Attribute _ (Str.ofString "isdigit") _) _ [] _) _); refine ev_methv (by assumption) (fun _ => rfl) rfl (evv_dat ?_))
        | ((with_reducible show Ev _ _ _ _ (Expr.Call (Expr.Attribute _ (Str.ofString "split") _) _ [] _) _); refine ev_methv (by assumption) (fun _ => rfl) rfl (evv_dat ?_))
        | ((with_reducible show Ev _ _ _ _ (Expr.Call (Expr.Attribute _ (Str.ofString "join") _) _ [] _) _); refine ev_methv (by assumption) (fun _ => rfl) rfl (evv_dat ?_))
        | ((with_reducible show Ev _ _ _ _ (Expr.Call (Expr.Attribute _ (Str.ofString "encode") _) _ [] _) _); refine ev_methv (by assumption) (fun _ => rfl) rfl (evv_dat ?_)))
      | ((with_reducible show Ev _ _ _ _ (Expr.Attribute (Expr.Name _ _) _ _) _); first
        | ((with_reducible show Ev _ _ _ _ (Expr.Attribute (Expr.Name _ _) (Str.ofString "major") _) _); refine ev_attr (fun _ => rfl) (evv_nm rfl rfl rfl (attr_inst (by assumption) rfl at_major rfl rfl ?_)))
        | ((with_reducible show Ev _ _ _ _ (Expr.Attribute (Expr.Name _ _) (Str.ofString "minor") _) _); refine ev_attr (fun _ => rfl) (evv_nm rfl rfl rfl (attr_inst (by assumption) rfl at_minor rfl rfl ?_)))
        | ((with_reducible show Ev _ _ _ _ (Expr.Attribute (Expr.Name _ _) (Str.ofString "patch") _) _); refine ev_attr (fun _ => rfl) (evv_nm rfl rfl rfl (attr_inst (by assumption) rfl at_patch rfl rfl ?_)))
        | ((with_reducible show Ev _ _ _ _ (Expr.Attribute (Expr.Name _ _) (Str.ofString "prerelease") _) _); refine ev_attr (fun _ => rfl) (evv_nm rfl rfl rfl (attr_inst (by assumption) rfl at_pre rfl rfl ?_)))
        | ((with_reducible show Ev _ _ _ _ (Expr.Attribute (Expr.Name _ _) (Str.ofString "build") _) _); refine ev_attr (fun _ => rfl) (evv_nm rfl rfl rfl (attr_inst (by assumption) rfl at_build rfl rfl ?_)))
        | ((with_reducible show Ev _ _ _ _ (Expr.Attribute (Expr.Name _ _) (Str.ofString "partial") _) _); refine ev_attr (fun _ => rfl) (evv_nm rfl rfl rfl (attr_inst (by assumption) rfl at_partial rfl rfl ?_)))
        | ((with_reducible show Ev _ _ _ _ (Expr.Attribute (Expr.Name _ _) (Str.ofString "_cmp_precedence_key") _) _); refine ev_attr (fun _ => rfl) (evv_nm rfl rfl rfl (attr_inst (by assumption) rfl at_cmpk rfl rfl ?_))))
      | ((with_reducible show Ev _ _ _ _ (Expr.BoolOp BoolOp.And (_ :: _ :: _) _) _); refine ev_and ?_)
      | ((with_reducible show Ev _ _ _ _ (Expr.BoolOp BoolOp.Or (_ :: _ :: _) _) _); refine ev_or ?_)
      | ((with_reducible show Ev _ _ _ _ (Expr.BoolOp _ [_] _) _); refine ev_bool1 ?_)
      | ((with_reducible show Ev _ _ _ _ (Expr.BinOp _ _ _ _) _); refine ev_bin ?_)
      | ((with_reducible show Ev _ _ _ _ (Expr.Tuple _ _ _) _); refine ev_tup ?_)
      | ((with_reducible show Ev _ _ _ _ (Expr.List _ _) _); refine ev_list ?_)
      | ((with_reducible show Ev _ _ _ _ (Expr.UnaryOp UnaryOp.Not _ _) _); refine ev_not ?_)
      | ((with_reducible show Ev _ _ _ _ (Expr.UnaryOp _ _ _) _); refine ev_un ?_)
      | ((with_reducible show Ev _ _ _ _ (Expr.Subscript _ (Expr.Slice _ _ _ _) _) _); refine ev_cut ?_)
      | ((with_reducible show Ev _ _ _ _ (Expr.Subscript _ _ _) _); refine ev_item rfl ?_))
    | ((with_reducible show MethV _ _ _ _ _); first
      | refine m_isdigit ?_
      | refine m_split ?_
      | refine m_join ?_
      | refine m_encode ?_)
    | ((with_reducible show EvK _ _ _ _ _ _); first
      | refine evk_cons rfl ?_
      | refine evk_nil ?_)
    | ((with_reducible show EvL _ _ _ _ _ _); first
      | ((with_reducible show EvL _ _ _ _ (_ :: _) _); refine evl_cons rfl ?_)
      | refine evl_nil ?_)
    | ((with_reducible show Ex _ _ _ _ _ _); first
      | ((with_reducible show Ex _ _ _ _ (_ :: _) _); (try conv => arg 4; simp only [List.set_cons_succ, List.set_cons_zero]); refine ex_cons ?_)
      | refine ex_nil ?_)
    | ((with_reducible show Ex1 _ _ _ _ _ _); first
      | ((with_reducible show Ex1 _ _ _ _ (Stmt.If _ _ _ _) _); refine ex_if ?_)
      | ((with_reducible show Ex1 _ _ _ _ (Stmt.Return (some _) _) _); refine ex_return ?_)
      | ((with_reducible show Ex1 _ _ _ _ (Stmt.Assign [Expr.Name _ _] _ _) _); refine ex_as rfl rfl rfl (fun _ => rfl) ?_))
    | ((with_reducible show Two _ _ _ _ _ _); first
      | ((with_reducible show Two _ _ (binaryOp Operator.Add) _ _ _); refine i_add ?_)
      | ((with_reducible show Two _ _ (binaryOp Operator.Sub) _ _ _); refine i_sub ?_)
      | ((with_reducible show Two _ _ (binaryOp Operator.BitXor) _ _ _); refine b_xor ?_)
      | ((with_reducible show Two _ _ (compareOp CmpOp.Lt) _ _ _); refine i_lt ?_)
      | ((with_reducible show Two _ _ (compareOp CmpOp.Gt) _ _ _); refine i_gt ?_)
      | ((with_reducible show Two _ _ (compareOp CmpOp.LtE) _ _ _); refine i_le ?_)
      | ((with_reducible show Two _ _ (compareOp CmpOp.GtE) _ _ _); refine i_ge ?_)
      | ((with_reducible show Two _ _ (compareOp CmpOp.Is) _ _ _); refine is_no ?_)
      | ((with_reducible show Two _ _ (compareOp CmpOp.IsNot) _ _ _); refine isnt_no ?_)
      | ((with_reducible show Two _ _ (compareOp CmpOp.Eq) (D.int _) _ _); refine i_eq ?_)
      | ((with_reducible show Two _ _ (compareOp CmpOp.Eq) (D.str (T _)) _ _); refine s_eqT ?_)
      | ((with_reducible show Two _ _ (compareOp CmpOp.NotEq) (D.int _) _ _); refine i_ne ?_)
      | ((with_reducible show Two _ _ (compareOp CmpOp.NotEq) (D.str (T _)) _ _); refine s_neT ?_))
    | ((with_reducible show Tst _ _ _ _ _ _); first
      | ((with_reducible show Tst _ _ _ _ (Expr.Compare _ _ _ _) _); refine tst_cmp rfl ?_)
      | ((with_reducible show Tst _ _ _ _ (Expr.Name _ _) _); refine tst_of (fun _ _ => rfl) ?_)
      | ((with_reducible show Tst _ _ _ _ (Expr.Call _ _ _ _) _); refine tst_of (fun _ _ => rfl) ?_)
      | ((with_reducible show Tst _ _ _ _ (Expr.Attribute _ _ _) _); refine tst_of (fun _ _ => rfl) ?_)
      | ((with_reducible show Tst _ _ _ _ (Expr.BinOp _ _ _ _) _); refine tst_of (fun _ _ => rfl) ?_)
      | ((with_reducible show Tst _ _ _ _ (Expr.Subscript _ _ _) _); refine tst_of (fun _ _ => rfl) ?_)
      | ((with_reducible show Tst _ _ _ _ (Expr.BoolOp BoolOp.And [] _) _); refine tst_and_nil ?_)
      | ((with_reducible show Tst _ _ _ _ (Expr.BoolOp BoolOp.Or [] _) _); refine tst_or_nil ?_)
      | ((with_reducible show Tst _ _ _ _ (Expr.UnaryOp UnaryOp.Not _ _) _); refine tst_not ?_)
      | ((with_reducible show Tst _ _ _ _ (Expr.BoolOp BoolOp.And (_ :: _) _) _); refine tst_and ?_)
      | ((with_reducible show Tst _ _ _ _ (Expr.BoolOp BoolOp.Or (_ :: _) _) _); refine tst_or ?_))
    | ((with_reducible show EvP _ _ _ _ _ _); first
      | refine evp_some ?_
      | refine evp_none ?_)
    | ((with_reducible show Tru _ _ _ _); first
      | refine tru_T (by assumption) ?_
      | refine tru_bool ?_
      | refine tru_none ?_)
    | ((with_reducible show One _ _ (unaryOp UnaryOp.USub) _ _); refine i_neg ?_)
    | ((with_reducible show Cut _ _ (D.str (T _)) _ _ _); refine cut_T (by assumption) ?_)
    | ((with_reducible show CallV _ _ (Value.builtin "len") _ _ _); refine c_len_T (by assumption) ?_)
    | ((with_reducible show CallV _ _ (Value.builtin "str.isdigit") _ _ _); refine c_isdigit ?_)
    | ((with_reducible show ∃ _, _ ∧ _); refine ⟨_, rfl, ?_⟩))

theorem mk_max (O : (cx w h₁ os₁ GI).Ok) {n : Nat} {Pq : D → Prop} (h : Pq (.inst 94 [])) : CallK (cx w h₁ os₁ GI) n (.ref 94) [] [] Pq := call_make0 O (by kernel_rfl) (by kernel_rfl) h
def numD (i : Int) : D := .inst 150 [("value", .int i)]
def alphaD (x : List Nat) : D := .inst 206 [("value", .bytes (bytesOf x))]
theorem mk_num (O : (cx w h₁ os₁ GI).Ok) {n : Nat} {x : Str} {i : Int} {Pq : D → Prop} (hn : PySem.intText? x = some i) (hl : x.length ≤ 640) (h : Pq (numD i)) : CallK (cx w h₁ os₁ GI) (n + 4) (.ref 150) [.dat (.str x)] [] Pq := by
  refine' call_make O (as := [.str x]) (ks := []) (f := 112) ?hm ?hi ?hfn ?hf ?hc ?hs ?x0 ?k0 ?h0 ?ρ ?hno ?hns ?hb ?_
  case hm => kernel_rfl
  case hi => kernel_rfl
  case hfn => kernel_rfl
  case hf => exact rfl
  case hc => kernel_rfl
  case hs => kernel_rfl
  case h0 => exact rfl
  case ρ => exact [some (.dat (.str x))]
  case hno => exact rfl
  case hns => exact rfl
  case hb =>
    rintro X s a dd vs kvs I ⟨v1, _, e1, r1, v2, _, rfl, r2, rfl⟩ rk
    have e : kvs = [] := rk
    subst e
    cases e1
    refine ⟨_, BindsTo.of_eq rfl, rfl, ⟨⟨_, rfl, r1⟩, .inl rfl⟩, ⟨⟨_, rfl, r2⟩, .inl rfl⟩, trivial⟩
  intro a dd
  refine ex_cons (ex_setattr O 0 rfl rfl rfl rfl rfl (fun _ => rfl) (by kernel_rfl) rfl (by decide) ?_)
  repeat kd_subs
  refine c_int_s hn hl ?_
  repeat kd_subs
  exact ⟨_, rfl, h⟩
theorem mk_alpha (O : (cx w h₁ os₁ GI).Ok) {n : Nat} {x : List Nat} {Pq : D → Prop} (hx : ∀ ch ∈ x, ch < 128) (hl : x.length ≤ sizeLine) (h : Pq (alphaD x)) : CallK (cx w h₁ os₁ GI) (n + 4) (.ref 206) [.dat (.str (T x))] [] Pq := by
  refine' call_make O (as := [.str (T x)]) (ks := []) (f := 168) ?hm ?hi ?hfn ?hf ?hc ?hs ?x0 ?k0 ?h0 ?ρ ?hno ?hns ?hb ?_
  case hm => kernel_rfl
  case hi => kernel_rfl
  case hfn => kernel_rfl
  case hf => exact rfl
  case hc => kernel_rfl
  case hs => kernel_rfl
  case h0 => exact rfl
  case ρ => exact [some (.dat (.str (T x)))]
  case hno => exact rfl
  case hns => exact rfl
  case hb =>
    rintro X s a dd vs kvs I ⟨v1, _, e1, r1, v2, _, rfl, r2, rfl⟩ rk
    have e : kvs = [] := rk
    subst e
    cases e1
    refine ⟨_, BindsTo.of_eq rfl, rfl, ⟨⟨_, rfl, r1⟩, .inl rfl⟩, ⟨⟨_, rfl, r2⟩, .inl rfl⟩, trivial⟩
  intro a dd
  refine ex_cons (ex_setattr O 0 rfl rfl rfl rfl rfl (fun _ => rfl) (by kernel_rfl) rfl (by decide) ?_)
  repeat kd_subs
  refine ev_str ?_
  repeat kd_subs
  refine c_encode hx hl ?_
  repeat kd_subs
  exact ⟨_, rfl, h⟩
end
end Mine
end
section
set_option maxHeartbeats 0
namespace Mine
open PySem PySem.W PySem.Calls PyProof.Rows Builtin
section
variable {w : World} {h₁ : Heap} {os₁ : OsState} {GI : Array GenState → Drawn → Prop}
local macro_rules
  | `(tactic| kd_subs) => `(tactic| first
    | ((with_reducible show Ev _ _ _ _ _ _); first
      | ((with_reducible show Ev _ _ _ _ (Expr.Name _ _) _); first
        | ((with_reducible show Ev _ _ _ _ (Expr.Name (Str.ofString "_DIGITS") _) _); refine nm_digits (by assumption) rfl rfl ?_)
        | ((with_reducible show Ev _ _ _ _ (Expr.Name (Str.ofString "_SIGNS") _) _); refine nm_signs (by assumption) rfl rfl ?_)
        | ((with_reducible show Ev _ _ _ _ (Expr.Name (Str.ofString "Version") _) _); refine nm_ver (by assumption) rfl rfl ?_)
        | ((with_reducible show Ev _ _ _ _ (Expr.Name (Str.ofString "MaxIdentifier") _) _); refine nm_max (by assumption) rfl rfl ?_)
        | ((with_reducible show Ev _ _ _ _ (Expr.Name (Str.ofString "NumericIdentifier") _) _); refine nm_num (by assumption) rfl rfl ?_)
        | ((with_reducible show Ev _ _ _ _ (Expr.Name (Str.ofString "AlphaIdentifier") _) _); refine nm_alpha (by assumption) rfl rfl ?_)
        | ((with_reducible show Ev _ _ _ _ (Expr.Name (Str.ofString "NotImplemented") _) _); refine nm_ni (by assumption) rfl rfl ?_)
        | refine ev_nm rfl rfl rfl ?_)
      | ((with_reducible show Ev _ _ _ _ (Expr.Constant _ _ _) _); first
        | ((with_reducible show Ev _ _ _ _ (Expr.Constant (Const.int _) _ _) _); refine ev_int ?_)
        | ((with_reducible show Ev _ _ _ _ (Expr.Constant Const.none _ _) _); refine ev_none ?_)
        | ((with_reducible show Ev _ _ _ _ (Expr.Constant (Const.bool _) _ _) _); refine ev_bool ?_)
        | ((with_reducible show Ev _ _ _ _ (Expr.Constant (Const.str (Str.ofString ".")) _ _) _); refine ev_strT lit_dot ?_)
        | ((with_reducible show Ev _ _ _ _ (Expr.Constant (Const.str (Str.ofString "-")) _ _) _); refine ev_strT lit_dash ?_)
        | ((with_reducible show Ev _ _ _ _ (Expr.Constant (Const.str (Str.ofString "+")) _ _) _); refine ev_strT lit_plus ?_)
        | ((with_reducible show Ev _ _ _ _ (Expr.Constant (Const.str (Str.ofString "\n")) _ _) _); refine ev_strT lit_nl ?_)
        | ((with_reducible show Ev _ _ _ _ (Expr.Constant (Const.str (Str.ofString "")) _ _) _); refine ev_strT lit_empty ?_)
        | ((with_reducible show Ev _ _ _ _ (Expr.Constant (Const.str (Str.ofString "0")) _ _) _); refine ev_strT lit_zero ?_))
      | ((with_reducible show Ev _ _ _ _ (Expr.Call (Expr.Name _ _) _ _ _) _); first
        | ((with_reducible show Ev _ _ _ _ (Expr.Call (Expr.Name (Str.ofString "len") _) _ [] _) _); refine bl_len (by assumption) rfl rfl rfl ?_)
        | ((with_reducible show Ev _ _ _ _ (Expr.Call (Expr.Name (Str.ofString "int") _) _ [] _) _); refine bl_int (by assumption) rfl rfl rfl ?_)
        | ((with_reducible show Ev _ _ _ _ (Expr.Call (Expr.Name (Str.ofString "str") _) _ [] _) _); refine bl_str (by assumption) rfl rfl rfl ?_)
        | ((with_reducible show Ev _ _ _ _ (Expr.Call (Expr.Name (Str.ofString "abs") _) _ [] _) _); refine bl_abs (by assumption) rfl rfl rfl ?_)
        | ((with_reducible show Ev _ _ _ _ (Expr.Call (Expr.Name (Str.ofString "max") _) _ [] _) _); refine bl_max (by assumption) rfl rfl rfl ?_)
        | ((with_reducible show Ev _ _ _ _ (Expr.Call (Expr.Name (Str.ofString "min") _) _ [] _) _); refine bl_min (by assumption) rfl rfl rfl ?_)
        | ((with_reducible show Ev _ _ _ _ (Expr.Call (Expr.Name (Str.ofString "range") _) _ [] _) _); refine bl_range (by assumption) rfl rfl rfl ?_)
        | ((with_reducible show Ev _ _ _ _ (Expr.Call (Expr.Name (Str.ofString "tuple") _) _ [] _) _); (fail_if_success (with_reducible show Ev _ _ _ _ (Expr.Call _ [Expr.GeneratorExp _ _ _ _] _ _) _)); refine bl_tuple (by assumption) rfl rfl rfl ?_)
        | ((with_reducible show Ev _ _ _ _ (Expr.Call (Expr.Name (Str.ofString "list") _) _ [] _) _); refine bl_list (by assumption) rfl rfl rfl ?_)
        | ((with_reducible show Ev _ _ _ _ (Expr.Call (Expr.Name (Str.ofString "isinstance") _) _ [] _) _); refine bl_isinstance (by assumption) rfl rfl rfl ?_)
        | ((with_reducible show Ev _ _ _ _ (Expr.Call (Expr.Name (Str.ofString "_behind") _) _ [] _) _); refine cl_behind (by assumption) rfl rfl rfl ?_)
        | ((with_reducible show Ev _ _ _ _ (Expr.Call (Expr.Name (Str.ofString "_version_groups") _) _ [] _) _); refine cl_groups (by assumption) rfl rfl rfl ?_)
        | ((with_reducible show Ev _ _ _ _ (Expr.Call (Expr.Name (Str.ofString "_has_leading_zero") _) _ [] _) _); refine cl_hlz (by assumption) rfl rfl rfl ?_)
        | ((with_reducible show Ev _ _ _ _ (Expr.Call (Expr.Name (Str.ofString "MaxIdentifier") _) _ [] _) _); refine cl_max (by assumption) rfl rfl rfl ?_)
        | ((with_reducible show Ev _ _ _ _ (Expr.Call (Expr.Name (Str.ofString "NumericIdentifier") _) _ [] _) _); refine cl_num (by assumption) rfl rfl rfl ?_)
        | ((with_reducible show Ev _ _ _ _ (Expr.Call (Expr.Name (Str.ofString "AlphaIdentifier") _) _ [] _) _); refine cl_alpha (by assumption) rfl rfl rfl ?_)
        | ((with_reducible show Ev _ _ _ _ (Expr.Call (Expr.Name (Str.ofString "Version") _) _ [] _) _); refine cl_ver (by assumption) rfl rfl rfl ?_)
        | ((with_reducible show Ev _ _ _ _ (Expr.Call (Expr.Name (Str.ofString "Version") _) _ _ _) _); refine ck_ver (by assumption) rfl rfl rfl rfl ?_))
      | ((with_reducible show Ev _ _ _ _ (Expr.Compare _ _ _ _) _); refine ev_cmp rfl ?_)
      | ((with_reducible show Ev _ _ _ _ (Expr.Call (Expr.Attribute _ _ _) _ [] _) _); first
        | ((with_reducible show Ev _ _ _ _ (Expr.Call (Expr.Attribute _ (Str.ofString "isdigit") _) _ [] _) _); refine ev_methv (by assumption) (fun _ => rfl) rfl (evv_dat ?_))
        | ((with_reducible show Ev _ _ _ _ (Expr.Call (Expr.Attribute _ (Str.ofString "split") _) _ [] _) _); refine ev_methv (by assumption) (fun _ => rfl) rfl (evv_dat ?_))
        | ((with_reducible show Ev _ _ _ _ (Expr.Call (Expr.Attribute _ (Str.ofString "join") _) _ [] _) _); refine ev_methv (by assumption) (fun _ => rfl) rfl (evv_dat ?_))
        | ((with_reducible show Ev _ _ _ _ (Expr.Call (Expr.Attribute _ (Str.ofString "encode") _) _ [] _) _); refine ev_methv (by assumption) (fun _ => rfl) rfl (evv_dat ?_)))
      | ((with_reducible show Ev _ _ _ _ (Expr.Attribute (Expr.Name _ _) _ _) _); first
        | ((with_reducible show Ev _ _ _ _ (Expr.Attribute (Expr.Name _ _) (Str.ofString "major") _) _); refine ev_attr (fun _ => rfl) (evv_nm rfl rfl rfl (attr_inst (by assumption) rfl at_major rfl rfl ?_)))
        | ((with_reducible show Ev _ _ _ _ (Expr.Attribute (Expr.Name _ _) (Str.ofString "minor") _) _); refine ev_attr (fun _ => rfl) (evv_nm rfl rfl rfl (attr_inst (by assumption) rfl at_minor rfl rfl ?_)))
        | ((with_reducible show Ev _ _ _ _ (Expr.Attribute (Expr.Name _ _) (Str.ofString "patch") _) _); refine ev_attr (fun _ => rfl) (evv_nm rfl rfl rfl (attr_inst (by assumption) rfl at_patch rfl rfl ?_)))
        | ((with_reducible show Ev _ _ _ _ (Expr.Attribute (Expr.Name _ _) (Str.ofString "prerelease") _) _); refine ev_attr (fun _ => rfl) (evv_nm rfl rfl rfl (attr_inst (by assumption) rfl at_pre rfl rfl ?_)))
        | ((with_reducible show Ev _ _ _ _ (Expr.Attribute (Expr.Name _ _) (Str.ofString "build") _) _); refine ev_attr (fun _ => rfl) (evv_nm rfl rfl rfl (attr_inst (by assumption) rfl at_build rfl rfl ?_)))
        | ((with_reducible show Ev _ _ _ _ (Expr.Attribute (Expr.Name _ _) (Str.ofString "partial") _) _); refine ev_attr (fun _ => rfl) (evv_nm rfl rfl rfl (attr_inst (by assumption) rfl at_partial rfl rfl ?_)))
        | ((with_reducible show Ev _ _ _ _ (Expr.Attribute (Expr.Name _ _) (Str.ofString "_cmp_precedence_key") _) _); refine ev_attr (fun _ => rfl) (evv_nm rfl rfl rfl (attr_inst (by assumption) rfl at_cmpk rfl rfl ?_))))
      | ((with_reducible show Ev _ _ _ _ (Expr.BoolOp BoolOp.And (_ :: _ :: _) _) _); refine ev_and ?_)
      | ((with_reducible show Ev _ _ _ _ (Expr.BoolOp BoolOp.Or (_ :: _ :: _) _) _); refine ev_or ?_)
      | ((with_reducible show Ev _ _ _ _ (Expr.BoolOp _ [_] _) _); refine ev_bool1 ?_)
      | ((with_reducible show Ev _ _ _ _ (Expr.BinOp _ _ _ _) _); refine ev_bin ?_)
      | ((with_reducible show Ev _ _ _ _ (Expr.Tuple _ _ _) _); refine ev_tup ?_)
      | ((with_reducible show Ev _ _ _ _ (Expr.List _ _) _); refine ev_list ?_)
      | ((with_reducible show Ev _ _ _ _ (Expr.UnaryOp UnaryOp.Not _ _) _); refine ev_not ?_)
      | ((with_reducible show Ev _ _ _ _ (Expr.UnaryOp _ _ _) _); refine ev_un ?_)
      | ((with_reducible show Ev _ _ _ _ (Expr.Subscript _ (Expr.Slice _ _ _ _) _) _); refine ev_cut ?_)
      | ((with_reducible show Ev _ _ _ _ (Expr.Subscript _ _ _) _); refine ev_item rfl ?_))
    | ((with_reducible show MethV _ _ _ _ _); first
      | refine m_isdigit ?_
      | refine m_split ?_
      | refine m_join ?_
      | refine m_encode ?_)
    | ((with_reducible show EvK _ _ _ _ _ _); first
      | refine evk_cons rfl ?_
      | refine evk_nil ?_)
    | ((with_reducible show EvL _ _ _ _ _ _); first
      | ((with_reducible show EvL _ _ _ _ (_ :: _) _); refine evl_cons rfl ?_)
      | refine evl_nil ?_)
    | ((with_reducible show Ex _ _ _ _ _ _); first
      | ((with_reducible show Ex _ _ _ _ (_ :: _) _); (try conv => arg 4; simp only [List.set_cons_succ, List.set_cons_zero]); refine ex_cons ?_)
      | refine ex_nil ?_)
    | ((with_reducible show Ex1 _ _ _ _ _ _); first
      | ((with_reducible show Ex1 _ _ _ _ (Stmt.If _ _ _ _) _); refine ex_if ?_)
      | ((with_reducible show Ex1 _ _ _ _ (Stmt.Return (some _) _) _); refine ex_return ?_)
      | ((with_reducible show Ex1 _ _ _ _ (Stmt.Assign [Expr.Name _ _] _ _) _); refine ex_as rfl rfl rfl (fun _ => rfl) ?_))
    | ((with_reducible show Two _ _ _ _ _ _); first
      | ((with_reducible show Two _ _ (binaryOp Operator.Add) _ _ _); refine i_add ?_)
      | ((with_reducible show Two _ _ (binaryOp Operator.Sub) _ _ _); refine i_sub ?_)
      | ((with_reducible show Two _ _ (binaryOp Operator.BitXor) _ _ _); refine b_xor ?_)
      | ((with_reducible show Two _ _ (compareOp CmpOp.Lt) _ _ _); refine i_lt ?_)
      | ((with_reducible show Two _ _ (compareOp CmpOp.Gt) _ _ _); refine i_gt ?_)
      | ((with_reducible show Two _ _ (compareOp CmpOp.LtE) _ _ _); refine i_le ?_)
      | ((with_reducible show Two _ _ (compareOp CmpOp.GtE) _ _ _); refine i_ge ?_)
      | ((with_reducible show Two _ _ (compareOp CmpOp.Is) _ _ _); refine is_no ?_)
      | ((with_reducible show Two _ _ (compareOp CmpOp.IsNot) _ _ _); refine isnt_no ?_)
      | ((with_reducible show Two _ _ (compareOp CmpOp.Eq) (D.int _) _ _); refine i_eq ?_)
      | ((with_reducible show Two _ _ (compareOp CmpOp.Eq) (D.str (T _)) _ _); refine s_eqT ?_)
      | ((with_reducible show Two _ _ (compareOp CmpOp.NotEq) (D.int _) _ _); refine i_ne ?_)
      | ((with_reducible show Two _ _ (compareOp CmpOp.NotEq) (D.str (T _)) _ _); refine s_neT ?_))
    | ((with_reducible show Tst _ _ _ _ _ _); first
      | ((with_reducible show Tst _ _ _ _ (Expr.Compare _ _ _ _) _); refine tst_cmp rfl ?_)
      | ((with_reducible show Tst _ _ _ _ (Expr.Name _ _) _); refine tst_of (fun _ _ => rfl) ?_)
      | ((with_reducible show Tst _ _ _ _ (Expr.Call _ _ _ _) _); refine tst_of (fun _ _ => rfl) ?_)
      | ((with_reducible show Tst _ _ _ _ (Expr.Attribute _ _ _) _); refine tst_of (fun _ _ => rfl) ?_)
      | ((with_reducible show Tst _ _ _ _ (Expr.BinOp _ _ _ _) _); refine tst_of (fun _ _ => rfl) ?_)
      | ((with_reducible show Tst _ _ _ _ (Expr.Subscript _ _ _) _); refine tst_of (fun _ _ => rfl) ?_)
      | ((with_reducible show Tst _ _ _ _ (Expr.BoolOp BoolOp.And [] _) _); refine tst_and_nil ?_)
      | ((with_reducible show Tst _ _ _ _ (Expr.BoolOp BoolOp.Or [] _) _); refine tst_or_nil ?_)
      | ((with_reducible show Tst _ _ _ _ (Expr.UnaryOp UnaryOp.Not _ _) _); refine tst_not ?_)
      | ((with_reducible show Tst _ _ _ _ (Expr.BoolOp BoolOp.And (_ :: _) _) _); refine tst_and ?_)
      | ((with_reducible show Tst _ _ _ _ (Expr.BoolOp BoolOp.Or (_ :: _) _) _); refine tst_or ?_))
    | ((with_reducible show EvP _ _ _ _ _ _); first
      | refine evp_some ?_
      | refine evp_none ?_)
    | ((with_reducible show Tru _ _ _ _); first
      | refine tru_T (by assumption) ?_
      | refine tru_bool ?_
      | refine tru_none ?_)
    | ((with_reducible show One _ _ (unaryOp UnaryOp.USub) _ _); refine i_neg ?_)
    | ((with_reducible show Cut _ _ (D.str (T _)) _ _ _); refine cut_T (by assumption) ?_)
    | ((with_reducible show CallV _ _ (Value.builtin "len") _ _ _); refine c_len_T (by assumption) ?_)
    | ((with_reducible show CallV _ _ (Value.builtin "str.isdigit") _ _ _); refine c_isdigit ?_)
    | ((with_reducible show ∃ _, _ ∧ _); refine ⟨_, rfl, ?_⟩))

def keyD (x : List Nat) : D := if Txt.isdigit (T x) then numD ((PySem.intText? (T x)).getD 0) else alphaD x
def keyF : D → D
  | .str x => keyD x.cps.toList
  | d => d
theorem keyF_T (x : List Nat) : keyF (.str (T x)) = keyD x := by show keyD (T x).cps.toList = _; rw [T_cps]
/-- what an identifier needs to become a key -/
structure KeyOk (x : List Nat) : Prop where
  dig : Txt.isdigit (T x) = true → (PySem.intText? (T x)).isSome = true ∧ x.length ≤ 640
  low : ∀ ch ∈ x, ch < 128
  len : x.length ≤ 1000
def preKey (l : List (List Nat)) : D := if l = [] then .tup [.inst 94 []] else .tup (l.map keyD)
abbrev pfs (A B C : Int) (pre bld : List (List Nat)) : List (Str × D) := [("major", .int A), ("minor", .int B), ("patch", .int C), ("prerelease", idsD pre), ("build", idsD bld), ("partial", .raw (.bool false))]
theorem bi_ok : BI (cx w h₁ os₁ GI) := bi_of (by kernel_rfl)
theorem map_keyF (l : List (List Nat)) : (l.map fun x => D.str (T x)).map keyF = l.map keyD := by rw [List.map_map]; exact List.map_congr_left fun x _ => keyF_T x
theorem key (O : (cx w h₁ os₁ GI).Ok) (hGI : ∀ a b d, GI a d → (∀ y ∈ b, y ∈ a ∨ y.bare = true) → GI b d) {n : Nat} {a dd : Addr} {A B C : Int} {pre bld : List (List Nat)} {Pq : D → Prop} (ex : List (Str × D)) (wb : Bool) (lp : pre.length ≤ 100) (lb : bld.length ≤ 100) (hp : ∀ x ∈ pre, KeyOk x) (hb : ∀ x ∈ bld, KeyOk x)
    (h : Pq (.tup (if wb = true then [.int A, .int B, .int C, preKey pre, .tup (bld.map keyD)] else [.int A, .int B, .int C, preKey pre]))) :
    CallK (cx w h₁ os₁ GI) (n + 8) (.ref 328) [.self a dd 388 (pfs A B C pre bld ++ ex)] [("with_build", .raw (.bool wb))] Pq := by
  have szl := sizeLine_eq
  refine' call_def O ?hf ?hc ?hs ?ρ ?hno ?hb ?_
  case hf => exact rfl
  case hc => kernel_rfl
  case hs => kernel_rfl
  case ρ => exact [some (.self a dd 388 (pfs A B C pre bld ++ ex)), some (.dat (.raw (.bool wb))), none, none]
  case hno => exact rfl
  case hb =>
    rintro X s vs kvs I ⟨v1, _, rfl, r1, rfl⟩ ⟨v3, _, rfl, r3, rfl⟩
    refine ⟨_, binds_K (I.kin O) rfl rfl rfl rfl rfl, rfl, ⟨⟨_, rfl, r1⟩, .inl rfl⟩, ⟨⟨_, rfl, r3⟩, .inl rfl⟩, trivial⟩
  refine ex_cons (Ex1.mono (R := fun o => o = .next [some (.self a dd 388 (pfs A B C pre bld ++ ex)), some (.dat (.raw (.bool wb))), some (.dat (preKey pre)), none]) ?_ ?_)
  · refine ex_if (tst_of (fun _ _ => rfl) (ev_attr (fun _ => rfl) (evv_nm rfl rfl rfl (attr_inst O rfl at_pre rfl rfl ?_))))
    refine tru_tup (by rw [List.length_map]; omega) ?_
    by_cases e : pre = []
    · subst e
      rw [if_neg (by simp)]
      repeat kd_subs
      refine mk_max O ?_
      repeat kd_subs
      refine ⟨by simp [szl], ?_⟩
      repeat kd_subs
      rfl
    · rw [if_pos (by simpa using e)]
      refine ex_cons (ex_as rfl rfl rfl (fun _ => rfl) (ev_tuple_gen O hGI bi_ok (i := 1) rfl rfl gb_tuple rfl rfl rfl rfl rfl (fun _ => rfl) rfl (fun _ _ => rfl) keyF ?_))
      refine ev_attr (fun _ => rfl) (evv_nm rfl rfl rfl (attr_inst O rfl at_pre rfl rfl ⟨_, .tup, by rw [List.length_map]; omega, ?_, ?_⟩))
      · intro code d hd GI'
        obtain ⟨x, hx, rfl⟩ := List.mem_map.mp hd
        have k := hp x hx
        have hsz : x.length ≤ sizeLine := by have := k.len; omega
        replace O : (cx w h₁ os₁ GI').Ok := O.to GI'
        rw [keyF_T]
        show Ev (cx w h₁ os₁ GI') (n + 5) _ (grho 1 (.str (T x))) _ _
        refine ev_if (tst_of (fun _ _ => rfl) ?_)
        repeat kd_subs
        unfold keyD
        cases hd : Txt.isdigit (T x)
        · rw [if_neg (by simp), if_neg (by simp)]
          repeat kd_subs
          exact mk_alpha O k.low hsz rfl
        · rw [if_pos rfl, if_pos rfl]
          repeat kd_subs
          obtain ⟨i, hi⟩ := Option.isSome_iff_exists.mp (k.dig hd).1
          refine mk_num O hi (by rw [T_length]; exact (k.dig hd).2) ?_
          rw [hi]; rfl
      · rw [map_keyF]
        repeat kd_subs
        unfold preKey
        rw [if_neg e]; rfl
  · rintro _ rfl
    cases wb with
    | false =>
      repeat kd_subs
      rw [if_pos (by simp)]
      repeat kd_subs
      refine ⟨by simp [szl], ?_⟩
      exact h
    | true =>
      repeat kd_subs
      rw [if_neg (by simp)]
      repeat kd_subs
      refine ev_tuple_gen O hGI bi_ok (i := 1) rfl rfl gb_tuple rfl rfl rfl rfl rfl (fun _ => rfl) rfl (fun _ _ => rfl) keyF ?_
      refine Ev.mono (Pq := fun d => d = idsD bld) ?_ ?_
      · refine ev_or (ev_attr (fun _ => rfl) (evv_nm rfl rfl rfl (attr_inst O rfl at_build rfl rfl ?_)))
        refine tru_tup (by rw [List.length_map]; omega) ?_
        by_cases e : bld = []
        · subst e
          rw [if_neg (by simp)]
          repeat kd_subs
          refine ⟨by simp, ?_⟩
          rfl
        · rw [if_pos (by simpa using e)]
      · rintro _ rfl
        refine ⟨_, .tup, by rw [List.length_map]; omega, ?_, ?_⟩
        · intro code d hd GI'
          obtain ⟨x, hx, rfl⟩ := List.mem_map.mp hd
          have k := hb x hx
          have hsz : x.length ≤ sizeLine := by have := k.len; omega
          replace O : (cx w h₁ os₁ GI').Ok := O.to GI'
          rw [keyF_T]
          show Ev (cx w h₁ os₁ GI') (n + 5) _ (grho 1 (.str (T x))) _ _
          refine ev_if (tst_of (fun _ _ => rfl) ?_)
          repeat kd_subs
          unfold keyD
          cases hd : Txt.isdigit (T x)
          · rw [if_neg (by simp), if_neg (by simp)]
            repeat kd_subs
            exact mk_alpha O k.low hsz rfl
          · rw [if_pos rfl, if_pos rfl]
            repeat kd_subs
            obtain ⟨i, hi⟩ := Option.isSome_iff_exists.mp (k.dig hd).1
            refine mk_num O hi (by rw [T_length]; exact (k.dig hd).2) ?_
            rw [hi]; rfl
        · rw [map_keyF]
          repeat kd_subs
          refine ⟨by simp [szl], ?_⟩
          exact h
end
end Mine
end
section
set_option maxHeartbeats 0
namespace Mine
open PySem PySem.W PySem.Calls PyProof.Rows Builtin
section
variable {w : World} {h₁ : Heap} {os₁ : OsState} {GI : Array GenState → Drawn → Prop}
local macro_rules
  | `(tactic| kd_subs) => `(tactic| first
    | ((with_reducible show Ev _ _ _ _ _ _); first
      | ((with_reducible show Ev _ _ _ _ (Expr.Name _ _) _); first
        | ((with_reducible show Ev _ _ _ _ (Expr.Name (Str.ofString "_DIGITS") _) _); refine nm_digits (by assumption) rfl rfl ?_)
        | ((with_reducible show Ev _ _ _ _ (Expr.Name (Str.ofString "_SIGNS") _) _); refine nm_signs (by assumption) rfl rfl ?_)
        | ((with_reducible show Ev _ _ _ _ (Expr.Name (Str.ofString "Version") _) _); refine nm_ver (by assumption) rfl rfl ?_)
        | ((with_reducible show Ev _ _ _ _ (Expr.Name (Str.ofString "MaxIdentifier") _) _); refine nm_max (by assumption) rfl rfl ?_)
        | ((with_reducible show Ev _ _ _ _ (Expr.Name (Str.ofString "NumericIdentifier") _) _); refine nm_num (by assumption) rfl rfl ?_)
        | ((with_reducible show Ev _ _ _ _ (Expr.Name (Str.ofString "AlphaIdentifier") _) _); refine nm_alpha (by assumption) rfl rfl ?_)
        | ((with_reducible show Ev _ _ _ _ (Expr.Name (Str.ofString "NotImplemented") _) _); refine nm_ni (by assumption) rfl rfl ?_)
        | refine ev_nm rfl rfl rfl ?_)
      | ((with_reducible show Ev _ _ _ _ (Expr.Constant _ _ _) _); first
        | ((with_reducible show Ev _ _ _ _ (Expr.Constant (Const.int _) _ _) _); refine ev_int ?_)
        | ((with_reducible show Ev _ _ _ _ (Expr.Constant Const.none _ _) _); refine ev_none ?_)
        | ((with_reducible show Ev _ _ _ _ (Expr.Constant (Const.bool _) _ _) _); refine ev_bool ?_)
        | ((with_reducible show Ev _ _ _ _ (Expr.Constant (Const.str (Str.ofString ".")) _ _) _); refine ev_strT lit_dot ?_)
        | ((with_reducible show Ev _ _ _ _ (Expr.Constant (Const.str (Str.ofString "-")) _ _) _); refine ev_strT lit_dash ?_)
        | ((with_reducible show Ev _ _ _ _ (Expr.Constant (Const.str (Str.ofString "+")) _ _) _); refine ev_strT lit_plus ?_)
        | ((with_reducible show Ev _ _ _ _ (Expr.Constant (Const.str (Str.ofString "\n")) _ _) _); refine ev_strT lit_nl ?_)
        | ((with_reducible show Ev _ _ _ _ (Expr.Constant (Const.str (Str.ofString "")) _ _) _); refine ev_strT lit_empty ?_)
        | ((with_reducible show Ev _ _ _ _ (Expr.Constant (Const.str (Str.ofString "0")) _ _) _); refine ev_strT lit_zero ?_))
      | ((with_reducible show Ev _ _ _ _ (Expr.Call (Expr.Name _ _) _ _ _) _); first
        | ((with_reducible show Ev _ _ _ _ (Expr.Call (Expr.Name (Str.ofString "len") _) _ [] _) _); refine bl_len (by assumption) rfl rfl rfl ?_)
        | ((with_reducible show Ev _ _ _ _ (Expr.Call (Expr.Name (Str.ofString "int") _) _ [] _) _); refine bl_int (by assumption) rfl rfl rfl ?_)
        | ((with_reducible show Ev _ _ _ _ (Expr.Call (Expr.Name (Str.ofString "str") _) _ [] _) _); refine bl_str (by assumption) rfl rfl rfl ?_)
        | ((with_reducible show Ev _ _ _ _ (Expr.Call (Expr.Name (Str.ofString "abs") _) _ [] _) _); refine bl_abs (by assumption) rfl rfl rfl ?_)
        | ((with_reducible show Ev _ _ _ _ (Expr.Call (Expr.Name (Str.ofString "max") _) _ [] _) _); refine bl_max (by assumption) rfl rfl rfl ?_)
        | ((with_reducible show Ev _ _ _ _ (Expr.Call (Expr.Name (Str.ofString "min") _) _ [] _) _); refine bl_min (by assumption) rfl rfl rfl ?_)
        | ((with_reducible show Ev _ _ _ _ (Expr.Call (Expr.Name (Str.ofString "range") _) _ [] _) _); refine bl_range (by assumption) rfl rfl rfl ?_)
        | ((with_reducible show Ev _ _ _ _ (Expr.Call (Expr.Name (Str.ofString "tuple") _) _ [] _) _); (fail_if_success (with_reducible show Ev _ _ _ _ (Expr.Call _ [Expr.GeneratorExp _ _ _ _] _ _) _)); refine bl_tuple (by assumption) rfl rfl rfl ?_)
        | ((with_reducible show Ev _ _ _ _ (Expr.Call (Expr.Name (Str.ofString "list") _) _ [] _) _); refine bl_list (by assumption) rfl rfl rfl ?_)
        | ((with_reducible show Ev _ _ _ _ (Expr.Call (Expr.Name (Str.ofString "isinstance") _) _ [] _) _); refine bl_isinstance (by assumption) rfl rfl rfl ?_)
        | ((with_reducible show Ev _ _ _ _ (Expr.Call (Expr.Name (Str.ofString "_behind") _) _ [] _) _); refine cl_behind (by assumption) rfl rfl rfl ?_)
        | ((with_reducible show Ev _ _ _ _ (Expr.Call (Expr.Name (Str.ofString "_version_groups") _) _ [] _) _); refine cl_groups (by assumption) rfl rfl rfl ?_)
        | ((with_reducible show Ev _ _ _ _ (Expr.Call (Expr.Name (Str.ofString "_has_leading_zero") _) _ [] _) _); refine cl_hlz (by assumption) rfl rfl rfl ?_)
        | ((with_reducible show Ev _ _ _ _ (Expr.Call (Expr.Name (Str.ofString "MaxIdentifier") _) _ [] _) _); refine cl_max (by assumption) rfl rfl rfl ?_)
        | ((with_reducible show Ev _ _ _ _ (Expr.Call (Expr.Name (Str.ofString "NumericIdentifier") _) _ [] _) _); refine cl_num (by assumption) rfl rfl rfl ?_)
        | ((with_reducible show Ev _ _ _ _ (Expr.Call (Expr.Name (Str.ofString "AlphaIdentifier") _) _ [] _) _); refine cl_alpha (by assumption) rfl rfl rfl ?_)
        | ((with_reducible show Ev _ _ _ _ (Expr.Call (Expr.Name (Str.ofString "Version") _) _ [] _) _); refine cl_ver (by assumption) rfl rfl rfl ?_)
        | ((with_reducible show Ev _ _ _ _ (Expr.Call (Expr.Name (Str.ofString "Version") _) _ _ _) _); refine ck_ver (by assumption) rfl rfl rfl rfl ?_))
      | ((with_reducible show Ev _ _ _ _ (Expr.Compare _ _ _ _) _); refine ev_cmp rfl ?_)
      | ((with_reducible show Ev _ _ _ _ (Expr.Call (Expr.Attribute _ _ _) _ [] _) _); first
        | ((with_reducible show Ev _ _ _ _ (Expr.Call (Expr.Attribute _ (Str.ofString "isdigit") _) _ [] _) _); refine ev_methv (by assumption) (fun _ => rfl) rfl (evv_dat ?_))
        | ((with_reducible show Ev _ _ _ _ (Expr.Call (Expr.Attribute _ (Str.ofString "split") _) _ [] _) _); refine ev_methv (by assumption) (fun _ => rfl) rfl (evv_dat ?_))
        | ((with_reducible show Ev _ _ _ _ (Expr.Call (Expr.Attribute _ (Str.ofString "join") _) _ [] _) _); refine ev_methv (by assumption) (fun _ => rfl) rfl (evv_dat ?_))
        | ((with_reducible show Ev _ _ _ _ (Expr.Call (Expr.Attribute _ (Str.ofString "encode") _) _ [] _) _); refine ev_methv (by assumption) (fun _ => rfl) rfl (evv_dat ?_)))
      | ((with_reducible show Ev _ _ _ _ (Expr.Attribute (Expr.Name _ _) _ _) _); first
        | ((with_reducible show Ev _ _ _ _ (Expr.Attribute (Expr.Name _ _) (Str.ofString "major") _) _); refine ev_attr (fun _ => rfl) (evv_nm rfl rfl rfl (attr_inst (by assumption) rfl at_major rfl rfl ?_)))
        | ((with_reducible show Ev _ _ _ _ (Expr.Attribute (Expr.Name _ _) (Str.ofString "minor") _) _); refine ev_attr (fun _ => rfl) (evv_nm rfl rfl rfl (attr_inst (by assumption) rfl at_minor rfl rfl ?_)))
        | ((with_reducible show Ev _ _ _ _ (Expr.Attribute (Expr.Name _ _) (Str.ofString "patch") _) _); refine ev_attr (fun _ => rfl) (evv_nm rfl rfl rfl (attr_inst (by assumption) rfl at_patch rfl rfl ?_)))
        | ((with_reducible show Ev _ _ _ _ (Expr.Attribute (Expr.Name _ _) (Str.ofString "prerelease") _) _); refine ev_attr (fun _ => rfl) (evv_nm rfl rfl rfl (attr_inst (by assumption) rfl at_pre rfl rfl ?_)))
        | ((with_reducible show Ev _ _ _ _ (Expr.Attribute (Expr.Name _ _) (Str.ofString "build") _) _); refine ev_attr (fun _ => rfl) (evv_nm rfl rfl rfl (attr_inst (by assumption) rfl at_build rfl rfl ?_)))
        | ((with_reducible show Ev _ _ _ _ (Expr.Attribute (Expr.Name _ _) (Str.ofString "partial") _) _); refine ev_attr (fun _ => rfl) (evv_nm rfl rfl rfl (attr_inst (by assumption) rfl at_partial rfl rfl ?_)))
        | ((with_reducible show Ev _ _ _ _ (Expr.Attribute (Expr.Name _ _) (Str.ofString "_cmp_precedence_key") _) _); refine ev_attr (fun _ => rfl) (evv_nm rfl rfl rfl (attr_inst (by assumption) rfl at_cmpk rfl rfl ?_))))
      | ((with_reducible show Ev _ _ _ _ (Expr.BoolOp BoolOp.And (_ :: _ :: _) _) _); refine ev_and ?_)
      | ((with_reducible show Ev _ _ _ _ (Expr.BoolOp BoolOp.Or (_ :: _ :: _) _) _); refine ev_or ?_)
      | ((with_reducible show Ev _ _ _ _ (Expr.BoolOp _ [_] _) _); refine ev_bool1 ?_)
      | ((with_reducible show Ev _ _ _ _ (Expr.BinOp _ _ _ _) _); refine ev_bin ?_)
      | ((with_reducible show Ev _ _ _ _ (Expr.Tuple _ _ _) _); refine ev_tup ?_)
      | ((with_reducible show Ev _ _ _ _ (Expr.List _ _) _); refine ev_list ?_)
      | ((with_reducible show Ev _ _ _ _ (Expr.UnaryOp UnaryOp.Not _ _) _); refine ev_not ?_)
      | ((with_reducible show Ev _ _ _ _ (Expr.UnaryOp _ _ _) _); refine ev_un ?_)
      | ((with_reducible show Ev _ _ _ _ (Expr.Subscript _ (Expr.Slice _ _ _ _) _) _); refine ev_cut ?_)
      | ((with_reducible show Ev _ _ _ _ (Expr.Subscript _ _ _) _); refine ev_item rfl ?_))
    | ((with_reducible show MethV _ _ _ _ _); first
      | refine m_isdigit ?_
      | refine m_split ?_
      | refine m_join ?_
      | refine m_encode ?_)
    | ((with_reducible show EvK _ _ _ _ _ _); first
      | refine evk_cons rfl ?_
      | refine evk_nil ?_)
    | ((with_reducible show EvL _ _ _ _ _ _); first
      | ((with_reducible show EvL _ _ _ _ (_ :: _) _); refine evl_cons rfl ?_)
      | refine evl_nil ?_)
    | ((with_reducible show Ex _ _ _ _ _ _); first
      | ((with_reducible show Ex _ _ _ _ (_ :: _) _); (try conv => arg 4; simp only [List.set_cons_succ, List.set_cons_zero]); refine ex_cons ?_)
      | refine ex_nil ?_)
    | ((with_reducible show Ex1 _ _ _ _ _ _); first
      | ((with_reducible show Ex1 _ _ _ _ (Stmt.If _ _ _ _) _); refine ex_if ?_)
      | ((with_reducible show Ex1 _ _ _ _ (Stmt.Return (some _) _) _); refine ex_return ?_)
      | ((with_reducible show Ex1 _ _ _ _ (Stmt.Assign [Expr.Name _ _] _ _) _); refine ex_as rfl rfl rfl (fun _ => rfl) ?_))
    | ((with_reducible show Two _ _ _ _ _ _); first
      | ((with_reducible show Two _ _ (binaryOp Operator.Add) _ _ _); refine i_add ?_)
      | ((with_reducible show Two _ _ (binaryOp Operator.Sub) _ _ _); refine i_sub ?_)
      | ((with_reducible show Two _ _ (binaryOp Operator.BitXor) _ _ _); refine b_xor ?_)
      | ((with_reducible show Two _ _ (compareOp CmpOp.Lt) _ _ _); refine i_lt ?_)
      | ((with_reducible show Two _ _ (compareOp CmpOp.Gt) _ _ _); refine i_gt ?_)
      | ((with_reducible show Two _ _ (compareOp CmpOp.LtE) _ _ _); refine i_le ?_)
      | ((with_reducible show Two _ _ (compareOp CmpOp.GtE) _ _ _); refine i_ge ?_)
      | ((with_reducible show Two _ _ (compareOp CmpOp.Is) _ _ _); refine is_no ?_)
      | ((with_reducible show Two _ _ (compareOp CmpOp.IsNot) _ _ _); refine isnt_no ?_)
      | ((with_reducible show Two _ _ (compareOp CmpOp.Eq) (D.int _) _ _); refine i_eq ?_)
      | ((with_reducible show Two _ _ (compareOp CmpOp.Eq) (D.str (T _)) _ _); refine s_eqT ?_)
      | ((with_reducible show Two _ _ (compareOp CmpOp.NotEq) (D.int _) _ _); refine i_ne ?_)
      | ((with_reducible show Two _ _ (compareOp CmpOp.NotEq) (D.str (T _)) _ _); refine s_neT ?_))
    | ((with_reducible show Tst _ _ _ _ _ _); first
      | ((with_reducible show Tst _ _ _ _ (Expr.Compare _ _ _ _) _); refine tst_cmp rfl ?_)
      | ((with_reducible show Tst _ _ _ _ (Expr.Name _ _) _); refine tst_of (fun _ _ => rfl) ?_)
      | ((with_reducible show Tst _ _ _ _ (Expr.Call _ _ _ _) _); refine tst_of (fun _ _ => rfl) ?_)
      | ((with_reducible show Tst _ _ _ _ (Expr.Attribute _ _ _) _); refine tst_of (fun _ _ => rfl) ?_)
      | ((with_reducible show Tst _ _ _ _ (Expr.BinOp _ _ _ _) _); refine tst_of (fun _ _ => rfl) ?_)
      | ((with_reducible show Tst _ _ _ _ (Expr.Subscript _ _ _) _); refine tst_of (fun _ _ => rfl) ?_)
      | ((with_reducible show Tst _ _ _ _ (Expr.BoolOp BoolOp.And [] _) _); refine tst_and_nil ?_)
      | ((with_reducible show Tst _ _ _ _ (Expr.BoolOp BoolOp.Or [] _) _); refine tst_or_nil ?_)
      | ((with_reducible show Tst _ _ _ _ (Expr.UnaryOp UnaryOp.Not _ _) _); refine tst_not ?_)
      | ((with_reducible show Tst _ _ _ _ (Expr.BoolOp BoolOp.And (_ :: _) _) _); refine tst_and ?_)
      | ((with_reducible show Tst _ _ _ _ (Expr.BoolOp BoolOp.Or (_ :: _) _) _); refine tst_or ?_))
    | ((with_reducible show EvP _ _ _ _ _ _); first
      | refine evp_some ?_
      | refine evp_none ?_)
    | ((with_reducible show Tru _ _ _ _); first
      | refine tru_T (by assumption) ?_
      | refine tru_bool ?_
      | refine tru_none ?_)
    | ((with_reducible show One _ _ (unaryOp UnaryOp.USub) _ _); refine i_neg ?_)
    | ((with_reducible show Cut _ _ (D.str (T _)) _ _ _); refine cut_T (by assumption) ?_)
    | ((with_reducible show CallV _ _ (Value.builtin "len") _ _ _); refine c_len_T (by assumption) ?_)
    | ((with_reducible show CallV _ _ (Value.builtin "str.isdigit") _ _ _); refine c_isdigit ?_)
    | ((with_reducible show ∃ _, _ ∧ _); refine ⟨_, rfl, ?_⟩))

theorem ca_parse : cmAt (cx w h₁ os₁ GI).K 388 "parse" 282 = true := by kernel_rfl
theorem ca_vkw : cmAt (cx w h₁ os₁ GI).K 388 "_validate_kwargs" 303 = true := by kernel_rfl
theorem mi_key : methIn (cx w h₁ os₁ GI).K 388 "_build_precedence_key" 328 = true := by kernel_rfl
theorem st_major : setIn (cx w h₁ os₁ GI).K 388 "major" = true := by kernel_rfl
theorem st_minor : setIn (cx w h₁ os₁ GI).K 388 "minor" = true := by kernel_rfl
theorem st_patch : setIn (cx w h₁ os₁ GI).K 388 "patch" = true := by kernel_rfl
theorem st_pre : setIn (cx w h₁ os₁ GI).K 388 "prerelease" = true := by kernel_rfl
theorem st_build : setIn (cx w h₁ os₁ GI).K 388 "build" = true := by kernel_rfl
theorem st_partial : setIn (cx w h₁ os₁ GI).K 388 "partial" = true := by kernel_rfl
theorem st_cmpk : setIn (cx w h₁ os₁ GI).K 388 "_cmp_precedence_key" = true := by kernel_rfl
theorem st_sortk : setIn (cx w h₁ os₁ GI).K 388 "_sort_precedence_key" = true := by kernel_rfl
abbrev cmpK (A B C : Int) (pre : List (List Nat)) : D := .tup [.int A, .int B, .int C, preKey pre]
abbrev verF (A B C : Int) (pre bld : List (List Nat)) : List (Str × D) := [("major", .int A), ("minor", .int B), ("patch", .int C), ("prerelease", idsD pre), ("build", idsD bld), ("partial", .raw (.bool false)), ("_cmp_precedence_key", cmpK A B C pre), ("_sort_precedence_key", .tup [.int A, .int B, .int C, preKey pre, .tup (bld.map keyD)])]
def verD (A B C : Int) (pre bld : List (List Nat)) : D := .inst 388 (verF A B C pre bld)
/-- how a maker's body comes to its end -/
theorem init_parts (O : (cx w h₁ os₁ GI).Ok) (hGI : ∀ a b d, GI a d → (∀ y ∈ b, y ∈ a ∨ y.bare = true) → GI b d) {n : Nat} {A B C : Int} {Pq : D → Prop} (h : Pq (verD A B C [] [])) :
    CallK (cx w h₁ os₁ GI) (n + 12) (.ref 388) [] [("major", .int A), ("minor", .int B), ("patch", .int C), ("partial", .raw (.bool false))] Pq := by
  have szl := sizeLine_eq
  refine' call_make O (as := []) (ks := [("major", .int A), ("minor", .int B), ("patch", .int C), ("partial", .raw (.bool false))]) (f := 225) ?hm ?hi ?hfn ?hf ?hc ?hs ?x0 ?k0 ?h0 ?ρ ?hno ?hns ?hb ?_
  case hm => kernel_rfl
  case hi => kernel_rfl
  case hfn => kernel_rfl
  case hf => exact rfl
  case hc => kernel_rfl
  case hs => kernel_rfl
  case h0 => exact rfl
  case ρ => exact [some (.dat (.raw .none)), some (.dat (.int A)), some (.dat (.int B)), some (.dat (.int C)), some (.dat (.raw .none)), some (.dat (.raw .none)), some (.dat (.raw (.bool false))), none, none]
  case hno => exact rfl
  case hns => exact rfl
  case hb =>
    rintro X s a dd vs kvs I ⟨v1, _, e1, r1, rfl⟩ ⟨v3, _, rfl, r3, v4, _, rfl, r4, v5, _, rfl, r5, v6, _, rfl, r6, rfl⟩
    cases e1
    refine ⟨_, binds_K (I.kin O) rfl rfl rfl rfl rfl, rfl, ⟨⟨_, rfl, r1⟩, .inl rfl⟩, ⟨⟨_, rfl, rfl⟩, .inl rfl⟩, ⟨⟨_, rfl, r3⟩, .inl rfl⟩, ⟨⟨_, rfl, r4⟩, .inl rfl⟩, ⟨⟨_, rfl, r5⟩, .inl rfl⟩, ⟨⟨_, rfl, rfl⟩, .inl rfl⟩, ⟨⟨_, rfl, rfl⟩, .inl rfl⟩, ⟨⟨_, rfl, r6⟩, .inl rfl⟩, trivial⟩
  intro a dd
  repeat kd_subs
  rw [if_neg (by simp [D.isNone])]
  repeat kd_subs
  rw [if_neg (by simp [D.isNone])]
  refine ex_nil ?_
  refine ex_cons (ex_if (tst_of (fun _ _ => rfl) (ev_nm rfl rfl rfl (tru_bool ?_))))
  rw [if_neg (by simp [D.isNone])]
  repeat kd_subs
  rw [if_neg (by simp)]
  repeat kd_subs
  refine ⟨by simp, ?_⟩
  repeat kd_subs
  refine c_tuple_t ?_
  repeat kd_subs
  rw [if_pos (by simp)]
  repeat kd_subs
  rw [if_neg (by simp)]
  repeat kd_subs
  refine ⟨by simp, ?_⟩
  repeat kd_subs
  refine c_tuple_t ?_
  repeat kd_subs
  refine ex_expr (fun _ => rfl) (ev_meth O (fun _ => rfl) rfl rfl (evv_nm rfl rfl rfl (meth_cm O rfl ca_vkw rfl ?_)))
  repeat kd_subs
  refine vkw O ?_
  refine ex_nil ?_
  refine ex_cons (ex_setattr O 0 rfl rfl rfl rfl rfl (fun _ => rfl) st_major rfl (by simp) (ev_nm rfl rfl rfl ?_))
  refine ex_cons (ex_setattr O 0 rfl rfl rfl rfl rfl (fun _ => rfl) st_minor rfl (by simp) (ev_nm rfl rfl rfl ?_))
  refine ex_cons (ex_setattr O 0 rfl rfl rfl rfl rfl (fun _ => rfl) st_patch rfl (by simp) (ev_nm rfl rfl rfl ?_))
  refine ex_cons (ex_setattr O 0 rfl rfl rfl rfl rfl (fun _ => rfl) st_pre rfl (by simp) (ev_nm rfl rfl rfl ?_))
  refine ex_cons (ex_setattr O 0 rfl rfl rfl rfl rfl (fun _ => rfl) st_build rfl (by simp) (ev_nm rfl rfl rfl ?_))
  refine ex_cons (ex_setattr O 0 rfl rfl rfl rfl rfl (fun _ => rfl) st_partial rfl (by simp) (ev_nm rfl rfl rfl ?_))
  refine ex_cons (ex_setattr O 0 rfl rfl rfl rfl rfl (fun _ => rfl) st_cmpk rfl (by simp) (ev_meth O (fun _ => rfl) rfl rfl (evv_nm rfl rfl rfl (meth_inst O rfl mi_key rfl ?_))))
  repeat kd_subs
  refine key O hGI (pre := []) (bld := []) ([]) false (by simp) (by simp) (by simp) (by simp) ?_
  refine ex_cons (ex_setattr O 0 rfl rfl rfl rfl rfl (fun _ => rfl) st_sortk rfl (by simp) (ev_meth O (fun _ => rfl) rfl rfl (evv_nm rfl rfl rfl (meth_inst O rfl mi_key rfl ?_))))
  repeat kd_subs
  refine key O hGI (pre := []) (bld := []) ([("_cmp_precedence_key", cmpK A B C [])]) true (by simp) (by simp) (by simp) (by simp) ?_
  refine ex_nil ?_
  exact ⟨_, rfl, h⟩
theorem init_text (O : (cx w h₁ os₁ GI).Ok) (hGI : ∀ a b d, GI a d → (∀ y ∈ b, y ∈ a ∨ y.bare = true) → GI b d) {n : Nat} {a b d : List Nat} {pre bld : List (List Nat)} {A B C : Int} {Pq : D → Prop} (na : Num a A) (nb : Num b B) (nd : Num d C) (hp : Ids false pre) (hb : Ids true bld) (kp : ∀ x ∈ pre, KeyOk x) (kb : ∀ x ∈ bld, KeyOk x)
    (hz : (vtext a b d pre bld).length ≤ 1000) (h : Pq (verD A B C pre bld)) :
    CallK (cx w h₁ os₁ GI) (n + 12) (.ref 388) [.dat (.str (T (vtext a b d pre bld)))] [] Pq := by
  have szl := sizeLine_eq
  refine' call_make O (as := [.str (T (vtext a b d pre bld))]) (ks := []) (f := 225) ?hm ?hi ?hfn ?hf ?hc ?hs ?x0 ?k0 ?h0 ?ρ ?hno ?hns ?hb ?_
  case hm => kernel_rfl
  case hi => kernel_rfl
  case hfn => kernel_rfl
  case hf => exact rfl
  case hc => kernel_rfl
  case hs => kernel_rfl
  case h0 => exact rfl
  case ρ => exact [some (.dat (.str (T (vtext a b d pre bld)))), some (.dat (.raw .none)), some (.dat (.raw .none)), some (.dat (.raw .none)), some (.dat (.raw .none)), some (.dat (.raw .none)), some (.dat (.raw (.bool false))), none, none]
  case hno => exact rfl
  case hns => exact rfl
  case hb =>
    rintro X s a dd vs kvs I ⟨v1, _, e1, r1, v2, _, rfl, r2, rfl⟩ rk
    have e : kvs = [] := rk
    subst e
    cases e1
    refine ⟨_, binds_K (I.kin O) rfl rfl rfl rfl rfl, rfl, ⟨⟨_, rfl, r1⟩, .inl rfl⟩, ⟨⟨_, rfl, r2⟩, .inl rfl⟩, ⟨⟨_, rfl, rfl⟩, .inl rfl⟩, ⟨⟨_, rfl, rfl⟩, .inl rfl⟩, ⟨⟨_, rfl, rfl⟩, .inl rfl⟩, ⟨⟨_, rfl, rfl⟩, .inl rfl⟩, ⟨⟨_, rfl, rfl⟩, .inl rfl⟩, ⟨⟨_, rfl, rfl⟩, .inl rfl⟩, trivial⟩
  intro a' dd
  repeat kd_subs
  rw [if_pos (by simp [D.isNone])]
  repeat kd_subs
  rw [if_pos (by simp [D.isNone])]
  repeat kd_subs
  rw [if_pos (by simp [D.isNone])]
  repeat kd_subs
  rw [if_pos (by simp [D.isNone])]
  repeat kd_subs
  rw [if_neg (by simp [D.isNone])]
  refine ex_nil ?_
  refine ex_cons (ex_if (tst_of (fun _ _ => rfl) (ev_nm rfl rfl rfl (tru_bool ?_))))
  rw [if_pos (by simp [D.isNone])]
  refine ex_cons (ex_unpack (fun _ => rfl) (fun _ => rfl) (ev_meth O (fun _ => rfl) rfl rfl (evv_nm rfl rfl rfl (meth_cm O rfl ca_parse rfl ?_))))
  repeat kd_subs
  refine parse O na nb nd hp hb hz ?_
  refine asg_tuple rfl .tup rfl (asgl_cons (asg_n rfl rfl rfl (asgl_cons (asg_n rfl rfl rfl (asgl_cons (asg_n rfl rfl rfl (asgl_cons (asg_n rfl rfl rfl (asgl_cons (asg_n rfl rfl rfl (asgl_nil ?_)))))))))))
  refine ex_nil ?_
  refine ex_cons (ex_setattr O 0 rfl rfl rfl rfl rfl (fun _ => rfl) st_major rfl (by simp) (ev_nm rfl rfl rfl ?_))
  refine ex_cons (ex_setattr O 0 rfl rfl rfl rfl rfl (fun _ => rfl) st_minor rfl (by simp) (ev_nm rfl rfl rfl ?_))
  refine ex_cons (ex_setattr O 0 rfl rfl rfl rfl rfl (fun _ => rfl) st_patch rfl (by simp) (ev_nm rfl rfl rfl ?_))
  refine ex_cons (ex_setattr O 0 rfl rfl rfl rfl rfl (fun _ => rfl) st_pre rfl (by simp) (ev_nm rfl rfl rfl ?_))
  refine ex_cons (ex_setattr O 0 rfl rfl rfl rfl rfl (fun _ => rfl) st_build rfl (by simp) (ev_nm rfl rfl rfl ?_))
  refine ex_cons (ex_setattr O 0 rfl rfl rfl rfl rfl (fun _ => rfl) st_partial rfl (by simp) (ev_nm rfl rfl rfl ?_))
  refine ex_cons (ex_setattr O 0 rfl rfl rfl rfl rfl (fun _ => rfl) st_cmpk rfl (by simp) (ev_meth O (fun _ => rfl) rfl rfl (evv_nm rfl rfl rfl (meth_inst O rfl mi_key rfl ?_))))
  repeat kd_subs
  refine key O hGI (pre := pre) (bld := bld) ([]) false hp.len hb.len kp kb ?_
  refine ex_cons (ex_setattr O 0 rfl rfl rfl rfl rfl (fun _ => rfl) st_sortk rfl (by simp) (ev_meth O (fun _ => rfl) rfl rfl (evv_nm rfl rfl rfl (meth_inst O rfl mi_key rfl ?_))))
  repeat kd_subs
  refine key O hGI (pre := pre) (bld := bld) ([("_cmp_precedence_key", cmpK A B C pre)]) true hp.len hb.len kp kb ?_
  refine ex_nil ?_
  exact ⟨_, rfl, h⟩
end
end Mine
end
section
set_option maxHeartbeats 0
namespace Mine
open PySem PySem.W PySem.Calls PyProof.Rows Builtin
section
variable {w : World} {h₁ : Heap} {os₁ : OsState} {GI : Array GenState → Drawn → Prop}
local macro_rules
  | `(tactic| kd_subs) => `(tactic| first
    | ((with_reducible show Ev _ _ _ _ _ _); first
      | ((with_reducible show Ev _ _ _ _ (Expr.Name _ _) _); first
        | ((with_reducible show Ev _ _ _ _ (Expr.Name (Str.ofString "_DIGITS") _) _); refine nm_digits (by assumption) rfl rfl ?_)
        | ((with_reducible show Ev _ _ _ _ (Expr.Name (Str.ofString "_SIGNS") _) _); refine nm_signs (by assumption) rfl rfl ?_)
        | ((with_reducible show Ev _ _ _ _ (Expr.Name (Str.ofString "Version") _) _); refine nm_ver (by assumption) rfl rfl ?_)
        | ((with_reducible show Ev _ _ _ _ (Expr.Name (Str.ofString "MaxIdentifier") _) _); refine nm_max (by assumption) rfl rfl ?_)
        | ((with_reducible show Ev _ _ _ _ (Expr.Name (Str.ofString "NumericIdentifier") _) _); refine nm_num (by assumption) rfl rfl ?_)
        | ((with_reducible show Ev _ _ _ _ (Expr.Name (Str.ofString "AlphaIdentifier") _) _); refine nm_alpha (by assumption) rfl rfl ?_)
        | ((with_reducible show Ev _ _ _ _ (Expr.Name (Str.ofString "NotImplemented") _) _); refine nm_ni (by assumption) rfl rfl ?_)
        | refine ev_nm rfl rfl rfl ?_)
      | ((with_reducible show Ev _ _ _ _ (Expr.Constant _ _ _) _); first
        | ((with_reducible show Ev _ _ _ _ (Expr.Constant (Const.int _) _ _) _); refine ev_int ?_)
        | ((with_reducible show Ev _ _ _ _ (Expr.Constant Const.none _ _) _); refine ev_none ?_)
        | ((with_reducible show Ev _ _ _ _ (Expr.Constant (Const.bool _) _ _) _); refine ev_bool ?_)
        | ((with_reducible show Ev _ _ _ _ (Expr.Constant (Const.str (Str.ofString ".")) _ _) _); refine ev_strT lit_dot ?_)
        | ((with_reducible show Ev _ _ _ _ (Expr.Constant (Const.str (Str.ofString "-")) _ _) _); refine ev_strT lit_dash ?_)
        | ((with_reducible show Ev _ _ _ _ (Expr.Constant (Const.str (Str.ofString "+")) _ _) _); refine ev_strT lit_plus ?_)
        | ((with_reducible show Ev _ _ _ _ (Expr.Constant (Const.str (Str.ofString "\n")) _ _) _); refine ev_strT lit_nl ?_)
        | ((with_reducible show Ev _ _ _ _ (Expr.Constant (Const.str (Str.ofString "")) _ _) _); refine ev_strT lit_empty ?_)
        | ((with_reducible show Ev _ _ _ _ (Expr.Constant (Const.str (Str.ofString "0")) _ _) _); refine ev_strT lit_zero ?_))
      | ((with_reducible show Ev _ _ _ _ (Expr.Call (Expr.Name _ _) _ _ _) _); first
        | ((with_reducible show Ev _ _ _ _ (Expr.Call (Expr.Name (Str.ofString "len") _) _ [] _) _); refine bl_len (by assumption) rfl rfl rfl ?_)
        | ((with_reducible show Ev _ _ _ _ (Expr.Call (Expr.Name (Str.ofString "int") _) _ [] _) _); refine bl_int (by assumption) rfl rfl rfl ?_)
        | ((with_reducible show Ev _ _ _ _ (Expr.Call (Expr.Name (Str.ofString "str") _) _ [] _) _); refine bl_str (by assumption) rfl rfl rfl ?_)
        | ((with_reducible show Ev _ _ _ _ (Expr.Call (Expr.Name (Str.ofString "abs") _) _ [] _) _); refine bl_abs (by assumption) rfl rfl rfl ?_)
        | ((with_reducible show Ev _ _ _ _ (Expr.Call (Expr.Name (Str.ofString "max") _) _ [] _) _); refine bl_max (by assumption) rfl rfl rfl ?_)
        | ((with_reducible show Ev _ _ _ _ (Expr.Call (Expr.Name (Str.ofString "min") _) _ [] _) _); refine bl_min (by assumption) rfl rfl rfl ?_)
        | ((with_reducible show Ev _ _ _ _ (Expr.Call (Expr.Name (Str.ofString "range") _) _ [] _) _); refine bl_range (by assumption) rfl rfl rfl ?_)
        | ((with_reducible show Ev _ _ _ _ (Expr.Call (Expr.Name (Str.ofString "tuple") _) _ [] _) _); (fail_if_success (with_reducible show Ev _ _ _ _ (Expr.Call _ [Expr.GeneratorExp _ _ _ _] _ _) _)); refine bl_tuple (by assumption) rfl rfl rfl ?_)
        | ((with_reducible show Ev _ _ _ _ (Expr.Call (Expr.Name (Str.ofString "list") _) _ [] _) _); refine bl_list (by assumption) rfl rfl rfl ?_)
        | ((with_reducible show Ev _ _ _ _ (Expr.Call (Expr.Name (Str.ofString "isinstance") _) _ [] _) _); refine bl_isinstance (by assumption) rfl rfl rfl ?_)
        | ((with_reducible show Ev _ _ _ _ (Expr.Call (Expr.Name (Str.ofString "_behind") _) _ [] _) _); refine cl_behind (by assumption) rfl rfl rfl ?_)
        | ((with_reducible show Ev _ _ _ _ (Expr.Call (Expr.Name (Str.ofString "_version_groups") _) _ [] _) _); refine cl_groups (by assumption) rfl rfl rfl ?_)
        | ((with_reducible show Ev _ _ _ _ (Expr.Call (Expr.Name (Str.ofString "_has_leading_zero") _) _ [] _) _); refine cl_hlz (by assumption) rfl rfl rfl ?_)
        | ((with_reducible show Ev _ _ _ _ (Expr.Call (Expr.Name (Str.ofString "MaxIdentifier") _) _ [] _) _); refine cl_max (by assumption) rfl rfl rfl ?_)
        | ((with_reducible show Ev _ _ _ _ (Expr.Call (Expr.Name (Str.ofString "NumericIdentifier") _) _ [] _) _); refine cl_num (by assumption) rfl rfl rfl ?_)
        | ((with_reducible show Ev _ _ _ _ (Expr.Call (Expr.Name (Str.ofString "AlphaIdentifier") _) _ [] _) _); refine cl_alpha (by assumption) rfl rfl rfl ?_)
        | ((with_reducible show Ev _ _ _ _ (Expr.Call (Expr.Name (Str.ofString "Version") _) _ [] _) _); refine cl_ver (by assumption) rfl rfl rfl ?_)
        | ((with_reducible show Ev _ _ _ _ (Expr.Call (Expr.Name (Str.ofString "Version") _) _ _ _) _); refine ck_ver (by assumption) rfl rfl rfl rfl ?_))
      | ((with_reducible show Ev _ _ _ _ (Expr.Compare _ _ _ _) _); refine ev_cmp rfl ?_)
      | ((with_reducible show Ev _ _ _ _ (Expr.Call (Expr.Attribute _ _ _) _ [] _) _); first
        | ((with_reducible show Ev _ _ _ _ (Expr.Call (Expr.Attribute _ (Str.ofString "isdigit") _) _ [] _) _); refine ev_methv (by assumption) (fun _ => rfl) rfl (evv_dat ?_))
        | ((with_reducible show Ev _ _ _ _ (Expr.Call (Expr.Attribute _ (Str.ofString "split") _) _ [] _) _); refine ev_methv (by assumption) (fun _ => rfl) rfl (evv_dat ?_))
        | ((with_reducible show Ev _ _ _ _ (Expr.Call (Expr.Attribute _ (Str.ofString "join") _) _ [] _) _); refine ev_methv (by assumption) (fun _ => rfl) rfl (evv_dat ?_))
        | ((with_reducible show Ev _ _ _ _ (Expr.Call (Expr.Attribute _ (Str.ofString "encode") _) _ [] _) _); refine ev_methv (by assumption) (fun _ => rfl) rfl (evv_dat ?_)))
      | ((with_reducible show Ev _ _ _ _ (Expr.Attribute (Expr.Name _ _) _ _) _); first
        | ((with_reducible show Ev _ _ _ _ (Expr.Attribute (Expr.Name _ _) (Str.ofString "major") _) _); refine ev_attr (fun _ => rfl) (evv_nm rfl rfl rfl (attr_inst (by assumption) rfl at_major rfl rfl ?_)))
        | ((with_reducible show Ev _ _ _ _ (Expr.Attribute (Expr.Name _ _) (Str.ofString "minor") _) _); refine ev_attr (fun _ => rfl) (evv_nm rfl rfl rfl (attr_inst (by assumption) rfl at_minor rfl rfl ?_)))
        | ((with_reducible show Ev _ _ _ _ (Expr.Attribute (Expr.Name _ _) (Str.ofString "patch") _) _); refine ev_attr (fun _ => rfl) (evv_nm rfl rfl rfl (attr_inst (by assumption) rfl at_patch rfl rfl ?_)))
        | ((with_reducible show Ev _ _ _ _ (Expr.Attribute (Expr.Name _ _) (Str.ofString "prerelease") _) _); refine ev_attr (fun _ => rfl) (evv_nm rfl rfl rfl (attr_inst (by assumption) rfl at_pre rfl rfl ?_)))
        | ((with_reducible show Ev _ _ _ _ (Expr.Attribute (Expr.Name _ _) (Str.ofString "build") _) _); refine ev_attr (fun _ => rfl) (evv_nm rfl rfl rfl (attr_inst (by assumption) rfl at_build rfl rfl ?_)))
        | ((with_reducible show Ev _ _ _ _ (Expr.Attribute (Expr.Name _ _) (Str.ofString "partial") _) _); refine ev_attr (fun _ => rfl) (evv_nm rfl rfl rfl (attr_inst (by assumption) rfl at_partial rfl rfl ?_)))
        | ((with_reducible show Ev _ _ _ _ (Expr.Attribute (Expr.Name _ _) (Str.ofString "_cmp_precedence_key") _) _); refine ev_attr (fun _ => rfl) (evv_nm rfl rfl rfl (attr_inst (by assumption) rfl at_cmpk rfl rfl ?_))))
      | ((with_reducible show Ev _ _ _ _ (Expr.BoolOp BoolOp.And (_ :: _ :: _) _) _); refine ev_and ?_)
      | ((with_reducible show Ev _ _ _ _ (Expr.BoolOp BoolOp.Or (_ :: _ :: _) _) _); refine ev_or ?_)
      | ((with_reducible show Ev _ _ _ _ (Expr.BoolOp _ [_] _) _); refine ev_bool1 ?_)
      | ((with_reducible show Ev _ _ _ _ (Expr.BinOp _ _ _ _) _); refine ev_bin ?_)
      | ((with_reducible show Ev _ _ _ _ (Expr.Tuple _ _ _) _); refine ev_tup ?_)
      | ((with_reducible show Ev _ _ _ _ (Expr.List _ _) _); refine ev_list ?_)
      | ((with_reducible show Ev _ _ _ _ (Expr.UnaryOp UnaryOp.Not _ _) _); refine ev_not ?_)
      | ((with_reducible show Ev _ _ _ _ (Expr.UnaryOp _ _ _) _); refine ev_un ?_)
      | ((with_reducible show Ev _ _ _ _ (Expr.Subscript _ (Expr.Slice _ _ _ _) _) _); refine ev_cut ?_)
      | ((with_reducible show Ev _ _ _ _ (Expr.Subscript _ _ _) _); refine ev_item rfl ?_))
    | ((with_reducible show MethV _ _ _ _ _); first
      | refine m_isdigit ?_
      | refine m_split ?_
      | refine m_join ?_
      | refine m_encode ?_)
    | ((with_reducible show EvK _ _ _ _ _ _); first
      | refine evk_cons rfl ?_
      | refine evk_nil ?_)
    | ((with_reducible show EvL _ _ _ _ _ _); first
      | ((with_reducible show EvL _ _ _ _ (_ :: _) _); refine evl_cons rfl ?_)
      | refine evl_nil ?_)
    | ((with_reducible show Ex _ _ _ _ _ _); first
      | ((with_reducible show Ex _ _ _ _ (_ :: _) _); (try conv => arg 4; simp only [List.set_cons_succ, List.set_cons_zero]); refine ex_cons ?_)
      | refine ex_nil ?_)
    | ((with_reducible show Ex1 _ _ _ _ _ _); first
      | ((with_reducible show Ex1 _ _ _ _ (Stmt.If _ _ _ _) _); refine ex_if ?_)
      | ((with_reducible show Ex1 _ _ _ _ (Stmt.Return (some _) _) _); refine ex_return ?_)
      | ((with_reducible show Ex1 _ _ _ _ (Stmt.Assign [Expr.Name _ _] _ _) _); refine ex_as rfl rfl rfl (fun _ => rfl) ?_))
    | ((with_reducible show Two _ _ _ _ _ _); first
      | ((with_reducible show Two _ _ (binaryOp Operator.Add) _ _ _); refine i_add ?_)
      | ((with_reducible show Two _ _ (binaryOp Operator.Sub) _ _ _); refine i_sub ?_)
      | ((with_reducible show Two _ _ (binaryOp Operator.BitXor) _ _ _); refine b_xor ?_)
      | ((with_reducible show Two _ _ (compareOp CmpOp.Lt) _ _ _); refine i_lt ?_)
      | ((with_reducible show Two _ _ (compareOp CmpOp.Gt) _ _ _); refine i_gt ?_)
      | ((with_reducible show Two _ _ (compareOp CmpOp.LtE) _ _ _); refine i_le ?_)
      | ((with_reducible show Two _ _ (compareOp CmpOp.GtE) _ _ _); refine i_ge ?_)
      | ((with_reducible show Two _ _ (compareOp CmpOp.Is) _ _ _); refine is_no ?_)
      | ((with_reducible show Two _ _ (compareOp CmpOp.IsNot) _ _ _); refine isnt_no ?_)
      | ((with_reducible show Two _ _ (compareOp CmpOp.Eq) (D.int _) _ _); refine i_eq ?_)
      | ((with_reducible show Two _ _ (compareOp CmpOp.Eq) (D.str (T _)) _ _); refine s_eqT ?_)
      | ((with_reducible show Two _ _ (compareOp CmpOp.NotEq) (D.int _) _ _); refine i_ne ?_)
      | ((with_reducible show Two _ _ (compareOp CmpOp.NotEq) (D.str (T _)) _ _); refine s_neT ?_))
    | ((with_reducible show Tst _ _ _ _ _ _); first
      | ((with_reducible show Tst _ _ _ _ (Expr.Compare _ _ _ _) _); refine tst_cmp rfl ?_)
      | ((with_reducible show Tst _ _ _ _ (Expr.Name _ _) _); refine tst_of (fun _ _ => rfl) ?_)
      | ((with_reducible show Tst _ _ _ _ (Expr.Call _ _ _ _) _); refine tst_of (fun _ _ => rfl) ?_)
      | ((with_reducible show Tst _ _ _ _ (Expr.Attribute _ _ _) _); refine tst_of (fun _ _ => rfl) ?_)
      | ((with_reducible show Tst _ _ _ _ (Expr.BinOp _ _ _ _) _); refine tst_of (fun _ _ => rfl) ?_)
      | ((with_reducible show Tst _ _ _ _ (Expr.Subscript _ _ _) _); refine tst_of (fun _ _ => rfl) ?_)
      | ((with_reducible show Tst _ _ _ _ (Expr.BoolOp BoolOp.And [] _) _); refine tst_and_nil ?_)
      | ((with_reducible show Tst _ _ _ _ (Expr.BoolOp BoolOp.Or [] _) _); refine tst_or_nil ?_)
      | ((with_reducible show Tst _ _ _ _ (Expr.UnaryOp UnaryOp.Not _ _) _); refine tst_not ?_)
      | ((with_reducible show Tst _ _ _ _ (Expr.BoolOp BoolOp.And (_ :: _) _) _); refine tst_and ?_)
      | ((with_reducible show Tst _ _ _ _ (Expr.BoolOp BoolOp.Or (_ :: _) _) _); refine tst_or ?_))
    | ((with_reducible show EvP _ _ _ _ _ _); first
      | refine evp_some ?_
      | refine evp_none ?_)
    | ((with_reducible show Tru _ _ _ _); first
      | refine tru_T (by assumption) ?_
      | refine tru_bool ?_
      | refine tru_none ?_)
    | ((with_reducible show One _ _ (unaryOp UnaryOp.USub) _ _); refine i_neg ?_)
    | ((with_reducible show Cut _ _ (D.str (T _)) _ _ _); refine cut_T (by assumption) ?_)
    | ((with_reducible show CallV _ _ (Value.builtin "len") _ _ _); refine c_len_T (by assumption) ?_)
    | ((with_reducible show CallV _ _ (Value.builtin "str.isdigit") _ _ _); refine c_isdigit ?_)
    | ((with_reducible show ∃ _, _ ∧ _); refine ⟨_, rfl, ?_⟩))

def idnD : Idn → D
  | .max => .inst 94 []
  | .num i => numD i
  | .alpha x => alphaD x
def Idn.isM : Idn → Bool
  | .max => true
  | _ => false
def Idn.isN : Idn → Bool
  | .num _ => true
  | _ => false
def Idn.isA : Idn → Bool
  | .alpha _ => true
  | _ => false
theorem at_nval : attrIn (cx w h₁ os₁ GI).K 150 "value" = true := by kernel_rfl
theorem at_aval : attrIn (cx w h₁ os₁ GI).K 206 "value" = true := by kernel_rfl
theorem ii_mm : isIn (cx w h₁ os₁ GI).K (.ref 94) 94 = true := by kernel_rfl
theorem nf_mm : notFirst (cx w h₁ os₁ GI).K 94 (.ref 94) = true := by kernel_rfl
theorem ii_mn : isnIn (cx w h₁ os₁ GI).K 94 150 = true := by kernel_rfl
theorem nf_mn : notFirst (cx w h₁ os₁ GI).K 94 (.ref 150) = true := by kernel_rfl
theorem ii_ma : isnIn (cx w h₁ os₁ GI).K 94 206 = true := by kernel_rfl
theorem nf_ma : notFirst (cx w h₁ os₁ GI).K 94 (.ref 206) = true := by kernel_rfl
theorem ii_nm : isnIn (cx w h₁ os₁ GI).K 150 94 = true := by kernel_rfl
theorem nf_nm : notFirst (cx w h₁ os₁ GI).K 150 (.ref 94) = true := by kernel_rfl
theorem ii_nn : isIn (cx w h₁ os₁ GI).K (.ref 150) 150 = true := by kernel_rfl
theorem nf_nn : notFirst (cx w h₁ os₁ GI).K 150 (.ref 150) = true := by kernel_rfl
theorem ii_na : isnIn (cx w h₁ os₁ GI).K 150 206 = true := by kernel_rfl
theorem nf_na : notFirst (cx w h₁ os₁ GI).K 150 (.ref 206) = true := by kernel_rfl
theorem ii_am : isnIn (cx w h₁ os₁ GI).K 206 94 = true := by kernel_rfl
theorem nf_am : notFirst (cx w h₁ os₁ GI).K 206 (.ref 94) = true := by kernel_rfl
theorem ii_an : isnIn (cx w h₁ os₁ GI).K 206 150 = true := by kernel_rfl
theorem nf_an : notFirst (cx w h₁ os₁ GI).K 206 (.ref 150) = true := by kernel_rfl
theorem ii_aa : isIn (cx w h₁ os₁ GI).K (.ref 206) 206 = true := by kernel_rfl
theorem nf_aa : notFirst (cx w h₁ os₁ GI).K 206 (.ref 206) = true := by kernel_rfl
theorem isi_m (O : (cx w h₁ os₁ GI).Ok) {n : Nat} {y : Idn} {Pq : D → Prop} (h : Pq (.raw (.bool y.isM))) : CallV (cx w h₁ os₁ GI) n (.builtin "isinstance") [.dat (idnD y), .dat (.raw (.ref 94))] [] Pq := by
  cases y with
  | max => exact c_isi O ii_mm h
  | num i => exact c_isn O ii_nm h
  | alpha x => exact c_isn O ii_am h
theorem isi_n (O : (cx w h₁ os₁ GI).Ok) {n : Nat} {y : Idn} {Pq : D → Prop} (h : Pq (.raw (.bool y.isN))) : CallV (cx w h₁ os₁ GI) n (.builtin "isinstance") [.dat (idnD y), .dat (.raw (.ref 150))] [] Pq := by
  cases y with
  | max => exact c_isn O ii_mn h
  | num i => exact c_isi O ii_nn h
  | alpha x => exact c_isn O ii_an h
theorem isi_a (O : (cx w h₁ os₁ GI).Ok) {n : Nat} {y : Idn} {Pq : D → Prop} (h : Pq (.raw (.bool y.isA))) : CallV (cx w h₁ os₁ GI) n (.builtin "isinstance") [.dat (idnD y), .dat (.raw (.ref 206))] [] Pq := by
  cases y with
  | max => exact c_isn O ii_ma h
  | num i => exact c_isn O ii_na h
  | alpha x => exact c_isi O ii_aa h
theorem m_eq (O : (cx w h₁ os₁ GI).Ok) {n : Nat} {y : Idn} : CallK (cx w h₁ os₁ GI) (n + 2) (.ref 63) [.dat (idnD .max), .dat (idnD y)] [] (· = .raw (.bool y.isM)) := by
  refine' call_def O ?hf ?hc ?hs ?ρ ?hno ?hb ?_
  case hf => exact rfl
  case hc => kernel_rfl
  case hs => kernel_rfl
  case ρ => exact [some (.dat (idnD .max)), some (.dat (idnD y))]
  case hno => exact rfl
  case hb =>
    rintro X s vs kvs I ⟨v1, _, rfl, r1, v2, _, rfl, r2, rfl⟩ rk
    have e : kvs = [] := rk
    subst e
    refine ⟨_, BindsTo.of_eq rfl, rfl, ⟨⟨_, rfl, r1⟩, .inl rfl⟩, ⟨⟨_, rfl, r2⟩, .inl rfl⟩, trivial⟩
  repeat kd_subs
  refine isi_m O ?_
  exact rfl
theorem m_lt (O : (cx w h₁ os₁ GI).Ok) {n : Nat} {y : Idn} : CallK (cx w h₁ os₁ GI) (n + 2) (.ref 70) [.dat (idnD .max), .dat (idnD y)] [] (· = .raw (.bool false)) := by
  refine' call_def O ?hf ?hc ?hs ?ρ ?hno ?hb ?_
  case hf => exact rfl
  case hc => kernel_rfl
  case hs => kernel_rfl
  case ρ => exact [some (.dat (idnD .max)), some (.dat (idnD y))]
  case hno => exact rfl
  case hb =>
    rintro X s vs kvs I ⟨v1, _, rfl, r1, v2, _, rfl, r2, rfl⟩ rk
    have e : kvs = [] := rk
    subst e
    refine ⟨_, BindsTo.of_eq rfl, rfl, ⟨⟨_, rfl, r1⟩, .inl rfl⟩, ⟨⟨_, rfl, r2⟩, .inl rfl⟩, trivial⟩
  repeat kd_subs
  rfl
theorem m_le (O : (cx w h₁ os₁ GI).Ok) {n : Nat} {y : Idn} : CallK (cx w h₁ os₁ GI) (n + 2) (.ref 77) [.dat (idnD .max), .dat (idnD y)] [] (· = .raw (.bool y.isM)) := by
  refine' call_def O ?hf ?hc ?hs ?ρ ?hno ?hb ?_
  case hf => exact rfl
  case hc => kernel_rfl
  case hs => kernel_rfl
  case ρ => exact [some (.dat (idnD .max)), some (.dat (idnD y))]
  case hno => exact rfl
  case hb =>
    rintro X s vs kvs I ⟨v1, _, rfl, r1, v2, _, rfl, r2, rfl⟩ rk
    have e : kvs = [] := rk
    subst e
    refine ⟨_, BindsTo.of_eq rfl, rfl, ⟨⟨_, rfl, r1⟩, .inl rfl⟩, ⟨⟨_, rfl, r2⟩, .inl rfl⟩, trivial⟩
  repeat kd_subs
  refine isi_m O ?_
  exact rfl
theorem n_eq (O : (cx w h₁ os₁ GI).Ok) {n : Nat} {i : Int} {y : Idn} : CallK (cx w h₁ os₁ GI) (n + 2) (.ref 119) [.dat (idnD (.num i)), .dat (idnD y)] [] (· = (if y.isN = true then .raw (.bool (icmp (Idn.num i) y == .eq)) else .raw .notImplemented)) := by
  refine' call_def O ?hf ?hc ?hs ?ρ ?hno ?hb ?_
  case hf => exact rfl
  case hc => kernel_rfl
  case hs => kernel_rfl
  case ρ => exact [some (.dat (idnD (.num i))), some (.dat (idnD y))]
  case hno => exact rfl
  case hb =>
    rintro X s vs kvs I ⟨v1, _, rfl, r1, v2, _, rfl, r2, rfl⟩ rk
    have e : kvs = [] := rk
    subst e
    refine ⟨_, BindsTo.of_eq rfl, rfl, ⟨⟨_, rfl, r1⟩, .inl rfl⟩, ⟨⟨_, rfl, r2⟩, .inl rfl⟩, trivial⟩
  repeat kd_subs
  refine isi_n O ?_
  repeat kd_subs
  cases y with
  | num j =>
    rw [if_pos (by rfl)]
    refine ex_cons (ex_return (ev_cmp rfl (ev_attr (fun _ => rfl) (evv_nm rfl rfl rfl (attr_inst O rfl at_nval rfl rfl (ev_attr (fun _ => rfl) (evv_nm rfl rfl rfl (attr_inst O rfl at_nval rfl rfl ?_))))))))
    exact (cmp_int i j).eq.mono fun _ h => h
  | _ =>
    rw [if_neg (by simp [Idn.isN])]
    repeat kd_subs
    rfl
theorem n_lt (O : (cx w h₁ os₁ GI).Ok) {n : Nat} {i : Int} {y : Idn} : CallK (cx w h₁ os₁ GI) (n + 2) (.ref 126) [.dat (idnD (.num i)), .dat (idnD y)] [] (· = .raw (.bool (icmp (Idn.num i) y == .lt))) := by
  refine' call_def O ?hf ?hc ?hs ?ρ ?hno ?hb ?_
  case hf => exact rfl
  case hc => kernel_rfl
  case hs => kernel_rfl
  case ρ => exact [some (.dat (idnD (.num i))), some (.dat (idnD y))]
  case hno => exact rfl
  case hb =>
    rintro X s vs kvs I ⟨v1, _, rfl, r1, v2, _, rfl, r2, rfl⟩ rk
    have e : kvs = [] := rk
    subst e
    refine ⟨_, BindsTo.of_eq rfl, rfl, ⟨⟨_, rfl, r1⟩, .inl rfl⟩, ⟨⟨_, rfl, r2⟩, .inl rfl⟩, trivial⟩
  repeat kd_subs
  refine isi_m O ?_
  repeat kd_subs
  cases y with
  | max =>
    rw [if_pos (by rfl)]
    repeat kd_subs
    rfl
  | num j =>
    rw [if_neg (by simp [Idn.isM])]
    repeat kd_subs
    refine isi_a O ?_
    repeat kd_subs
    rw [if_neg (by simp [Idn.isA])]
    repeat kd_subs
    refine isi_n O ?_
    repeat kd_subs
    rw [if_pos (by rfl)]
    refine ex_cons (ex_return (ev_cmp rfl (ev_attr (fun _ => rfl) (evv_nm rfl rfl rfl (attr_inst O rfl at_nval rfl rfl (ev_attr (fun _ => rfl) (evv_nm rfl rfl rfl (attr_inst O rfl at_nval rfl rfl ?_))))))))
    exact (cmp_int i j).lt.mono fun _ h => h
  | alpha z =>
    rw [if_neg (by simp [Idn.isM])]
    repeat kd_subs
    refine isi_a O ?_
    repeat kd_subs
    rw [if_pos (by rfl)]
    repeat kd_subs
    rfl
theorem a_eq (O : (cx w h₁ os₁ GI).Ok) {n : Nat} {x : List Nat} (hx : (Idn.alpha x).ok) {y : Idn} (hy : y.ok) : CallK (cx w h₁ os₁ GI) (n + 2) (.ref 175) [.dat (idnD (.alpha x)), .dat (idnD y)] [] (· = (if y.isA = true then .raw (.bool (icmp (Idn.alpha x) y == .eq)) else .raw .notImplemented)) := by
  refine' call_def O ?hf ?hc ?hs ?ρ ?hno ?hb ?_
  case hf => exact rfl
  case hc => kernel_rfl
  case hs => kernel_rfl
  case ρ => exact [some (.dat (idnD (.alpha x))), some (.dat (idnD y))]
  case hno => exact rfl
  case hb =>
    rintro X s vs kvs I ⟨v1, _, rfl, r1, v2, _, rfl, r2, rfl⟩ rk
    have e : kvs = [] := rk
    subst e
    refine ⟨_, BindsTo.of_eq rfl, rfl, ⟨⟨_, rfl, r1⟩, .inl rfl⟩, ⟨⟨_, rfl, r2⟩, .inl rfl⟩, trivial⟩
  repeat kd_subs
  refine isi_a O ?_
  repeat kd_subs
  cases y with
  | alpha z =>
    rw [if_pos (by rfl)]
    refine ex_cons (ex_return (ev_cmp rfl (ev_attr (fun _ => rfl) (evv_nm rfl rfl rfl (attr_inst O rfl at_aval rfl rfl (ev_attr (fun _ => rfl) (evv_nm rfl rfl rfl (attr_inst O rfl at_aval rfl rfl ?_))))))))
    exact b_eq hx hy rfl
  | _ =>
    rw [if_neg (by simp [Idn.isA])]
    repeat kd_subs
    rfl
theorem a_lt (O : (cx w h₁ os₁ GI).Ok) {n : Nat} {x : List Nat} (hx : (Idn.alpha x).ok) {y : Idn} (hy : y.ok) : CallK (cx w h₁ os₁ GI) (n + 2) (.ref 182) [.dat (idnD (.alpha x)), .dat (idnD y)] [] (· = .raw (.bool (icmp (Idn.alpha x) y == .lt))) := by
  refine' call_def O ?hf ?hc ?hs ?ρ ?hno ?hb ?_
  case hf => exact rfl
  case hc => kernel_rfl
  case hs => kernel_rfl
  case ρ => exact [some (.dat (idnD (.alpha x))), some (.dat (idnD y))]
  case hno => exact rfl
  case hb =>
    rintro X s vs kvs I ⟨v1, _, rfl, r1, v2, _, rfl, r2, rfl⟩ rk
    have e : kvs = [] := rk
    subst e
    refine ⟨_, BindsTo.of_eq rfl, rfl, ⟨⟨_, rfl, r1⟩, .inl rfl⟩, ⟨⟨_, rfl, r2⟩, .inl rfl⟩, trivial⟩
  repeat kd_subs
  refine isi_m O ?_
  repeat kd_subs
  cases y with
  | max =>
    rw [if_pos (by rfl)]
    repeat kd_subs
    rfl
  | num j =>
    rw [if_neg (by simp [Idn.isM])]
    repeat kd_subs
    refine isi_n O ?_
    repeat kd_subs
    rw [if_pos (by rfl)]
    repeat kd_subs
    rfl
  | alpha z =>
    rw [if_neg (by simp [Idn.isM])]
    repeat kd_subs
    refine isi_n O ?_
    repeat kd_subs
    rw [if_neg (by simp [Idn.isN])]
    repeat kd_subs
    refine isi_a O ?_
    repeat kd_subs
    rw [if_pos (by rfl)]
    refine ex_cons (ex_return (ev_cmp rfl (ev_attr (fun _ => rfl) (evv_nm rfl rfl rfl (attr_inst O rfl at_aval rfl rfl (ev_attr (fun _ => rfl) (evv_nm rfl rfl rfl (attr_inst O rfl at_aval rfl rfl ?_))))))))
    exact b_lt hx hy rfl
end
end Mine
end
section
set_option maxHeartbeats 0
namespace Mine
open PySem PySem.W PySem.Calls PyProof.Rows Builtin
section
variable {w : World} {h₁ : Heap} {os₁ : OsState} {GI : Array GenState → Drawn → Prop}
local macro_rules
  | `(tactic| kd_subs) => `(tactic| first
    | ((with_reducible show Ev _ _ _ _ _ _); first
      | ((with_reducible show Ev _ _ _ _ (Expr.Name _ _) _); first
        | ((with_reducible show Ev _ _ _ _ (Expr.Name (Str.ofString "_DIGITS") _) _); refine nm_digits (by assumption) rfl rfl ?_)
        | ((with_reducible show Ev _ _ _ _ (Expr.Name (Str.ofString "_SIGNS") _) _); refine nm_signs (by assumption) rfl rfl ?_)
        | ((with_reducible show Ev _ _ _ _ (Expr.Name (Str.ofString "Version") _) _); refine nm_ver (by assumption) rfl rfl ?_)
        | ((with_reducible show Ev _ _ _ _ (Expr.Name (Str.ofString "MaxIdentifier") _) _); refine nm_max (by assumption) rfl rfl ?_)
        | ((with_reducible show Ev _ _ _ _ (Expr.Name (Str.ofString "NumericIdentifier") _) _); refine nm_num (by assumption) rfl rfl ?_)
        | ((with_reducible show Ev _ _ _ _ (Expr.Name (Str.ofString "AlphaIdentifier") _) _); refine nm_alpha (by assumption) rfl rfl ?_)
        | ((with_reducible show Ev _ _ _ _ (Expr.Name (Str.ofString "NotImplemented") _) _); refine nm_ni (by assumption) rfl rfl ?_)
        | refine ev_nm rfl rfl rfl ?_)
      | ((with_reducible show Ev _ _ _ _ (Expr.Constant _ _ _) _); first
        | ((with_reducible show Ev _ _ _ _ (Expr.Constant (Const.int _) _ _) _); refine ev_int ?_)
        | ((with_reducible show Ev _ _ _ _ (Expr.Constant Const.none _ _) _); refine ev_none ?_)
        | ((with_reducible show Ev _ _ _ _ (Expr.Constant (Const.bool _) _ _) _); refine ev_bool ?_)
        | ((with_reducible show Ev _ _ _ _ (Expr.Constant (Const.str (Str.ofString ".")) _ _) _); refine ev_strT lit_dot ?_)
        | ((with_reducible show Ev _ _ _ _ (Expr.Constant (Const.str (Str.ofString "-")) _ _) _); refine ev_strT lit_dash ?_)
        | ((with_reducible show Ev _ _ _ _ (Expr.Constant (Const.str (Str.ofString "+")) _ _) _); refine ev_strT lit_plus ?_)
        | ((with_reducible show Ev _ _ _ _ (Expr.Constant (Const.str (Str.ofString "\n")) _ _) _); refine ev_strT lit_nl ?_)
        | ((with_reducible show Ev _ _ _ _ (Expr.Constant (Const.str (Str.ofString "")) _ _) _); refine ev_strT lit_empty ?_)
        | ((with_reducible show Ev _ _ _ _ (Expr.Constant (Const.str (Str.ofString "0")) _ _) _); refine ev_strT lit_zero ?_))
      | ((with_reducible show Ev _ _ _ _ (Expr.Call (Expr.Name _ _) _ _ _) _); first
        | ((with_reducible show Ev _ _ _ _ (Expr.Call (Expr.Name (Str.ofString "len") _) _ [] _) _); refine bl_len (by assumption) rfl rfl rfl ?_)
        | ((with_reducible show Ev _ _ _ _ (Expr.Call (Expr.Name (Str.ofString "int") _) _ [] _) _); refine bl_int (by assumption) rfl rfl rfl ?_)
        | ((with_reducible show Ev _ _ _ _ (Expr.Call (Expr.Name (Str.ofString "str") _) _ [] _) _); refine bl_str (by assumption) rfl rfl rfl ?_)
        | ((with_reducible show Ev _ _ _ _ (Expr.Call (Expr.Name (Str.ofString "abs") _) _ [] _) _); refine bl_abs (by assumption) rfl rfl rfl ?_)
        | ((with_reducible show Ev _ _ _ _ (Expr.Call (Expr.Name (Str.ofString "max") _) _ [] _) _); refine bl_max (by assumption) rfl rfl rfl ?_)
        | ((with_reducible show Ev _ _ _ _ (Expr.Call (Expr.Name (Str.ofString "min") _) _ [] _) _); refine bl_min (by assumption) rfl rfl rfl ?_)
        | ((with_reducible show Ev _ _ _ _ (Expr.Call (Expr.Name (Str.ofString "range") _) _ [] _) _); refine bl_range (by assumption) rfl rfl rfl ?_)
        | ((with_reducible show Ev _ _ _ _ (Expr.Call (Expr.Name (Str.ofString "tuple") _) _ [] _) _); (fail_if_success (with_reducible show Ev _ _ _ _ (Expr.Call _ [Expr.GeneratorExp _ _ _ _] _ _) _)); refine bl_tuple (by assumption) rfl rfl rfl ?_)
        | ((with_reducible show Ev _ _ _ _ (Expr.Call (Expr.Name (Str.ofString "list") _) _ [] _) _); refine bl_list (by assumption) rfl rfl rfl ?_)
        | ((with_reducible show Ev _ _ _ _ (Expr.Call (Expr.Name (Str.ofString "isinstance") _) _ [] _) _); refine bl_isinstance (by assumption) rfl rfl rfl ?_)
        | ((with_reducible show Ev _ _ _ _ (Expr.Call (Expr.Name (Str.ofString "_behind") _) _ [] _) _); refine cl_behind (by assumption) rfl rfl rfl ?_)
        | ((with_reducible show Ev _ _ _ _ (Expr.Call (Expr.Name (Str.ofString "_version_groups") _) _ [] _) _); refine cl_groups (by assumption) rfl rfl rfl ?_)
        | ((with_reducible show Ev _ _ _ _ (Expr.Call (Expr.Name (Str.ofString "_has_leading_zero") _) _ [] _) _); refine cl_hlz (by assumption) rfl rfl rfl ?_)
        | ((with_reducible show Ev _ _ _ _ (Expr.Call (Expr.Name (Str.ofString "MaxIdentifier") _) _ [] _) _); refine cl_max (by assumption) rfl rfl rfl ?_)
        | ((with_reducible show Ev _ _ _ _ (Expr.Call (Expr.Name (Str.ofString "NumericIdentifier") _) _ [] _) _); refine cl_num (by assumption) rfl rfl rfl ?_)
        | ((with_reducible show Ev _ _ _ _ (Expr.Call (Expr.Name (Str.ofString "AlphaIdentifier") _) _ [] _) _); refine cl_alpha (by assumption) rfl rfl rfl ?_)
        | ((with_reducible show Ev _ _ _ _ (Expr.Call (Expr.Name (Str.ofString "Version") _) _ [] _) _); refine cl_ver (by assumption) rfl rfl rfl ?_)
        | ((with_reducible show Ev _ _ _ _ (Expr.Call (Expr.Name (Str.ofString "Version") _) _ _ _) _); refine ck_ver (by assumption) rfl rfl rfl rfl ?_))
      | ((with_reducible show Ev _ _ _ _ (Expr.Compare _ _ _ _) _); refine ev_cmp rfl ?_)
      | ((with_reducible show Ev _ _ _ _ (Expr.Call (Expr.Attribute _ _ _) _ [] _) _); first
        | ((with_reducible show Ev _ _ _ _ (Expr.Call (Expr.Attribute _ (Str.ofString "isdigit") _) _ [] _) _); refine ev_methv (by assumption) (fun _ => rfl) rfl (evv_dat ?_))
        | ((with_reducible show Ev _ _ _ _ (Expr.Call (Expr.Attribute _ (Str.ofString "split") _) _ [] _) _); refine ev_methv (by assumption) (fun _ => rfl) rfl (evv_dat ?_))
        | ((with_reducible show Ev _ _ _ _ (Expr.Call (Expr.Attribute _ (Str.ofString "join") _) _ [] _) _); refine ev_methv (by assumption) (fun _ => rfl) rfl (evv_dat ?_))
        | ((with_reducible show Ev _ _ _ _ (Expr.Call (Expr.Attribute _ (Str.ofString "encode") _) _ [] _) _); refine ev_methv (by assumption) (fun _ => rfl) rfl (evv_dat ?_)))
      | ((with_reducible show Ev _ _ _ _ (Expr.Attribute (Expr.Name _ _) _ _) _); first
        | ((with_reducible show Ev _ _ _ _ (Expr.Attribute (Expr.Name _ _) (Str.ofString "major") _) _); refine ev_attr (fun _ => rfl) (evv_nm rfl rfl rfl (attr_inst (by assumption) rfl at_major rfl rfl ?_)))
        | ((with_reducible show Ev _ _ _ _ (Expr.Attribute (Expr.Name _ _) (Str.ofString "minor") _) _); refine ev_attr (fun _ => rfl) (evv_nm rfl rfl rfl (attr_inst (by assumption) rfl at_minor rfl rfl ?_)))
        | ((with_reducible show Ev _ _ _ _ (Expr.Attribute (Expr.Name _ _) (Str.ofString "patch") _) _); refine ev_attr (fun _ => rfl) (evv_nm rfl rfl rfl (attr_inst (by assumption) rfl at_patch rfl rfl ?_)))
        | ((with_reducible show Ev _ _ _ _ (Expr.Attribute (Expr.Name _ _) (Str.ofString "prerelease") _) _); refine ev_attr (fun _ => rfl) (evv_nm rfl rfl rfl (attr_inst (by assumption) rfl at_pre rfl rfl ?_)))
        | ((with_reducible show Ev _ _ _ _ (Expr.Attribute (Expr.Name _ _) (Str.ofString "build") _) _); refine ev_attr (fun _ => rfl) (evv_nm rfl rfl rfl (attr_inst (by assumption) rfl at_build rfl rfl ?_)))
        | ((with_reducible show Ev _ _ _ _ (Expr.Attribute (Expr.Name _ _) (Str.ofString "partial") _) _); refine ev_attr (fun _ => rfl) (evv_nm rfl rfl rfl (attr_inst (by assumption) rfl at_partial rfl rfl ?_)))
        | ((with_reducible show Ev _ _ _ _ (Expr.Attribute (Expr.Name _ _) (Str.ofString "_cmp_precedence_key") _) _); refine ev_attr (fun _ => rfl) (evv_nm rfl rfl rfl (attr_inst (by assumption) rfl at_cmpk rfl rfl ?_))))
      | ((with_reducible show Ev _ _ _ _ (Expr.BoolOp BoolOp.And (_ :: _ :: _) _) _); refine ev_and ?_)
      | ((with_reducible show Ev _ _ _ _ (Expr.BoolOp BoolOp.Or (_ :: _ :: _) _) _); refine ev_or ?_)
      | ((with_reducible show Ev _ _ _ _ (Expr.BoolOp _ [_] _) _); refine ev_bool1 ?_)
      | ((with_reducible show Ev _ _ _ _ (Expr.BinOp _ _ _ _) _); refine ev_bin ?_)
      | ((with_reducible show Ev _ _ _ _ (Expr.Tuple _ _ _) _); refine ev_tup ?_)
      | ((with_reducible show Ev _ _ _ _ (Expr.List _ _) _); refine ev_list ?_)
      | ((with_reducible show Ev _ _ _ _ (Expr.UnaryOp UnaryOp.Not _ _) _); refine ev_not ?_)
      | ((with_reducible show Ev _ _ _ _ (Expr.UnaryOp _ _ _) _); refine ev_un ?_)
      | ((with_reducible show Ev _ _ _ _ (Expr.Subscript _ (Expr.Slice _ _ _ _) _) _); refine ev_cut ?_)
      | ((with_reducible show Ev _ _ _ _ (Expr.Subscript _ _ _) _); refine ev_item rfl ?_))
    | ((with_reducible show MethV _ _ _ _ _); first
      | refine m_isdigit ?_
      | refine m_split ?_
      | refine m_join ?_
      | refine m_encode ?_)
    | ((with_reducible show EvK _ _ _ _ _ _); first
      | refine evk_cons rfl ?_
      | refine evk_nil ?_)
    | ((with_reducible show EvL _ _ _ _ _ _); first
      | ((with_reducible show EvL _ _ _ _ (_ :: _) _); refine evl_cons rfl ?_)
      | refine evl_nil ?_)
    | ((with_reducible show Ex _ _ _ _ _ _); first
      | ((with_reducible show Ex _ _ _ _ (_ :: _) _); (try conv => arg 4; simp only [List.set_cons_succ, List.set_cons_zero]); refine ex_cons ?_)
      | refine ex_nil ?_)
    | ((with_reducible show Ex1 _ _ _ _ _ _); first
      | ((with_reducible show Ex1 _ _ _ _ (Stmt.If _ _ _ _) _); refine ex_if ?_)
      | ((with_reducible show Ex1 _ _ _ _ (Stmt.Return (some _) _) _); refine ex_return ?_)
      | ((with_reducible show Ex1 _ _ _ _ (Stmt.Assign [Expr.Name _ _] _ _) _); refine ex_as rfl rfl rfl (fun _ => rfl) ?_))
    | ((with_reducible show Two _ _ _ _ _ _); first
      | ((with_reducible show Two _ _ (binaryOp Operator.Add) _ _ _); refine i_add ?_)
      | ((with_reducible show Two _ _ (binaryOp Operator.Sub) _ _ _); refine i_sub ?_)
      | ((with_reducible show Two _ _ (binaryOp Operator.BitXor) _ _ _); refine b_xor ?_)
      | ((with_reducible show Two _ _ (compareOp CmpOp.Lt) _ _ _); refine i_lt ?_)
      | ((with_reducible show Two _ _ (compareOp CmpOp.Gt) _ _ _); refine i_gt ?_)
      | ((with_reducible show Two _ _ (compareOp CmpOp.LtE) _ _ _); refine i_le ?_)
      | ((with_reducible show Two _ _ (compareOp CmpOp.GtE) _ _ _); refine i_ge ?_)
      | ((with_reducible show Two _ _ (compareOp CmpOp.Is) _ _ _); refine is_no ?_)
      | ((with_reducible show Two _ _ (compareOp CmpOp.IsNot) _ _ _); refine isnt_no ?_)
      | ((with_reducible show Two _ _ (compareOp CmpOp.Eq) (D.int _) _ _); refine i_eq ?_)
      | ((with_reducible show Two _ _ (compareOp CmpOp.Eq) (D.str (T _)) _ _); refine s_eqT ?_)
      | ((with_reducible show Two _ _ (compareOp CmpOp.NotEq) (D.int _) _ _); refine i_ne ?_)
      | ((with_reducible show Two _ _ (compareOp CmpOp.NotEq) (D.str (T _)) _ _); refine s_neT ?_))
    | ((with_reducible show Tst _ _ _ _ _ _); first
      | ((with_reducible show Tst _ _ _ _ (Expr.Compare _ _ _ _) _); refine tst_cmp rfl ?_)
      | ((with_reducible show Tst _ _ _ _ (Expr.Name _ _) _); refine tst_of (fun _ _ => rfl) ?_)
      | ((with_reducible show Tst _ _ _ _ (Expr.Call _ _ _ _) _); refine tst_of (fun _ _ => rfl) ?_)
      | ((with_reducible show Tst _ _ _ _ (Expr.Attribute _ _ _) _); refine tst_of (fun _ _ => rfl) ?_)
      | ((with_reducible show Tst _ _ _ _ (Expr.BinOp _ _ _ _) _); refine tst_of (fun _ _ => rfl) ?_)
      | ((with_reducible show Tst _ _ _ _ (Expr.Subscript _ _ _) _); refine tst_of (fun _ _ => rfl) ?_)
      | ((with_reducible show Tst _ _ _ _ (Expr.BoolOp BoolOp.And [] _) _); refine tst_and_nil ?_)
      | ((with_reducible show Tst _ _ _ _ (Expr.BoolOp BoolOp.Or [] _) _); refine tst_or_nil ?_)
      | ((with_reducible show Tst _ _ _ _ (Expr.UnaryOp UnaryOp.Not _ _) _); refine tst_not ?_)
      | ((with_reducible show Tst _ _ _ _ (Expr.BoolOp BoolOp.And (_ :: _) _) _); refine tst_and ?_)
      | ((with_reducible show Tst _ _ _ _ (Expr.BoolOp BoolOp.Or (_ :: _) _) _); refine tst_or ?_))
    | ((with_reducible show EvP _ _ _ _ _ _); first
      | refine evp_some ?_
      | refine evp_none ?_)
    | ((with_reducible show Tru _ _ _ _); first
      | refine tru_T (by assumption) ?_
      | refine tru_bool ?_
      | refine tru_none ?_)
    | ((with_reducible show One _ _ (unaryOp UnaryOp.USub) _ _); refine i_neg ?_)
    | ((with_reducible show Cut _ _ (D.str (T _)) _ _ _); refine cut_T (by assumption) ?_)
    | ((with_reducible show CallV _ _ (Value.builtin "len") _ _ _); refine c_len_T (by assumption) ?_)
    | ((with_reducible show CallV _ _ (Value.builtin "str.isdigit") _ _ _); refine c_isdigit ?_)
    | ((with_reducible show ∃ _, _ ∧ _); refine ⟨_, rfl, ?_⟩))

theorem Two.le {c : Cx} {n m : Nat} {t : Value → Value → Sem Value} {a b : D} {Pq : D → Prop} (h : Two c n t a b Pq) (le : n ≤ m) : Two c m t a b Pq := fun X A s u v G => h X A s u v (G.le le)
theorem CallV.mono {c : Cx} {n : Nat} {f : Value} {as : List LV} {ks : List (Str × D)} {Pq Pq' : D → Prop} (h : CallV c n f as ks Pq) (k : ∀ d, Pq d → Pq' d) : CallV c n f as ks Pq' := fun X A s vs kvs G I xP ra rk => Wp.mono (h X A s vs kvs G I xP ra rk) fun v s' ⟨I', st, d, hd, r⟩ => ⟨I', st, d, k d hd, r⟩
theorem ci_m_eq : cmpIn (cx w h₁ os₁ GI).K 94 "__eq__" 63 = true := by kernel_rfl
theorem ci_m_lt : cmpIn (cx w h₁ os₁ GI).K 94 "__lt__" 70 = true := by kernel_rfl
theorem ci_m_le : cmpIn (cx w h₁ os₁ GI).K 94 "__le__" 77 = true := by kernel_rfl
theorem ci_n_eq : cmpIn (cx w h₁ os₁ GI).K 150 "__eq__" 119 = true := by kernel_rfl
theorem ci_n_lt : cmpIn (cx w h₁ os₁ GI).K 150 "__lt__" 126 = true := by kernel_rfl
theorem ci_n_le : cmpIn (cx w h₁ os₁ GI).K 150 "__le__" 140 = true := by kernel_rfl
theorem ci_a_eq : cmpIn (cx w h₁ os₁ GI).K 206 "__eq__" 175 = true := by kernel_rfl
theorem ci_a_lt : cmpIn (cx w h₁ os₁ GI).K 206 "__lt__" 182 = true := by kernel_rfl
theorem ci_a_le : cmpIn (cx w h₁ os₁ GI).K 206 "__le__" 196 = true := by kernel_rfl
theorem cf_bool {b : Bool} {t : Bool} (e : t = b) : ∀ d, d = D.raw (.bool t) → CmpF False (· = b) d := fun d h => .inr ⟨t, h, e⟩
theorem two_b {c : Cx} {n : Nat} {t : Value → Value → Sem Value} {a b : D} {q : Bool} (h : Two c n t a b (fun d => ∃ b, d = .raw (.bool b) ∧ b = q)) : Two c n t a b (· = .raw (.bool q)) := h.mono fun d ⟨b, e, e2⟩ => by rw [e, e2]
theorem id_lt (O : (cx w h₁ os₁ GI).Ok) {n : Nat} {x y : Idn} (hx : x.ok) (hy : y.ok) : Two (cx w h₁ os₁ GI) (n + 2) (richCompare .Lt) (idnD x) (idnD y) (· = .raw (.bool (icmp x y == .lt))) := by
  refine two_b ?_
  cases x with
  | max =>
    have h := (m_lt O (n := n) (y := y)).v.mono (Pq' := CmpF False (· = (icmp .max y == .lt))) (cf_bool (by cases y <;> rfl))
    cases y with
    | max => exact cmp_own O nf_mm ci_m_lt h (fun q => q.elim)
    | num i => exact cmp_own O nf_mn ci_m_lt h (fun q => q.elim)
    | alpha z => exact cmp_own O nf_ma ci_m_lt h (fun q => q.elim)
  | num i =>
    have h := (n_lt O (n := n) (i := i) (y := y)).v.mono (Pq' := CmpF False (· = (icmp (.num i) y == .lt))) (cf_bool rfl)
    cases y with
    | max => exact cmp_own O nf_nm ci_n_lt h (fun q => q.elim)
    | num i => exact cmp_own O nf_nn ci_n_lt h (fun q => q.elim)
    | alpha z => exact cmp_own O nf_na ci_n_lt h (fun q => q.elim)
  | alpha a =>
    have h := (a_lt O (n := n) (x := a) hx (y := y) hy).v.mono (Pq' := CmpF False (· = (icmp (.alpha a) y == .lt))) (cf_bool rfl)
    cases y with
    | max => exact cmp_own O nf_am ci_a_lt h (fun q => q.elim)
    | num i => exact cmp_own O nf_an ci_a_lt h (fun q => q.elim)
    | alpha z => exact cmp_own O nf_aa ci_a_lt h (fun q => q.elim)
theorem id_eq (O : (cx w h₁ os₁ GI).Ok) {n : Nat} {x y : Idn} (hx : x.ok) (hy : y.ok) : Two (cx w h₁ os₁ GI) (n + 2) (richCompare .Eq) (idnD x) (idnD y) (· = .raw (.bool (icmp x y == .eq))) := by
  refine two_b ?_
  cases x with
  | max =>
    have h := (m_eq O (n := n) (y := y)).v.mono (Pq' := CmpF False (· = (icmp .max y == .eq))) (cf_bool (by cases y <;> rfl))
    cases y with
    | max => exact cmp_own O nf_mm ci_m_eq h (fun q => q.elim)
    | num i => exact cmp_own O nf_mn ci_m_eq h (fun q => q.elim)
    | alpha z => exact cmp_own O nf_ma ci_m_eq h (fun q => q.elim)
  | num i =>
    cases y with
    | max =>
      refine cmp_own O nf_nm ci_n_eq (P1 := True) ((n_eq O (n := n) (i := i) (y := .max)).v.mono fun d h => .inl ⟨h, trivial⟩) fun _ => ⟨63, False, ci_m_eq, ?_, fun q => q.elim⟩
      exact (m_eq O (n := n) (y := .num i)).v.mono (cf_bool rfl)
    | num j => exact cmp_own O nf_nn ci_n_eq (P1 := False) ((n_eq O (n := n) (i := i) (y := .num j)).v.mono (cf_bool rfl)) (fun q => q.elim)
    | alpha z =>
      refine cmp_own O nf_na ci_n_eq (P1 := True) ((n_eq O (n := n) (i := i) (y := .alpha z)).v.mono fun d h => .inl ⟨h, trivial⟩) fun _ => ⟨175, True, ci_a_eq, ?_, fun _ => ⟨rfl, by decide, rfl⟩⟩
      exact (a_eq O (n := n) (x := z) hy (y := .num i) trivial).v.mono fun d h => .inl ⟨h, trivial⟩
  | alpha a =>
    cases y with
    | max =>
      refine cmp_own O nf_am ci_a_eq (P1 := True) ((a_eq O (n := n) (x := a) hx (y := .max) trivial).v.mono fun d h => .inl ⟨h, trivial⟩) fun _ => ⟨63, False, ci_m_eq, ?_, fun q => q.elim⟩
      exact (m_eq O (n := n) (y := .alpha a)).v.mono (cf_bool rfl)
    | num j =>
      refine cmp_own O nf_an ci_a_eq (P1 := True) ((a_eq O (n := n) (x := a) hx (y := .num j) trivial).v.mono fun d h => .inl ⟨h, trivial⟩) fun _ => ⟨119, True, ci_n_eq, ?_, fun _ => ⟨rfl, by decide, rfl⟩⟩
      exact (n_eq O (n := n) (i := j) (y := .alpha a)).v.mono fun d h => .inl ⟨h, trivial⟩
    | alpha z => exact cmp_own O nf_aa ci_a_eq (P1 := False) ((a_eq O (n := n) (x := a) hx (y := .alpha z) hy).v.mono (cf_bool rfl)) (fun q => q.elim)
theorem n_le (O : (cx w h₁ os₁ GI).Ok) {n : Nat} {i : Int} {y : Idn} (hy : y.ok) : CallK (cx w h₁ os₁ GI) (n + 4) (.ref 140) [.dat (idnD (.num i)), .dat (idnD y)] [] (· = .raw (.bool (icmp (.num i) y != .gt))) := by
  refine' call_def O ?hf ?hc ?hs ?ρ ?hno ?hb ?_
  case hf => exact rfl
  case hc => kernel_rfl
  case hs => kernel_rfl
  case ρ => exact [some (.dat (idnD (.num i))), some (.dat (idnD y))]
  case hno => exact rfl
  case hb =>
    rintro X s vs kvs I ⟨v1, _, rfl, r1, v2, _, rfl, r2, rfl⟩ rk
    have e : kvs = [] := rk
    subst e
    refine ⟨_, BindsTo.of_eq rfl, rfl, ⟨⟨_, rfl, r1⟩, .inl rfl⟩, ⟨⟨_, rfl, r2⟩, .inl rfl⟩, trivial⟩
  refine ex_cons (ex_return (ev_or (ev_cmp rfl (ev_nm rfl rfl rfl (ev_nm rfl rfl rfl ((id_lt O (n := n + 1) (x := (.num i)) (y := y) trivial hy).mono fun d hd => ?_))))))
  subst hd
  refine tru_bool ?_
  cases e : icmp (.num i) y
  · rw [if_pos (by rfl)]; exact rfl
  · rw [if_neg (by decide)]
    refine ev_bool1 (ev_cmp rfl (ev_nm rfl rfl rfl (ev_nm rfl rfl rfl ((id_eq O (n := n + 1) (x := (.num i)) (y := y) trivial hy).mono fun d hd => ?_))))
    rw [e] at hd
    exact hd
  · rw [if_neg (by decide)]
    refine ev_bool1 (ev_cmp rfl (ev_nm rfl rfl rfl (ev_nm rfl rfl rfl ((id_eq O (n := n + 1) (x := (.num i)) (y := y) trivial hy).mono fun d hd => ?_))))
    rw [e] at hd
    exact hd
theorem a_le (O : (cx w h₁ os₁ GI).Ok) {n : Nat} {x : List Nat} (hx : (Idn.alpha x).ok) {y : Idn} (hy : y.ok) : CallK (cx w h₁ os₁ GI) (n + 4) (.ref 196) [.dat (idnD (.alpha x)), .dat (idnD y)] [] (· = .raw (.bool (icmp (.alpha x) y != .gt))) := by
  refine' call_def O ?hf ?hc ?hs ?ρ ?hno ?hb ?_
  case hf => exact rfl
  case hc => kernel_rfl
  case hs => kernel_rfl
  case ρ => exact [some (.dat (idnD (.alpha x))), some (.dat (idnD y))]
  case hno => exact rfl
  case hb =>
    rintro X s vs kvs I ⟨v1, _, rfl, r1, v2, _, rfl, r2, rfl⟩ rk
    have e : kvs = [] := rk
    subst e
    refine ⟨_, BindsTo.of_eq rfl, rfl, ⟨⟨_, rfl, r1⟩, .inl rfl⟩, ⟨⟨_, rfl, r2⟩, .inl rfl⟩, trivial⟩
  refine ex_cons (ex_return (ev_or (ev_cmp rfl (ev_nm rfl rfl rfl (ev_nm rfl rfl rfl ((id_lt O (n := n + 1) (x := (.alpha x)) (y := y) hx hy).mono fun d hd => ?_))))))
  subst hd
  refine tru_bool ?_
  cases e : icmp (.alpha x) y
  · rw [if_pos (by rfl)]; exact rfl
  · rw [if_neg (by decide)]
    refine ev_bool1 (ev_cmp rfl (ev_nm rfl rfl rfl (ev_nm rfl rfl rfl ((id_eq O (n := n + 1) (x := (.alpha x)) (y := y) hx hy).mono fun d hd => ?_))))
    rw [e] at hd
    exact hd
  · rw [if_neg (by decide)]
    refine ev_bool1 (ev_cmp rfl (ev_nm rfl rfl rfl (ev_nm rfl rfl rfl ((id_eq O (n := n + 1) (x := (.alpha x)) (y := y) hx hy).mono fun d hd => ?_))))
    rw [e] at hd
    exact hd
theorem id_le (O : (cx w h₁ os₁ GI).Ok) {n : Nat} {x y : Idn} (hx : x.ok) (hy : y.ok) : Two (cx w h₁ os₁ GI) (n + 4) (richCompare .LtE) (idnD x) (idnD y) (· = .raw (.bool (icmp x y != .gt))) := by
  refine two_b ?_
  cases x with
  | max =>
    have h := (m_le O (n := n + 2) (y := y)).v.mono (Pq' := CmpF False (· = (icmp .max y != .gt))) (cf_bool (by cases y <;> rfl))
    cases y with
    | max => exact cmp_own O nf_mm ci_m_le h (fun q => q.elim)
    | num i => exact cmp_own O nf_mn ci_m_le h (fun q => q.elim)
    | alpha z => exact cmp_own O nf_ma ci_m_le h (fun q => q.elim)
  | num i =>
    have h := (n_le O (n := n) (i := i) (y := y) hy).v.mono (Pq' := CmpF False (· = (icmp (.num i) y != .gt))) (cf_bool rfl)
    cases y with
    | max => exact cmp_own O nf_nm ci_n_le h (fun q => q.elim)
    | num i => exact cmp_own O nf_nn ci_n_le h (fun q => q.elim)
    | alpha z => exact cmp_own O nf_na ci_n_le h (fun q => q.elim)
  | alpha a =>
    have h := (a_le O (n := n) (x := a) hx (y := y) hy).v.mono (Pq' := CmpF False (· = (icmp (.alpha a) y != .gt))) (cf_bool rfl)
    cases y with
    | max => exact cmp_own O nf_am ci_a_le h (fun q => q.elim)
    | num i => exact cmp_own O nf_an ci_a_le h (fun q => q.elim)
    | alpha z => exact cmp_own O nf_aa ci_a_le h (fun q => q.elim)
theorem inst_cls {X : Addr → Prop} {h : Heap} {C C' : Addr} {fs fs' : List (Str × D)} {v : Value} (r : Rep X h (.inst C fs) v) (r' : Rep X h (.inst C' fs') v) : C = C' ∧ ∃ es, RepF X h fs es ∧ RepF X h fs' es := by
  obtain ⟨a, dd, es, m, rfl, _, _, g, g', rf⟩ := r
  obtain ⟨a', dd', es', m', e, _, _, q, q', rf'⟩ := r'
  cases e
  rw [g] at q
  have e1 := congrArg (fun o : Option Obj => o.map fun o => (o.cls, o.dict)) q
  simp at e1
  obtain ⟨e1, e2⟩ := e1
  subst e1 e2
  rw [g'] at q'
  have e3 : es = es' := by
    have := congrArg (fun o : Option Obj => o.map (·.data)) q'
    simp [dictOf] at this
    exact this.1
  subst e3
  exact ⟨rfl, es, rf, rf'⟩
theorem id_cmp (O : (cx w h₁ os₁ GI).Ok) {n : Nat} {x y : Idn} (hx : x.ok) (hy : y.ok) : CmpR (cx w h₁ os₁ GI) (n + 4) (idnD x) (idnD y) (icmp x y) := by
  refine ⟨?_, fun X h v r r' => ?_, (id_eq O (n := n + 2) hx hy).le (by omega), (id_lt O (n := n + 2) hx hy).le (by omega), id_le O hx hy⟩
  · intro X h v r t u e
    cases x <;> (obtain ⟨a, dd, es, m, rfl, _⟩ := r; cases e)
  · cases x with
    | max => cases y with
      | max => rfl
      | num j => exact absurd (inst_cls r r').1 (by decide)
      | alpha z => exact absurd (inst_cls r r').1 (by decide)
    | num i => cases y with
      | max => exact absurd (inst_cls r r').1 (by decide)
      | num j =>
        obtain ⟨_, es, ⟨e1, es1, t1, q1, _, ⟨t2, h2⟩, _⟩, ⟨e2, es2, t3, q2, _, ⟨t4, h4⟩, _⟩⟩ := inst_cls r r'
        rw [q1] at q2
        cases q2
        rw [h2] at h4
        cases h4
        exact Int.compare_eq_eq.mpr rfl
      | alpha z => exact absurd (inst_cls r r').1 (by decide)
    | alpha a => cases y with
      | max => exact absurd (inst_cls r r').1 (by decide)
      | num j => exact absurd (inst_cls r r').1 (by decide)
      | alpha z =>
        obtain ⟨_, es, ⟨e1, es1, t1, q1, _, ⟨t2, h2⟩, _⟩, ⟨e2, es2, t3, q2, _, ⟨t4, h4⟩, _⟩⟩ := inst_cls r r'
        rw [q1] at q2
        cases q2
        rw [h2] at h4
        have e3 : bytesOf a = bytesOf z := by injection h4
        have e4 := order_eq (bytesOf a).toList (bytesOf z).toList
        rw [e3, beq_self_eq_true] at e4
        rw [bytes_toList, order_sign z z hy hy] at e4
        have e5 := order_eq (bytesOf a).toList (bytesOf z).toList
        rw [bytes_toList, bytes_toList, order_sign a z hx hy, ← bytes_toList, ← bytes_toList, e3, beq_self_eq_true] at e5
        exact eq_of_beq e5
end
end Mine
end
section
set_option maxHeartbeats 0
namespace Mine
open PySem PySem.W PySem.Calls PyProof.Rows Builtin
section
variable {w : World} {h₁ : Heap} {os₁ : OsState} {GI : Array GenState → Drawn → Prop}
local macro_rules
  | `(tactic| kd_subs) => `(tactic| first
    | ((with_reducible show Ev _ _ _ _ _ _); first
      | ((with_reducible show Ev _ _ _ _ (Expr.Name _ _) _); first
        | ((with_reducible show Ev _ _ _ _ (Expr.Name (Str.ofString "_DIGITS") _) _); refine nm_digits (by assumption) rfl rfl ?_)
        | ((with_reducible show Ev _ _ _ _ (Expr.Name (Str.ofString "_SIGNS") _) _); refine nm_signs (by assumption) rfl rfl ?_)
        | ((with_reducible show Ev _ _ _ _ (Expr.Name (Str.ofString "Version") _) _); refine nm_ver (by assumption) rfl rfl ?_)
        | ((with_reducible show Ev _ _ _ _ (Expr.Name (Str.ofString "MaxIdentifier") _) _); refine nm_max (by assumption) rfl rfl ?_)
        | ((with_reducible show Ev _ _ _ _ (Expr.Name (Str.ofString "NumericIdentifier") _) _); refine nm_num (by assumption) rfl rfl ?_)
        | ((with_reducible show Ev _ _ _ _ (Expr.Name (Str.ofString "AlphaIdentifier") _) _); refine nm_alpha (by assumption) rfl rfl ?_)
        | ((with_reducible show Ev _ _ _ _ (Expr.Name (Str.ofString "NotImplemented") _) _); refine nm_ni (by assumption) rfl rfl ?_)
        | refine ev_nm rfl rfl rfl ?_)
      | ((with_reducible show Ev _ _ _ _ (Expr.Constant _ _ _) _); first
        | ((with_reducible show Ev _ _ _ _ (Expr.Constant (Const.int _) _ _) _); refine ev_int ?_)
        | ((with_reducible show Ev _ _ _ _ (Expr.Constant Const.none _ _) _); refine ev_none ?_)
        | ((with_reducible show Ev _ _ _ _ (Expr.Constant (Const.bool _) _ _) _); refine ev_bool ?_)
        | ((with_reducible show Ev _ _ _ _ (Expr.Constant (Const.str (Str.ofString ".")) _ _) _); refine ev_strT lit_dot ?_)
        | ((with_reducible show Ev _ _ _ _ (Expr.Constant (Const.str (Str.ofString "-")) _ _) _); refine ev_strT lit_dash ?_)
        | ((with_reducible show Ev _ _ _ _ (Expr.Constant (Const.str (Str.ofString "+")) _ _) _); refine ev_strT lit_plus ?_)
        | ((with_reducible show Ev _ _ _ _ (Expr.Constant (Const.str (Str.ofString "\n")) _ _) _); refine ev_strT lit_nl ?_)
        | ((with_reducible show Ev _ _ _ _ (Expr.Constant (Const.str (Str.ofString "")) _ _) _); refine ev_strT lit_empty ?_)
        | ((with_reducible show Ev _ _ _ _ (Expr.Constant (Const.str (Str.ofString "0")) _ _) _); refine ev_strT lit_zero ?_))
      | ((with_reducible show Ev _ _ _ _ (Expr.Call (Expr.Name _ _) _ _ _) _); first
        | ((with_reducible show Ev _ _ _ _ (Expr.Call (Expr.Name (Str.ofString "len") _) _ [] _) _); refine bl_len (by assumption) rfl rfl rfl ?_)
        | ((with_reducible show Ev _ _ _ _ (Expr.Call (Expr.Name (Str.ofString "int") _) _ [] _) _); refine bl_int (by assumption) rfl rfl rfl ?_)
        | ((with_reducible show Ev _ _ _ _ (Expr.Call (Expr.Name (Str.ofString "str") _) _ [] _) _); refine bl_str (by assumption) rfl rfl rfl ?_)
        | ((with_reducible show Ev _ _ _ _ (Expr.Call (Expr.Name (Str.ofString "abs") _) _ [] _) _); refine bl_abs (by assumption) rfl rfl rfl ?_)
        | ((with_reducible show Ev _ _ _ _ (Expr.Call (Expr.Name (Str.ofString "max") _) _ [] _) _); refine bl_max (by assumption) rfl rfl rfl ?_)
        | ((with_reducible show Ev _ _ _ _ (Expr.Call (Expr.Name (Str.ofString "min") _) _ [] _) _); refine bl_min (by assumption) rfl rfl rfl ?_)
        | ((with_reducible show Ev _ _ _ _ (Expr.Call (Expr.Name (Str.ofString "range") _) _ [] _) _); refine bl_range (by assumption) rfl rfl rfl ?_)
        | ((with_reducible show Ev _ _ _ _ (Expr.Call (Expr.Name (Str.ofString "tuple") _) _ [] _) _); (fail_if_success (with_reducible show Ev _ _ _ _ (Expr.Call _ [Expr.GeneratorExp _ _ _ _] _ _) _)); refine bl_tuple (by assumption) rfl rfl rfl ?_)
        | ((with_reducible show Ev _ _ _ _ (Expr.Call (Expr.Name (Str.ofString "list") _) _ [] _) _); refine bl_list (by assumption) rfl rfl rfl ?_)
        | ((with_reducible show Ev _ _ _ _ (Expr.Call (Expr.Name (Str.ofString "isinstance") _) _ [] _) _); refine bl_isinstance (by assumption) rfl rfl rfl ?_)
        | ((with_reducible show Ev _ _ _ _ (Expr.Call (Expr.Name (Str.ofString "_behind") _) _ [] _) _); refine cl_behind (by assumption) rfl rfl rfl ?_)
        | ((with_reducible show Ev _ _ _ _ (Expr.Call (Expr.Name (Str.ofString "_version_groups") _) _ [] _) _); refine cl_groups (by assumption) rfl rfl rfl ?_)
        | ((with_reducible show Ev _ _ _ _ (Expr.Call (Expr.Name (Str.ofString "_has_leading_zero") _) _ [] _) _); refine cl_hlz (by assumption) rfl rfl rfl ?_)
        | ((with_reducible show Ev _ _ _ _ (Expr.Call (Expr.Name (Str.ofString "MaxIdentifier") _) _ [] _) _); refine cl_max (by assumption) rfl rfl rfl ?_)
        | ((with_reducible show Ev _ _ _ _ (Expr.Call (Expr.Name (Str.ofString "NumericIdentifier") _) _ [] _) _); refine cl_num (by assumption) rfl rfl rfl ?_)
        | ((with_reducible show Ev _ _ _ _ (Expr.Call (Expr.Name (Str.ofString "AlphaIdentifier") _) _ [] _) _); refine cl_alpha (by assumption) rfl rfl rfl ?_)
        | ((with_reducible show Ev _ _ _ _ (Expr.Call (Expr.Name (Str.ofString "Version") _) _ [] _) _); refine cl_ver (by assumption) rfl rfl rfl ?_)
        | ((with_reducible show Ev _ _ _ _ (Expr.Call (Expr.Name (Str.ofString "Version") _) _ _ _) _); refine ck_ver (by assumption) rfl rfl rfl rfl ?_))
      | ((with_reducible show Ev _ _ _ _ (Expr.Compare _ _ _ _) _); refine ev_cmp rfl ?_)
      | ((with_reducible show Ev _ _ _ _ (Expr.Call (Expr.Attribute _ _ _) _ [] _) _); first
        | ((with_reducible show Ev _ _ _ _ (Expr.Call (Expr.Attribute _ (Str.ofString "isdigit") _) _ [] _) _); refine ev_methv (by assumption) (fun _ => rfl) rfl (evv_dat ?_))
        | ((with_reducible show Ev _ _ _ _ (Expr.Call (Expr.Attribute _ (Str.ofString "split") _) _ [] _) _); refine ev_methv (by assumption) (fun _ => rfl) rfl (evv_dat ?_))
        | ((with_reducible show Ev _ _ _ _ (Expr.Call (Expr.Attribute _ (Str.ofString "join") _) _ [] _) _); refine ev_methv (by assumption) (fun _ => rfl) rfl (evv_dat ?_))
        | ((with_reducible show Ev _ _ _ _ (Expr.Call (Expr.Attribute _ (Str.ofString "encode") _) _ [] _) _); refine ev_methv (by assumption) (fun _ => rfl) rfl (evv_dat ?_)))
      | ((with_reducible show Ev _ _ _ _ (Expr.Attribute (Expr.Name _ _) _ _) _); first
        | ((with_reducible show Ev _ _ _ _ (Expr.Attribute (Expr.Name _ _) (Str.ofString "major") _) _); refine ev_attr (fun _ => rfl) (evv_nm rfl rfl rfl (attr_inst (by assumption) rfl at_major rfl rfl ?_)))
        | ((with_reducible show Ev _ _ _ _ (Expr.Attribute (Expr.Name _ _) (Str.ofString "minor") _) _); refine ev_attr (fun _ => rfl) (evv_nm rfl rfl rfl (attr_inst (by assumption) rfl at_minor rfl rfl ?_)))
        | ((with_reducible show Ev _ _ _ _ (Expr.Attribute (Expr.Name _ _) (Str.ofString "patch") _) _); refine ev_attr (fun _ => rfl) (evv_nm rfl rfl rfl (attr_inst (by assumption) rfl at_patch rfl rfl ?_)))
        | ((with_reducible show Ev _ _ _ _ (Expr.Attribute (Expr.Name _ _) (Str.ofString "prerelease") _) _); refine ev_attr (fun _ => rfl) (evv_nm rfl rfl rfl (attr_inst (by assumption) rfl at_pre rfl rfl ?_)))
        | ((with_reducible show Ev _ _ _ _ (Expr.Attribute (Expr.Name _ _) (Str.ofString "build") _) _); refine ev_attr (fun _ => rfl) (evv_nm rfl rfl rfl (attr_inst (by assumption) rfl at_build rfl rfl ?_)))
        | ((with_reducible show Ev _ _ _ _ (Expr.Attribute (Expr.Name _ _) (Str.ofString "partial") _) _); refine ev_attr (fun _ => rfl) (evv_nm rfl rfl rfl (attr_inst (by assumption) rfl at_partial rfl rfl ?_)))
        | ((with_reducible show Ev _ _ _ _ (Expr.Attribute (Expr.Name _ _) (Str.ofString "_cmp_precedence_key") _) _); refine ev_attr (fun _ => rfl) (evv_nm rfl rfl rfl (attr_inst (by assumption) rfl at_cmpk rfl rfl ?_))))
      | ((with_reducible show Ev _ _ _ _ (Expr.BoolOp BoolOp.And (_ :: _ :: _) _) _); refine ev_and ?_)
      | ((with_reducible show Ev _ _ _ _ (Expr.BoolOp BoolOp.Or (_ :: _ :: _) _) _); refine ev_or ?_)
      | ((with_reducible show Ev _ _ _ _ (Expr.BoolOp _ [_] _) _); refine ev_bool1 ?_)
      | ((with_reducible show Ev _ _ _ _ (Expr.BinOp _ _ _ _) _); refine ev_bin ?_)
      | ((with_reducible show Ev _ _ _ _ (Expr.Tuple _ _ _) _); refine ev_tup ?_)
      | ((with_reducible show Ev _ _ _ _ (Expr.List _ _) _); refine ev_list ?_)
      | ((with_reducible show Ev _ _ _ _ (Expr.UnaryOp UnaryOp.Not _ _) _); refine ev_not ?_)
      | ((with_reducible show Ev _ _ _ _ (Expr.UnaryOp _ _ _) _); refine ev_un ?_)
      | ((with_reducible show Ev _ _ _ _ (Expr.Subscript _ (Expr.Slice _ _ _ _) _) _); refine ev_cut ?_)
      | ((with_reducible show Ev _ _ _ _ (Expr.Subscript _ _ _) _); refine ev_item rfl ?_))
    | ((with_reducible show MethV _ _ _ _ _); first
      | refine m_isdigit ?_
      | refine m_split ?_
      | refine m_join ?_
      | refine m_encode ?_)
    | ((with_reducible show EvK _ _ _ _ _ _); first
      | refine evk_cons rfl ?_
      | refine evk_nil ?_)
    | ((with_reducible show EvL _ _ _ _ _ _); first
      | ((with_reducible show EvL _ _ _ _ (_ :: _) _); refine evl_cons rfl ?_)
      | refine evl_nil ?_)
    | ((with_reducible show Ex _ _ _ _ _ _); first
      | ((with_reducible show Ex _ _ _ _ (_ :: _) _); (try conv => arg 4; simp only [List.set_cons_succ, List.set_cons_zero]); refine ex_cons ?_)
      | refine ex_nil ?_)
    | ((with_reducible show Ex1 _ _ _ _ _ _); first
      | ((with_reducible show Ex1 _ _ _ _ (Stmt.If _ _ _ _) _); refine ex_if ?_)
      | ((with_reducible show Ex1 _ _ _ _ (Stmt.Return (some _) _) _); refine ex_return ?_)
      | ((with_reducible show Ex1 _ _ _ _ (Stmt.Assign [Expr.Name _ _] _ _) _); refine ex_as rfl rfl rfl (fun _ => rfl) ?_))
    | ((with_reducible show Two _ _ _ _ _ _); first
      | ((with_reducible show Two _ _ (binaryOp Operator.Add) _ _ _); refine i_add ?_)
      | ((with_reducible show Two _ _ (binaryOp Operator.Sub) _ _ _); refine i_sub ?_)
      | ((with_reducible show Two _ _ (binaryOp Operator.BitXor) _ _ _); refine b_xor ?_)
      | ((with_reducible show Two _ _ (compareOp CmpOp.Lt) _ _ _); refine i_lt ?_)
      | ((with_reducible show Two _ _ (compareOp CmpOp.Gt) _ _ _); refine i_gt ?_)
      | ((with_reducible show Two _ _ (compareOp CmpOp.LtE) _ _ _); refine i_le ?_)
      | ((with_reducible show Two _ _ (compareOp CmpOp.GtE) _ _ _); refine i_ge ?_)
      | ((with_reducible show Two _ _ (compareOp CmpOp.Is) _ _ _); refine is_no ?_)
      | ((with_reducible show Two _ _ (compareOp CmpOp.IsNot) _ _ _); refine isnt_no ?_)
      | ((with_reducible show Two _ _ (compareOp CmpOp.Eq) (D.int _) _ _); refine i_eq ?_)
      | ((with_reducible show Two _ _ (compareOp CmpOp.Eq) (D.str (T _)) _ _); refine s_eqT ?_)
      | ((with_reducible show Two _ _ (compareOp CmpOp.NotEq) (D.int _) _ _); refine i_ne ?_)
      | ((with_reducible show Two _ _ (compareOp CmpOp.NotEq) (D.str (T _)) _ _); refine s_neT ?_))
    | ((with_reducible show Tst _ _ _ _ _ _); first
      | ((with_reducible show Tst _ _ _ _ (Expr.Compare _ _ _ _) _); refine tst_cmp rfl ?_)
      | ((with_reducible show Tst _ _ _ _ (Expr.Name _ _) _); refine tst_of (fun _ _ => rfl) ?_)
      | ((with_reducible show Tst _ _ _ _ (Expr.Call _ _ _ _) _); refine tst_of (fun _ _ => rfl) ?_)
      | ((with_reducible show Tst _ _ _ _ (Expr.Attribute _ _ _) _); refine tst_of (fun _ _ => rfl) ?_)
      | ((with_reducible show Tst _ _ _ _ (Expr.BinOp _ _ _ _) _); refine tst_of (fun _ _ => rfl) ?_)
      | ((with_reducible show Tst _ _ _ _ (Expr.Subscript _ _ _) _); refine tst_of (fun _ _ => rfl) ?_)
      | ((with_reducible show Tst _ _ _ _ (Expr.BoolOp BoolOp.And [] _) _); refine tst_and_nil ?_)
      | ((with_reducible show Tst _ _ _ _ (Expr.BoolOp BoolOp.Or [] _) _); refine tst_or_nil ?_)
      | ((with_reducible show Tst _ _ _ _ (Expr.UnaryOp UnaryOp.Not _ _) _); refine tst_not ?_)
      | ((with_reducible show Tst _ _ _ _ (Expr.BoolOp BoolOp.And (_ :: _) _) _); refine tst_and ?_)
      | ((with_reducible show Tst _ _ _ _ (Expr.BoolOp BoolOp.Or (_ :: _) _) _); refine tst_or ?_))
    | ((with_reducible show EvP _ _ _ _ _ _); first
      | refine evp_some ?_
      | refine evp_none ?_)
    | ((with_reducible show Tru _ _ _ _); first
      | refine tru_T (by assumption) ?_
      | refine tru_bool ?_
      | refine tru_none ?_)
    | ((with_reducible show One _ _ (unaryOp UnaryOp.USub) _ _); refine i_neg ?_)
    | ((with_reducible show Cut _ _ (D.str (T _)) _ _ _); refine cut_T (by assumption) ?_)
    | ((with_reducible show CallV _ _ (Value.builtin "len") _ _ _); refine c_len_T (by assumption) ?_)
    | ((with_reducible show CallV _ _ (Value.builtin "str.isdigit") _ _ _); refine c_isdigit ?_)
    | ((with_reducible show ∃ _, _ ∧ _); refine ⟨_, rfl, ?_⟩))

theorem ii_vv : isIn (cx w h₁ os₁ GI).K (.ref 388) 388 = true := by kernel_rfl
theorem nf_vv : notFirst (cx w h₁ os₁ GI).K 388 (.ref 388) = true := by kernel_rfl
theorem ci_v_lt : cmpIn (cx w h₁ os₁ GI).K 388 "__lt__" 364 = true := by kernel_rfl
theorem ci_v_le : cmpIn (cx w h₁ os₁ GI).K 388 "__le__" 371 = true := by kernel_rfl
theorem ci_v_str : cmpIn (cx w h₁ os₁ GI).K 388 "__str__" 320 = true := by kernel_rfl
/-! keys compared -/
def keyI (x : List Nat) : Idn := if Txt.isdigit (T x) then .num ((PySem.intText? (T x)).getD 0) else .alpha x
theorem keyI_d (x : List Nat) : idnD (keyI x) = keyD x := by
  unfold keyI keyD
  split <;> rfl
def preI (l : List (List Nat)) : List Idn := if l = [] then [.max] else l.map keyI
theorem preI_d (l : List (List Nat)) : preKey l = .tup ((preI l).map idnD) := by
  unfold preKey preI
  split
  · rfl
  · rw [List.map_map]; congr 1; exact List.map_congr_left fun x _ => (keyI_d x).symm
theorem preI_ok {l : List (List Nat)} (h : ∀ x ∈ l, ∀ ch ∈ x, ch < 128) : ∀ y ∈ preI l, y.ok := by
  intro y hy
  unfold preI at hy
  split at hy
  · rw [List.mem_singleton.mp hy]; trivial
  · obtain ⟨x, hx, rfl⟩ := List.mem_map.mp hy
    unfold keyI
    split
    · trivial
    · exact h x hx
def lcmp : List Idn → List Idn → Ordering
  | [], [] => .eq
  | [], _ :: _ => .lt
  | _ :: _, [] => .gt
  | a :: l, b :: l' => (icmp a b).then (lcmp l l')
theorem CmpL.cons {c : Cx} {n : Nat} {a b : D} {l l' : List D} {o o' : Ordering} (h : CmpR c n a b o) (h' : CmpL c n l l' o') : CmpL c n (a :: l) (b :: l') (o.then o') := by
  cases o with
  | lt => exact (CmpL.diff h (by decide) : CmpL c n (a :: l) (b :: l') .lt)
  | eq => exact .step h h'
  | gt => exact (CmpL.diff h (by decide) : CmpL c n (a :: l) (b :: l') .gt)
theorem ids_cmp (O : (cx w h₁ os₁ GI).Ok) {n : Nat} : ∀ {l l' : List Idn}, (∀ y ∈ l, y.ok) → (∀ y ∈ l', y.ok) → CmpL (cx w h₁ os₁ GI) (n + 4) (l.map idnD) (l'.map idnD) (lcmp l l')
  | [], [], _, _ => .nil
  | [], _ :: _, _, _ => .short
  | _ :: _, [], _, _ => .long
  | a :: l, b :: l', h, h' => .cons (id_cmp O (h a List.mem_cons_self) (h' b List.mem_cons_self)) (ids_cmp O (fun y q => h y (List.mem_cons_of_mem _ q)) fun y q => h' y (List.mem_cons_of_mem _ q))
def vcmp (A B C : Int) (pre : List (List Nat)) (A' B' C' : Int) (pre' : List (List Nat)) : Ordering := (compare A A').then ((compare B B').then ((compare C C').then ((lcmp (preI pre) (preI pre')).then .eq)))
def Low128 (l : List (List Nat)) : Prop := ∀ x ∈ l, ∀ ch ∈ x, ch < 128
theorem key_cmp (O : (cx w h₁ os₁ GI).Ok) {n : Nat} {A B C A' B' C' : Int} {pre pre' : List (List Nat)} (hp : Low128 pre) (hp' : Low128 pre') : CmpR (cx w h₁ os₁ GI) (n + 6) (cmpK A B C pre) (cmpK A' B' C' pre') (vcmp A B C pre A' B' C' pre') := by
  refine CmpL.r (.cons (cmp_int _ _) (.cons (cmp_int _ _) (.cons (cmp_int _ _) (.cons ?_ .nil))))
  rw [preI_d, preI_d]
  exact CmpL.r (ids_cmp O (preI_ok hp) (preI_ok hp'))
theorem v_lt (O : (cx w h₁ os₁ GI).Ok) {n : Nat} {A B C A' B' C' : Int} {pre pre' bld bld' : List (List Nat)} (hp : Low128 pre) (hp' : Low128 pre') :
    CallK (cx w h₁ os₁ GI) (n + 7) (.ref 364) [.dat (verD A B C pre bld), .dat (verD A' B' C' pre' bld')] [] (· = .raw (.bool (vcmp A B C pre A' B' C' pre' == .lt))) := by
  refine' call_def O ?hf ?hc ?hs ?ρ ?hno ?hb ?_
  case hf => exact rfl
  case hc => kernel_rfl
  case hs => kernel_rfl
  case ρ => exact [some (.dat (verD A B C pre bld)), some (.dat (verD A' B' C' pre' bld'))]
  case hno => exact rfl
  case hb =>
    rintro X s vs kvs I ⟨v1, _, rfl, r1, v2, _, rfl, r2, rfl⟩ rk
    have e : kvs = [] := rk
    subst e
    refine ⟨_, BindsTo.of_eq rfl, rfl, ⟨⟨_, rfl, r1⟩, .inl rfl⟩, ⟨⟨_, rfl, r2⟩, .inl rfl⟩, trivial⟩
  repeat kd_subs
  refine c_isi O ii_vv ?_
  repeat kd_subs
  rw [if_neg (by simp)]
  repeat kd_subs
  exact (key_cmp O hp hp').lt
theorem v_le (O : (cx w h₁ os₁ GI).Ok) {n : Nat} {A B C A' B' C' : Int} {pre pre' bld bld' : List (List Nat)} (hp : Low128 pre) (hp' : Low128 pre') :
    CallK (cx w h₁ os₁ GI) (n + 7) (.ref 371) [.dat (verD A B C pre bld), .dat (verD A' B' C' pre' bld')] [] (· = .raw (.bool (vcmp A B C pre A' B' C' pre' != .gt))) := by
  refine' call_def O ?hf ?hc ?hs ?ρ ?hno ?hb ?_
  case hf => exact rfl
  case hc => kernel_rfl
  case hs => kernel_rfl
  case ρ => exact [some (.dat (verD A B C pre bld)), some (.dat (verD A' B' C' pre' bld'))]
  case hno => exact rfl
  case hb =>
    rintro X s vs kvs I ⟨v1, _, rfl, r1, v2, _, rfl, r2, rfl⟩ rk
    have e : kvs = [] := rk
    subst e
    refine ⟨_, BindsTo.of_eq rfl, rfl, ⟨⟨_, rfl, r1⟩, .inl rfl⟩, ⟨⟨_, rfl, r2⟩, .inl rfl⟩, trivial⟩
  repeat kd_subs
  refine c_isi O ii_vv ?_
  repeat kd_subs
  rw [if_neg (by simp)]
  repeat kd_subs
  exact (key_cmp O hp hp').le
theorem two_lt (O : (cx w h₁ os₁ GI).Ok) {n : Nat} {A B C A' B' C' : Int} {pre pre' bld bld' : List (List Nat)} {Pq : D → Prop} (hp : Low128 pre) (hp' : Low128 pre') (h : Pq (.raw (.bool (vcmp A B C pre A' B' C' pre' == .lt)))) :
    Two (cx w h₁ os₁ GI) (n + 7) (compareOp .Lt) (verD A B C pre bld) (verD A' B' C' pre' bld') Pq :=
  (two_b (cmp_own O (op := .Lt) nf_vv ci_v_lt ((v_lt O hp hp').v.mono (cf_bool rfl)) fun q => q.elim)).mono fun d e => by rw [e]; exact h
theorem two_le (O : (cx w h₁ os₁ GI).Ok) {n : Nat} {A B C A' B' C' : Int} {pre pre' bld bld' : List (List Nat)} {Pq : D → Prop} (hp : Low128 pre) (hp' : Low128 pre') (h : Pq (.raw (.bool (vcmp A B C pre A' B' C' pre' != .gt)))) :
    Two (cx w h₁ os₁ GI) (n + 7) (compareOp .LtE) (verD A B C pre bld) (verD A' B' C' pre' bld') Pq :=
  (two_b (cmp_own O (op := .LtE) nf_vv ci_v_le ((v_le O hp hp').v.mono (cf_bool rfl)) fun q => q.elim)).mono fun d e => by rw [e]; exact h
/-! the text of a version -/
theorem sum_le : ∀ {l : List (List Nat)} {k : Nat}, (∀ x ∈ l, x.length ≤ k) → ((l.map T).map (·.length)).sum ≤ l.length * k
  | [], k, _ => by simp
  | x :: r, k, h => by
    have h1 := h x List.mem_cons_self
    have h2 := sum_le (l := r) (k := k) fun y q => h y (List.mem_cons_of_mem _ q)
    simp only [List.map_cons, List.sum_cons, List.length_cons, T_length, Nat.succ_mul]
    omega
theorem join_ids {c : Cx} {n : Nat} {Pq : D → Prop} {l : List (List Nat)} (hl : l.length ≤ 100) (h1 : ∀ x ∈ l, x.length ≤ 1000) (h : Pq (.str (T (jn l)))) : CallV c n (.builtin "str.join") [.dat (.str (T [46])), .dat (idsD l)] [] Pq := by
  have e : idsD l = .tup ((l.map T).map .str) := by unfold idsD; rw [List.map_map]; rfl
  rw [e]
  refine c_join_t ?_ ?_
  · have s := sum_le h1
    have : l.length * 1000 ≤ 100 * 1000 := Nat.mul_le_mul_right _ hl
    rw [T_length, List.length_map]
    simp only [List.length_cons, List.length_nil]
    omega
  · rw [join_T]; exact h
/-- a number that a text shows -/
structure Shn (A : Int) : Prop where
  nn : 0 ≤ A
  len : (decL A).length ≤ 500
  log : A.natAbs.log2 < 1920
theorem v_str (O : (cx w h₁ os₁ GI).Ok) {n : Nat} {A B C : Int} {pre bld : List (List Nat)} {Pq : D → Prop} (hA : Shn A) (hB : Shn B) (hC : Shn C) (lp : pre.length ≤ 100) (lb : bld.length ≤ 100) (h1 : ∀ x ∈ pre, x.length ≤ 1000) (h2 : ∀ x ∈ bld, x.length ≤ 1000) (jp : (jn pre).length ≤ 1000) (jb : (jn bld).length ≤ 1000)
    (h : Pq (.str (T (vtext (decL A) (decL B) (decL C) pre bld)))) :
    CallK (cx w h₁ os₁ GI) (n + 7) (.ref 320) [.dat (verD A B C pre bld)] [] Pq := by
  have szl := sizeLine_eq
  have lA := hA.len
  have lB := hB.len
  have lC := hC.len
  refine' call_def O ?hf ?hc ?hs ?ρ ?hno ?hb ?_
  case hf => exact rfl
  case hc => kernel_rfl
  case hs => kernel_rfl
  case ρ => exact [some (.dat (verD A B C pre bld)), none]
  case hno => exact rfl
  case hb =>
    rintro X s vs kvs I ⟨v1, _, rfl, r1, rfl⟩ rk
    have e : kvs = [] := rk
    subst e
    refine ⟨_, BindsTo.of_eq rfl, rfl, ⟨⟨_, rfl, r1⟩, .inl rfl⟩, trivial⟩
  repeat kd_subs
  refine ev_strT lit_fd ?_
  repeat kd_subs
  refine m_d hA.nn (by omega) hA.log ?_
  repeat kd_subs
  rw [if_pos (by simp [D.isNone])]
  repeat kd_subs
  refine ev_strT lit_fsd ?_
  repeat kd_subs
  refine ⟨by simp [szl], ?_⟩
  refine m_sd (by omega) hB.nn (by omega) hB.log ?_
  repeat kd_subs
  rw [if_pos (by simp [D.isNone])]
  repeat kd_subs
  refine ev_strT lit_fsd ?_
  repeat kd_subs
  refine ⟨by simp [szl], ?_⟩
  refine m_sd (by simp; omega) hC.nn (by omega) hC.log ?_
  refine ex_nil ?_
  refine ex_cons (Ex1.mono (R := fun o => o = .next [some (.dat (verD A B C pre bld)), some (.dat (.str (T (decL A ++ 46 :: decL B ++ 46 :: decL C ++ (if pre = [] then [] else 45 :: jn pre)))))]) ?_ ?_)
  · refine ex_if (tst_or (tst_of (fun _ _ => rfl) (ev_attr (fun _ => rfl) (evv_nm rfl rfl rfl (attr_inst O rfl at_pre rfl rfl ?_)))))
    refine tru_tup (by rw [List.length_map]; omega) ?_
    by_cases e : pre = []
    · rw [if_neg (by simpa using e)]
      repeat kd_subs
      rw [if_neg (by simp), if_neg (by simp)]
      repeat kd_subs
      rw [if_neg (by simp)]
      refine ex_nil ?_
      rw [if_pos e]
      simp
    · rw [if_pos (by simpa using e), if_pos (by rfl)]
      refine ex_cons (ex_as rfl rfl rfl (fun _ => rfl) (ev_join ?_))
      refine ev_fmt (ev_nm rfl rfl rfl ⟨_, rfl, by simp; omega, _, rfl, by simp; omega, ?_⟩)
      refine ev_strT lit_dash ⟨_, rfl, by simp; omega, ?_⟩
      refine ev_fmt ?_
      repeat kd_subs
      refine join_ids lp h1 ⟨_, rfl, by omega, _, rfl, by simp; omega, ?_⟩
      refine ex_nil ?_
      rw [if_neg e]
      simp
  · rintro _ rfl
    refine ex_cons (Ex1.mono (R := fun o => o = .next [some (.dat (verD A B C pre bld)), some (.dat (.str (T (vtext (decL A) (decL B) (decL C) pre bld))))]) ?_ ?_)
    · refine ex_if (tst_or (tst_of (fun _ _ => rfl) (ev_attr (fun _ => rfl) (evv_nm rfl rfl rfl (attr_inst O rfl at_build rfl rfl ?_)))))
      refine tru_tup (by rw [List.length_map]; omega) ?_
      by_cases e : bld = []
      · rw [if_neg (by simpa using e)]
        repeat kd_subs
        rw [if_neg (by simp), if_neg (by simp)]
        repeat kd_subs
        rw [if_neg (by simp)]
        refine ex_nil ?_
        unfold vtext tailOf
        rw [if_pos e]
        simp
      · rw [if_pos (by simpa using e), if_pos (by rfl)]
        have lq : (if pre = [] then [] else 45 :: jn pre).length ≤ 1001 := by split <;> simp <;> omega
        refine ex_cons (ex_as rfl rfl rfl (fun _ => rfl) (ev_join ?_))
        refine ev_fmt (ev_nm rfl rfl rfl ⟨_, rfl, by simp only [List.length_append, List.length_cons]; omega, _, rfl, by simp only [List.nil_append, List.length_append, List.length_cons]; omega, ?_⟩)
        refine ev_strT lit_plus ⟨_, rfl, by simp only [List.nil_append, List.length_append, List.length_cons, List.length_nil]; omega, ?_⟩
        refine ev_fmt ?_
        repeat kd_subs
        refine join_ids lb h2 ⟨_, rfl, by omega, _, rfl, by simp only [List.nil_append, List.length_append, List.length_cons, List.length_nil]; omega, ?_⟩
        refine ex_nil ?_
        unfold vtext tailOf
        rw [if_neg e]
        simp
    · rintro _ rfl
      repeat kd_subs
      exact h
end
end Mine
end
section
namespace Mine
open PySem PySem.W PySem.Calls PyProof.Rows Builtin
/-- an identifier, looked at -/
def chk (lz : Bool) (x : List Nat) : Bool := !x.isEmpty && decide (x.length ≤ 20) && (lz || x.head? != some 48 || !Txt.isdigit (T x) || x == [48]) && (x.all fun ch => SG.contains ch) && !x.contains 46 && (!Txt.isdigit (T x) || (PySem.intText? (T x)).isSome) && (x.all fun ch => decide (ch < 128)) && (match PySem.intText? (T x) with | some i => decide (0 ≤ i) | none => true)
/-- no number below nought -/
def Idn.nn : Idn → Prop
  | .num i => 0 ≤ i
  | _ => True
structure Good1 (lz : Bool) (x : List Nat) : Prop where
  id : IdOk lz x
  sg : ∀ ch ∈ x, SG.contains ch = true
  nd : 46 ∉ x
  key : KeyOk x
  len : x.length ≤ 20
  nn : (keyI x).nn
theorem good_chk {lz : Bool} {x : List Nat} (h : chk lz x = true) : Good1 lz x := by
  unfold chk at h
  simp only [Bool.and_eq_true, Bool.or_eq_true, Bool.not_eq_true', List.all_eq_true, decide_eq_true_eq, bne_iff_ne, ne_eq, beq_iff_eq] at h
  obtain ⟨⟨⟨⟨⟨⟨⟨h1, h2⟩, h3⟩, h4⟩, h5⟩, h6⟩, h7⟩, h8⟩ := h
  refine ⟨⟨?_, by omega, ?_⟩, h4, ?_, ⟨fun q => ⟨?_, by omega⟩, h7, by omega⟩, h2, ?_⟩
  · rintro rfl; cases h1
  · rcases h3 with ((h3 | h3) | h3) | h3
    · exact .inl h3
    · exact .inr (.inl h3)
    · exact .inr (.inr (.inl h3))
    · exact .inr (.inr (.inr h3))
  · intro m
    have : x.contains 46 = true := List.elem_eq_true_of_mem m
    rw [this] at h5; cases h5
  · rcases h6 with h6 | h6
    · rw [h6] at q; cases q
    · exact h6
  · unfold keyI
    split
    · show 0 ≤ (PySem.intText? (T x)).getD 0
      cases hi : PySem.intText? (T x) with
      | none => exact Int.le_refl 0
      | some i => rw [hi] at h8; exact of_decide_eq_true h8
    · trivial
theorem jn_len : ∀ {l : List (List Nat)}, (∀ x ∈ l, x.length ≤ 20) → (jn l).length ≤ l.length * 21
  | [], _ => by simp [jn]
  | [x], h => by have := h x List.mem_cons_self; show x.length ≤ _; simp; omega
  | x :: y :: r, h => by
    have h1 := h x List.mem_cons_self
    have h2 := jn_len (l := y :: r) fun z hz => h z (List.mem_cons_of_mem _ hz)
    show (x ++ 46 :: jn (y :: r)).length ≤ _
    rw [List.length_append, List.length_cons]
    simp only [List.length_cons] at h2 ⊢
    omega
/-- a list of such -/
structure GoodL (lz : Bool) (l : List (List Nat)) : Prop where
  each : ∀ x ∈ l, Good1 lz x
  few : l.length ≤ 8
theorem GoodL.ids {lz : Bool} {l : List (List Nat)} (h : GoodL lz l) : Ids lz l := ⟨fun x hx => ⟨(h.each x hx).id, (h.each x hx).sg, (h.each x hx).nd⟩, by have := h.few; omega⟩
theorem GoodL.keys {lz : Bool} {l : List (List Nat)} (h : GoodL lz l) : ∀ x ∈ l, KeyOk x := fun x hx => (h.each x hx).key
theorem GoodL.low {lz : Bool} {l : List (List Nat)} (h : GoodL lz l) : Low128 l := fun x hx => (h.each x hx).key.low
theorem GoodL.short {lz : Bool} {l : List (List Nat)} (h : GoodL lz l) : ∀ x ∈ l, x.length ≤ 1000 := fun x hx => by have := (h.each x hx).len; omega
theorem GoodL.jn {lz : Bool} {l : List (List Nat)} (h : GoodL lz l) : (jn l).length ≤ 404 := by
  have := jn_len (l := l) fun x hx => (h.each x hx).len
  have := h.few
  have : l.length * 21 ≤ 8 * 21 := Nat.mul_le_mul_right _ h.few
  omega
theorem GoodL.nil (lz : Bool) : GoodL lz [] := ⟨(fun _ h => nomatch h), Nat.zero_le _⟩
/-- numbers below a bound -/
theorem shn_of {i : Int} (h0 : 0 ≤ i) (h : i < 10 ^ 100) : Shn i := ⟨h0, Nat.le_trans (decL_length h0 (by decide) h) (by decide), log_small h0 h⟩
theorem num_of {i : Int} (h0 : 0 ≤ i) (h : i < 10 ^ 100) : Num (decL i) i := by
  refine ⟨⟨decL_ne h0, fun ch hc => ?_⟩, decL_lead h0, decL_val h0 h, Nat.le_trans (decL_length h0 (by decide) h) (by decide)⟩
  have r := decL_dig h0 ch hc
  have : ch = 48 ∨ ch = 49 ∨ ch = 50 ∨ ch = 51 ∨ ch = 52 ∨ ch = 53 ∨ ch = 54 ∨ ch = 55 ∨ ch = 56 ∨ ch = 57 := by omega
  rcases this with rfl | rfl | rfl | rfl | rfl | rfl | rfl | rfl | rfl | rfl <;> rfl
theorem dec_100 {i : Int} {k : Nat} (h0 : 0 ≤ i) (hk : 0 < k) (h : i < 10 ^ k) : (decL i).length ≤ k := decL_length h0 hk h
theorem vtext_short {A B C : Int} {pre bld : List (List Nat)} (hA : (decL A).length ≤ 40) (hB : (decL B).length ≤ 40) (hC : (decL C).length ≤ 40) (hp : (jn pre).length ≤ 404) (hb : (jn bld).length ≤ 404) : (vtext (decL A) (decL B) (decL C) pre bld).length ≤ 1000 := by
  unfold vtext tailOf
  have h1 : (if pre = [] then ([] : List Nat) else 45 :: jn pre).length ≤ 405 := by split <;> simp <;> omega
  have h2 : (if bld = [] then ([] : List Nat) else 43 :: jn bld).length ≤ 405 := by split <;> simp <;> omega
  simp only [List.length_append, List.length_cons]
  omega
end Mine
end
section
set_option maxHeartbeats 0
namespace Mine
open PySem PySem.W PySem.Calls PyProof.Rows Builtin
section
variable {w : World} {h₁ : Heap} {os₁ : OsState} {GI : Array GenState → Drawn → Prop}
local macro_rules
  | `(tactic| kd_subs) => `(tactic| first
    | ((with_reducible show Ev _ _ _ _ _ _); first
      | ((with_reducible show Ev _ _ _ _ (Expr.Name _ _) _); first
        | ((with_reducible show Ev _ _ _ _ (Expr.Name (Str.ofString "_DIGITS") _) _); refine nm_digits (by assumption) rfl rfl ?_)
        | ((with_reducible show Ev _ _ _ _ (Expr.Name (Str.ofString "_SIGNS") _) _); refine nm_signs (by assumption) rfl rfl ?_)
        | ((with_reducible show Ev _ _ _ _ (Expr.Name (Str.ofString "Version") _) _); refine nm_ver (by assumption) rfl rfl ?_)
        | ((with_reducible show Ev _ _ _ _ (Expr.Name (Str.ofString "MaxIdentifier") _) _); refine nm_max (by assumption) rfl rfl ?_)
        | ((with_reducible show Ev _ _ _ _ (Expr.Name (Str.ofString "NumericIdentifier") _) _); refine nm_num (by assumption) rfl rfl ?_)
        | ((with_reducible show Ev _ _ _ _ (Expr.Name (Str.ofString "AlphaIdentifier") _) _); refine nm_alpha (by assumption) rfl rfl ?_)
        | ((with_reducible show Ev _ _ _ _ (Expr.Name (Str.ofString "NotImplemented") _) _); refine nm_ni (by assumption) rfl rfl ?_)
        | refine ev_nm rfl rfl rfl ?_)
      | ((with_reducible show Ev _ _ _ _ (Expr.Constant _ _ _) _); first
        | ((with_reducible show Ev _ _ _ _ (Expr.Constant (Const.int _) _ _) _); refine ev_int ?_)
        | ((with_reducible show Ev _ _ _ _ (Expr.Constant Const.none _ _) _); refine ev_none ?_)
        | ((with_reducible show Ev _ _ _ _ (Expr.Constant (Const.bool _) _ _) _); refine ev_bool ?_)
        | ((with_reducible show Ev _ _ _ _ (Expr.Constant (Const.str (Str.ofString ".")) _ _) _); refine ev_strT lit_dot ?_)
        | ((with_reducible show Ev _ _ _ _ (Expr.Constant (Const.str (Str.ofString "-")) _ _) _); refine ev_strT lit_dash ?_)
        | ((with_reducible show Ev _ _ _ _ (Expr.Constant (Const.str (Str.ofString "+")) _ _) _); refine ev_strT lit_plus ?_)
        | ((with_reducible show Ev _ _ _ _ (Expr.Constant (Const.str (Str.ofString "\n")) _ _) _); refine ev_strT lit_nl ?_)
        | ((with_reducible show Ev _ _ _ _ (Expr.Constant (Const.str (Str.ofString "")) _ _) _); refine ev_strT lit_empty ?_)
        | ((with_reducible show Ev _ _ _ _ (Expr.Constant (Const.str (Str.ofString "0")) _ _) _); refine ev_strT lit_zero ?_))
      | ((with_reducible show Ev _ _ _ _ (Expr.Call (Expr.Name _ _) _ _ _) _); first
        | ((with_reducible show Ev _ _ _ _ (Expr.Call (Expr.Name (Str.ofString "len") _) _ [] _) _); refine bl_len (by assumption) rfl rfl rfl ?_)
        | ((with_reducible show Ev _ _ _ _ (Expr.Call (Expr.Name (Str.ofString "int") _) _ [] _) _); refine bl_int (by assumption) rfl rfl rfl ?_)
        | ((with_reducible show Ev _ _ _ _ (Expr.Call (Expr.Name (Str.ofString "str") _) _ [] _) _); refine bl_str (by assumption) rfl rfl rfl ?_)
        | ((with_reducible show Ev _ _ _ _ (Expr.Call (Expr.Name (Str.ofString "abs") _) _ [] _) _); refine bl_abs (by assumption) rfl rfl rfl ?_)
        | ((with_reducible show Ev _ _ _ _ (Expr.Call (Expr.Name (Str.ofString "max") _) _ [] _) _); refine bl_max (by assumption) rfl rfl rfl ?_)
        | ((with_reducible show Ev _ _ _ _ (Expr.Call (Expr.Name (Str.ofString "min") _) _ [] _) _); refine bl_min (by assumption) rfl rfl rfl ?_)
        | ((with_reducible show Ev _ _ _ _ (Expr.Call (Expr.Name (Str.ofString "range") _) _ [] _) _); refine bl_range (by assumption) rfl rfl rfl ?_)
        | ((with_reducible show Ev _ _ _ _ (Expr.Call (Expr.Name (Str.ofString "tuple") _) _ [] _) _); (fail_if_success (with_reducible show Ev _ _ _ _ (Expr.Call _ [Expr.GeneratorExp _ _ _ _] _ _) _)); refine bl_tuple (by assumption) rfl rfl rfl ?_)
        | ((with_reducible show Ev _ _ _ _ (Expr.Call (Expr.Name (Str.ofString "list") _) _ [] _) _); refine bl_list (by assumption) rfl rfl rfl ?_)
        | ((with_reducible show Ev _ _ _ _ (Expr.Call (Expr.Name (Str.ofString "isinstance") _) _ [] _) _); refine bl_isinstance (by assumption) rfl rfl rfl ?_)
        | ((with_reducible show Ev _ _ _ _ (Expr.Call (Expr.Name (Str.ofString "_behind") _) _ [] _) _); refine cl_behind (by assumption) rfl rfl rfl ?_)
        | ((with_reducible show Ev _ _ _ _ (Expr.Call (Expr.Name (Str.ofString "_version_groups") _) _ [] _) _); refine cl_groups (by assumption) rfl rfl rfl ?_)
        | ((with_reducible show Ev _ _ _ _ (Expr.Call (Expr.Name (Str.ofString "_has_leading_zero") _) _ [] _) _); refine cl_hlz (by assumption) rfl rfl rfl ?_)
        | ((with_reducible show Ev _ _ _ _ (Expr.Call (Expr.Name (Str.ofString "MaxIdentifier") _) _ [] _) _); refine cl_max (by assumption) rfl rfl rfl ?_)
        | ((with_reducible show Ev _ _ _ _ (Expr.Call (Expr.Name (Str.ofString "NumericIdentifier") _) _ [] _) _); refine cl_num (by assumption) rfl rfl rfl ?_)
        | ((with_reducible show Ev _ _ _ _ (Expr.Call (Expr.Name (Str.ofString "AlphaIdentifier") _) _ [] _) _); refine cl_alpha (by assumption) rfl rfl rfl ?_)
        | ((with_reducible show Ev _ _ _ _ (Expr.Call (Expr.Name (Str.ofString "Version") _) _ [] _) _); refine cl_ver (by assumption) rfl rfl rfl ?_)
        | ((with_reducible show Ev _ _ _ _ (Expr.Call (Expr.Name (Str.ofString "_law_text") _) _ [] _) _); refine cl_ltext (by assumption) rfl rfl rfl ?_)
        | ((with_reducible show Ev _ _ _ _ (Expr.Call (Expr.Name (Str.ofString "_law_cut") _) _ [] _) _); refine cl_lcut (by assumption) rfl rfl rfl ?_)
        | ((with_reducible show Ev _ _ _ _ (Expr.Call (Expr.Name (Str.ofString "_law_key") _) _ [] _) _); refine cl_lkey (by assumption) rfl rfl rfl ?_)
        | ((with_reducible show Ev _ _ _ _ (Expr.Call (Expr.Name (Str.ofString "Version") _) _ _ _) _); refine ck_ver (by assumption) rfl rfl rfl rfl ?_))
      | ((with_reducible show Ev _ _ _ _ (Expr.Compare _ _ _ _) _); refine ev_cmp rfl ?_)
      | ((with_reducible show Ev _ _ _ _ (Expr.Call (Expr.Attribute _ _ _) _ [] _) _); first
        | ((with_reducible show Ev _ _ _ _ (Expr.Call (Expr.Attribute _ (Str.ofString "isdigit") _) _ [] _) _); refine ev_methv (by assumption) (fun _ => rfl) rfl (evv_dat ?_))
        | ((with_reducible show Ev _ _ _ _ (Expr.Call (Expr.Attribute _ (Str.ofString "split") _) _ [] _) _); refine ev_methv (by assumption) (fun _ => rfl) rfl (evv_dat ?_))
        | ((with_reducible show Ev _ _ _ _ (Expr.Call (Expr.Attribute _ (Str.ofString "join") _) _ [] _) _); refine ev_methv (by assumption) (fun _ => rfl) rfl (evv_dat ?_))
        | ((with_reducible show Ev _ _ _ _ (Expr.Call (Expr.Attribute _ (Str.ofString "encode") _) _ [] _) _); refine ev_methv (by assumption) (fun _ => rfl) rfl (evv_dat ?_)))
      | ((with_reducible show Ev _ _ _ _ (Expr.Attribute (Expr.Name _ _) _ _) _); first
        | ((with_reducible show Ev _ _ _ _ (Expr.Attribute (Expr.Name _ _) (Str.ofString "major") _) _); refine ev_attr (fun _ => rfl) (evv_nm rfl rfl rfl (attr_inst (by assumption) rfl at_major rfl rfl ?_)))
        | ((with_reducible show Ev _ _ _ _ (Expr.Attribute (Expr.Name _ _) (Str.ofString "minor") _) _); refine ev_attr (fun _ => rfl) (evv_nm rfl rfl rfl (attr_inst (by assumption) rfl at_minor rfl rfl ?_)))
        | ((with_reducible show Ev _ _ _ _ (Expr.Attribute (Expr.Name _ _) (Str.ofString "patch") _) _); refine ev_attr (fun _ => rfl) (evv_nm rfl rfl rfl (attr_inst (by assumption) rfl at_patch rfl rfl ?_)))
        | ((with_reducible show Ev _ _ _ _ (Expr.Attribute (Expr.Name _ _) (Str.ofString "prerelease") _) _); refine ev_attr (fun _ => rfl) (evv_nm rfl rfl rfl (attr_inst (by assumption) rfl at_pre rfl rfl ?_)))
        | ((with_reducible show Ev _ _ _ _ (Expr.Attribute (Expr.Name _ _) (Str.ofString "build") _) _); refine ev_attr (fun _ => rfl) (evv_nm rfl rfl rfl (attr_inst (by assumption) rfl at_build rfl rfl ?_)))
        | ((with_reducible show Ev _ _ _ _ (Expr.Attribute (Expr.Name _ _) (Str.ofString "partial") _) _); refine ev_attr (fun _ => rfl) (evv_nm rfl rfl rfl (attr_inst (by assumption) rfl at_partial rfl rfl ?_)))
        | ((with_reducible show Ev _ _ _ _ (Expr.Attribute (Expr.Name _ _) (Str.ofString "_cmp_precedence_key") _) _); refine ev_attr (fun _ => rfl) (evv_nm rfl rfl rfl (attr_inst (by assumption) rfl at_cmpk rfl rfl ?_))))
      | ((with_reducible show Ev _ _ _ _ (Expr.BoolOp BoolOp.And (_ :: _ :: _) _) _); refine ev_and ?_)
      | ((with_reducible show Ev _ _ _ _ (Expr.BoolOp BoolOp.Or (_ :: _ :: _) _) _); refine ev_or ?_)
      | ((with_reducible show Ev _ _ _ _ (Expr.BoolOp _ [_] _) _); refine ev_bool1 ?_)
      | ((with_reducible show Ev _ _ _ _ (Expr.BinOp _ _ _ _) _); refine ev_bin ?_)
      | ((with_reducible show Ev _ _ _ _ (Expr.Tuple _ _ _) _); refine ev_tup ?_)
      | ((with_reducible show Ev _ _ _ _ (Expr.List _ _) _); refine ev_list ?_)
      | ((with_reducible show Ev _ _ _ _ (Expr.UnaryOp UnaryOp.Not _ _) _); refine ev_not ?_)
      | ((with_reducible show Ev _ _ _ _ (Expr.UnaryOp _ _ _) _); refine ev_un ?_)
      | ((with_reducible show Ev _ _ _ _ (Expr.Subscript _ (Expr.Slice _ _ _ _) _) _); refine ev_cut ?_)
      | ((with_reducible show Ev _ _ _ _ (Expr.Subscript _ _ _) _); refine ev_item rfl ?_))
    | ((with_reducible show MethV _ _ _ _ _); first
      | refine m_isdigit ?_
      | refine m_split ?_
      | refine m_join ?_
      | refine m_encode ?_)
    | ((with_reducible show EvK _ _ _ _ _ _); first
      | refine evk_cons rfl ?_
      | refine evk_nil ?_)
    | ((with_reducible show EvL _ _ _ _ _ _); first
      | ((with_reducible show EvL _ _ _ _ (_ :: _) _); refine evl_cons rfl ?_)
      | refine evl_nil ?_)
    | ((with_reducible show Ex _ _ _ _ _ _); first
      | ((with_reducible show Ex _ _ _ _ (_ :: _) _); (try conv => arg 4; simp only [List.set_cons_succ, List.set_cons_zero]); refine ex_cons ?_)
      | refine ex_nil ?_)
    | ((with_reducible show Ex1 _ _ _ _ _ _); first
      | ((with_reducible show Ex1 _ _ _ _ (Stmt.If _ _ _ _) _); refine ex_if ?_)
      | ((with_reducible show Ex1 _ _ _ _ (Stmt.Return (some _) _) _); refine ex_return ?_)
      | ((with_reducible show Ex1 _ _ _ _ (Stmt.Assign [Expr.Name _ _] _ _) _); refine ex_as rfl rfl rfl (fun _ => rfl) ?_))
    | ((with_reducible show Two _ _ _ _ _ _); first
      | ((with_reducible show Two _ _ (binaryOp Operator.Add) _ _ _); refine i_add ?_)
      | ((with_reducible show Two _ _ (binaryOp Operator.Sub) _ _ _); refine i_sub ?_)
      | ((with_reducible show Two _ _ (binaryOp Operator.BitXor) _ _ _); refine b_xor ?_)
      | ((with_reducible show Two _ _ (compareOp CmpOp.Lt) _ _ _); refine i_lt ?_)
      | ((with_reducible show Two _ _ (compareOp CmpOp.Gt) _ _ _); refine i_gt ?_)
      | ((with_reducible show Two _ _ (compareOp CmpOp.LtE) _ _ _); refine i_le ?_)
      | ((with_reducible show Two _ _ (compareOp CmpOp.GtE) _ _ _); refine i_ge ?_)
      | ((with_reducible show Two _ _ (compareOp CmpOp.Is) _ _ _); refine is_no ?_)
      | ((with_reducible show Two _ _ (compareOp CmpOp.IsNot) _ _ _); refine isnt_no ?_)
      | ((with_reducible show Two _ _ (compareOp CmpOp.Eq) (D.int _) _ _); refine i_eq ?_)
      | ((with_reducible show Two _ _ (compareOp CmpOp.Eq) (D.str (T _)) _ _); refine s_eqT ?_)
      | ((with_reducible show Two _ _ (compareOp CmpOp.NotEq) (D.int _) _ _); refine i_ne ?_)
      | ((with_reducible show Two _ _ (compareOp CmpOp.NotEq) (D.str (T _)) _ _); refine s_neT ?_))
    | ((with_reducible show Tst _ _ _ _ _ _); first
      | ((with_reducible show Tst _ _ _ _ (Expr.Compare _ _ _ _) _); refine tst_cmp rfl ?_)
      | ((with_reducible show Tst _ _ _ _ (Expr.Name _ _) _); refine tst_of (fun _ _ => rfl) ?_)
      | ((with_reducible show Tst _ _ _ _ (Expr.Call _ _ _ _) _); refine tst_of (fun _ _ => rfl) ?_)
      | ((with_reducible show Tst _ _ _ _ (Expr.Attribute _ _ _) _); refine tst_of (fun _ _ => rfl) ?_)
      | ((with_reducible show Tst _ _ _ _ (Expr.BinOp _ _ _ _) _); refine tst_of (fun _ _ => rfl) ?_)
      | ((with_reducible show Tst _ _ _ _ (Expr.Subscript _ _ _) _); refine tst_of (fun _ _ => rfl) ?_)
      | ((with_reducible show Tst _ _ _ _ (Expr.BoolOp BoolOp.And [] _) _); refine tst_and_nil ?_)
      | ((with_reducible show Tst _ _ _ _ (Expr.BoolOp BoolOp.Or [] _) _); refine tst_or_nil ?_)
      | ((with_reducible show Tst _ _ _ _ (Expr.UnaryOp UnaryOp.Not _ _) _); refine tst_not ?_)
      | ((with_reducible show Tst _ _ _ _ (Expr.BoolOp BoolOp.And (_ :: _) _) _); refine tst_and ?_)
      | ((with_reducible show Tst _ _ _ _ (Expr.BoolOp BoolOp.Or (_ :: _) _) _); refine tst_or ?_))
    | ((with_reducible show EvP _ _ _ _ _ _); first
      | refine evp_some ?_
      | refine evp_none ?_)
    | ((with_reducible show Tru _ _ _ _); first
      | refine tru_T (by assumption) ?_
      | refine tru_bool ?_
      | refine tru_none ?_)
    | ((with_reducible show One _ _ (unaryOp UnaryOp.USub) _ _); refine i_neg ?_)
    | ((with_reducible show Cut _ _ (D.str (T _)) _ _ _); refine cut_T (by assumption) ?_)
    | ((with_reducible show CallV _ _ (Value.builtin "len") _ _ _); refine c_len_T (by assumption) ?_)
    | ((with_reducible show CallV _ _ (Value.builtin "str.isdigit") _ _ _); refine c_isdigit ?_)
    | ((with_reducible show ∃ _, _ ∧ _); refine ⟨_, rfl, ?_⟩))

theorem vkw_pre (O : (cx w h₁ os₁ GI).Ok) {n : Nat} {A B C : Int} {pre : List (List Nat)} {Pq : D → Prop} (hp : Ids false pre) (h : Pq (.raw .none)) :
    CallK (cx w h₁ os₁ GI) (n + 4) (.ref 303) [.dat (.raw (.ref 388)), .dat (.int A), .dat (.int B), .dat (.int C), .dat (idsD pre), .dat (.tup []), .dat (.raw (.bool false))] [] Pq := by
  refine' call_def O ?hf ?hc ?hs ?ρ ?hno ?hb ?_
  case hf => exact rfl
  case hc => kernel_rfl
  case hs => kernel_rfl
  case ρ => exact [some (.dat (.raw (.ref 388))), some (.dat (.int A)), some (.dat (.int B)), some (.dat (.int C)), some (.dat (idsD pre)), some (.dat (.tup [])), some (.dat (.raw (.bool false)))]
  case hno => exact rfl
  case hb =>
    rintro X s vs kvs I ⟨v1, _, rfl, r1, v2, _, rfl, r2, v3, _, rfl, r3, v4, _, rfl, r4, v5, _, rfl, r5, v6, _, rfl, r6, v7, _, rfl, r7, rfl⟩ rk
    have e : kvs = [] := rk
    subst e
    refine ⟨_, BindsTo.of_eq rfl, rfl, ⟨⟨_, rfl, r1⟩, .inl rfl⟩, ⟨⟨_, rfl, r2⟩, .inl rfl⟩, ⟨⟨_, rfl, r3⟩, .inl rfl⟩, ⟨⟨_, rfl, r4⟩, .inl rfl⟩, ⟨⟨_, rfl, r5⟩, .inl rfl⟩, ⟨⟨_, rfl, r6⟩, .inl rfl⟩, ⟨⟨_, rfl, r7⟩, .inl rfl⟩, trivial⟩
  repeat kd_subs
  refine c_int_i ?_
  repeat kd_subs
  rw [if_neg (by simp)]
  repeat kd_subs
  refine ev_meth O (fun _ => rfl) rfl rfl (evv_dat (ev_nm rfl rfl rfl (meth_cls O cm_coerce ?_)))
  repeat kd_subs
  refine coerce_i O ?_
  repeat kd_subs
  rw [if_neg (by simp)]
  repeat kd_subs
  refine ev_meth O (fun _ => rfl) rfl rfl (evv_dat (ev_nm rfl rfl rfl (meth_cls O cm_coerce ?_)))
  repeat kd_subs
  refine coerce_i O ?_
  repeat kd_subs
  rw [if_neg (by simp)]
  repeat kd_subs
  rw [if_neg (by simp [D.isNone, idsD]), if_neg (by simp)]
  repeat kd_subs
  rw [if_neg (by simp [D.isNone, idsD]), if_neg (by simp)]
  repeat kd_subs
  rw [if_neg (by simp)]
  repeat kd_subs
  rw [if_pos (by simp [D.isNone, idsD])]
  repeat kd_subs
  refine ex_expr (fun _ => rfl) (ev_meth O (fun _ => rfl) rfl rfl (evv_dat (ev_nm rfl rfl rfl (meth_cls O cm_val ?_))))
  repeat kd_subs
  refine validate O (l := pre) (fun x hx => (hp.each x hx).1) ?_
  repeat kd_subs
  rw [if_pos (by simp [D.isNone, idsD])]
  repeat kd_subs
  refine ex_expr (fun _ => rfl) (ev_meth O (fun _ => rfl) rfl rfl (evv_dat (ev_nm rfl rfl rfl (meth_cls O cm_val ?_))))
  repeat kd_subs
  refine validate O (l := []) (by simp) ?_
  repeat kd_subs
  exact h
theorem init_pre (O : (cx w h₁ os₁ GI).Ok) (hGI : ∀ a b d, GI a d → (∀ y ∈ b, y ∈ a ∨ y.bare = true) → GI b d) {n : Nat} {A B C : Int} {pre : List (List Nat)} {Pq : D → Prop} (hp : Ids false pre) (kp : ∀ x ∈ pre, KeyOk x) (h : Pq (verD A B C pre [])) :
    CallK (cx w h₁ os₁ GI) (n + 12) (.ref 388) [] [("major", .int A), ("minor", .int B), ("patch", .int C), ("prerelease", idsD pre), ("partial", .raw (.bool false))] Pq := by
  have szl := sizeLine_eq
  refine' call_make O (as := []) (ks := [("major", .int A), ("minor", .int B), ("patch", .int C), ("prerelease", idsD pre), ("partial", .raw (.bool false))]) (f := 225) ?hm ?hi ?hfn ?hf ?hc ?hs ?x0 ?k0 ?h0 ?ρ ?hno ?hns ?hb ?_
  case hm => kernel_rfl
  case hi => kernel_rfl
  case hfn => kernel_rfl
  case hf => exact rfl
  case hc => kernel_rfl
  case hs => kernel_rfl
  case h0 => exact rfl
  case ρ => exact [some (.dat (.raw .none)), some (.dat (.int A)), some (.dat (.int B)), some (.dat (.int C)), some (.dat (idsD pre)), some (.dat (.raw .none)), some (.dat (.raw (.bool false))), none, none]
  case hno => exact rfl
  case hns => exact rfl
  case hb =>
    rintro X s a dd vs kvs I ⟨v1, _, e1, r1, rfl⟩ ⟨v3, _, rfl, r3, v4, _, rfl, r4, v5, _, rfl, r5, v6, _, rfl, r6, v7, _, rfl, r7, rfl⟩
    cases e1
    refine ⟨_, binds_K (I.kin O) rfl rfl rfl rfl rfl, rfl, ⟨⟨_, rfl, r1⟩, .inl rfl⟩, ⟨⟨_, rfl, rfl⟩, .inl rfl⟩, ⟨⟨_, rfl, r3⟩, .inl rfl⟩, ⟨⟨_, rfl, r4⟩, .inl rfl⟩, ⟨⟨_, rfl, r5⟩, .inl rfl⟩, ⟨⟨_, rfl, r6⟩, .inl rfl⟩, ⟨⟨_, rfl, rfl⟩, .inl rfl⟩, ⟨⟨_, rfl, r7⟩, .inl rfl⟩, trivial⟩
  intro a dd
  repeat kd_subs
  rw [if_neg (by simp [D.isNone, idsD])]
  repeat kd_subs
  rw [if_neg (by simp [D.isNone, idsD])]
  refine ex_nil ?_
  refine ex_cons (ex_if (tst_of (fun _ _ => rfl) (ev_nm rfl rfl rfl (tru_bool ?_))))
  rw [if_neg (by simp [D.isNone, idsD])]
  refine ex_cons (ex_as rfl rfl rfl (fun _ => rfl) (Ev.mono (Pq := fun d => d = idsD pre) ?_ ?_))
  · repeat kd_subs
    refine tru_tup (by rw [List.length_map]; have := hp.len; omega) ?_
    by_cases e : pre = []
    · subst e
      rw [if_neg (by simp)]
      repeat kd_subs
      refine ⟨by simp, ?_⟩
      repeat kd_subs
      exact c_tuple_t rfl
    · rw [if_pos (by simpa using e)]
      repeat kd_subs
      exact c_tuple_t rfl
  rintro _ rfl
  repeat kd_subs
  rw [if_pos (by simp)]
  repeat kd_subs
  rw [if_neg (by simp)]
  repeat kd_subs
  refine ⟨by simp, ?_⟩
  repeat kd_subs
  refine c_tuple_t ?_
  repeat kd_subs
  refine ex_expr (fun _ => rfl) (ev_meth O (fun _ => rfl) rfl rfl (evv_nm rfl rfl rfl (meth_cm O rfl ca_vkw rfl ?_)))
  repeat kd_subs
  refine vkw_pre O hp ?_
  refine ex_nil ?_
  refine ex_cons (ex_setattr O 0 rfl rfl rfl rfl rfl (fun _ => rfl) st_major rfl (by simp) (ev_nm rfl rfl rfl ?_))
  refine ex_cons (ex_setattr O 0 rfl rfl rfl rfl rfl (fun _ => rfl) st_minor rfl (by simp) (ev_nm rfl rfl rfl ?_))
  refine ex_cons (ex_setattr O 0 rfl rfl rfl rfl rfl (fun _ => rfl) st_patch rfl (by simp) (ev_nm rfl rfl rfl ?_))
  refine ex_cons (ex_setattr O 0 rfl rfl rfl rfl rfl (fun _ => rfl) st_pre rfl (by simp) (ev_nm rfl rfl rfl ?_))
  refine ex_cons (ex_setattr O 0 rfl rfl rfl rfl rfl (fun _ => rfl) st_build rfl (by simp) (ev_nm rfl rfl rfl ?_))
  refine ex_cons (ex_setattr O 0 rfl rfl rfl rfl rfl (fun _ => rfl) st_partial rfl (by simp) (ev_nm rfl rfl rfl ?_))
  refine ex_cons (ex_setattr O 0 rfl rfl rfl rfl rfl (fun _ => rfl) st_cmpk rfl (by simp) (ev_meth O (fun _ => rfl) rfl rfl (evv_nm rfl rfl rfl (meth_inst O rfl mi_key rfl ?_))))
  repeat kd_subs
  refine key O hGI (pre := pre) (bld := []) ([]) false hp.len (by simp) kp (by simp) ?_
  refine ex_cons (ex_setattr O 0 rfl rfl rfl rfl rfl (fun _ => rfl) st_sortk rfl (by simp) (ev_meth O (fun _ => rfl) rfl rfl (evv_nm rfl rfl rfl (meth_inst O rfl mi_key rfl ?_))))
  repeat kd_subs
  refine key O hGI (pre := pre) (bld := []) ([("_cmp_precedence_key", cmpK A B C pre)]) true hp.len (by simp) kp (by simp) ?_
  refine ex_nil ?_
  exact ⟨_, rfl, h⟩
theorem mi_trun : methIn (cx w h₁ os₁ GI).K 388 "truncate" 265 = true := by kernel_rfl
def lvl : Nat → List Nat
  | 0 => [109, 97, 106, 111, 114]
  | 1 => [109, 105, 110, 111, 114]
  | 2 => [112, 97, 116, 99, 104]
  | 3 => [112, 114, 101, 114, 101, 108, 101, 97, 115, 101]
  | _ => [98, 117, 105, 108, 100]
/-- a version cut at a level -/
structure Ver where
  A : Int
  B : Int
  C : Int
  p : List (List Nat)
  b : List (List Nat)
def Ver.d (v : Ver) : D := verD v.A v.B v.C v.p v.b
def Ver.cut (v : Ver) : Nat → Ver
  | 0 => ⟨v.A, 0, 0, [], []⟩
  | 1 => ⟨v.A, v.B, 0, [], []⟩
  | 2 => ⟨v.A, v.B, v.C, [], []⟩
  | 3 => ⟨v.A, v.B, v.C, v.p, []⟩
  | _ => v
theorem trunc (O : (cx w h₁ os₁ GI).Ok) (hGI : ∀ a b d, GI a d → (∀ y ∈ b, y ∈ a ∨ y.bare = true) → GI b d) {n : Nat} {v : Ver} {i : Nat} {Pq : D → Prop} (hi : i < 5) (hp : Ids false v.p) (kp : ∀ x ∈ v.p, KeyOk x)
    (h : Pq (v.cut i).d) : CallK (cx w h₁ os₁ GI) (n + 14) (.ref 265) [.dat v.d, .dat (.str (T (lvl i)))] [] Pq := by
  have szl := sizeLine_eq
  obtain ⟨A, B, C, p, b⟩ := v
  refine' call_def O ?hf ?hc ?hs ?ρ ?hno ?hb ?_
  case hf => exact rfl
  case hc => kernel_rfl
  case hs => kernel_rfl
  case ρ => exact [some (.dat (verD A B C p b)), some (.dat (.str (T (lvl i))))]
  case hno => exact rfl
  case hb =>
    rintro X s vs kvs I ⟨v1, _, rfl, r1, v2, _, rfl, r2, rfl⟩ rk
    have e : kvs = [] := rk
    subst e
    refine ⟨_, binds_K (I.kin O) rfl rfl rfl rfl rfl, rfl, ⟨⟨_, rfl, r1⟩, .inl rfl⟩, ⟨⟨_, rfl, r2⟩, .inl rfl⟩, trivial⟩
  repeat kd_subs
  refine ev_strT (l := lvl 4) (by kernel_rfl) ?_
  repeat kd_subs
  have hi5 : i = 0 ∨ i = 1 ∨ i = 2 ∨ i = 3 ∨ i = 4 := by omega
  rcases hi5 with rfl | rfl | rfl | rfl | rfl
  case inr.inr.inr.inr =>
    rw [if_pos (by rfl)]
    repeat kd_subs
    exact h
  all_goals
    rw [if_neg (by decide)]
    refine ex_cons (ex_if ?_)
    repeat kd_subs
    refine ev_strT (l := lvl 3) (by kernel_rfl) ?_
    repeat kd_subs
  case inr.inr.inr.inl =>
    rw [if_pos (by rfl)]
    repeat kd_subs
    exact init_pre O hGI hp kp h
  all_goals
    rw [if_neg (by decide)]
    refine ex_cons (ex_if ?_)
    repeat kd_subs
    refine ev_strT (l := lvl 2) (by kernel_rfl) ?_
    repeat kd_subs
  case inr.inr.inl =>
    rw [if_pos (by rfl)]
    repeat kd_subs
    exact init_parts O hGI h
  all_goals
    rw [if_neg (by decide)]
    refine ex_cons (ex_if ?_)
    repeat kd_subs
    refine ev_strT (l := lvl 1) (by kernel_rfl) ?_
    repeat kd_subs
  case inr.inl =>
    rw [if_pos (by rfl)]
    repeat kd_subs
    refine ev_if ?_
    repeat kd_subs
    rw [if_neg (by simp)]
    repeat kd_subs
    exact init_parts O hGI h
  rw [if_neg (by decide)]
  refine ex_cons (ex_if ?_)
  repeat kd_subs
  refine ev_strT (l := lvl 0) (by kernel_rfl) ?_
  repeat kd_subs
  rw [if_pos (by rfl)]
  repeat kd_subs
  refine ev_if ?_
  repeat kd_subs
  rw [if_neg (by simp)]
  repeat kd_subs
  refine ev_if ?_
  repeat kd_subs
  rw [if_neg (by simp)]
  repeat kd_subs
  exact init_parts O hGI h
end
end Mine
end
section
set_option maxHeartbeats 0
namespace Mine
open PySem PySem.W PySem.Calls PyProof.Rows Builtin
section
variable {w : World} {h₁ : Heap} {os₁ : OsState} {GI : Array GenState → Drawn → Prop}
local macro_rules
  | `(tactic| kd_subs) => `(tactic| first
    | ((with_reducible show Ev _ _ _ _ _ _); first
      | ((with_reducible show Ev _ _ _ _ (Expr.Name _ _) _); first
        | ((with_reducible show Ev _ _ _ _ (Expr.Name (Str.ofString "_DIGITS") _) _); refine nm_digits (by assumption) rfl rfl ?_)
        | ((with_reducible show Ev _ _ _ _ (Expr.Name (Str.ofString "_SIGNS") _) _); refine nm_signs (by assumption) rfl rfl ?_)
        | ((with_reducible show Ev _ _ _ _ (Expr.Name (Str.ofString "Version") _) _); refine nm_ver (by assumption) rfl rfl ?_)
        | ((with_reducible show Ev _ _ _ _ (Expr.Name (Str.ofString "MaxIdentifier") _) _); refine nm_max (by assumption) rfl rfl ?_)
        | ((with_reducible show Ev _ _ _ _ (Expr.Name (Str.ofString "NumericIdentifier") _) _); refine nm_num (by assumption) rfl rfl ?_)
        | ((with_reducible show Ev _ _ _ _ (Expr.Name (Str.ofString "AlphaIdentifier") _) _); refine nm_alpha (by assumption) rfl rfl ?_)
        | ((with_reducible show Ev _ _ _ _ (Expr.Name (Str.ofString "NotImplemented") _) _); refine nm_ni (by assumption) rfl rfl ?_)
        | refine ev_nm rfl rfl rfl ?_)
      | ((with_reducible show Ev _ _ _ _ (Expr.Constant _ _ _) _); first
        | ((with_reducible show Ev _ _ _ _ (Expr.Constant (Const.int _) _ _) _); refine ev_int ?_)
        | ((with_reducible show Ev _ _ _ _ (Expr.Constant Const.none _ _) _); refine ev_none ?_)
        | ((with_reducible show Ev _ _ _ _ (Expr.Constant (Const.bool _) _ _) _); refine ev_bool ?_)
        | ((with_reducible show Ev _ _ _ _ (Expr.Constant (Const.str (Str.ofString ".")) _ _) _); refine ev_strT lit_dot ?_)
        | ((with_reducible show Ev _ _ _ _ (Expr.Constant (Const.str (Str.ofString "-")) _ _) _); refine ev_strT lit_dash ?_)
        | ((with_reducible show Ev _ _ _ _ (Expr.Constant (Const.str (Str.ofString "+")) _ _) _); refine ev_strT lit_plus ?_)
        | ((with_reducible show Ev _ _ _ _ (Expr.Constant (Const.str (Str.ofString "\n")) _ _) _); refine ev_strT lit_nl ?_)
        | ((with_reducible show Ev _ _ _ _ (Expr.Constant (Const.str (Str.ofString "")) _ _) _); refine ev_strT lit_empty ?_)
        | ((with_reducible show Ev _ _ _ _ (Expr.Constant (Const.str (Str.ofString "0")) _ _) _); refine ev_strT lit_zero ?_))
      | ((with_reducible show Ev _ _ _ _ (Expr.Call (Expr.Name _ _) _ _ _) _); first
        | ((with_reducible show Ev _ _ _ _ (Expr.Call (Expr.Name (Str.ofString "len") _) _ [] _) _); refine bl_len (by assumption) rfl rfl rfl ?_)
        | ((with_reducible show Ev _ _ _ _ (Expr.Call (Expr.Name (Str.ofString "int") _) _ [] _) _); refine bl_int (by assumption) rfl rfl rfl ?_)
        | ((with_reducible show Ev _ _ _ _ (Expr.Call (Expr.Name (Str.ofString "str") _) _ [] _) _); refine bl_str (by assumption) rfl rfl rfl ?_)
        | ((with_reducible show Ev _ _ _ _ (Expr.Call (Expr.Name (Str.ofString "abs") _) _ [] _) _); refine bl_abs (by assumption) rfl rfl rfl ?_)
        | ((with_reducible show Ev _ _ _ _ (Expr.Call (Expr.Name (Str.ofString "max") _) _ [] _) _); refine bl_max (by assumption) rfl rfl rfl ?_)
        | ((with_reducible show Ev _ _ _ _ (Expr.Call (Expr.Name (Str.ofString "min") _) _ [] _) _); refine bl_min (by assumption) rfl rfl rfl ?_)
        | ((with_reducible show Ev _ _ _ _ (Expr.Call (Expr.Name (Str.ofString "range") _) _ [] _) _); refine bl_range (by assumption) rfl rfl rfl ?_)
        | ((with_reducible show Ev _ _ _ _ (Expr.Call (Expr.Name (Str.ofString "tuple") _) _ [] _) _); (fail_if_success (with_reducible show Ev _ _ _ _ (Expr.Call _ [Expr.GeneratorExp _ _ _ _] _ _) _)); refine bl_tuple (by assumption) rfl rfl rfl ?_)
        | ((with_reducible show Ev _ _ _ _ (Expr.Call (Expr.Name (Str.ofString "list") _) _ [] _) _); refine bl_list (by assumption) rfl rfl rfl ?_)
        | ((with_reducible show Ev _ _ _ _ (Expr.Call (Expr.Name (Str.ofString "isinstance") _) _ [] _) _); refine bl_isinstance (by assumption) rfl rfl rfl ?_)
        | ((with_reducible show Ev _ _ _ _ (Expr.Call (Expr.Name (Str.ofString "_behind") _) _ [] _) _); refine cl_behind (by assumption) rfl rfl rfl ?_)
        | ((with_reducible show Ev _ _ _ _ (Expr.Call (Expr.Name (Str.ofString "_version_groups") _) _ [] _) _); refine cl_groups (by assumption) rfl rfl rfl ?_)
        | ((with_reducible show Ev _ _ _ _ (Expr.Call (Expr.Name (Str.ofString "_has_leading_zero") _) _ [] _) _); refine cl_hlz (by assumption) rfl rfl rfl ?_)
        | ((with_reducible show Ev _ _ _ _ (Expr.Call (Expr.Name (Str.ofString "MaxIdentifier") _) _ [] _) _); refine cl_max (by assumption) rfl rfl rfl ?_)
        | ((with_reducible show Ev _ _ _ _ (Expr.Call (Expr.Name (Str.ofString "NumericIdentifier") _) _ [] _) _); refine cl_num (by assumption) rfl rfl rfl ?_)
        | ((with_reducible show Ev _ _ _ _ (Expr.Call (Expr.Name (Str.ofString "AlphaIdentifier") _) _ [] _) _); refine cl_alpha (by assumption) rfl rfl rfl ?_)
        | ((with_reducible show Ev _ _ _ _ (Expr.Call (Expr.Name (Str.ofString "Version") _) _ [] _) _); refine cl_ver (by assumption) rfl rfl rfl ?_)
        | ((with_reducible show Ev _ _ _ _ (Expr.Call (Expr.Name (Str.ofString "_law_text") _) _ [] _) _); refine cl_ltext (by assumption) rfl rfl rfl ?_)
        | ((with_reducible show Ev _ _ _ _ (Expr.Call (Expr.Name (Str.ofString "_law_cut") _) _ [] _) _); refine cl_lcut (by assumption) rfl rfl rfl ?_)
        | ((with_reducible show Ev _ _ _ _ (Expr.Call (Expr.Name (Str.ofString "_law_key") _) _ [] _) _); refine cl_lkey (by assumption) rfl rfl rfl ?_)
        | ((with_reducible show Ev _ _ _ _ (Expr.Call (Expr.Name (Str.ofString "Version") _) _ _ _) _); refine ck_ver (by assumption) rfl rfl rfl rfl ?_))
      | ((with_reducible show Ev _ _ _ _ (Expr.Compare _ _ _ _) _); refine ev_cmp rfl ?_)
      | ((with_reducible show Ev _ _ _ _ (Expr.Call (Expr.Attribute _ _ _) _ [] _) _); first
        | ((with_reducible show Ev _ _ _ _ (Expr.Call (Expr.Attribute _ (Str.ofString "isdigit") _) _ [] _) _); refine ev_methv (by assumption) (fun _ => rfl) rfl (evv_dat ?_))
        | ((with_reducible show Ev _ _ _ _ (Expr.Call (Expr.Attribute _ (Str.ofString "split") _) _ [] _) _); refine ev_methv (by assumption) (fun _ => rfl) rfl (evv_dat ?_))
        | ((with_reducible show Ev _ _ _ _ (Expr.Call (Expr.Attribute _ (Str.ofString "join") _) _ [] _) _); refine ev_methv (by assumption) (fun _ => rfl) rfl (evv_dat ?_))
        | ((with_reducible show Ev _ _ _ _ (Expr.Call (Expr.Attribute _ (Str.ofString "encode") _) _ [] _) _); refine ev_methv (by assumption) (fun _ => rfl) rfl (evv_dat ?_)))
      | ((with_reducible show Ev _ _ _ _ (Expr.Attribute (Expr.Name _ _) _ _) _); first
        | ((with_reducible show Ev _ _ _ _ (Expr.Attribute (Expr.Name _ _) (Str.ofString "major") _) _); refine ev_attr (fun _ => rfl) (evv_nm rfl rfl rfl (attr_inst (by assumption) rfl at_major rfl rfl ?_)))
        | ((with_reducible show Ev _ _ _ _ (Expr.Attribute (Expr.Name _ _) (Str.ofString "minor") _) _); refine ev_attr (fun _ => rfl) (evv_nm rfl rfl rfl (attr_inst (by assumption) rfl at_minor rfl rfl ?_)))
        | ((with_reducible show Ev _ _ _ _ (Expr.Attribute (Expr.Name _ _) (Str.ofString "patch") _) _); refine ev_attr (fun _ => rfl) (evv_nm rfl rfl rfl (attr_inst (by assumption) rfl at_patch rfl rfl ?_)))
        | ((with_reducible show Ev _ _ _ _ (Expr.Attribute (Expr.Name _ _) (Str.ofString "prerelease") _) _); refine ev_attr (fun _ => rfl) (evv_nm rfl rfl rfl (attr_inst (by assumption) rfl at_pre rfl rfl ?_)))
        | ((with_reducible show Ev _ _ _ _ (Expr.Attribute (Expr.Name _ _) (Str.ofString "build") _) _); refine ev_attr (fun _ => rfl) (evv_nm rfl rfl rfl (attr_inst (by assumption) rfl at_build rfl rfl ?_)))
        | ((with_reducible show Ev _ _ _ _ (Expr.Attribute (Expr.Name _ _) (Str.ofString "partial") _) _); refine ev_attr (fun _ => rfl) (evv_nm rfl rfl rfl (attr_inst (by assumption) rfl at_partial rfl rfl ?_)))
        | ((with_reducible show Ev _ _ _ _ (Expr.Attribute (Expr.Name _ _) (Str.ofString "_cmp_precedence_key") _) _); refine ev_attr (fun _ => rfl) (evv_nm rfl rfl rfl (attr_inst (by assumption) rfl at_cmpk rfl rfl ?_))))
      | ((with_reducible show Ev _ _ _ _ (Expr.BoolOp BoolOp.And (_ :: _ :: _) _) _); refine ev_and ?_)
      | ((with_reducible show Ev _ _ _ _ (Expr.BoolOp BoolOp.Or (_ :: _ :: _) _) _); refine ev_or ?_)
      | ((with_reducible show Ev _ _ _ _ (Expr.BoolOp _ [_] _) _); refine ev_bool1 ?_)
      | ((with_reducible show Ev _ _ _ _ (Expr.BinOp _ _ _ _) _); refine ev_bin ?_)
      | ((with_reducible show Ev _ _ _ _ (Expr.Tuple _ _ _) _); refine ev_tup ?_)
      | ((with_reducible show Ev _ _ _ _ (Expr.List _ _) _); refine ev_list ?_)
      | ((with_reducible show Ev _ _ _ _ (Expr.UnaryOp UnaryOp.Not _ _) _); refine ev_not ?_)
      | ((with_reducible show Ev _ _ _ _ (Expr.UnaryOp _ _ _) _); refine ev_un ?_)
      | ((with_reducible show Ev _ _ _ _ (Expr.Subscript _ (Expr.Slice _ _ _ _) _) _); refine ev_cut ?_)
      | ((with_reducible show Ev _ _ _ _ (Expr.Subscript _ _ _) _); refine ev_item rfl ?_))
    | ((with_reducible show MethV _ _ _ _ _); first
      | refine m_isdigit ?_
      | refine m_split ?_
      | refine m_join ?_
      | refine m_encode ?_)
    | ((with_reducible show EvK _ _ _ _ _ _); first
      | refine evk_cons rfl ?_
      | refine evk_nil ?_)
    | ((with_reducible show EvL _ _ _ _ _ _); first
      | ((with_reducible show EvL _ _ _ _ (_ :: _) _); refine evl_cons rfl ?_)
      | refine evl_nil ?_)
    | ((with_reducible show Ex _ _ _ _ _ _); first
      | ((with_reducible show Ex _ _ _ _ (_ :: _) _); (try conv => arg 4; simp only [List.set_cons_succ, List.set_cons_zero]); refine ex_cons ?_)
      | refine ex_nil ?_)
    | ((with_reducible show Ex1 _ _ _ _ _ _); first
      | ((with_reducible show Ex1 _ _ _ _ (Stmt.If _ _ _ _) _); refine ex_if ?_)
      | ((with_reducible show Ex1 _ _ _ _ (Stmt.Return (some _) _) _); refine ex_return ?_)
      | ((with_reducible show Ex1 _ _ _ _ (Stmt.Assign [Expr.Name _ _] _ _) _); refine ex_as rfl rfl rfl (fun _ => rfl) ?_))
    | ((with_reducible show Two _ _ _ _ _ _); first
      | ((with_reducible show Two _ _ (binaryOp Operator.Add) _ _ _); refine i_add ?_)
      | ((with_reducible show Two _ _ (binaryOp Operator.Sub) _ _ _); refine i_sub ?_)
      | ((with_reducible show Two _ _ (binaryOp Operator.BitXor) _ _ _); refine b_xor ?_)
      | ((with_reducible show Two _ _ (compareOp CmpOp.Lt) _ _ _); refine i_lt ?_)
      | ((with_reducible show Two _ _ (compareOp CmpOp.Gt) _ _ _); refine i_gt ?_)
      | ((with_reducible show Two _ _ (compareOp CmpOp.LtE) _ _ _); refine i_le ?_)
      | ((with_reducible show Two _ _ (compareOp CmpOp.GtE) _ _ _); refine i_ge ?_)
      | ((with_reducible show Two _ _ (compareOp CmpOp.Is) _ _ _); refine is_no ?_)
      | ((with_reducible show Two _ _ (compareOp CmpOp.IsNot) _ _ _); refine isnt_no ?_)
      | ((with_reducible show Two _ _ (compareOp CmpOp.Eq) (D.int _) _ _); refine i_eq ?_)
      | ((with_reducible show Two _ _ (compareOp CmpOp.Eq) (D.str (T _)) _ _); refine s_eqT ?_)
      | ((with_reducible show Two _ _ (compareOp CmpOp.NotEq) (D.int _) _ _); refine i_ne ?_)
      | ((with_reducible show Two _ _ (compareOp CmpOp.NotEq) (D.str (T _)) _ _); refine s_neT ?_))
    | ((with_reducible show Tst _ _ _ _ _ _); first
      | ((with_reducible show Tst _ _ _ _ (Expr.Compare _ _ _ _) _); refine tst_cmp rfl ?_)
      | ((with_reducible show Tst _ _ _ _ (Expr.Name _ _) _); refine tst_of (fun _ _ => rfl) ?_)
      | ((with_reducible show Tst _ _ _ _ (Expr.Call _ _ _ _) _); refine tst_of (fun _ _ => rfl) ?_)
      | ((with_reducible show Tst _ _ _ _ (Expr.Attribute _ _ _) _); refine tst_of (fun _ _ => rfl) ?_)
      | ((with_reducible show Tst _ _ _ _ (Expr.BinOp _ _ _ _) _); refine tst_of (fun _ _ => rfl) ?_)
      | ((with_reducible show Tst _ _ _ _ (Expr.Subscript _ _ _) _); refine tst_of (fun _ _ => rfl) ?_)
      | ((with_reducible show Tst _ _ _ _ (Expr.BoolOp BoolOp.And [] _) _); refine tst_and_nil ?_)
      | ((with_reducible show Tst _ _ _ _ (Expr.BoolOp BoolOp.Or [] _) _); refine tst_or_nil ?_)
      | ((with_reducible show Tst _ _ _ _ (Expr.UnaryOp UnaryOp.Not _ _) _); refine tst_not ?_)
      | ((with_reducible show Tst _ _ _ _ (Expr.BoolOp BoolOp.And (_ :: _) _) _); refine tst_and ?_)
      | ((with_reducible show Tst _ _ _ _ (Expr.BoolOp BoolOp.Or (_ :: _) _) _); refine tst_or ?_))
    | ((with_reducible show EvP _ _ _ _ _ _); first
      | refine evp_some ?_
      | refine evp_none ?_)
    | ((with_reducible show Tru _ _ _ _); first
      | refine tru_T (by assumption) ?_
      | refine tru_bool ?_
      | refine tru_none ?_)
    | ((with_reducible show One _ _ (unaryOp UnaryOp.USub) _ _); refine i_neg ?_)
    | ((with_reducible show Cut _ _ (D.str (T _)) _ _ _); refine cut_T (by assumption) ?_)
    | ((with_reducible show CallV _ _ (Value.builtin "len") _ _ _); refine c_len_T (by assumption) ?_)
    | ((with_reducible show CallV _ _ (Value.builtin "str.isdigit") _ _ _); refine c_isdigit ?_)
    | ((with_reducible show ∃ _, _ ∧ _); refine ⟨_, rfl, ?_⟩))

theorem lit_patch : Str.ofString "patch" = T (lvl 2) := by kernel_rfl
theorem trunc_def (O : (cx w h₁ os₁ GI).Ok) (hGI : ∀ a b d, GI a d → (∀ y ∈ b, y ∈ a ∨ y.bare = true) → GI b d) {n : Nat} {v : Ver} {Pq : D → Prop}
    (h : Pq (v.cut 2).d) : CallK (cx w h₁ os₁ GI) (n + 14) (.ref 265) [.dat v.d] [] Pq := by
  have szl := sizeLine_eq
  obtain ⟨A, B, C, p, b⟩ := v
  refine' call_def O ?hf ?hc ?hs ?ρ ?hno ?hb ?_
  case hf => exact rfl
  case hc => kernel_rfl
  case hs => kernel_rfl
  case ρ => exact [some (.dat (verD A B C p b)), some (.dat (.str (T (lvl 2))))]
  case hno => exact rfl
  case hb =>
    rintro X s vs kvs I ⟨v1, _, rfl, r1, rfl⟩ rk
    have e : kvs = [] := rk
    subst e
    refine ⟨_, binds_K (I.kin O) rfl rfl rfl rfl rfl, rfl, ⟨⟨_, rfl, r1⟩, .inl rfl⟩, ⟨⟨_, rfl, ⟨_, by rw [← lit_patch]⟩⟩, .inl rfl⟩, trivial⟩
  repeat kd_subs
  refine ev_strT (l := lvl 4) (by kernel_rfl) ?_
  repeat kd_subs
  rw [if_neg (by decide)]
  refine ex_cons (ex_if ?_)
  repeat kd_subs
  refine ev_strT (l := lvl 3) (by kernel_rfl) ?_
  repeat kd_subs
  rw [if_neg (by decide)]
  refine ex_cons (ex_if ?_)
  repeat kd_subs
  refine ev_strT (l := lvl 2) (by kernel_rfl) ?_
  repeat kd_subs
  rw [if_pos (by rfl)]
  repeat kd_subs
  exact init_parts O hGI h
end
end Mine
end
section
set_option maxHeartbeats 0
namespace Mine
open PySem PySem.W PySem.Calls PyProof.Rows Builtin
section
variable {w : World} {h₁ : Heap} {os₁ : OsState} {GI : Array GenState → Drawn → Prop}
local macro_rules
  | `(tactic| kd_subs) => `(tactic| first
    | ((with_reducible show Ev _ _ _ _ _ _); first
      | ((with_reducible show Ev _ _ _ _ (Expr.Name _ _) _); first
        | ((with_reducible show Ev _ _ _ _ (Expr.Name (Str.ofString "_DIGITS") _) _); refine nm_digits (by assumption) rfl rfl ?_)
        | ((with_reducible show Ev _ _ _ _ (Expr.Name (Str.ofString "_SIGNS") _) _); refine nm_signs (by assumption) rfl rfl ?_)
        | ((with_reducible show Ev _ _ _ _ (Expr.Name (Str.ofString "Version") _) _); refine nm_ver (by assumption) rfl rfl ?_)
        | ((with_reducible show Ev _ _ _ _ (Expr.Name (Str.ofString "MaxIdentifier") _) _); refine nm_max (by assumption) rfl rfl ?_)
        | ((with_reducible show Ev _ _ _ _ (Expr.Name (Str.ofString "NumericIdentifier") _) _); refine nm_num (by assumption) rfl rfl ?_)
        | ((with_reducible show Ev _ _ _ _ (Expr.Name (Str.ofString "AlphaIdentifier") _) _); refine nm_alpha (by assumption) rfl rfl ?_)
        | ((with_reducible show Ev _ _ _ _ (Expr.Name (Str.ofString "NotImplemented") _) _); refine nm_ni (by assumption) rfl rfl ?_)
        | refine ev_nm rfl rfl rfl ?_)
      | ((with_reducible show Ev _ _ _ _ (Expr.Constant _ _ _) _); first
        | ((with_reducible show Ev _ _ _ _ (Expr.Constant (Const.int _) _ _) _); refine ev_int ?_)
        | ((with_reducible show Ev _ _ _ _ (Expr.Constant Const.none _ _) _); refine ev_none ?_)
        | ((with_reducible show Ev _ _ _ _ (Expr.Constant (Const.bool _) _ _) _); refine ev_bool ?_)
        | ((with_reducible show Ev _ _ _ _ (Expr.Constant (Const.str (Str.ofString ".")) _ _) _); refine ev_strT lit_dot ?_)
        | ((with_reducible show Ev _ _ _ _ (Expr.Constant (Const.str (Str.ofString "-")) _ _) _); refine ev_strT lit_dash ?_)
        | ((with_reducible show Ev _ _ _ _ (Expr.Constant (Const.str (Str.ofString "+")) _ _) _); refine ev_strT lit_plus ?_)
        | ((with_reducible show Ev _ _ _ _ (Expr.Constant (Const.str (Str.ofString "\n")) _ _) _); refine ev_strT lit_nl ?_)
        | ((with_reducible show Ev _ _ _ _ (Expr.Constant (Const.str (Str.ofString "")) _ _) _); refine ev_strT lit_empty ?_)
        | ((with_reducible show Ev _ _ _ _ (Expr.Constant (Const.str (Str.ofString "0")) _ _) _); refine ev_strT lit_zero ?_))
      | ((with_reducible show Ev _ _ _ _ (Expr.Call (Expr.Name _ _) _ _ _) _); first
        | ((with_reducible show Ev _ _ _ _ (Expr.Call (Expr.Name (Str.ofString "len") _) _ [] _) _); refine bl_len (by assumption) rfl rfl rfl ?_)
        | ((with_reducible show Ev _ _ _ _ (Expr.Call (Expr.Name (Str.ofString "int") _) _ [] _) _); refine bl_int (by assumption) rfl rfl rfl ?_)
        | ((with_reducible show Ev _ _ _ _ (Expr.Call (Expr.Name (Str.ofString "str") _) _ [] _) _); refine bl_str (by assumption) rfl rfl rfl ?_)
        | ((with_reducible show Ev _ _ _ _ (Expr.Call (Expr.Name (Str.ofString "abs") _) _ [] _) _); refine bl_abs (by assumption) rfl rfl rfl ?_)
        | ((with_reducible show Ev _ _ _ _ (Expr.Call (Expr.Name (Str.ofString "max") _) _ [] _) _); refine bl_max (by assumption) rfl rfl rfl ?_)
        | ((with_reducible show Ev _ _ _ _ (Expr.Call (Expr.Name (Str.ofString "min") _) _ [] _) _); refine bl_min (by assumption) rfl rfl rfl ?_)
        | ((with_reducible show Ev _ _ _ _ (Expr.Call (Expr.Name (Str.ofString "range") _) _ [] _) _); refine bl_range (by assumption) rfl rfl rfl ?_)
        | ((with_reducible show Ev _ _ _ _ (Expr.Call (Expr.Name (Str.ofString "tuple") _) _ [] _) _); (fail_if_success (with_reducible show Ev _ _ _ _ (Expr.Call _ [Expr.GeneratorExp _ _ _ _] _ _) _)); refine bl_tuple (by assumption) rfl rfl rfl ?_)
        | ((with_reducible show Ev _ _ _ _ (Expr.Call (Expr.Name (Str.ofString "list") _) _ [] _) _); refine bl_list (by assumption) rfl rfl rfl ?_)
        | ((with_reducible show Ev _ _ _ _ (Expr.Call (Expr.Name (Str.ofString "isinstance") _) _ [] _) _); refine bl_isinstance (by assumption) rfl rfl rfl ?_)
        | ((with_reducible show Ev _ _ _ _ (Expr.Call (Expr.Name (Str.ofString "_behind") _) _ [] _) _); refine cl_behind (by assumption) rfl rfl rfl ?_)
        | ((with_reducible show Ev _ _ _ _ (Expr.Call (Expr.Name (Str.ofString "_version_groups") _) _ [] _) _); refine cl_groups (by assumption) rfl rfl rfl ?_)
        | ((with_reducible show Ev _ _ _ _ (Expr.Call (Expr.Name (Str.ofString "_has_leading_zero") _) _ [] _) _); refine cl_hlz (by assumption) rfl rfl rfl ?_)
        | ((with_reducible show Ev _ _ _ _ (Expr.Call (Expr.Name (Str.ofString "MaxIdentifier") _) _ [] _) _); refine cl_max (by assumption) rfl rfl rfl ?_)
        | ((with_reducible show Ev _ _ _ _ (Expr.Call (Expr.Name (Str.ofString "NumericIdentifier") _) _ [] _) _); refine cl_num (by assumption) rfl rfl rfl ?_)
        | ((with_reducible show Ev _ _ _ _ (Expr.Call (Expr.Name (Str.ofString "AlphaIdentifier") _) _ [] _) _); refine cl_alpha (by assumption) rfl rfl rfl ?_)
        | ((with_reducible show Ev _ _ _ _ (Expr.Call (Expr.Name (Str.ofString "Version") _) _ [] _) _); refine cl_ver (by assumption) rfl rfl rfl ?_)
        | ((with_reducible show Ev _ _ _ _ (Expr.Call (Expr.Name (Str.ofString "_law_text") _) _ [] _) _); refine cl_ltext (by assumption) rfl rfl rfl ?_)
        | ((with_reducible show Ev _ _ _ _ (Expr.Call (Expr.Name (Str.ofString "_law_cut") _) _ [] _) _); refine cl_lcut (by assumption) rfl rfl rfl ?_)
        | ((with_reducible show Ev _ _ _ _ (Expr.Call (Expr.Name (Str.ofString "_law_key") _) _ [] _) _); refine cl_lkey (by assumption) rfl rfl rfl ?_)
        | ((with_reducible show Ev _ _ _ _ (Expr.Call (Expr.Name (Str.ofString "Version") _) _ _ _) _); refine ck_ver (by assumption) rfl rfl rfl rfl ?_))
      | ((with_reducible show Ev _ _ _ _ (Expr.Compare _ _ _ _) _); refine ev_cmp rfl ?_)
      | ((with_reducible show Ev _ _ _ _ (Expr.Call (Expr.Attribute _ _ _) _ [] _) _); first
        | ((with_reducible show Ev _ _ _ _ (Expr.Call (Expr.Attribute _ (Str.ofString "isdigit") _) _ [] _) _); refine ev_methv (by assumption) (fun _ => rfl) rfl (evv_dat ?_))
        | ((with_reducible show Ev _ _ _ _ (Expr.Call (Expr.Attribute _ (Str.ofString "split") _) _ [] _) _); refine ev_methv (by assumption) (fun _ => rfl) rfl (evv_dat ?_))
        | ((with_reducible show Ev _ _ _ _ (Expr.Call (Expr.Attribute _ (Str.ofString "join") _) _ [] _) _); refine ev_methv (by assumption) (fun _ => rfl) rfl (evv_dat ?_))
        | ((with_reducible show Ev _ _ _ _ (Expr.Call (Expr.Attribute _ (Str.ofString "encode") _) _ [] _) _); refine ev_methv (by assumption) (fun _ => rfl) rfl (evv_dat ?_)))
      | ((with_reducible show Ev _ _ _ _ (Expr.Attribute (Expr.Name _ _) _ _) _); first
        | ((with_reducible show Ev _ _ _ _ (Expr.Attribute (Expr.Name _ _) (Str.ofString "major") _) _); refine ev_attr (fun _ => rfl) (evv_nm rfl rfl rfl (attr_inst (by assumption) rfl at_major rfl rfl ?_)))
        | ((with_reducible show Ev _ _ _ _ (Expr.Attribute (Expr.Name _ _) (Str.ofString "minor") _) _); refine ev_attr (fun _ => rfl) (evv_nm rfl rfl rfl (attr_inst (by assumption) rfl at_minor rfl rfl ?_)))
        | ((with_reducible show Ev _ _ _ _ (Expr.Attribute (Expr.Name _ _) (Str.ofString "patch") _) _); refine ev_attr (fun _ => rfl) (evv_nm rfl rfl rfl (attr_inst (by assumption) rfl at_patch rfl rfl ?_)))
        | ((with_reducible show Ev _ _ _ _ (Expr.Attribute (Expr.Name _ _) (Str.ofString "prerelease") _) _); refine ev_attr (fun _ => rfl) (evv_nm rfl rfl rfl (attr_inst (by assumption) rfl at_pre rfl rfl ?_)))
        | ((with_reducible show Ev _ _ _ _ (Expr.Attribute (Expr.Name _ _) (Str.ofString "build") _) _); refine ev_attr (fun _ => rfl) (evv_nm rfl rfl rfl (attr_inst (by assumption) rfl at_build rfl rfl ?_)))
        | ((with_reducible show Ev _ _ _ _ (Expr.Attribute (Expr.Name _ _) (Str.ofString "partial") _) _); refine ev_attr (fun _ => rfl) (evv_nm rfl rfl rfl (attr_inst (by assumption) rfl at_partial rfl rfl ?_)))
        | ((with_reducible show Ev _ _ _ _ (Expr.Attribute (Expr.Name _ _) (Str.ofString "_cmp_precedence_key") _) _); refine ev_attr (fun _ => rfl) (evv_nm rfl rfl rfl (attr_inst (by assumption) rfl at_cmpk rfl rfl ?_))))
      | ((with_reducible show Ev _ _ _ _ (Expr.BoolOp BoolOp.And (_ :: _ :: _) _) _); refine ev_and ?_)
      | ((with_reducible show Ev _ _ _ _ (Expr.BoolOp BoolOp.Or (_ :: _ :: _) _) _); refine ev_or ?_)
      | ((with_reducible show Ev _ _ _ _ (Expr.BoolOp _ [_] _) _); refine ev_bool1 ?_)
      | ((with_reducible show Ev _ _ _ _ (Expr.BinOp _ _ _ _) _); refine ev_bin ?_)
      | ((with_reducible show Ev _ _ _ _ (Expr.Tuple _ _ _) _); refine ev_tup ?_)
      | ((with_reducible show Ev _ _ _ _ (Expr.List _ _) _); refine ev_list ?_)
      | ((with_reducible show Ev _ _ _ _ (Expr.UnaryOp UnaryOp.Not _ _) _); refine ev_not ?_)
      | ((with_reducible show Ev _ _ _ _ (Expr.UnaryOp _ _ _) _); refine ev_un ?_)
      | ((with_reducible show Ev _ _ _ _ (Expr.Subscript _ (Expr.Slice _ _ _ _) _) _); refine ev_cut ?_)
      | ((with_reducible show Ev _ _ _ _ (Expr.Subscript _ _ _) _); refine ev_item rfl ?_))
    | ((with_reducible show MethV _ _ _ _ _); first
      | refine m_isdigit ?_
      | refine m_split ?_
      | refine m_join ?_
      | refine m_encode ?_)
    | ((with_reducible show EvK _ _ _ _ _ _); first
      | refine evk_cons rfl ?_
      | refine evk_nil ?_)
    | ((with_reducible show EvL _ _ _ _ _ _); first
      | ((with_reducible show EvL _ _ _ _ (_ :: _) _); refine evl_cons rfl ?_)
      | refine evl_nil ?_)
    | ((with_reducible show Ex _ _ _ _ _ _); first
      | ((with_reducible show Ex _ _ _ _ (_ :: _) _); (try conv => arg 4; simp only [List.set_cons_succ, List.set_cons_zero]); refine ex_cons ?_)
      | refine ex_nil ?_)
    | ((with_reducible show Ex1 _ _ _ _ _ _); first
      | ((with_reducible show Ex1 _ _ _ _ (Stmt.If _ _ _ _) _); refine ex_if ?_)
      | ((with_reducible show Ex1 _ _ _ _ (Stmt.Return (some _) _) _); refine ex_return ?_)
      | ((with_reducible show Ex1 _ _ _ _ (Stmt.Assign [Expr.Name _ _] _ _) _); refine ex_as rfl rfl rfl (fun _ => rfl) ?_))
    | ((with_reducible show Two _ _ _ _ _ _); first
      | ((with_reducible show Two _ _ (binaryOp Operator.Add) _ _ _); refine i_add ?_)
      | ((with_reducible show Two _ _ (binaryOp Operator.Sub) _ _ _); refine i_sub ?_)
      | ((with_reducible show Two _ _ (binaryOp Operator.BitXor) _ _ _); refine b_xor ?_)
      | ((with_reducible show Two _ _ (compareOp CmpOp.Lt) _ _ _); refine i_lt ?_)
      | ((with_reducible show Two _ _ (compareOp CmpOp.Gt) _ _ _); refine i_gt ?_)
      | ((with_reducible show Two _ _ (compareOp CmpOp.LtE) _ _ _); refine i_le ?_)
      | ((with_reducible show Two _ _ (compareOp CmpOp.GtE) _ _ _); refine i_ge ?_)
      | ((with_reducible show Two _ _ (compareOp CmpOp.Is) _ _ _); refine is_no ?_)
      | ((with_reducible show Two _ _ (compareOp CmpOp.IsNot) _ _ _); refine isnt_no ?_)
      | ((with_reducible show Two _ _ (compareOp CmpOp.Eq) (D.int _) _ _); refine i_eq ?_)
      | ((with_reducible show Two _ _ (compareOp CmpOp.Eq) (D.str (T _)) _ _); refine s_eqT ?_)
      | ((with_reducible show Two _ _ (compareOp CmpOp.NotEq) (D.int _) _ _); refine i_ne ?_)
      | ((with_reducible show Two _ _ (compareOp CmpOp.NotEq) (D.str (T _)) _ _); refine s_neT ?_))
    | ((with_reducible show Tst _ _ _ _ _ _); first
      | ((with_reducible show Tst _ _ _ _ (Expr.Compare _ _ _ _) _); refine tst_cmp rfl ?_)
      | ((with_reducible show Tst _ _ _ _ (Expr.Name _ _) _); refine tst_of (fun _ _ => rfl) ?_)
      | ((with_reducible show Tst _ _ _ _ (Expr.Call _ _ _ _) _); refine tst_of (fun _ _ => rfl) ?_)
      | ((with_reducible show Tst _ _ _ _ (Expr.Attribute _ _ _) _); refine tst_of (fun _ _ => rfl) ?_)
      | ((with_reducible show Tst _ _ _ _ (Expr.BinOp _ _ _ _) _); refine tst_of (fun _ _ => rfl) ?_)
      | ((with_reducible show Tst _ _ _ _ (Expr.Subscript _ _ _) _); refine tst_of (fun _ _ => rfl) ?_)
      | ((with_reducible show Tst _ _ _ _ (Expr.BoolOp BoolOp.And [] _) _); refine tst_and_nil ?_)
      | ((with_reducible show Tst _ _ _ _ (Expr.BoolOp BoolOp.Or [] _) _); refine tst_or_nil ?_)
      | ((with_reducible show Tst _ _ _ _ (Expr.UnaryOp UnaryOp.Not _ _) _); refine tst_not ?_)
      | ((with_reducible show Tst _ _ _ _ (Expr.BoolOp BoolOp.And (_ :: _) _) _); refine tst_and ?_)
      | ((with_reducible show Tst _ _ _ _ (Expr.BoolOp BoolOp.Or (_ :: _) _) _); refine tst_or ?_))
    | ((with_reducible show EvP _ _ _ _ _ _); first
      | refine evp_some ?_
      | refine evp_none ?_)
    | ((with_reducible show Tru _ _ _ _); first
      | refine tru_T (by assumption) ?_
      | refine tru_bool ?_
      | refine tru_none ?_)
    | ((with_reducible show One _ _ (unaryOp UnaryOp.USub) _ _); refine i_neg ?_)
    | ((with_reducible show Cut _ _ (D.str (T _)) _ _ _); refine cut_T (by assumption) ?_)
    | ((with_reducible show CallV _ _ (Value.builtin "len") _ _ _); refine c_len_T (by assumption) ?_)
    | ((with_reducible show CallV _ _ (Value.builtin "str.isdigit") _ _ _); refine c_isdigit ?_)
    | ((with_reducible show ∃ _, _ ∧ _); refine ⟨_, rfl, ?_⟩))

theorem fi_iter : findIn (cx w h₁ os₁ GI).K (.ref 388) "__iter__" = some (some (.ref 313)) := by kernel_rfl
theorem ff_iter : isFn (cx w h₁ os₁ GI).K (.ref 313) = true := by kernel_rfl
theorem fi_len : findIn (cx w h₁ os₁ GI).K (.ref 388) "__len__" = some none := by kernel_rfl
theorem fi_hint : findIn (cx w h₁ os₁ GI).K (.ref 388) "__length_hint__" = some none := by kernel_rfl
theorem v_tuple (O : (cx w h₁ os₁ GI).Ok) (hGI : ∀ a b d, GI a d → (∀ y ∈ b, y ∈ a ∨ y.bare = true) → GI b d) {n : Nat} {A B C : Int} {pre bld : List (List Nat)} {Pq : D → Prop} (h : Pq (.tup [.int A, .int B, .int C, idsD pre, idsD bld])) :
    CallV (cx w h₁ os₁ GI) (n + 6) (.type "tuple") [.dat (verD A B C pre bld)] [] Pq := by
  refine' c_tuple_yields (n := n + 3) O hGI fi_iter ff_iter fi_len fi_hint [.int A, .int B, .int C, idsD pre, idsD bld] ?hlen ?hf ?hcode ?hco ?hgen ?hfc ?hn ?hb ?hel h
  case hf => exact rfl
  case hcode => kernel_rfl
  case hco => rfl
  case hgen => rfl
  case hfc => kernel_rfl
  case hn => rfl
  case hlen => have := sizeLine_eq; simp; omega
  case hb => exact fun s a => BindsTo.of_eq rfl
  refine .cons (fun GI' => ?_) (.cons (fun GI' => ?_) (.cons (fun GI' => ?_) (.cons (fun GI' => ?_) (.cons (fun GI' => ?_) .nil))))
  all_goals
    have O' : (cx w h₁ os₁ GI').Ok := O.to GI'
    show Ev (cx w h₁ os₁ GI') _ _ _ _ _
    repeat kd_subs
  all_goals rfl
def scmp : List (List Nat) → List (List Nat) → Ordering
  | [], [] => .eq
  | [], _ :: _ => .lt
  | _ :: _, [] => .gt
  | a :: l, b :: l' => (cmpN a b).then (scmp l l')
theorem strs_cmp {c : Cx} {n : Nat} : ∀ {l l' : List (List Nat)}, CmpL c n (l.map fun x => .str (T x)) (l'.map fun x => .str (T x)) (scmp l l')
  | [], [] => .nil
  | [], _ :: _ => .short
  | _ :: _, [] => .long
  | a :: l, b :: l' => .cons (cmp_str a b) strs_cmp
theorem then_eq {a b : Ordering} : (a.then b == .eq) = (a == .eq && b == .eq) := by cases a <;> cases b <;> rfl
theorem scmp_eq : ∀ {l l' : List (List Nat)}, (scmp l l' == .eq) = (l == l')
  | [], [] => rfl
  | [], _ :: _ => rfl
  | _ :: _, [] => rfl
  | a :: l, b :: l' => by
    show ((cmpN a b).then (scmp l l') == .eq) = _
    rw [then_eq, (cmpN_cases a b).1, scmp_eq (l := l)]
    rfl
theorem ci_v_eq : cmpIn (cx w h₁ os₁ GI).K 388 "__eq__" 350 = true := by kernel_rfl
theorem ci_v_ne : cmpIn (cx w h₁ os₁ GI).K 388 "__ne__" 357 = true := by kernel_rfl
theorem v_ne (O : (cx w h₁ os₁ GI).Ok) (hGI : ∀ a b d, GI a d → (∀ y ∈ b, y ∈ a ∨ y.bare = true) → GI b d) {n : Nat} {A B C A' B' C' : Int} {pre pre' bld bld' : List (List Nat)} :
    CallK (cx w h₁ os₁ GI) (n + 7) (.ref 357) [.dat (verD A B C pre bld), .dat (verD A' B' C' pre' bld')] [] (· = .raw (.bool (!(A == A' && (B == B' && (C == C' && (pre == pre' && bld == bld'))))))) := by
  refine' call_def O ?hf ?hc ?hs ?ρ ?hno ?hb ?_
  case hf => exact rfl
  case hc => kernel_rfl
  case hs => kernel_rfl
  case ρ => exact [some (.dat (verD A B C pre bld)), some (.dat (verD A' B' C' pre' bld'))]
  case hno => exact rfl
  case hb =>
    rintro X s vs kvs I ⟨v1, _, rfl, r1, v2, _, rfl, r2, rfl⟩ rk
    have e : kvs = [] := rk
    subst e
    refine ⟨_, BindsTo.of_eq rfl, rfl, ⟨⟨_, rfl, r1⟩, .inl rfl⟩, ⟨⟨_, rfl, r2⟩, .inl rfl⟩, trivial⟩
  repeat kd_subs
  refine c_isi O ii_vv ?_
  repeat kd_subs
  rw [if_neg (by simp)]
  repeat kd_subs
  refine v_tuple O hGI ?_
  repeat kd_subs
  refine v_tuple O hGI ?_
  refine Two.mono (CmpL.tne (n := n + 5) (.cons (cmp_int A A') (.cons (cmp_int B B') (.cons (cmp_int C C') (.cons (CmpL.r (n := n + 4) strs_cmp) (.cons (CmpL.r (n := n + 4) strs_cmp) .nil)))))) fun d e => ?_
  rw [e]
  have hb : ∀ {o : Ordering}, (o != .eq) = !(o == .eq) := rfl
  rw [hb, then_eq, then_eq, then_eq, then_eq, then_eq, (int_cases A A').1, (int_cases B B').1, (int_cases C C').1, scmp_eq, scmp_eq]
  simp
  rfl
theorem v_eq (O : (cx w h₁ os₁ GI).Ok) {n : Nat} {A B C A' B' C' : Int} {pre pre' bld bld' : List (List Nat)} (lp : pre.length ≤ 100) (lp' : pre'.length ≤ 100) (lb : bld.length ≤ 100) (lb' : bld'.length ≤ 100) :
    CallK (cx w h₁ os₁ GI) (n + 7) (.ref 350) [.dat (verD A B C pre bld), .dat (verD A' B' C' pre' bld')] [] (· = .raw (.bool (A == A' && (B == B' && (C == C' && (pre == pre' && bld == bld')))))) := by
  have szl := sizeLine_eq
  refine' call_def O ?hf ?hc ?hs ?ρ ?hno ?hb ?_
  case hf => exact rfl
  case hc => kernel_rfl
  case hs => kernel_rfl
  case ρ => exact [some (.dat (verD A B C pre bld)), some (.dat (verD A' B' C' pre' bld'))]
  case hno => exact rfl
  case hb =>
    rintro X s vs kvs I ⟨v1, _, rfl, r1, v2, _, rfl, r2, rfl⟩ rk
    have e : kvs = [] := rk
    subst e
    refine ⟨_, BindsTo.of_eq rfl, rfl, ⟨⟨_, rfl, r1⟩, .inl rfl⟩, ⟨⟨_, rfl, r2⟩, .inl rfl⟩, trivial⟩
  repeat kd_subs
  refine c_isi O ii_vv ?_
  repeat kd_subs
  rw [if_neg (by simp)]
  repeat kd_subs
  by_cases hA : A = A'
  case neg =>
    rw [if_neg (by simpa using hA), show (A == A') = false from by simpa using hA]
    rfl
  rw [if_pos (by simpa using hA), show (A == A') = true from by simpa using hA]
  repeat kd_subs
  by_cases hB : B = B'
  case neg =>
    rw [if_neg (by simpa using hB), show (B == B') = false from by simpa using hB]
    rfl
  rw [if_pos (by simpa using hB), show (B == B') = true from by simpa using hB]
  repeat kd_subs
  by_cases hC : C = C'
  case neg =>
    rw [if_neg (by simpa using hC), show (C == C') = false from by simpa using hC]
    rfl
  rw [if_pos (by simpa using hC), show (C == C') = true from by simpa using hC]
  refine ev_and (ev_cmp rfl (Ev.mono (Pq := fun d => d = idsD pre) ?_ ?_))
  · repeat kd_subs
    refine tru_tup (by rw [List.length_map]; omega) ?_
    by_cases e : pre = []
    · subst e
      rw [if_neg (by simp)]
      repeat kd_subs
      exact ⟨by simp, rfl⟩
    · rw [if_pos (by simpa using e)]
  rintro _ rfl
  refine Ev.mono (Pq := fun d => d = idsD pre') ?_ ?_
  · repeat kd_subs
    refine tru_tup (by rw [List.length_map]; omega) ?_
    by_cases e : pre' = []
    · subst e
      rw [if_neg (by simp)]
      repeat kd_subs
      exact ⟨by simp, rfl⟩
    · rw [if_pos (by simpa using e)]
  rintro _ rfl
  refine Two.mono (CmpL.r (n := n + 5) strs_cmp).eq fun d e => ?_
  subst e
  refine tru_bool ?_
  rw [scmp_eq]
  by_cases hp : pre = pre'
  case neg =>
    rw [if_neg (by simpa using hp), show (pre == pre') = false from by simpa using hp]
    rfl
  rw [if_pos (by simpa using hp), show (pre == pre') = true from by simpa using hp]
  refine ev_bool1 (ev_cmp rfl (Ev.mono (Pq := fun d => d = idsD bld) ?_ ?_))
  · repeat kd_subs
    refine tru_tup (by rw [List.length_map]; omega) ?_
    by_cases e : bld = []
    · subst e
      rw [if_neg (by simp)]
      repeat kd_subs
      exact ⟨by simp, rfl⟩
    · rw [if_pos (by simpa using e)]
  rintro _ rfl
  refine Ev.mono (Pq := fun d => d = idsD bld') ?_ ?_
  · repeat kd_subs
    refine tru_tup (by rw [List.length_map]; omega) ?_
    by_cases e : bld' = []
    · subst e
      rw [if_neg (by simp)]
      repeat kd_subs
      exact ⟨by simp, rfl⟩
    · rw [if_pos (by simpa using e)]
  rintro _ rfl
  refine Two.mono (CmpL.r (n := n + 5) strs_cmp).eq fun d e => ?_
  subst e
  rw [scmp_eq]
  rfl
def Ver.same (v v' : Ver) : Bool := v.A == v'.A && (v.B == v'.B && (v.C == v'.C && (v.p == v'.p && v.b == v'.b)))
theorem Ver.same_self (v : Ver) : v.same v = true := by unfold Ver.same; simp
theorem two_ne (O : (cx w h₁ os₁ GI).Ok) (hGI : ∀ a b d, GI a d → (∀ y ∈ b, y ∈ a ∨ y.bare = true) → GI b d) {n : Nat} {v v' : Ver} {Pq : D → Prop} (h : Pq (.raw (.bool (!v.same v')))) :
    Two (cx w h₁ os₁ GI) (n + 7) (compareOp .NotEq) v.d v'.d Pq :=
  (two_b (cmp_own O (op := .NotEq) nf_vv ci_v_ne ((v_ne O hGI).v.mono (cf_bool rfl)) fun q => q.elim)).mono fun d e => by rw [e]; exact h
theorem two_eq (O : (cx w h₁ os₁ GI).Ok) {n : Nat} {v v' : Ver} {Pq : D → Prop} (lp : v.p.length ≤ 100) (lp' : v'.p.length ≤ 100) (lb : v.b.length ≤ 100) (lb' : v'.b.length ≤ 100) (h : Pq (.raw (.bool (v.same v')))) :
    Two (cx w h₁ os₁ GI) (n + 7) (compareOp .Eq) v.d v'.d Pq :=
  (two_b (cmp_own O (op := .Eq) nf_vv ci_v_eq ((v_eq O lp lp' lb lb').v.mono (cf_bool rfl)) fun q => q.elim)).mono fun d e => by rw [e]; exact h
end
end Mine
end
section
set_option maxHeartbeats 0
namespace Mine
open PySem PySem.W PySem.Calls PyProof.Rows Builtin
section
variable {w : World} {h₁ : Heap} {os₁ : OsState} {GI : Array GenState → Drawn → Prop}
local macro_rules
  | `(tactic| kd_subs) => `(tactic| first
    | ((with_reducible show Ev _ _ _ _ _ _); first
      | ((with_reducible show Ev _ _ _ _ (Expr.Name _ _) _); first
        | ((with_reducible show Ev _ _ _ _ (Expr.Name (Str.ofString "_DIGITS") _) _); refine nm_digits (by assumption) rfl rfl ?_)
        | ((with_reducible show Ev _ _ _ _ (Expr.Name (Str.ofString "_SIGNS") _) _); refine nm_signs (by assumption) rfl rfl ?_)
        | ((with_reducible show Ev _ _ _ _ (Expr.Name (Str.ofString "Version") _) _); refine nm_ver (by assumption) rfl rfl ?_)
        | ((with_reducible show Ev _ _ _ _ (Expr.Name (Str.ofString "MaxIdentifier") _) _); refine nm_max (by assumption) rfl rfl ?_)
        | ((with_reducible show Ev _ _ _ _ (Expr.Name (Str.ofString "NumericIdentifier") _) _); refine nm_num (by assumption) rfl rfl ?_)
        | ((with_reducible show Ev _ _ _ _ (Expr.Name (Str.ofString "AlphaIdentifier") _) _); refine nm_alpha (by assumption) rfl rfl ?_)
        | ((with_reducible show Ev _ _ _ _ (Expr.Name (Str.ofString "NotImplemented") _) _); refine nm_ni (by assumption) rfl rfl ?_)
        | refine ev_nm rfl rfl rfl ?_)
      | ((with_reducible show Ev _ _ _ _ (Expr.Constant _ _ _) _); first
        | ((with_reducible show Ev _ _ _ _ (Expr.Constant (Const.int _) _ _) _); refine ev_int ?_)
        | ((with_reducible show Ev _ _ _ _ (Expr.Constant Const.none _ _) _); refine ev_none ?_)
        | ((with_reducible show Ev _ _ _ _ (Expr.Constant (Const.bool _) _ _) _); refine ev_bool ?_)
        | ((with_reducible show Ev _ _ _ _ (Expr.Constant (Const.str (Str.ofString ".")) _ _) _); refine ev_strT lit_dot ?_)
        | ((with_reducible show Ev _ _ _ _ (Expr.Constant (Const.str (Str.ofString "-")) _ _) _); refine ev_strT lit_dash ?_)
        | ((with_reducible show Ev _ _ _ _ (Expr.Constant (Const.str (Str.ofString "+")) _ _) _); refine ev_strT lit_plus ?_)
        | ((with_reducible show Ev _ _ _ _ (Expr.Constant (Const.str (Str.ofString "\n")) _ _) _); refine ev_strT lit_nl ?_)
        | ((with_reducible show Ev _ _ _ _ (Expr.Constant (Const.str (Str.ofString "")) _ _) _); refine ev_strT lit_empty ?_)
        | ((with_reducible show Ev _ _ _ _ (Expr.Constant (Const.str (Str.ofString "0")) _ _) _); refine ev_strT lit_zero ?_))
      | ((with_reducible show Ev _ _ _ _ (Expr.Call (Expr.Name _ _) _ _ _) _); first
        | ((with_reducible show Ev _ _ _ _ (Expr.Call (Expr.Name (Str.ofString "len") _) _ [] _) _); refine bl_len (by assumption) rfl rfl rfl ?_)
        | ((with_reducible show Ev _ _ _ _ (Expr.Call (Expr.Name (Str.ofString "int") _) _ [] _) _); refine bl_int (by assumption) rfl rfl rfl ?_)
        | ((with_reducible show Ev _ _ _ _ (Expr.Call (Expr.Name (Str.ofString "str") _) _ [] _) _); refine bl_str (by assumption) rfl rfl rfl ?_)
        | ((with_reducible show Ev _ _ _ _ (Expr.Call (Expr.Name (Str.ofString "abs") _) _ [] _) _); refine bl_abs (by assumption) rfl rfl rfl ?_)
        | ((with_reducible show Ev _ _ _ _ (Expr.Call (Expr.Name (Str.ofString "max") _) _ [] _) _); refine bl_max (by assumption) rfl rfl rfl ?_)
        | ((with_reducible show Ev _ _ _ _ (Expr.Call (Expr.Name (Str.ofString "min") _) _ [] _) _); refine bl_min (by assumption) rfl rfl rfl ?_)
        | ((with_reducible show Ev _ _ _ _ (Expr.Call (Expr.Name (Str.ofString "range") _) _ [] _) _); refine bl_range (by assumption) rfl rfl rfl ?_)
        | ((with_reducible show Ev _ _ _ _ (Expr.Call (Expr.Name (Str.ofString "tuple") _) _ [] _) _); (fail_if_success (with_reducible show Ev _ _ _ _ (Expr.Call _ [Expr.GeneratorExp _ _ _ _] _ _) _)); refine bl_tuple (by assumption) rfl rfl rfl ?_)
        | ((with_reducible show Ev _ _ _ _ (Expr.Call (Expr.Name (Str.ofString "list") _) _ [] _) _); refine bl_list (by assumption) rfl rfl rfl ?_)
        | ((with_reducible show Ev _ _ _ _ (Expr.Call (Expr.Name (Str.ofString "isinstance") _) _ [] _) _); refine bl_isinstance (by assumption) rfl rfl rfl ?_)
        | ((with_reducible show Ev _ _ _ _ (Expr.Call (Expr.Name (Str.ofString "_behind") _) _ [] _) _); refine cl_behind (by assumption) rfl rfl rfl ?_)
        | ((with_reducible show Ev _ _ _ _ (Expr.Call (Expr.Name (Str.ofString "_version_groups") _) _ [] _) _); refine cl_groups (by assumption) rfl rfl rfl ?_)
        | ((with_reducible show Ev _ _ _ _ (Expr.Call (Expr.Name (Str.ofString "_has_leading_zero") _) _ [] _) _); refine cl_hlz (by assumption) rfl rfl rfl ?_)
        | ((with_reducible show Ev _ _ _ _ (Expr.Call (Expr.Name (Str.ofString "MaxIdentifier") _) _ [] _) _); refine cl_max (by assumption) rfl rfl rfl ?_)
        | ((with_reducible show Ev _ _ _ _ (Expr.Call (Expr.Name (Str.ofString "NumericIdentifier") _) _ [] _) _); refine cl_num (by assumption) rfl rfl rfl ?_)
        | ((with_reducible show Ev _ _ _ _ (Expr.Call (Expr.Name (Str.ofString "AlphaIdentifier") _) _ [] _) _); refine cl_alpha (by assumption) rfl rfl rfl ?_)
        | ((with_reducible show Ev _ _ _ _ (Expr.Call (Expr.Name (Str.ofString "Version") _) _ [] _) _); refine cl_ver (by assumption) rfl rfl rfl ?_)
        | ((with_reducible show Ev _ _ _ _ (Expr.Call (Expr.Name (Str.ofString "_law_text") _) _ [] _) _); refine cl_ltext (by assumption) rfl rfl rfl ?_)
        | ((with_reducible show Ev _ _ _ _ (Expr.Call (Expr.Name (Str.ofString "_law_cut") _) _ [] _) _); refine cl_lcut (by assumption) rfl rfl rfl ?_)
        | ((with_reducible show Ev _ _ _ _ (Expr.Call (Expr.Name (Str.ofString "_law_key") _) _ [] _) _); refine cl_lkey (by assumption) rfl rfl rfl ?_)
        | ((with_reducible show Ev _ _ _ _ (Expr.Call (Expr.Name (Str.ofString "Version") _) _ _ _) _); refine ck_ver (by assumption) rfl rfl rfl rfl ?_))
      | ((with_reducible show Ev _ _ _ _ (Expr.Compare _ _ _ _) _); refine ev_cmp rfl ?_)
      | ((with_reducible show Ev _ _ _ _ (Expr.Call (Expr.Attribute _ _ _) _ [] _) _); first
        | ((with_reducible show Ev _ _ _ _ (Expr.Call (Expr.Attribute _ (Str.ofString "isdigit") _) _ [] _) _); refine ev_methv (by assumption) (fun _ => rfl) rfl (evv_dat ?_))
        | ((with_reducible show Ev _ _ _ _ (Expr.Call (Expr.Attribute _ (Str.ofString "split") _) _ [] _) _); refine ev_methv (by assumption) (fun _ => rfl) rfl (evv_dat ?_))
        | ((with_reducible show Ev _ _ _ _ (Expr.Call (Expr.Attribute _ (Str.ofString "join") _) _ [] _) _); refine ev_methv (by assumption) (fun _ => rfl) rfl (evv_dat ?_))
        | ((with_reducible show Ev _ _ _ _ (Expr.Call (Expr.Attribute _ (Str.ofString "encode") _) _ [] _) _); refine ev_methv (by assumption) (fun _ => rfl) rfl (evv_dat ?_)))
      | ((with_reducible show Ev _ _ _ _ (Expr.Attribute (Expr.Name _ _) _ _) _); first
        | ((with_reducible show Ev _ _ _ _ (Expr.Attribute (Expr.Name _ _) (Str.ofString "major") _) _); refine ev_attr (fun _ => rfl) (evv_nm rfl rfl rfl (attr_inst (by assumption) rfl at_major rfl rfl ?_)))
        | ((with_reducible show Ev _ _ _ _ (Expr.Attribute (Expr.Name _ _) (Str.ofString "minor") _) _); refine ev_attr (fun _ => rfl) (evv_nm rfl rfl rfl (attr_inst (by assumption) rfl at_minor rfl rfl ?_)))
        | ((with_reducible show Ev _ _ _ _ (Expr.Attribute (Expr.Name _ _) (Str.ofString "patch") _) _); refine ev_attr (fun _ => rfl) (evv_nm rfl rfl rfl (attr_inst (by assumption) rfl at_patch rfl rfl ?_)))
        | ((with_reducible show Ev _ _ _ _ (Expr.Attribute (Expr.Name _ _) (Str.ofString "prerelease") _) _); refine ev_attr (fun _ => rfl) (evv_nm rfl rfl rfl (attr_inst (by assumption) rfl at_pre rfl rfl ?_)))
        | ((with_reducible show Ev _ _ _ _ (Expr.Attribute (Expr.Name _ _) (Str.ofString "build") _) _); refine ev_attr (fun _ => rfl) (evv_nm rfl rfl rfl (attr_inst (by assumption) rfl at_build rfl rfl ?_)))
        | ((with_reducible show Ev _ _ _ _ (Expr.Attribute (Expr.Name _ _) (Str.ofString "partial") _) _); refine ev_attr (fun _ => rfl) (evv_nm rfl rfl rfl (attr_inst (by assumption) rfl at_partial rfl rfl ?_)))
        | ((with_reducible show Ev _ _ _ _ (Expr.Attribute (Expr.Name _ _) (Str.ofString "_cmp_precedence_key") _) _); refine ev_attr (fun _ => rfl) (evv_nm rfl rfl rfl (attr_inst (by assumption) rfl at_cmpk rfl rfl ?_))))
      | ((with_reducible show Ev _ _ _ _ (Expr.BoolOp BoolOp.And (_ :: _ :: _) _) _); refine ev_and ?_)
      | ((with_reducible show Ev _ _ _ _ (Expr.BoolOp BoolOp.Or (_ :: _ :: _) _) _); refine ev_or ?_)
      | ((with_reducible show Ev _ _ _ _ (Expr.BoolOp _ [_] _) _); refine ev_bool1 ?_)
      | ((with_reducible show Ev _ _ _ _ (Expr.BinOp _ _ _ _) _); refine ev_bin ?_)
      | ((with_reducible show Ev _ _ _ _ (Expr.Tuple _ _ _) _); refine ev_tup ?_)
      | ((with_reducible show Ev _ _ _ _ (Expr.List _ _) _); refine ev_list ?_)
      | ((with_reducible show Ev _ _ _ _ (Expr.UnaryOp UnaryOp.Not _ _) _); refine ev_not ?_)
      | ((with_reducible show Ev _ _ _ _ (Expr.UnaryOp _ _ _) _); refine ev_un ?_)
      | ((with_reducible show Ev _ _ _ _ (Expr.Subscript _ (Expr.Slice _ _ _ _) _) _); refine ev_cut ?_)
      | ((with_reducible show Ev _ _ _ _ (Expr.Subscript _ _ _) _); refine ev_item rfl ?_))
    | ((with_reducible show MethV _ _ _ _ _); first
      | refine m_isdigit ?_
      | refine m_split ?_
      | refine m_join ?_
      | refine m_encode ?_)
    | ((with_reducible show EvK _ _ _ _ _ _); first
      | refine evk_cons rfl ?_
      | refine evk_nil ?_)
    | ((with_reducible show EvL _ _ _ _ _ _); first
      | ((with_reducible show EvL _ _ _ _ (_ :: _) _); refine evl_cons rfl ?_)
      | refine evl_nil ?_)
    | ((with_reducible show Ex _ _ _ _ _ _); first
      | ((with_reducible show Ex _ _ _ _ (_ :: _) _); (try conv => arg 4; simp only [List.set_cons_succ, List.set_cons_zero]); refine ex_cons ?_)
      | refine ex_nil ?_)
    | ((with_reducible show Ex1 _ _ _ _ _ _); first
      | ((with_reducible show Ex1 _ _ _ _ (Stmt.If _ _ _ _) _); refine ex_if ?_)
      | ((with_reducible show Ex1 _ _ _ _ (Stmt.Return (some _) _) _); refine ex_return ?_)
      | ((with_reducible show Ex1 _ _ _ _ (Stmt.Assign [Expr.Name _ _] _ _) _); refine ex_as rfl rfl rfl (fun _ => rfl) ?_))
    | ((with_reducible show Two _ _ _ _ _ _); first
      | ((with_reducible show Two _ _ (binaryOp Operator.Add) _ _ _); refine i_add ?_)
      | ((with_reducible show Two _ _ (binaryOp Operator.Sub) _ _ _); refine i_sub ?_)
      | ((with_reducible show Two _ _ (binaryOp Operator.BitXor) _ _ _); refine b_xor ?_)
      | ((with_reducible show Two _ _ (compareOp CmpOp.Lt) _ _ _); refine i_lt ?_)
      | ((with_reducible show Two _ _ (compareOp CmpOp.Gt) _ _ _); refine i_gt ?_)
      | ((with_reducible show Two _ _ (compareOp CmpOp.LtE) _ _ _); refine i_le ?_)
      | ((with_reducible show Two _ _ (compareOp CmpOp.GtE) _ _ _); refine i_ge ?_)
      | ((with_reducible show Two _ _ (compareOp CmpOp.Is) _ _ _); refine is_no ?_)
      | ((with_reducible show Two _ _ (compareOp CmpOp.IsNot) _ _ _); refine isnt_no ?_)
      | ((with_reducible show Two _ _ (compareOp CmpOp.Eq) (D.int _) _ _); refine i_eq ?_)
      | ((with_reducible show Two _ _ (compareOp CmpOp.Eq) (D.str (T _)) _ _); refine s_eqT ?_)
      | ((with_reducible show Two _ _ (compareOp CmpOp.NotEq) (D.int _) _ _); refine i_ne ?_)
      | ((with_reducible show Two _ _ (compareOp CmpOp.NotEq) (D.str (T _)) _ _); refine s_neT ?_))
    | ((with_reducible show Tst _ _ _ _ _ _); first
      | ((with_reducible show Tst _ _ _ _ (Expr.Compare _ _ _ _) _); refine tst_cmp rfl ?_)
      | ((with_reducible show Tst _ _ _ _ (Expr.Name _ _) _); refine tst_of (fun _ _ => rfl) ?_)
      | ((with_reducible show Tst _ _ _ _ (Expr.Call _ _ _ _) _); refine tst_of (fun _ _ => rfl) ?_)
      | ((with_reducible show Tst _ _ _ _ (Expr.Attribute _ _ _) _); refine tst_of (fun _ _ => rfl) ?_)
      | ((with_reducible show Tst _ _ _ _ (Expr.BinOp _ _ _ _) _); refine tst_of (fun _ _ => rfl) ?_)
      | ((with_reducible show Tst _ _ _ _ (Expr.Subscript _ _ _) _); refine tst_of (fun _ _ => rfl) ?_)
      | ((with_reducible show Tst _ _ _ _ (Expr.BoolOp BoolOp.And [] _) _); refine tst_and_nil ?_)
      | ((with_reducible show Tst _ _ _ _ (Expr.BoolOp BoolOp.Or [] _) _); refine tst_or_nil ?_)
      | ((with_reducible show Tst _ _ _ _ (Expr.UnaryOp UnaryOp.Not _ _) _); refine tst_not ?_)
      | ((with_reducible show Tst _ _ _ _ (Expr.BoolOp BoolOp.And (_ :: _) _) _); refine tst_and ?_)
      | ((with_reducible show Tst _ _ _ _ (Expr.BoolOp BoolOp.Or (_ :: _) _) _); refine tst_or ?_))
    | ((with_reducible show EvP _ _ _ _ _ _); first
      | refine evp_some ?_
      | refine evp_none ?_)
    | ((with_reducible show Tru _ _ _ _); first
      | refine tru_T (by assumption) ?_
      | refine tru_bool ?_
      | refine tru_none ?_)
    | ((with_reducible show One _ _ (unaryOp UnaryOp.USub) _ _); refine i_neg ?_)
    | ((with_reducible show Cut _ _ (D.str (T _)) _ _ _); refine cut_T (by assumption) ?_)
    | ((with_reducible show CallV _ _ (Value.builtin "len") _ _ _); refine c_len_T (by assumption) ?_)
    | ((with_reducible show CallV _ _ (Value.builtin "str.isdigit") _ _ _); refine c_isdigit ?_)
    | ((with_reducible show ∃ _, _ ∧ _); refine ⟨_, rfl, ?_⟩))

def intL (l : List Int) : D := .list (l.map .int)
def Ver.row (v : Ver) : D := .tup [intL [v.A, v.B, v.C], strL v.p, strL v.b]
/-- what a row's version needs -/
structure Ver.Ok (v : Ver) : Prop where
  a : 0 ≤ v.A ∧ v.A < 10
  b : 0 ≤ v.B ∧ v.B < 10
  c : 0 ≤ v.C ∧ v.C < 10
  w : GoodL false v.p
  bl : GoodL true v.b
def Ver.text (v : Ver) : List Nat := vtext (decL v.A) (decL v.B) (decL v.C) v.p v.b
theorem one_small {A : Int} (h : 0 ≤ A ∧ A < 10) : Num (decL A) A ∧ Shn A ∧ (decL A).length ≤ 40 := by
  have h1 : A < 10 ^ 100 := by omega
  exact ⟨num_of h.1 h1, shn_of h.1 h1, Nat.le_trans (dec_100 h.1 (k := 10) (by decide) (by omega)) (by decide)⟩
theorem row_item {c : Cx} {n : Nat} {v : Ver} {Pq : D → Prop} {j : Nat} {d : D} (e : ([intL [v.A, v.B, v.C], strL v.p, strL v.b] : List D)[j]? = some d) (h : Pq d) : Item c n v.row (.int (j : Int)) Pq :=
  item_t (l := [intL [v.A, v.B, v.C], strL v.p, strL v.b]) (by omega) (by have := (List.getElem?_eq_some_iff.mp e).1; simp at this; omega) (by rw [Int.toNat_natCast]; exact e) h
theorem law_text (O : (cx w h₁ os₁ GI).Ok) {n : Nat} {v : Ver} {Pq : D → Prop} (ok : v.Ok) (h : Pq (.str (T v.text))) :
    CallK (cx w h₁ os₁ GI) (n + 5) (.ref 405) [.dat v.row] [] Pq := by
  have szl := sizeLine_eq
  have hA := one_small ok.a
  have hB := one_small ok.b
  have hC := one_small ok.c
  have lA := hA.2.2
  have lB := hB.2.2
  have lC := hC.2.2
  have jp := ok.w.jn
  have jb := ok.bl.jn
  refine' call_def O ?hf ?hc ?hs ?ρ ?hno ?hb ?_
  case hf => exact rfl
  case hc => kernel_rfl
  case hs => kernel_rfl
  case ρ => exact [some (.dat v.row)]
  case hno => exact rfl
  case hb =>
    rintro X s vs kvs I ⟨v1, _, rfl, r1, rfl⟩ rk
    have e : kvs = [] := rk
    subst e
    refine ⟨_, BindsTo.of_eq rfl, rfl, ⟨⟨_, rfl, r1⟩, .inl rfl⟩, trivial⟩
  repeat kd_subs
  refine ev_comp [none, none, none] rfl rfl rfl ?_
  repeat kd_subs
  refine row_item (j := 0) rfl ?_
  refine ⟨_, .list, ?_⟩
  refine comp_map (i := 1) rfl rfl rfl (l := [v.A, v.B, v.C]) (g := .int) (F := fun x => .str (T (decL x))) (by simp [szl]) (fun x hx => ?_) ?_
  · have hx : x.natAbs.log2 < 1920 := by
      simp only [List.mem_cons, List.not_mem_nil, or_false] at hx
      rcases hx with rfl | rfl | rfl
      · exact hA.2.1.log
      · exact hB.2.1.log
      · exact hC.2.1.log
    repeat kd_subs
    exact c_str_i hx (by rw [decL_T])
  rw [show ([v.A, v.B, v.C].map fun x => D.str (T (decL x))) = ([decL v.A, decL v.B, decL v.C] : List (List Nat)).map fun x => .str (T x) from rfl]
  repeat kd_subs
  refine join_list (by simp) (fun x hx => ?_) ?_
  · simp only [List.mem_cons, List.not_mem_nil, or_false] at hx
    rcases hx with rfl | rfl | rfl <;> omega
  rw [show jn [decL v.A, decL v.B, decL v.C] = decL v.A ++ 46 :: (decL v.B ++ 46 :: decL v.C) from rfl]
  refine Ev.mono (Pq := fun d => d = .str (T (if v.p = [] then [] else 45 :: jn v.p))) (ev_if ?_) ?_
  · repeat kd_subs
    refine row_item (j := 1) rfl ?_
    repeat kd_subs
    refine ⟨by simp, l_ne_nil (n := n + 2) ?_⟩
    repeat kd_subs
    by_cases q : v.p = []
    · rw [if_neg (by simp [q]), if_pos q]
      repeat kd_subs
      rfl
    · rw [if_pos (by simpa using q), if_neg q]
      repeat kd_subs
      refine row_item (j := 1) rfl ?_
      repeat kd_subs
      refine join_list (by have := ok.w.few; omega) ok.w.short ?_
      exact s_addT (by simp; omega) rfl
  rintro _ rfl
  have lq : (if v.p = [] then [] else 45 :: jn v.p).length ≤ 405 := by split <;> simp <;> omega
  refine s_addT (by simp only [List.length_append, List.length_cons]; omega) ?_
  refine Ev.mono (Pq := fun d => d = .str (T (if v.b = [] then [] else 43 :: jn v.b))) (ev_if ?_) ?_
  · repeat kd_subs
    refine row_item (j := 2) rfl ?_
    repeat kd_subs
    refine ⟨by simp, l_ne_nil (n := n + 2) ?_⟩
    repeat kd_subs
    by_cases q : v.b = []
    · rw [if_neg (by simp [q]), if_pos q]
      repeat kd_subs
      rfl
    · rw [if_pos (by simpa using q), if_neg q]
      repeat kd_subs
      refine row_item (j := 2) rfl ?_
      repeat kd_subs
      refine join_list (by have := ok.bl.few; omega) ok.bl.short ?_
      exact s_addT (by simp; omega) rfl
  rintro _ rfl
  have lr : (if v.b = [] then [] else 43 :: jn v.b).length ≤ 405 := by split <;> simp <;> omega
  refine s_addT (by simp only [List.length_append, List.length_cons]; omega) ?_
  rw [show (decL v.A ++ 46 :: (decL v.B ++ 46 :: decL v.C) ++ (if v.p = [] then [] else 45 :: jn v.p) ++ (if v.b = [] then [] else 43 :: jn v.b)) = v.text from by unfold Ver.text vtext tailOf; simp]
  exact h
theorem law_cut (O : (cx w h₁ os₁ GI).Ok) {n : Nat} {v : Ver} {i : Nat} {Pq : D → Prop} (hi : i < 5) (h : Pq (v.cut i).row) :
    CallK (cx w h₁ os₁ GI) (n + 5) (.ref 400) [.dat v.row, .dat (.int (i : Int))] [] Pq := by
  have szl := sizeLine_eq
  refine' call_def O ?hf ?hc ?hs ?ρ ?hno ?hb ?_
  case hf => exact rfl
  case hc => kernel_rfl
  case hs => kernel_rfl
  case ρ => exact [some (.dat v.row), some (.dat (.int (i : Int))), none, none, none]
  case hno => exact rfl
  case hb =>
    rintro X s vs kvs I ⟨v1, _, rfl, r1, v2, _, rfl, r2, rfl⟩ rk
    have e : kvs = [] := rk
    subst e
    refine ⟨_, BindsTo.of_eq rfl, rfl, ⟨⟨_, rfl, r1⟩, .inl rfl⟩, ⟨⟨_, rfl, r2⟩, .inl rfl⟩, trivial⟩
  refine ex_cons (ex_unpack (fun _ => rfl) (fun _ => rfl) (ev_nm rfl rfl rfl ?_))
  refine asg_tuple rfl .tup rfl (asgl_cons (asg_n rfl rfl rfl (asgl_cons (asg_n rfl rfl rfl (asgl_cons (asg_n rfl rfl rfl (asgl_nil ?_)))))))
  repeat kd_subs
  have hi5 : i = 0 ∨ i = 1 ∨ i = 2 ∨ i = 3 ∨ i = 4 := by omega
  rcases hi5 with rfl | rfl | rfl | rfl | rfl
  case inr.inr.inr.inr =>
    rw [if_pos (by rfl)]
    repeat kd_subs
    refine ⟨by simp [szl], ?_⟩
    exact h
  all_goals
    rw [if_neg (by decide)]
    repeat kd_subs
  case inr.inr.inr.inl =>
    rw [if_pos (by rfl)]
    repeat kd_subs
    refine ⟨by simp [szl], ?_⟩
    repeat kd_subs
    refine ⟨by simp [szl], ?_⟩
    exact h
  all_goals
    rw [if_neg (by decide)]
    repeat kd_subs
    refine cut_l (by simp [szl]) ?_
    repeat kd_subs
    refine ⟨by simp [szl], ?_⟩
    repeat kd_subs
    refine l_mul (by decide) (by decide) (by decide) ?_
    refine l_add (show (3 : Nat) ≤ sizeLine from by rw [szl]; decide) ?_
    repeat kd_subs
    refine ⟨by simp [szl], ?_⟩
    repeat kd_subs
    refine ⟨by simp [szl], ?_⟩
    repeat kd_subs
    refine ⟨by simp [szl], ?_⟩
    exact h
end
end Mine
end
section
set_option maxHeartbeats 0
namespace Mine
open PySem PySem.W PySem.Calls PyProof.Rows Builtin
section
variable {w : World} {h₁ : Heap} {os₁ : OsState} {GI : Array GenState → Drawn → Prop}
local macro_rules
  | `(tactic| kd_subs) => `(tactic| first
    | ((with_reducible show Ev _ _ _ _ _ _); first
      | ((with_reducible show Ev _ _ _ _ (Expr.Name _ _) _); first
        | ((with_reducible show Ev _ _ _ _ (Expr.Name (Str.ofString "_DIGITS") _) _); refine nm_digits (by assumption) rfl rfl ?_)
        | ((with_reducible show Ev _ _ _ _ (Expr.Name (Str.ofString "_SIGNS") _) _); refine nm_signs (by assumption) rfl rfl ?_)
        | ((with_reducible show Ev _ _ _ _ (Expr.Name (Str.ofString "Version") _) _); refine nm_ver (by assumption) rfl rfl ?_)
        | ((with_reducible show Ev _ _ _ _ (Expr.Name (Str.ofString "MaxIdentifier") _) _); refine nm_max (by assumption) rfl rfl ?_)
        | ((with_reducible show Ev _ _ _ _ (Expr.Name (Str.ofString "NumericIdentifier") _) _); refine nm_num (by assumption) rfl rfl ?_)
        | ((with_reducible show Ev _ _ _ _ (Expr.Name (Str.ofString "AlphaIdentifier") _) _); refine nm_alpha (by assumption) rfl rfl ?_)
        | ((with_reducible show Ev _ _ _ _ (Expr.Name (Str.ofString "NotImplemented") _) _); refine nm_ni (by assumption) rfl rfl ?_)
        | refine ev_nm rfl rfl rfl ?_)
      | ((with_reducible show Ev _ _ _ _ (Expr.Constant _ _ _) _); first
        | ((with_reducible show Ev _ _ _ _ (Expr.Constant (Const.int _) _ _) _); refine ev_int ?_)
        | ((with_reducible show Ev _ _ _ _ (Expr.Constant Const.none _ _) _); refine ev_none ?_)
        | ((with_reducible show Ev _ _ _ _ (Expr.Constant (Const.bool _) _ _) _); refine ev_bool ?_)
        | ((with_reducible show Ev _ _ _ _ (Expr.Constant (Const.str (Str.ofString ".")) _ _) _); refine ev_strT lit_dot ?_)
        | ((with_reducible show Ev _ _ _ _ (Expr.Constant (Const.str (Str.ofString "-")) _ _) _); refine ev_strT lit_dash ?_)
        | ((with_reducible show Ev _ _ _ _ (Expr.Constant (Const.str (Str.ofString "+")) _ _) _); refine ev_strT lit_plus ?_)
        | ((with_reducible show Ev _ _ _ _ (Expr.Constant (Const.str (Str.ofString "\n")) _ _) _); refine ev_strT lit_nl ?_)
        | ((with_reducible show Ev _ _ _ _ (Expr.Constant (Const.str (Str.ofString "")) _ _) _); refine ev_strT lit_empty ?_)
        | ((with_reducible show Ev _ _ _ _ (Expr.Constant (Const.str (Str.ofString "0")) _ _) _); refine ev_strT lit_zero ?_))
      | ((with_reducible show Ev _ _ _ _ (Expr.Call (Expr.Name _ _) _ _ _) _); first
        | ((with_reducible show Ev _ _ _ _ (Expr.Call (Expr.Name (Str.ofString "len") _) _ [] _) _); refine bl_len (by assumption) rfl rfl rfl ?_)
        | ((with_reducible show Ev _ _ _ _ (Expr.Call (Expr.Name (Str.ofString "int") _) _ [] _) _); refine bl_int (by assumption) rfl rfl rfl ?_)
        | ((with_reducible show Ev _ _ _ _ (Expr.Call (Expr.Name (Str.ofString "str") _) _ [] _) _); refine bl_str (by assumption) rfl rfl rfl ?_)
        | ((with_reducible show Ev _ _ _ _ (Expr.Call (Expr.Name (Str.ofString "abs") _) _ [] _) _); refine bl_abs (by assumption) rfl rfl rfl ?_)
        | ((with_reducible show Ev _ _ _ _ (Expr.Call (Expr.Name (Str.ofString "max") _) _ [] _) _); refine bl_max (by assumption) rfl rfl rfl ?_)
        | ((with_reducible show Ev _ _ _ _ (Expr.Call (Expr.Name (Str.ofString "min") _) _ [] _) _); refine bl_min (by assumption) rfl rfl rfl ?_)
        | ((with_reducible show Ev _ _ _ _ (Expr.Call (Expr.Name (Str.ofString "range") _) _ [] _) _); refine bl_range (by assumption) rfl rfl rfl ?_)
        | ((with_reducible show Ev _ _ _ _ (Expr.Call (Expr.Name (Str.ofString "tuple") _) _ [] _) _); (fail_if_success (with_reducible show Ev _ _ _ _ (Expr.Call _ [Expr.GeneratorExp _ _ _ _] _ _) _)); refine bl_tuple (by assumption) rfl rfl rfl ?_)
        | ((with_reducible show Ev _ _ _ _ (Expr.Call (Expr.Name (Str.ofString "list") _) _ [] _) _); refine bl_list (by assumption) rfl rfl rfl ?_)
        | ((with_reducible show Ev _ _ _ _ (Expr.Call (Expr.Name (Str.ofString "isinstance") _) _ [] _) _); refine bl_isinstance (by assumption) rfl rfl rfl ?_)
        | ((with_reducible show Ev _ _ _ _ (Expr.Call (Expr.Name (Str.ofString "_behind") _) _ [] _) _); refine cl_behind (by assumption) rfl rfl rfl ?_)
        | ((with_reducible show Ev _ _ _ _ (Expr.Call (Expr.Name (Str.ofString "_version_groups") _) _ [] _) _); refine cl_groups (by assumption) rfl rfl rfl ?_)
        | ((with_reducible show Ev _ _ _ _ (Expr.Call (Expr.Name (Str.ofString "_has_leading_zero") _) _ [] _) _); refine cl_hlz (by assumption) rfl rfl rfl ?_)
        | ((with_reducible show Ev _ _ _ _ (Expr.Call (Expr.Name (Str.ofString "MaxIdentifier") _) _ [] _) _); refine cl_max (by assumption) rfl rfl rfl ?_)
        | ((with_reducible show Ev _ _ _ _ (Expr.Call (Expr.Name (Str.ofString "NumericIdentifier") _) _ [] _) _); refine cl_num (by assumption) rfl rfl rfl ?_)
        | ((with_reducible show Ev _ _ _ _ (Expr.Call (Expr.Name (Str.ofString "AlphaIdentifier") _) _ [] _) _); refine cl_alpha (by assumption) rfl rfl rfl ?_)
        | ((with_reducible show Ev _ _ _ _ (Expr.Call (Expr.Name (Str.ofString "Version") _) _ [] _) _); refine cl_ver (by assumption) rfl rfl rfl ?_)
        | ((with_reducible show Ev _ _ _ _ (Expr.Call (Expr.Name (Str.ofString "_law_text") _) _ [] _) _); refine cl_ltext (by assumption) rfl rfl rfl ?_)
        | ((with_reducible show Ev _ _ _ _ (Expr.Call (Expr.Name (Str.ofString "_law_cut") _) _ [] _) _); refine cl_lcut (by assumption) rfl rfl rfl ?_)
        | ((with_reducible show Ev _ _ _ _ (Expr.Call (Expr.Name (Str.ofString "_law_key") _) _ [] _) _); refine cl_lkey (by assumption) rfl rfl rfl ?_)
        | ((with_reducible show Ev _ _ _ _ (Expr.Call (Expr.Name (Str.ofString "Version") _) _ _ _) _); refine ck_ver (by assumption) rfl rfl rfl rfl ?_))
      | ((with_reducible show Ev _ _ _ _ (Expr.Compare _ _ _ _) _); refine ev_cmp rfl ?_)
      | ((with_reducible show Ev _ _ _ _ (Expr.Call (Expr.Attribute _ _ _) _ [] _) _); first
        | ((with_reducible show Ev _ _ _ _ (Expr.Call (Expr.Attribute _ (Str.ofString "isdigit") _) _ [] _) _); refine ev_methv (by assumption) (fun _ => rfl) rfl (evv_dat ?_))
        | ((with_reducible show Ev _ _ _ _ (Expr.Call (Expr.Attribute _ (Str.ofString "split") _) _ [] _) _); refine ev_methv (by assumption) (fun _ => rfl) rfl (evv_dat ?_))
        | ((with_reducible show Ev _ _ _ _ (Expr.Call (Expr.Attribute _ (Str.ofString "join") _) _ [] _) _); refine ev_methv (by assumption) (fun _ => rfl) rfl (evv_dat ?_))
        | ((with_reducible show Ev _ _ _ _ (Expr.Call (Expr.Attribute _ (Str.ofString "encode") _) _ [] _) _); refine ev_methv (by assumption) (fun _ => rfl) rfl (evv_dat ?_)))
      | ((with_reducible show Ev _ _ _ _ (Expr.Attribute (Expr.Name _ _) _ _) _); first
        | ((with_reducible show Ev _ _ _ _ (Expr.Attribute (Expr.Name _ _) (Str.ofString "major") _) _); refine ev_attr (fun _ => rfl) (evv_nm rfl rfl rfl (attr_inst (by assumption) rfl at_major rfl rfl ?_)))
        | ((with_reducible show Ev _ _ _ _ (Expr.Attribute (Expr.Name _ _) (Str.ofString "minor") _) _); refine ev_attr (fun _ => rfl) (evv_nm rfl rfl rfl (attr_inst (by assumption) rfl at_minor rfl rfl ?_)))
        | ((with_reducible show Ev _ _ _ _ (Expr.Attribute (Expr.Name _ _) (Str.ofString "patch") _) _); refine ev_attr (fun _ => rfl) (evv_nm rfl rfl rfl (attr_inst (by assumption) rfl at_patch rfl rfl ?_)))
        | ((with_reducible show Ev _ _ _ _ (Expr.Attribute (Expr.Name _ _) (Str.ofString "prerelease") _) _); refine ev_attr (fun _ => rfl) (evv_nm rfl rfl rfl (attr_inst (by assumption) rfl at_pre rfl rfl ?_)))
        | ((with_reducible show Ev _ _ _ _ (Expr.Attribute (Expr.Name _ _) (Str.ofString "build") _) _); refine ev_attr (fun _ => rfl) (evv_nm rfl rfl rfl (attr_inst (by assumption) rfl at_build rfl rfl ?_)))
        | ((with_reducible show Ev _ _ _ _ (Expr.Attribute (Expr.Name _ _) (Str.ofString "partial") _) _); refine ev_attr (fun _ => rfl) (evv_nm rfl rfl rfl (attr_inst (by assumption) rfl at_partial rfl rfl ?_)))
        | ((with_reducible show Ev _ _ _ _ (Expr.Attribute (Expr.Name _ _) (Str.ofString "_cmp_precedence_key") _) _); refine ev_attr (fun _ => rfl) (evv_nm rfl rfl rfl (attr_inst (by assumption) rfl at_cmpk rfl rfl ?_))))
      | ((with_reducible show Ev _ _ _ _ (Expr.BoolOp BoolOp.And (_ :: _ :: _) _) _); refine ev_and ?_)
      | ((with_reducible show Ev _ _ _ _ (Expr.BoolOp BoolOp.Or (_ :: _ :: _) _) _); refine ev_or ?_)
      | ((with_reducible show Ev _ _ _ _ (Expr.BoolOp _ [_] _) _); refine ev_bool1 ?_)
      | ((with_reducible show Ev _ _ _ _ (Expr.BinOp _ _ _ _) _); refine ev_bin ?_)
      | ((with_reducible show Ev _ _ _ _ (Expr.Tuple _ _ _) _); refine ev_tup ?_)
      | ((with_reducible show Ev _ _ _ _ (Expr.List _ _) _); refine ev_list ?_)
      | ((with_reducible show Ev _ _ _ _ (Expr.UnaryOp UnaryOp.Not _ _) _); refine ev_not ?_)
      | ((with_reducible show Ev _ _ _ _ (Expr.UnaryOp _ _ _) _); refine ev_un ?_)
      | ((with_reducible show Ev _ _ _ _ (Expr.Subscript _ (Expr.Slice _ _ _ _) _) _); refine ev_cut ?_)
      | ((with_reducible show Ev _ _ _ _ (Expr.Subscript _ _ _) _); refine ev_item rfl ?_))
    | ((with_reducible show MethV _ _ _ _ _); first
      | refine m_isdigit ?_
      | refine m_split ?_
      | refine m_join ?_
      | refine m_encode ?_)
    | ((with_reducible show EvK _ _ _ _ _ _); first
      | refine evk_cons rfl ?_
      | refine evk_nil ?_)
    | ((with_reducible show EvL _ _ _ _ _ _); first
      | ((with_reducible show EvL _ _ _ _ (_ :: _) _); refine evl_cons rfl ?_)
      | refine evl_nil ?_)
    | ((with_reducible show Ex _ _ _ _ _ _); first
      | ((with_reducible show Ex _ _ _ _ (_ :: _) _); (try conv => arg 4; simp only [List.set_cons_succ, List.set_cons_zero]); refine ex_cons ?_)
      | refine ex_nil ?_)
    | ((with_reducible show Ex1 _ _ _ _ _ _); first
      | ((with_reducible show Ex1 _ _ _ _ (Stmt.If _ _ _ _) _); refine ex_if ?_)
      | ((with_reducible show Ex1 _ _ _ _ (Stmt.Return (some _) _) _); refine ex_return ?_)
      | ((with_reducible show Ex1 _ _ _ _ (Stmt.Assign [Expr.Name _ _] _ _) _); refine ex_as rfl rfl rfl (fun _ => rfl) ?_))
    | ((with_reducible show Two _ _ _ _ _ _); first
      | ((with_reducible show Two _ _ (binaryOp Operator.Add) _ _ _); refine i_add ?_)
      | ((with_reducible show Two _ _ (binaryOp Operator.Sub) _ _ _); refine i_sub ?_)
      | ((with_reducible show Two _ _ (binaryOp Operator.BitXor) _ _ _); refine b_xor ?_)
      | ((with_reducible show Two _ _ (compareOp CmpOp.Lt) _ _ _); refine i_lt ?_)
      | ((with_reducible show Two _ _ (compareOp CmpOp.Gt) _ _ _); refine i_gt ?_)
      | ((with_reducible show Two _ _ (compareOp CmpOp.LtE) _ _ _); refine i_le ?_)
      | ((with_reducible show Two _ _ (compareOp CmpOp.GtE) _ _ _); refine i_ge ?_)
      | ((with_reducible show Two _ _ (compareOp CmpOp.Is) _ _ _); refine is_no ?_)
      | ((with_reducible show Two _ _ (compareOp CmpOp.IsNot) _ _ _); refine isnt_no ?_)
      | ((with_reducible show Two _ _ (compareOp CmpOp.Eq) (D.int _) _ _); refine i_eq ?_)
      | ((with_reducible show Two _ _ (compareOp CmpOp.Eq) (D.str (T _)) _ _); refine s_eqT ?_)
      | ((with_reducible show Two _ _ (compareOp CmpOp.NotEq) (D.int _) _ _); refine i_ne ?_)
      | ((with_reducible show Two _ _ (compareOp CmpOp.NotEq) (D.str (T _)) _ _); refine s_neT ?_))
    | ((with_reducible show Tst _ _ _ _ _ _); first
      | ((with_reducible show Tst _ _ _ _ (Expr.Compare _ _ _ _) _); refine tst_cmp rfl ?_)
      | ((with_reducible show Tst _ _ _ _ (Expr.Name _ _) _); refine tst_of (fun _ _ => rfl) ?_)
      | ((with_reducible show Tst _ _ _ _ (Expr.Call _ _ _ _) _); refine tst_of (fun _ _ => rfl) ?_)
      | ((with_reducible show Tst _ _ _ _ (Expr.Attribute _ _ _) _); refine tst_of (fun _ _ => rfl) ?_)
      | ((with_reducible show Tst _ _ _ _ (Expr.BinOp _ _ _ _) _); refine tst_of (fun _ _ => rfl) ?_)
      | ((with_reducible show Tst _ _ _ _ (Expr.Subscript _ _ _) _); refine tst_of (fun _ _ => rfl) ?_)
      | ((with_reducible show Tst _ _ _ _ (Expr.BoolOp BoolOp.And [] _) _); refine tst_and_nil ?_)
      | ((with_reducible show Tst _ _ _ _ (Expr.BoolOp BoolOp.Or [] _) _); refine tst_or_nil ?_)
      | ((with_reducible show Tst _ _ _ _ (Expr.UnaryOp UnaryOp.Not _ _) _); refine tst_not ?_)
      | ((with_reducible show Tst _ _ _ _ (Expr.BoolOp BoolOp.And (_ :: _) _) _); refine tst_and ?_)
      | ((with_reducible show Tst _ _ _ _ (Expr.BoolOp BoolOp.Or (_ :: _) _) _); refine tst_or ?_))
    | ((with_reducible show EvP _ _ _ _ _ _); first
      | refine evp_some ?_
      | refine evp_none ?_)
    | ((with_reducible show Tru _ _ _ _); first
      | refine tru_T (by assumption) ?_
      | refine tru_bool ?_
      | refine tru_none ?_)
    | ((with_reducible show One _ _ (unaryOp UnaryOp.USub) _ _); refine i_neg ?_)
    | ((with_reducible show Cut _ _ (D.str (T _)) _ _ _); refine cut_T (by assumption) ?_)
    | ((with_reducible show CallV _ _ (Value.builtin "len") _ _ _); refine c_len_T (by assumption) ?_)
    | ((with_reducible show CallV _ _ (Value.builtin "str.isdigit") _ _ _); refine c_isdigit ?_)
    | ((with_reducible show ∃ _, _ ∧ _); refine ⟨_, rfl, ?_⟩))

def trip (x : List Nat) : Int × Int × List Nat := if x = [48] then (0, 0, []) else if x = [49] then (0, 1, []) else (1, 0, x)
def tripD (t : Int × Int × List Nat) : D := .tup [.int t.1, .int t.2.1, .str (T t.2.2)]
def trips (p : List (List Nat)) : List (Int × Int × List Nat) := if p = [] then [(2, 0, [])] else p.map trip
def Ver.key (v : Ver) : D := .tup [intL [v.A, v.B, v.C], .list ((trips v.p).map tripD)]
theorem law_key (O : (cx w h₁ os₁ GI).Ok) {n : Nat} {v : Ver} {Pq : D → Prop} (few : v.p.length ≤ 8) (h : Pq v.key) :
    CallK (cx w h₁ os₁ GI) (n + 5) (.ref 410) [.dat v.row] [] Pq := by
  have szl := sizeLine_eq
  refine' call_def O ?hf ?hc ?hs ?ρ ?hno ?hb ?_
  case hf => exact rfl
  case hc => kernel_rfl
  case hs => kernel_rfl
  case ρ => exact [some (.dat v.row)]
  case hno => exact rfl
  case hb =>
    rintro X s vs kvs I ⟨v1, _, rfl, r1, rfl⟩ rk
    have e : kvs = [] := rk
    subst e
    refine ⟨_, BindsTo.of_eq rfl, rfl, ⟨⟨_, rfl, r1⟩, .inl rfl⟩, trivial⟩
  repeat kd_subs
  refine row_item (j := 0) rfl ?_
  refine evl_cons rfl (Ev.mono (Pq := fun d => d = .list ((trips v.p).map tripD)) (ev_if ?_) ?_)
  · repeat kd_subs
    refine row_item (j := 1) rfl ?_
    repeat kd_subs
    refine ⟨by simp, l_eq_nil (n := n + 2) ?_⟩
    repeat kd_subs
    by_cases q : v.p = []
    · rw [if_pos (by simp [q])]
      unfold trips
      rw [if_pos q]
      repeat kd_subs
      refine ⟨by simp [szl], ?_⟩
      repeat kd_subs
      refine ⟨by simp [szl], ?_⟩
      rfl
    · rw [if_neg (by simpa using q)]
      unfold trips
      rw [if_neg q]
      refine ev_comp [none, none] rfl rfl rfl ?_
      repeat kd_subs
      refine row_item (j := 1) rfl ?_
      refine ⟨_, .list, ?_⟩
      refine comp_map (i := 1) rfl rfl rfl (l := v.p) (g := fun x => .str (T x)) (F := fun x => tripD (trip x)) (by omega) (fun x hx => ?_) ?_
      · refine ev_if ?_
        repeat kd_subs
        refine ev_strT (l := [49]) (by kernel_rfl) ?_
        repeat kd_subs
        refine ⟨by simp [szl], ?_⟩
        refine s_in_tup (l := [T [48], T [49]]) ?_
        repeat kd_subs
        rw [show ([T [48], T [49]].any (· == T x)) = (decide (x = [48]) || decide (x = [49])) from by
          simp only [List.any_cons, List.any_nil, Bool.or_false, T_beq]
          rw [Bool.eq_iff_iff]; simp only [Bool.or_eq_true, beq_iff_eq, decide_eq_true_eq]; exact ⟨fun h => h.imp Eq.symm Eq.symm, fun h => h.imp Eq.symm Eq.symm⟩]
        unfold trip
        by_cases q1 : x = [48]
        · subst q1
          rw [if_pos (by rfl), if_pos rfl]
          repeat kd_subs
          refine ev_if ?_
          repeat kd_subs
          refine ev_strT (l := [49]) (by kernel_rfl) ?_
          repeat kd_subs
          rw [if_neg (by decide)]
          repeat kd_subs
          refine ⟨by simp [szl], ?_⟩
          rfl
        · by_cases q2 : x = [49]
          · subst q2
            rw [if_pos (by rfl), if_neg (by decide), if_pos rfl]
            repeat kd_subs
            refine ev_if ?_
            repeat kd_subs
            refine ev_strT (l := [49]) (by kernel_rfl) ?_
            repeat kd_subs
            rw [if_pos (by rfl)]
            repeat kd_subs
            refine ⟨by simp [szl], ?_⟩
            rfl
          · rw [if_neg (by simp [q1, q2]), if_neg q1, if_neg q2]
            repeat kd_subs
            refine ⟨by simp [szl], ?_⟩
            rfl
      · rw [List.map_map]
        rfl
  rintro _ rfl
  repeat kd_subs
  refine ⟨by simp [szl], ?_⟩
  exact h

/-! the order of keys -/
def W5 : List (List Nat) := [[97], [48], [49], [98, 45], [65]]
def tcmp (a b : Int × Int × List Nat) : Ordering := (compare a.1 b.1).then ((compare a.2.1 b.2.1).then ((cmpN a.2.2 b.2.2).then .eq))
theorem trip_cmp {c : Cx} {n : Nat} (a b : Int × Int × List Nat) : CmpR c (n + 1) (tripD a) (tripD b) (tcmp a b) := CmpL.r (.cons (cmp_int _ _) (.cons (cmp_int _ _) (.cons (cmp_str _ _) .nil)))
def tlcmp : List (Int × Int × List Nat) → List (Int × Int × List Nat) → Ordering
  | [], [] => .eq
  | [], _ :: _ => .lt
  | _ :: _, [] => .gt
  | a :: l, b :: l' => (tcmp a b).then (tlcmp l l')
theorem trips_cmp {c : Cx} {n : Nat} : ∀ {l l' : List (Int × Int × List Nat)}, CmpL c (n + 1) (l.map tripD) (l'.map tripD) (tlcmp l l')
  | [], [] => .nil
  | [], _ :: _ => .short
  | _ :: _, [] => .long
  | a :: l, b :: l' => .cons (trip_cmp a b) trips_cmp
theorem w5_icmp : ∀ x ∈ W5, ∀ y ∈ W5, icmp (keyI x) (keyI y) = tcmp (trip x) (trip y) := by decide +kernel
theorem w5_max : ∀ x ∈ W5, icmp (keyI x) .max = tcmp (trip x) (2, 0, []) ∧ icmp .max (keyI x) = tcmp (2, 0, []) (trip x) := by decide +kernel
theorem maps_cmp : ∀ {p p' : List (List Nat)}, (∀ x ∈ p, x ∈ W5) → (∀ x ∈ p', x ∈ W5) → lcmp (p.map keyI) (p'.map keyI) = tlcmp (p.map trip) (p'.map trip)
  | [], [], _, _ => rfl
  | [], _ :: _, _, _ => rfl
  | _ :: _, [], _, _ => rfl
  | x :: p, y :: p', h, h' => by
    show (icmp (keyI x) (keyI y)).then (lcmp (p.map keyI) (p'.map keyI)) = (tcmp (trip x) (trip y)).then (tlcmp (p.map trip) (p'.map trip))
    rw [w5_icmp x (h x List.mem_cons_self) y (h' y List.mem_cons_self), maps_cmp (fun z q => h z (List.mem_cons_of_mem _ q)) fun z q => h' z (List.mem_cons_of_mem _ q)]
theorem pre_cmp {p p' : List (List Nat)} (h : ∀ x ∈ p, x ∈ W5) (h' : ∀ x ∈ p', x ∈ W5) : lcmp (preI p) (preI p') = tlcmp (trips p) (trips p') := by
  unfold preI trips
  cases p with
  | nil => cases p' with
    | nil => rfl
    | cons y p' =>
      rw [if_pos rfl, if_pos rfl, if_neg (by simp), if_neg (by simp)]
      show (icmp .max (keyI y)).then (lcmp [] (p'.map keyI)) = (tcmp (2, 0, []) (trip y)).then (tlcmp [] (p'.map trip))
      rw [(w5_max y (h' y List.mem_cons_self)).2]
      cases p' <;> rfl
  | cons x p => cases p' with
    | nil =>
      rw [if_pos rfl, if_pos rfl, if_neg (by simp), if_neg (by simp)]
      show (icmp (keyI x) .max).then (lcmp (p.map keyI) []) = (tcmp (trip x) (2, 0, [])).then (tlcmp (p.map trip) [])
      rw [(w5_max x (h x List.mem_cons_self)).1]
      cases p <;> rfl
    | cons y p' =>
      rw [if_neg (by simp), if_neg (by simp), if_neg (by simp), if_neg (by simp)]
      exact maps_cmp h h'
def Ver.le (v v' : Ver) : Bool := vcmp v.A v.B v.C v.p v'.A v'.B v'.C v'.p != .gt
theorem key_two {c : Cx} {n : Nat} {v v' : Ver} {Pq : D → Prop} (h : ∀ x ∈ v.p, x ∈ W5) (h' : ∀ x ∈ v'.p, x ∈ W5) (q : Pq (.raw (.bool (v.le v')))) : Two c (n + 6) (compareOp .LtE) v.key v'.key Pq := by
  have r : CmpR c (n + 6) v.key v'.key _ := CmpL.r (n := n + 5) (.cons (CmpL.rl (n := n + 3) (.cons (cmp_int v.A v'.A) (.cons (cmp_int v.B v'.B) (.cons (cmp_int v.C v'.C) .nil)))) (.cons (CmpL.rl (n := n + 3) (trips_cmp (n := n + 2))) .nil))
  refine Two.mono (two_b (t := fun u v => compareOp .LtE u v) (Two.mono r.le fun d e => ⟨_, e, rfl⟩)) fun d e => ?_
  subst e
  unfold Ver.le vcmp at q
  rw [pre_cmp h h'] at q
  revert q
  cases compare v.A v'.A <;> cases compare v.B v'.B <;> cases compare v.C v'.C <;> cases tlcmp (trips v.p) (trips v'.p) <;> exact id
/-! a cut keeps the order -/
theorem lcmp_nil : lcmp (preI []) (preI []) = .eq := rfl
theorem cut_le {v v' : Ver} {i : Nat} (h : v.le v' = true) : (v.cut i).le (v'.cut i) = true := by
  have e0 : (compare (0 : Int) 0) = .eq := by decide
  obtain ⟨A, B, C, p, b⟩ := v
  obtain ⟨A', B', C', p', b'⟩ := v'
  unfold Ver.le vcmp at h ⊢
  match i with
  | 0 =>
    show ((compare A A').then ((compare (0 : Int) 0).then ((compare (0 : Int) 0).then ((lcmp (preI []) (preI [])).then .eq))) != .gt) = true
    rw [e0, lcmp_nil]
    revert h
    show ((compare A A').then _ != .gt) = true → _
    cases compare A A' <;> intro h <;> first | rfl | exact h
  | 1 =>
    show ((compare A A').then ((compare B B').then ((compare (0 : Int) 0).then ((lcmp (preI []) (preI [])).then .eq))) != .gt) = true
    rw [e0, lcmp_nil]
    revert h
    show ((compare A A').then ((compare B B').then _) != .gt) = true → _
    cases compare A A' <;> cases compare B B' <;> intro h <;> first | rfl | exact h
  | 2 =>
    show ((compare A A').then ((compare B B').then ((compare C C').then ((lcmp (preI []) (preI [])).then .eq))) != .gt) = true
    rw [lcmp_nil]
    revert h
    show ((compare A A').then ((compare B B').then ((compare C C').then _)) != .gt) = true → _
    cases compare A A' <;> cases compare B B' <;> cases compare C C' <;> intro h <;> first | rfl | exact h
  | 3 => exact h
  | j + 4 => exact h
theorem cut_cut (v : Ver) {i j : Nat} (hi : i < 5) (hj : j < 5) : (v.cut i).cut j = v.cut (min i j) := by
  have hi5 : i = 0 ∨ i = 1 ∨ i = 2 ∨ i = 3 ∨ i = 4 := by omega
  have hj5 : j = 0 ∨ j = 1 ∨ j = 2 ∨ j = 3 ∨ j = 4 := by omega
  rcases hi5 with rfl | rfl | rfl | rfl | rfl <;> rcases hj5 with rfl | rfl | rfl | rfl | rfl <;> rfl
end
end Mine
end
section
set_option maxHeartbeats 0
namespace Mine
open PySem PySem.W PySem.Calls PyProof.Rows Builtin
section
variable {w : World} {h₁ : Heap} {os₁ : OsState} {GI : Array GenState → Drawn → Prop}
local macro_rules
  | `(tactic| kd_subs) => `(tactic| first
    | ((with_reducible show Ev _ _ _ _ _ _); first
      | ((with_reducible show Ev _ _ _ _ (Expr.Name _ _) _); first
        | ((with_reducible show Ev _ _ _ _ (Expr.Name (Str.ofString "_DIGITS") _) _); refine nm_digits (by assumption) rfl rfl ?_)
        | ((with_reducible show Ev _ _ _ _ (Expr.Name (Str.ofString "_SIGNS") _) _); refine nm_signs (by assumption) rfl rfl ?_)
        | ((with_reducible show Ev _ _ _ _ (Expr.Name (Str.ofString "Version") _) _); refine nm_ver (by assumption) rfl rfl ?_)
        | ((with_reducible show Ev _ _ _ _ (Expr.Name (Str.ofString "MaxIdentifier") _) _); refine nm_max (by assumption) rfl rfl ?_)
        | ((with_reducible show Ev _ _ _ _ (Expr.Name (Str.ofString "NumericIdentifier") _) _); refine nm_num (by assumption) rfl rfl ?_)
        | ((with_reducible show Ev _ _ _ _ (Expr.Name (Str.ofString "AlphaIdentifier") _) _); refine nm_alpha (by assumption) rfl rfl ?_)
        | ((with_reducible show Ev _ _ _ _ (Expr.Name (Str.ofString "NotImplemented") _) _); refine nm_ni (by assumption) rfl rfl ?_)
        | refine ev_nm rfl rfl rfl ?_)
      | ((with_reducible show Ev _ _ _ _ (Expr.Constant _ _ _) _); first
        | ((with_reducible show Ev _ _ _ _ (Expr.Constant (Const.int _) _ _) _); refine ev_int ?_)
        | ((with_reducible show Ev _ _ _ _ (Expr.Constant Const.none _ _) _); refine ev_none ?_)
        | ((with_reducible show Ev _ _ _ _ (Expr.Constant (Const.bool _) _ _) _); refine ev_bool ?_)
        | ((with_reducible show Ev _ _ _ _ (Expr.Constant (Const.str (Str.ofString ".")) _ _) _); refine ev_strT lit_dot ?_)
        | ((with_reducible show Ev _ _ _ _ (Expr.Constant (Const.str (Str.ofString "-")) _ _) _); refine ev_strT lit_dash ?_)
        | ((with_reducible show Ev _ _ _ _ (Expr.Constant (Const.str (Str.ofString "+")) _ _) _); refine ev_strT lit_plus ?_)
        | ((with_reducible show Ev _ _ _ _ (Expr.Constant (Const.str (Str.ofString "\n")) _ _) _); refine ev_strT lit_nl ?_)
        | ((with_reducible show Ev _ _ _ _ (Expr.Constant (Const.str (Str.ofString "")) _ _) _); refine ev_strT lit_empty ?_)
        | ((with_reducible show Ev _ _ _ _ (Expr.Constant (Const.str (Str.ofString "0")) _ _) _); refine ev_strT lit_zero ?_))
      | ((with_reducible show Ev _ _ _ _ (Expr.Call (Expr.Name _ _) _ _ _) _); first
        | ((with_reducible show Ev _ _ _ _ (Expr.Call (Expr.Name (Str.ofString "len") _) _ [] _) _); refine bl_len (by assumption) rfl rfl rfl ?_)
        | ((with_reducible show Ev _ _ _ _ (Expr.Call (Expr.Name (Str.ofString "int") _) _ [] _) _); refine bl_int (by assumption) rfl rfl rfl ?_)
        | ((with_reducible show Ev _ _ _ _ (Expr.Call (Expr.Name (Str.ofString "str") _) _ [] _) _); refine bl_str (by assumption) rfl rfl rfl ?_)
        | ((with_reducible show Ev _ _ _ _ (Expr.Call (Expr.Name (Str.ofString "abs") _) _ [] _) _); refine bl_abs (by assumption) rfl rfl rfl ?_)
        | ((with_reducible show Ev _ _ _ _ (Expr.Call (Expr.Name (Str.ofString "max") _) _ [] _) _); refine bl_max (by assumption) rfl rfl rfl ?_)
        | ((with_reducible show Ev _ _ _ _ (Expr.Call (Expr.Name (Str.ofString "min") _) _ [] _) _); refine bl_min (by assumption) rfl rfl rfl ?_)
        | ((with_reducible show Ev _ _ _ _ (Expr.Call (Expr.Name (Str.ofString "range") _) _ [] _) _); refine bl_range (by assumption) rfl rfl rfl ?_)
        | ((with_reducible show Ev _ _ _ _ (Expr.Call (Expr.Name (Str.ofString "tuple") _) _ [] _) _); (fail_if_success (with_reducible show Ev _ _ _ _ (Expr.Call _ [Expr.GeneratorExp _ _ _ _] _ _) _)); refine bl_tuple (by assumption) rfl rfl rfl ?_)
        | ((with_reducible show Ev _ _ _ _ (Expr.Call (Expr.Name (Str.ofString "list") _) _ [] _) _); refine bl_list (by assumption) rfl rfl rfl ?_)
        | ((with_reducible show Ev _ _ _ _ (Expr.Call (Expr.Name (Str.ofString "isinstance") _) _ [] _) _); refine bl_isinstance (by assumption) rfl rfl rfl ?_)
        | ((with_reducible show Ev _ _ _ _ (Expr.Call (Expr.Name (Str.ofString "_behind") _) _ [] _) _); refine cl_behind (by assumption) rfl rfl rfl ?_)
        | ((with_reducible show Ev _ _ _ _ (Expr.Call (Expr.Name (Str.ofString "_version_groups") _) _ [] _) _); refine cl_groups (by assumption) rfl rfl rfl ?_)
        | ((with_reducible show Ev _ _ _ _ (Expr.Call (Expr.Name (Str.ofString "_has_leading_zero") _) _ [] _) _); refine cl_hlz (by assumption) rfl rfl rfl ?_)
        | ((with_reducible show Ev _ _ _ _ (Expr.Call (Expr.Name (Str.ofString "MaxIdentifier") _) _ [] _) _); refine cl_max (by assumption) rfl rfl rfl ?_)
        | ((with_reducible show Ev _ _ _ _ (Expr.Call (Expr.Name (Str.ofString "NumericIdentifier") _) _ [] _) _); refine cl_num (by assumption) rfl rfl rfl ?_)
        | ((with_reducible show Ev _ _ _ _ (Expr.Call (Expr.Name (Str.ofString "AlphaIdentifier") _) _ [] _) _); refine cl_alpha (by assumption) rfl rfl rfl ?_)
        | ((with_reducible show Ev _ _ _ _ (Expr.Call (Expr.Name (Str.ofString "Version") _) _ [] _) _); refine cl_ver (by assumption) rfl rfl rfl ?_)
        | ((with_reducible show Ev _ _ _ _ (Expr.Call (Expr.Name (Str.ofString "_law_text") _) _ [] _) _); refine cl_ltext (by assumption) rfl rfl rfl ?_)
        | ((with_reducible show Ev _ _ _ _ (Expr.Call (Expr.Name (Str.ofString "_law_cut") _) _ [] _) _); refine cl_lcut (by assumption) rfl rfl rfl ?_)
        | ((with_reducible show Ev _ _ _ _ (Expr.Call (Expr.Name (Str.ofString "_law_key") _) _ [] _) _); refine cl_lkey (by assumption) rfl rfl rfl ?_)
        | ((with_reducible show Ev _ _ _ _ (Expr.Call (Expr.Name (Str.ofString "Version") _) _ _ _) _); refine ck_ver (by assumption) rfl rfl rfl rfl ?_))
      | ((with_reducible show Ev _ _ _ _ (Expr.Compare _ _ _ _) _); refine ev_cmp rfl ?_)
      | ((with_reducible show Ev _ _ _ _ (Expr.Call (Expr.Attribute _ _ _) _ [] _) _); first
        | ((with_reducible show Ev _ _ _ _ (Expr.Call (Expr.Attribute _ (Str.ofString "isdigit") _) _ [] _) _); refine ev_methv (by assumption) (fun _ => rfl) rfl (evv_dat ?_))
        | ((with_reducible show Ev _ _ _ _ (Expr.Call (Expr.Attribute _ (Str.ofString "split") _) _ [] _) _); refine ev_methv (by assumption) (fun _ => rfl) rfl (evv_dat ?_))
        | ((with_reducible show Ev _ _ _ _ (Expr.Call (Expr.Attribute _ (Str.ofString "join") _) _ [] _) _); refine ev_methv (by assumption) (fun _ => rfl) rfl (evv_dat ?_))
        | ((with_reducible show Ev _ _ _ _ (Expr.Call (Expr.Attribute _ (Str.ofString "encode") _) _ [] _) _); refine ev_methv (by assumption) (fun _ => rfl) rfl (evv_dat ?_)))
      | ((with_reducible show Ev _ _ _ _ (Expr.Attribute (Expr.Name _ _) _ _) _); first
        | ((with_reducible show Ev _ _ _ _ (Expr.Attribute (Expr.Name _ _) (Str.ofString "major") _) _); refine ev_attr (fun _ => rfl) (evv_nm rfl rfl rfl (attr_inst (by assumption) rfl at_major rfl rfl ?_)))
        | ((with_reducible show Ev _ _ _ _ (Expr.Attribute (Expr.Name _ _) (Str.ofString "minor") _) _); refine ev_attr (fun _ => rfl) (evv_nm rfl rfl rfl (attr_inst (by assumption) rfl at_minor rfl rfl ?_)))
        | ((with_reducible show Ev _ _ _ _ (Expr.Attribute (Expr.Name _ _) (Str.ofString "patch") _) _); refine ev_attr (fun _ => rfl) (evv_nm rfl rfl rfl (attr_inst (by assumption) rfl at_patch rfl rfl ?_)))
        | ((with_reducible show Ev _ _ _ _ (Expr.Attribute (Expr.Name _ _) (Str.ofString "prerelease") _) _); refine ev_attr (fun _ => rfl) (evv_nm rfl rfl rfl (attr_inst (by assumption) rfl at_pre rfl rfl ?_)))
        | ((with_reducible show Ev _ _ _ _ (Expr.Attribute (Expr.Name _ _) (Str.ofString "build") _) _); refine ev_attr (fun _ => rfl) (evv_nm rfl rfl rfl (attr_inst (by assumption) rfl at_build rfl rfl ?_)))
        | ((with_reducible show Ev _ _ _ _ (Expr.Attribute (Expr.Name _ _) (Str.ofString "partial") _) _); refine ev_attr (fun _ => rfl) (evv_nm rfl rfl rfl (attr_inst (by assumption) rfl at_partial rfl rfl ?_)))
        | ((with_reducible show Ev _ _ _ _ (Expr.Attribute (Expr.Name _ _) (Str.ofString "_cmp_precedence_key") _) _); refine ev_attr (fun _ => rfl) (evv_nm rfl rfl rfl (attr_inst (by assumption) rfl at_cmpk rfl rfl ?_))))
      | ((with_reducible show Ev _ _ _ _ (Expr.BoolOp BoolOp.And (_ :: _ :: _) _) _); refine ev_and ?_)
      | ((with_reducible show Ev _ _ _ _ (Expr.BoolOp BoolOp.Or (_ :: _ :: _) _) _); refine ev_or ?_)
      | ((with_reducible show Ev _ _ _ _ (Expr.BoolOp _ [_] _) _); refine ev_bool1 ?_)
      | ((with_reducible show Ev _ _ _ _ (Expr.BinOp _ _ _ _) _); refine ev_bin ?_)
      | ((with_reducible show Ev _ _ _ _ (Expr.Tuple _ _ _) _); refine ev_tup ?_)
      | ((with_reducible show Ev _ _ _ _ (Expr.List _ _) _); refine ev_list ?_)
      | ((with_reducible show Ev _ _ _ _ (Expr.UnaryOp UnaryOp.Not _ _) _); refine ev_not ?_)
      | ((with_reducible show Ev _ _ _ _ (Expr.UnaryOp _ _ _) _); refine ev_un ?_)
      | ((with_reducible show Ev _ _ _ _ (Expr.Subscript _ (Expr.Slice _ _ _ _) _) _); refine ev_cut ?_)
      | ((with_reducible show Ev _ _ _ _ (Expr.Subscript _ _ _) _); refine ev_item rfl ?_))
    | ((with_reducible show MethV _ _ _ _ _); first
      | refine m_isdigit ?_
      | refine m_split ?_
      | refine m_join ?_
      | refine m_encode ?_)
    | ((with_reducible show EvK _ _ _ _ _ _); first
      | refine evk_cons rfl ?_
      | refine evk_nil ?_)
    | ((with_reducible show EvL _ _ _ _ _ _); first
      | ((with_reducible show EvL _ _ _ _ (_ :: _) _); refine evl_cons rfl ?_)
      | refine evl_nil ?_)
    | ((with_reducible show Ex _ _ _ _ _ _); first
      | ((with_reducible show Ex _ _ _ _ (_ :: _) _); (try conv => arg 4; simp only [List.set_cons_succ, List.set_cons_zero]); refine ex_cons ?_)
      | refine ex_nil ?_)
    | ((with_reducible show Ex1 _ _ _ _ _ _); first
      | ((with_reducible show Ex1 _ _ _ _ (Stmt.If _ _ _ _) _); refine ex_if ?_)
      | ((with_reducible show Ex1 _ _ _ _ (Stmt.Return (some _) _) _); refine ex_return ?_)
      | ((with_reducible show Ex1 _ _ _ _ (Stmt.Assign [Expr.Name _ _] _ _) _); refine ex_as rfl rfl rfl (fun _ => rfl) ?_))
    | ((with_reducible show Two _ _ _ _ _ _); first
      | ((with_reducible show Two _ _ (binaryOp Operator.Add) _ _ _); refine i_add ?_)
      | ((with_reducible show Two _ _ (binaryOp Operator.Sub) _ _ _); refine i_sub ?_)
      | ((with_reducible show Two _ _ (binaryOp Operator.BitXor) _ _ _); refine b_xor ?_)
      | ((with_reducible show Two _ _ (compareOp CmpOp.Lt) _ _ _); refine i_lt ?_)
      | ((with_reducible show Two _ _ (compareOp CmpOp.Gt) _ _ _); refine i_gt ?_)
      | ((with_reducible show Two _ _ (compareOp CmpOp.LtE) _ _ _); refine i_le ?_)
      | ((with_reducible show Two _ _ (compareOp CmpOp.GtE) _ _ _); refine i_ge ?_)
      | ((with_reducible show Two _ _ (compareOp CmpOp.Is) _ _ _); refine is_no ?_)
      | ((with_reducible show Two _ _ (compareOp CmpOp.IsNot) _ _ _); refine isnt_no ?_)
      | ((with_reducible show Two _ _ (compareOp CmpOp.Eq) (D.int _) _ _); refine i_eq ?_)
      | ((with_reducible show Two _ _ (compareOp CmpOp.Eq) (D.str (T _)) _ _); refine s_eqT ?_)
      | ((with_reducible show Two _ _ (compareOp CmpOp.NotEq) (D.int _) _ _); refine i_ne ?_)
      | ((with_reducible show Two _ _ (compareOp CmpOp.NotEq) (D.str (T _)) _ _); refine s_neT ?_))
    | ((with_reducible show Tst _ _ _ _ _ _); first
      | ((with_reducible show Tst _ _ _ _ (Expr.Compare _ _ _ _) _); refine tst_cmp rfl ?_)
      | ((with_reducible show Tst _ _ _ _ (Expr.Name _ _) _); refine tst_of (fun _ _ => rfl) ?_)
      | ((with_reducible show Tst _ _ _ _ (Expr.Call _ _ _ _) _); refine tst_of (fun _ _ => rfl) ?_)
      | ((with_reducible show Tst _ _ _ _ (Expr.Attribute _ _ _) _); refine tst_of (fun _ _ => rfl) ?_)
      | ((with_reducible show Tst _ _ _ _ (Expr.BinOp _ _ _ _) _); refine tst_of (fun _ _ => rfl) ?_)
      | ((with_reducible show Tst _ _ _ _ (Expr.Subscript _ _ _) _); refine tst_of (fun _ _ => rfl) ?_)
      | ((with_reducible show Tst _ _ _ _ (Expr.BoolOp BoolOp.And [] _) _); refine tst_and_nil ?_)
      | ((with_reducible show Tst _ _ _ _ (Expr.BoolOp BoolOp.Or [] _) _); refine tst_or_nil ?_)
      | ((with_reducible show Tst _ _ _ _ (Expr.UnaryOp UnaryOp.Not _ _) _); refine tst_not ?_)
      | ((with_reducible show Tst _ _ _ _ (Expr.BoolOp BoolOp.And (_ :: _) _) _); refine tst_and ?_)
      | ((with_reducible show Tst _ _ _ _ (Expr.BoolOp BoolOp.Or (_ :: _) _) _); refine tst_or ?_))
    | ((with_reducible show EvP _ _ _ _ _ _); first
      | refine evp_some ?_
      | refine evp_none ?_)
    | ((with_reducible show Tru _ _ _ _); first
      | refine tru_T (by assumption) ?_
      | refine tru_bool ?_
      | refine tru_none ?_)
    | ((with_reducible show One _ _ (unaryOp UnaryOp.USub) _ _); refine i_neg ?_)
    | ((with_reducible show Cut _ _ (D.str (T _)) _ _ _); refine cut_T (by assumption) ?_)
    | ((with_reducible show CallV _ _ (Value.builtin "len") _ _ _); refine c_len_T (by assumption) ?_)
    | ((with_reducible show CallV _ _ (Value.builtin "str.isdigit") _ _ _); refine c_isdigit ?_)
    | ((with_reducible show ∃ _, _ ∧ _); refine ⟨_, rfl, ?_⟩))

theorem fmod_range (a : Int) {k : Int} (hk : 0 < k) : 0 ≤ a.fmod k ∧ a.fmod k < k := ⟨Int.fmod_nonneg_of_pos a hk, Int.fmod_lt_of_pos a hk⟩
theorem cut_map {α β : Type} (f : α → β) (l : List α) (lo hi : Option Int) : cut (l.map f) lo hi = (cut l lo hi).map f := by
  unfold cut; rw [List.length_map, List.map_take, List.map_drop]
theorem cut_four {α : Type} {l : List α} {M : Int} (h0 : 0 ≤ M) (h4 : M ≤ 4) : (cut l none (some M)).length ≤ 4 := by
  obtain ⟨m, rfl⟩ := Int.eq_ofNat_of_zero_le h0
  rw [cut_upto, List.length_take]; omega
def B4 : List (List Nat) := [[98], [48, 48], [55], [45]]
def rowW (x : Int) (j : Nat) : List Nat := W5.getD (((x.fdiv 27).fdiv (5 ^ (j : Int).toNat)).fmod 5).toNat []
def rowB (x : Int) (j : Nat) : List Nat := B4.getD (((x.fdiv 11).fdiv (4 ^ (j : Int).toNat)).fmod 4).toNat []
def rowOf (x : Int) : Ver := ⟨x.fmod 2, (x.fdiv 4).fmod 3, (x.fdiv 9).fmod 3, (List.range ((x.fdiv 3).fmod 3).toNat).map (rowW x), (List.range ((x.fdiv 2 + 1).fmod 3).toNat).map (rowB x)⟩
theorem getD_mem' {l : List (List Nat)} {i : Nat} {d : List Nat} (h : i < l.length) : l.getD i d ∈ l := by
  rw [List.getD_eq_getElem?_getD, List.getElem?_eq_getElem h]
  exact List.getElem_mem h
theorem W5_chk : (W5.all fun x => chk false x) = true := by decide +kernel
theorem B4_chk : (B4.all fun x => chk true x) = true := by decide +kernel
theorem rowW_mem (x : Int) (j : Nat) : rowW x j ∈ W5 := getD_mem' (by have := fmod_range ((x.fdiv 27).fdiv (5 ^ (j : Int).toNat)) (show (0 : Int) < 5 by decide); show _ < 5; omega)
theorem rowB_mem (x : Int) (j : Nat) : rowB x j ∈ B4 := getD_mem' (by have := fmod_range ((x.fdiv 11).fdiv (4 ^ (j : Int).toNat)) (show (0 : Int) < 4 by decide); show _ < 4; omega)
structure Ver.Fine (v : Ver) : Prop where
  ok : v.Ok
  w5 : ∀ x ∈ v.p, x ∈ W5
theorem row_fine (x : Int) : (rowOf x).Fine := by
  have f1 := fmod_range x (show (0 : Int) < 2 by decide)
  have f2 := fmod_range (x.fdiv 4) (show (0 : Int) < 3 by decide)
  have f3 := fmod_range (x.fdiv 9) (show (0 : Int) < 3 by decide)
  have f4 := fmod_range (x.fdiv 3) (show (0 : Int) < 3 by decide)
  have f5 := fmod_range (x.fdiv 2 + 1) (show (0 : Int) < 3 by decide)
  have w5 : ∀ y ∈ (rowOf x).p, y ∈ W5 := fun y hy => by
    obtain ⟨j, _, rfl⟩ := List.mem_map.mp hy
    exact rowW_mem x j
  refine ⟨⟨⟨f1.1, by show x.fmod 2 < 10; omega⟩, ⟨f2.1, by show (x.fdiv 4).fmod 3 < 10; omega⟩, ⟨f3.1, by show (x.fdiv 9).fmod 3 < 10; omega⟩, ⟨fun y hy => good_chk (List.all_eq_true.mp W5_chk y (w5 y hy)), ?_⟩, ⟨fun y hy => ?_, ?_⟩⟩, w5⟩
  · show ((List.range _).map _).length ≤ 8; rw [List.length_map, List.length_range]; omega
  · obtain ⟨j, _, rfl⟩ := List.mem_map.mp hy
    exact good_chk (List.all_eq_true.mp B4_chk _ (rowB_mem x j))
  · show ((List.range _).map _).length ≤ 8; rw [List.length_map, List.length_range]; omega
theorem Ver.Fine.cut {v : Ver} (h : v.Fine) (i : Nat) : (v.cut i).Fine := by
  have z : (0 : Int) ≤ 0 ∧ (0 : Int) < 10 := by decide
  obtain ⟨⟨ha, hb, hc, hw, hl⟩, h5⟩ := h
  match i with
  | 0 => exact ⟨⟨ha, z, z, GoodL.nil _, GoodL.nil _⟩, fun _ q => nomatch q⟩
  | 1 => exact ⟨⟨ha, hb, z, GoodL.nil _, GoodL.nil _⟩, fun _ q => nomatch q⟩
  | 2 => exact ⟨⟨ha, hb, hc, GoodL.nil _, GoodL.nil _⟩, fun _ q => nomatch q⟩
  | 3 => exact ⟨⟨ha, hb, hc, hw, GoodL.nil _⟩, h5⟩
  | j + 4 => exact ⟨⟨ha, hb, hc, hw, hl⟩, h5⟩
theorem init_row (O : (cx w h₁ os₁ GI).Ok) (hGI : ∀ a b d, GI a d → (∀ y ∈ b, y ∈ a ∨ y.bare = true) → GI b d) {n : Nat} {v : Ver} {Pq : D → Prop} (ok : v.Ok) (h : Pq v.d) : CallK (cx w h₁ os₁ GI) (n + 12) (.ref 388) [.dat (.str (T v.text))] [] Pq :=
  let a := one_small ok.a
  let b := one_small ok.b
  let c := one_small ok.c
  init_text O hGI a.1 b.1 c.1 ok.w.ids ok.bl.ids ok.w.keys ok.bl.keys (vtext_short a.2.2 b.2.2 c.2.2 ok.w.jn ok.bl.jn) h
theorem gl_levels : nsIn (cx w h₁ os₁ GI).K mainGlobals "_law_levels" = some (some (.ref 393)) := by kernel_rfl
theorem tl_levels : tupsIn (cx w h₁ os₁ GI).K 393 [lvl 0, lvl 1, lvl 2, lvl 3, lvl 4] = true := by kernel_rfl
theorem nm_levels (O : (cx w h₁ os₁ GI).Ok) {n : Nat} {fc : FC} {ρ : Rho} {Pq : D → Prop} {pos : Pos} {i : Nat} (e : placeIn "_law_levels" fc.scope.names 0 = some i) (hk : fc.scope.names[i]? = some ((Str.ofString "_law_levels"), NameKind.globalImplicit)) (h : Pq (.tup ((List.range 5).map fun i => .str (T (lvl i))))) : Ev (cx w h₁ os₁ GI) n fc ρ (.Name "_law_levels" pos) Pq := ev_gtup O e hk gl_levels tl_levels rfl h
end
end Mine
end
section
set_option maxHeartbeats 0
namespace Mine
open PySem PySem.W PySem.Calls PyProof.Rows Builtin
section
variable {w : World} {h₁ : Heap} {os₁ : OsState} {GI : Array GenState → Drawn → Prop}
local macro_rules
  | `(tactic| kd_subs) => `(tactic| first
    | ((with_reducible show Ev _ _ _ _ _ _); first
      | ((with_reducible show Ev _ _ _ _ (Expr.Name _ _) _); first
        | ((with_reducible show Ev _ _ _ _ (Expr.Name (Str.ofString "_DIGITS") _) _); refine nm_digits (by assumption) rfl rfl ?_)
        | ((with_reducible show Ev _ _ _ _ (Expr.Name (Str.ofString "_SIGNS") _) _); refine nm_signs (by assumption) rfl rfl ?_)
        | ((with_reducible show Ev _ _ _ _ (Expr.Name (Str.ofString "Version") _) _); refine nm_ver (by assumption) rfl rfl ?_)
        | ((with_reducible show Ev _ _ _ _ (Expr.Name (Str.ofString "MaxIdentifier") _) _); refine nm_max (by assumption) rfl rfl ?_)
        | ((with_reducible show Ev _ _ _ _ (Expr.Name (Str.ofString "NumericIdentifier") _) _); refine nm_num (by assumption) rfl rfl ?_)
        | ((with_reducible show Ev _ _ _ _ (Expr.Name (Str.ofString "AlphaIdentifier") _) _); refine nm_alpha (by assumption) rfl rfl ?_)
        | ((with_reducible show Ev _ _ _ _ (Expr.Name (Str.ofString "NotImplemented") _) _); refine nm_ni (by assumption) rfl rfl ?_)
        | refine ev_nm rfl rfl rfl ?_)
      | ((with_reducible show Ev _ _ _ _ (Expr.Constant _ _ _) _); first
        | ((with_reducible show Ev _ _ _ _ (Expr.Constant (Const.int _) _ _) _); refine ev_int ?_)
        | ((with_reducible show Ev _ _ _ _ (Expr.Constant Const.none _ _) _); refine ev_none ?_)
        | ((with_reducible show Ev _ _ _ _ (Expr.Constant (Const.bool _) _ _) _); refine ev_bool ?_)
        | ((with_reducible show Ev _ _ _ _ (Expr.Constant (Const.str (Str.ofString ".")) _ _) _); refine ev_strT lit_dot ?_)
        | ((with_reducible show Ev _ _ _ _ (Expr.Constant (Const.str (Str.ofString "-")) _ _) _); refine ev_strT lit_dash ?_)
        | ((with_reducible show Ev _ _ _ _ (Expr.Constant (Const.str (Str.ofString "+")) _ _) _); refine ev_strT lit_plus ?_)
        | ((with_reducible show Ev _ _ _ _ (Expr.Constant (Const.str (Str.ofString "\n")) _ _) _); refine ev_strT lit_nl ?_)
        | ((with_reducible show Ev _ _ _ _ (Expr.Constant (Const.str (Str.ofString "")) _ _) _); refine ev_strT lit_empty ?_)
        | ((with_reducible show Ev _ _ _ _ (Expr.Constant (Const.str (Str.ofString "0")) _ _) _); refine ev_strT lit_zero ?_))
      | ((with_reducible show Ev _ _ _ _ (Expr.Call (Expr.Name _ _) _ _ _) _); first
        | ((with_reducible show Ev _ _ _ _ (Expr.Call (Expr.Name (Str.ofString "len") _) _ [] _) _); refine bl_len (by assumption) rfl rfl rfl ?_)
        | ((with_reducible show Ev _ _ _ _ (Expr.Call (Expr.Name (Str.ofString "int") _) _ [] _) _); refine bl_int (by assumption) rfl rfl rfl ?_)
        | ((with_reducible show Ev _ _ _ _ (Expr.Call (Expr.Name (Str.ofString "str") _) _ [] _) _); refine bl_str (by assumption) rfl rfl rfl ?_)
        | ((with_reducible show Ev _ _ _ _ (Expr.Call (Expr.Name (Str.ofString "abs") _) _ [] _) _); refine bl_abs (by assumption) rfl rfl rfl ?_)
        | ((with_reducible show Ev _ _ _ _ (Expr.Call (Expr.Name (Str.ofString "max") _) _ [] _) _); refine bl_max (by assumption) rfl rfl rfl ?_)
        | ((with_reducible show Ev _ _ _ _ (Expr.Call (Expr.Name (Str.ofString "min") _) _ [] _) _); refine bl_min (by assumption) rfl rfl rfl ?_)
        | ((with_reducible show Ev _ _ _ _ (Expr.Call (Expr.Name (Str.ofString "range") _) _ [] _) _); refine bl_range (by assumption) rfl rfl rfl ?_)
        | ((with_reducible show Ev _ _ _ _ (Expr.Call (Expr.Name (Str.ofString "tuple") _) _ [] _) _); (fail_if_success (with_reducible show Ev _ _ _ _ (Expr.Call _ [Expr.GeneratorExp _ _ _ _] _ _) _)); refine bl_tuple (by assumption) rfl rfl rfl ?_)
        | ((with_reducible show Ev _ _ _ _ (Expr.Call (Expr.Name (Str.ofString "list") _) _ [] _) _); refine bl_list (by assumption) rfl rfl rfl ?_)
        | ((with_reducible show Ev _ _ _ _ (Expr.Call (Expr.Name (Str.ofString "isinstance") _) _ [] _) _); refine bl_isinstance (by assumption) rfl rfl rfl ?_)
        | ((with_reducible show Ev _ _ _ _ (Expr.Call (Expr.Name (Str.ofString "_behind") _) _ [] _) _); refine cl_behind (by assumption) rfl rfl rfl ?_)
        | ((with_reducible show Ev _ _ _ _ (Expr.Call (Expr.Name (Str.ofString "_version_groups") _) _ [] _) _); refine cl_groups (by assumption) rfl rfl rfl ?_)
        | ((with_reducible show Ev _ _ _ _ (Expr.Call (Expr.Name (Str.ofString "_has_leading_zero") _) _ [] _) _); refine cl_hlz (by assumption) rfl rfl rfl ?_)
        | ((with_reducible show Ev _ _ _ _ (Expr.Call (Expr.Name (Str.ofString "MaxIdentifier") _) _ [] _) _); refine cl_max (by assumption) rfl rfl rfl ?_)
        | ((with_reducible show Ev _ _ _ _ (Expr.Call (Expr.Name (Str.ofString "NumericIdentifier") _) _ [] _) _); refine cl_num (by assumption) rfl rfl rfl ?_)
        | ((with_reducible show Ev _ _ _ _ (Expr.Call (Expr.Name (Str.ofString "AlphaIdentifier") _) _ [] _) _); refine cl_alpha (by assumption) rfl rfl rfl ?_)
        | ((with_reducible show Ev _ _ _ _ (Expr.Call (Expr.Name (Str.ofString "Version") _) _ [] _) _); refine cl_ver (by assumption) rfl rfl rfl ?_)
        | ((with_reducible show Ev _ _ _ _ (Expr.Call (Expr.Name (Str.ofString "_law_text") _) _ [] _) _); refine cl_ltext (by assumption) rfl rfl rfl ?_)
        | ((with_reducible show Ev _ _ _ _ (Expr.Call (Expr.Name (Str.ofString "_law_cut") _) _ [] _) _); refine cl_lcut (by assumption) rfl rfl rfl ?_)
        | ((with_reducible show Ev _ _ _ _ (Expr.Call (Expr.Name (Str.ofString "_law_key") _) _ [] _) _); refine cl_lkey (by assumption) rfl rfl rfl ?_)
        | ((with_reducible show Ev _ _ _ _ (Expr.Call (Expr.Name (Str.ofString "Version") _) _ _ _) _); refine ck_ver (by assumption) rfl rfl rfl rfl ?_))
      | ((with_reducible show Ev _ _ _ _ (Expr.Compare _ _ _ _) _); refine ev_cmp rfl ?_)
      | ((with_reducible show Ev _ _ _ _ (Expr.Call (Expr.Attribute _ _ _) _ [] _) _); first
        | ((with_reducible show Ev _ _ _ _ (Expr.Call (Expr.Attribute _ (Str.ofString "isdigit") _) _ [] _) _); refine ev_methv (by assumption) (fun _ => rfl) rfl (evv_dat ?_))
        | ((with_reducible show Ev _ _ _ _ (Expr.Call (Expr.Attribute _ (Str.ofString "split") _) _ [] _) _); refine ev_methv (by assumption) (fun _ => rfl) rfl (evv_dat ?_))
        | ((with_reducible show Ev _ _ _ _ (Expr.Call (Expr.Attribute _ (Str.ofString "join") _) _ [] _) _); refine ev_methv (by assumption) (fun _ => rfl) rfl (evv_dat ?_))
        | ((with_reducible show Ev _ _ _ _ (Expr.Call (Expr.Attribute _ (Str.ofString "encode") _) _ [] _) _); refine ev_methv (by assumption) (fun _ => rfl) rfl (evv_dat ?_)))
      | ((with_reducible show Ev _ _ _ _ (Expr.Attribute (Expr.Name _ _) _ _) _); first
        | ((with_reducible show Ev _ _ _ _ (Expr.Attribute (Expr.Name _ _) (Str.ofString "major") _) _); refine ev_attr (fun _ => rfl) (evv_nm rfl rfl rfl (attr_inst (by assumption) rfl at_major rfl rfl ?_)))
        | ((with_reducible show Ev _ _ _ _ (Expr.Attribute (Expr.Name _ _) (Str.ofString "minor") _) _); refine ev_attr (fun _ => rfl) (evv_nm rfl rfl rfl (attr_inst (by assumption) rfl at_minor rfl rfl ?_)))
        | ((with_reducible show Ev _ _ _ _ (Expr.Attribute (Expr.Name _ _) (Str.ofString "patch") _) _); refine ev_attr (fun _ => rfl) (evv_nm rfl rfl rfl (attr_inst (by assumption) rfl at_patch rfl rfl ?_)))
        | ((with_reducible show Ev _ _ _ _ (Expr.Attribute (Expr.Name _ _) (Str.ofString "prerelease") _) _); refine ev_attr (fun _ => rfl) (evv_nm rfl rfl rfl (attr_inst (by assumption) rfl at_pre rfl rfl ?_)))
        | ((with_reducible show Ev _ _ _ _ (Expr.Attribute (Expr.Name _ _) (Str.ofString "build") _) _); refine ev_attr (fun _ => rfl) (evv_nm rfl rfl rfl (attr_inst (by assumption) rfl at_build rfl rfl ?_)))
        | ((with_reducible show Ev _ _ _ _ (Expr.Attribute (Expr.Name _ _) (Str.ofString "partial") _) _); refine ev_attr (fun _ => rfl) (evv_nm rfl rfl rfl (attr_inst (by assumption) rfl at_partial rfl rfl ?_)))
        | ((with_reducible show Ev _ _ _ _ (Expr.Attribute (Expr.Name _ _) (Str.ofString "_cmp_precedence_key") _) _); refine ev_attr (fun _ => rfl) (evv_nm rfl rfl rfl (attr_inst (by assumption) rfl at_cmpk rfl rfl ?_))))
      | ((with_reducible show Ev _ _ _ _ (Expr.BoolOp BoolOp.And (_ :: _ :: _) _) _); refine ev_and ?_)
      | ((with_reducible show Ev _ _ _ _ (Expr.BoolOp BoolOp.Or (_ :: _ :: _) _) _); refine ev_or ?_)
      | ((with_reducible show Ev _ _ _ _ (Expr.BoolOp _ [_] _) _); refine ev_bool1 ?_)
      | ((with_reducible show Ev _ _ _ _ (Expr.BinOp _ _ _ _) _); refine ev_bin ?_)
      | ((with_reducible show Ev _ _ _ _ (Expr.Tuple _ _ _) _); refine ev_tup ?_)
      | ((with_reducible show Ev _ _ _ _ (Expr.List _ _) _); refine ev_list ?_)
      | ((with_reducible show Ev _ _ _ _ (Expr.UnaryOp UnaryOp.Not _ _) _); refine ev_not ?_)
      | ((with_reducible show Ev _ _ _ _ (Expr.UnaryOp _ _ _) _); refine ev_un ?_)
      | ((with_reducible show Ev _ _ _ _ (Expr.Subscript _ (Expr.Slice _ _ _ _) _) _); refine ev_cut ?_)
      | ((with_reducible show Ev _ _ _ _ (Expr.Subscript _ _ _) _); refine ev_item rfl ?_))
    | ((with_reducible show MethV _ _ _ _ _); first
      | refine m_isdigit ?_
      | refine m_split ?_
      | refine m_join ?_
      | refine m_encode ?_)
    | ((with_reducible show EvK _ _ _ _ _ _); first
      | refine evk_cons rfl ?_
      | refine evk_nil ?_)
    | ((with_reducible show EvL _ _ _ _ _ _); first
      | ((with_reducible show EvL _ _ _ _ (_ :: _) _); refine evl_cons rfl ?_)
      | refine evl_nil ?_)
    | ((with_reducible show Ex _ _ _ _ _ _); first
      | ((with_reducible show Ex _ _ _ _ (_ :: _) _); (try conv => arg 4; simp only [List.set_cons_succ, List.set_cons_zero]); refine ex_cons ?_)
      | refine ex_nil ?_)
    | ((with_reducible show Ex1 _ _ _ _ _ _); first
      | ((with_reducible show Ex1 _ _ _ _ (Stmt.If _ _ _ _) _); refine ex_if ?_)
      | ((with_reducible show Ex1 _ _ _ _ (Stmt.Return (some _) _) _); refine ex_return ?_)
      | ((with_reducible show Ex1 _ _ _ _ (Stmt.Assign [Expr.Name _ _] _ _) _); refine ex_as rfl rfl rfl (fun _ => rfl) ?_))
    | ((with_reducible show Two _ _ _ _ _ _); first
      | ((with_reducible show Two _ _ (binaryOp Operator.Add) _ _ _); refine i_add ?_)
      | ((with_reducible show Two _ _ (binaryOp Operator.Sub) _ _ _); refine i_sub ?_)
      | ((with_reducible show Two _ _ (binaryOp Operator.BitXor) _ _ _); refine b_xor ?_)
      | ((with_reducible show Two _ _ (compareOp CmpOp.Lt) _ _ _); refine i_lt ?_)
      | ((with_reducible show Two _ _ (compareOp CmpOp.Gt) _ _ _); refine i_gt ?_)
      | ((with_reducible show Two _ _ (compareOp CmpOp.LtE) _ _ _); refine i_le ?_)
      | ((with_reducible show Two _ _ (compareOp CmpOp.GtE) _ _ _); refine i_ge ?_)
      | ((with_reducible show Two _ _ (compareOp CmpOp.Is) _ _ _); refine is_no ?_)
      | ((with_reducible show Two _ _ (compareOp CmpOp.IsNot) _ _ _); refine isnt_no ?_)
      | ((with_reducible show Two _ _ (compareOp CmpOp.Eq) (D.int _) _ _); refine i_eq ?_)
      | ((with_reducible show Two _ _ (compareOp CmpOp.Eq) (D.str (T _)) _ _); refine s_eqT ?_)
      | ((with_reducible show Two _ _ (compareOp CmpOp.NotEq) (D.int _) _ _); refine i_ne ?_)
      | ((with_reducible show Two _ _ (compareOp CmpOp.NotEq) (D.str (T _)) _ _); refine s_neT ?_))
    | ((with_reducible show Tst _ _ _ _ _ _); first
      | ((with_reducible show Tst _ _ _ _ (Expr.Compare _ _ _ _) _); refine tst_cmp rfl ?_)
      | ((with_reducible show Tst _ _ _ _ (Expr.Name _ _) _); refine tst_of (fun _ _ => rfl) ?_)
      | ((with_reducible show Tst _ _ _ _ (Expr.Call _ _ _ _) _); refine tst_of (fun _ _ => rfl) ?_)
      | ((with_reducible show Tst _ _ _ _ (Expr.Attribute _ _ _) _); refine tst_of (fun _ _ => rfl) ?_)
      | ((with_reducible show Tst _ _ _ _ (Expr.BinOp _ _ _ _) _); refine tst_of (fun _ _ => rfl) ?_)
      | ((with_reducible show Tst _ _ _ _ (Expr.Subscript _ _ _) _); refine tst_of (fun _ _ => rfl) ?_)
      | ((with_reducible show Tst _ _ _ _ (Expr.BoolOp BoolOp.And [] _) _); refine tst_and_nil ?_)
      | ((with_reducible show Tst _ _ _ _ (Expr.BoolOp BoolOp.Or [] _) _); refine tst_or_nil ?_)
      | ((with_reducible show Tst _ _ _ _ (Expr.UnaryOp UnaryOp.Not _ _) _); refine tst_not ?_)
      | ((with_reducible show Tst _ _ _ _ (Expr.BoolOp BoolOp.And (_ :: _) _) _); refine tst_and ?_)
      | ((with_reducible show Tst _ _ _ _ (Expr.BoolOp BoolOp.Or (_ :: _) _) _); refine tst_or ?_))
    | ((with_reducible show EvP _ _ _ _ _ _); first
      | refine evp_some ?_
      | refine evp_none ?_)
    | ((with_reducible show Tru _ _ _ _); first
      | refine tru_T (by assumption) ?_
      | refine tru_bool ?_
      | refine tru_none ?_)
    | ((with_reducible show One _ _ (unaryOp UnaryOp.USub) _ _); refine i_neg ?_)
    | ((with_reducible show Cut _ _ (D.str (T _)) _ _ _); refine cut_T (by assumption) ?_)
    | ((with_reducible show CallV _ _ (Value.builtin "len") _ _ _); refine c_len_T (by assumption) ?_)
    | ((with_reducible show CallV _ _ (Value.builtin "str.isdigit") _ _ _); refine c_isdigit ?_)
    | ((with_reducible show ∃ _, _ ∧ _); refine ⟨_, rfl, ?_⟩))

theorem str_ver (O : (cx w h₁ os₁ GI).Ok) {n : Nat} {v : Ver} {Pq : D → Prop} (ok : v.Ok) (h : Pq (.str (T v.text))) : CallV (cx w h₁ os₁ GI) (n + 8) (.type "str") [.dat v.d] [] Pq :=
  c_str_o O ci_v_str (v_str O (one_small ok.a).2.1 (one_small ok.b).2.1 (one_small ok.c).2.1 (by have := ok.w.few; omega) (by have := ok.bl.few; omega) ok.w.short ok.bl.short (by have := ok.w.jn; omega) (by have := ok.bl.jn; omega) ⟨rfl, h⟩).v
theorem row_eq {c : Cx} {n : Nat} {v v' : Ver} {Pq : D → Prop} (q : Pq (.raw (.bool (v.same v')))) : Two c (n + 6) (compareOp .Eq) v.row v'.row Pq := by
  have r : CmpR c (n + 6) v.row v'.row _ := CmpL.r (n := n + 5) (.cons (CmpL.rl (n := n + 3) (.cons (cmp_int v.A v'.A) (.cons (cmp_int v.B v'.B) (.cons (cmp_int v.C v'.C) .nil)))) (.cons (CmpL.rl (n := n + 3) strs_cmp) (.cons (CmpL.rl (n := n + 3) strs_cmp) .nil)))
  refine Two.mono (two_b (t := fun u v => compareOp .Eq u v) (Two.mono r.eq fun d e => ⟨_, e, rfl⟩)) fun d e => ?_
  subst e
  rw [then_eq, then_eq, then_eq, then_eq, then_eq, then_eq, (int_cases v.A v'.A).1, (int_cases v.B v'.B).1, (int_cases v.C v'.C).1, scmp_eq, scmp_eq]
  rw [show ((v.A == v'.A && (v.B == v'.B && (v.C == v'.C && (Ordering.eq == Ordering.eq))) ) && (v.p == v'.p && (v.b == v'.b && (Ordering.eq == Ordering.eq)))) = v.same v' from by
    unfold Ver.same
    rw [Bool.eq_iff_iff]
    simp [and_assoc]]
  exact q
theorem two_vle (O : (cx w h₁ os₁ GI).Ok) {n : Nat} {v v' : Ver} {Pq : D → Prop} (ok : v.Ok) (ok' : v'.Ok) (h : Pq (.raw (.bool (v.le v')))) : Two (cx w h₁ os₁ GI) (n + 7) (compareOp .LtE) v.d v'.d Pq := two_le O ok.w.low ok'.w.low h
end
end Mine
end
section
set_option maxHeartbeats 0
namespace Mine
open PySem PySem.W PySem.Calls PyProof.Rows Builtin
section
variable {w : World} {h₁ : Heap} {os₁ : OsState} {GI : Array GenState → Drawn → Prop}
local macro_rules
  | `(tactic| kd_subs) => `(tactic| first
    | ((with_reducible show Ev _ _ _ _ _ _); first
      | ((with_reducible show Ev _ _ _ _ (Expr.Name _ _) _); first
        | ((with_reducible show Ev _ _ _ _ (Expr.Name (Str.ofString "_DIGITS") _) _); refine nm_digits (by assumption) rfl rfl ?_)
        | ((with_reducible show Ev _ _ _ _ (Expr.Name (Str.ofString "_SIGNS") _) _); refine nm_signs (by assumption) rfl rfl ?_)
        | ((with_reducible show Ev _ _ _ _ (Expr.Name (Str.ofString "Version") _) _); refine nm_ver (by assumption) rfl rfl ?_)
        | ((with_reducible show Ev _ _ _ _ (Expr.Name (Str.ofString "MaxIdentifier") _) _); refine nm_max (by assumption) rfl rfl ?_)
        | ((with_reducible show Ev _ _ _ _ (Expr.Name (Str.ofString "NumericIdentifier") _) _); refine nm_num (by assumption) rfl rfl ?_)
        | ((with_reducible show Ev _ _ _ _ (Expr.Name (Str.ofString "AlphaIdentifier") _) _); refine nm_alpha (by assumption) rfl rfl ?_)
        | ((with_reducible show Ev _ _ _ _ (Expr.Name (Str.ofString "NotImplemented") _) _); refine nm_ni (by assumption) rfl rfl ?_)
        | refine ev_nm rfl rfl rfl ?_)
      | ((with_reducible show Ev _ _ _ _ (Expr.Constant _ _ _) _); first
        | ((with_reducible show Ev _ _ _ _ (Expr.Constant (Const.int _) _ _) _); refine ev_int ?_)
        | ((with_reducible show Ev _ _ _ _ (Expr.Constant Const.none _ _) _); refine ev_none ?_)
        | ((with_reducible show Ev _ _ _ _ (Expr.Constant (Const.bool _) _ _) _); refine ev_bool ?_)
        | ((with_reducible show Ev _ _ _ _ (Expr.Constant (Const.str (Str.ofString ".")) _ _) _); refine ev_strT lit_dot ?_)
        | ((with_reducible show Ev _ _ _ _ (Expr.Constant (Const.str (Str.ofString "-")) _ _) _); refine ev_strT lit_dash ?_)
        | ((with_reducible show Ev _ _ _ _ (Expr.Constant (Const.str (Str.ofString "+")) _ _) _); refine ev_strT lit_plus ?_)
        | ((with_reducible show Ev _ _ _ _ (Expr.Constant (Const.str (Str.ofString "\n")) _ _) _); refine ev_strT lit_nl ?_)
        | ((with_reducible show Ev _ _ _ _ (Expr.Constant (Const.str (Str.ofString "")) _ _) _); refine ev_strT lit_empty ?_)
        | ((with_reducible show Ev _ _ _ _ (Expr.Constant (Const.str (Str.ofString "0")) _ _) _); refine ev_strT lit_zero ?_))
      | ((with_reducible show Ev _ _ _ _ (Expr.Call (Expr.Name _ _) _ _ _) _); first
        | ((with_reducible show Ev _ _ _ _ (Expr.Call (Expr.Name (Str.ofString "len") _) _ [] _) _); refine bl_len (by assumption) rfl rfl rfl ?_)
        | ((with_reducible show Ev _ _ _ _ (Expr.Call (Expr.Name (Str.ofString "int") _) _ [] _) _); refine bl_int (by assumption) rfl rfl rfl ?_)
        | ((with_reducible show Ev _ _ _ _ (Expr.Call (Expr.Name (Str.ofString "str") _) _ [] _) _); refine bl_str (by assumption) rfl rfl rfl ?_)
        | ((with_reducible show Ev _ _ _ _ (Expr.Call (Expr.Name (Str.ofString "abs") _) _ [] _) _); refine bl_abs (by assumption) rfl rfl rfl ?_)
        | ((with_reducible show Ev _ _ _ _ (Expr.Call (Expr.Name (Str.ofString "max") _) _ [] _) _); refine bl_max (by assumption) rfl rfl rfl ?_)
        | ((with_reducible show Ev _ _ _ _ (Expr.Call (Expr.Name (Str.ofString "min") _) _ [] _) _); refine bl_min (by assumption) rfl rfl rfl ?_)
        | ((with_reducible show Ev _ _ _ _ (Expr.Call (Expr.Name (Str.ofString "range") _) _ [] _) _); refine bl_range (by assumption) rfl rfl rfl ?_)
        | ((with_reducible show Ev _ _ _ _ (Expr.Call (Expr.Name (Str.ofString "tuple") _) _ [] _) _); (fail_if_success (with_reducible show Ev _ _ _ _ (Expr.Call _ [Expr.GeneratorExp _ _ _ _] _ _) _)); refine bl_tuple (by assumption) rfl rfl rfl ?_)
        | ((with_reducible show Ev _ _ _ _ (Expr.Call (Expr.Name (Str.ofString "list") _) _ [] _) _); refine bl_list (by assumption) rfl rfl rfl ?_)
        | ((with_reducible show Ev _ _ _ _ (Expr.Call (Expr.Name (Str.ofString "isinstance") _) _ [] _) _); refine bl_isinstance (by assumption) rfl rfl rfl ?_)
        | ((with_reducible show Ev _ _ _ _ (Expr.Call (Expr.Name (Str.ofString "_behind") _) _ [] _) _); refine cl_behind (by assumption) rfl rfl rfl ?_)
        | ((with_reducible show Ev _ _ _ _ (Expr.Call (Expr.Name (Str.ofString "_version_groups") _) _ [] _) _); refine cl_groups (by assumption) rfl rfl rfl ?_)
        | ((with_reducible show Ev _ _ _ _ (Expr.Call (Expr.Name (Str.ofString "_has_leading_zero") _) _ [] _) _); refine cl_hlz (by assumption) rfl rfl rfl ?_)
        | ((with_reducible show Ev _ _ _ _ (Expr.Call (Expr.Name (Str.ofString "MaxIdentifier") _) _ [] _) _); refine cl_max (by assumption) rfl rfl rfl ?_)
        | ((with_reducible show Ev _ _ _ _ (Expr.Call (Expr.Name (Str.ofString "NumericIdentifier") _) _ [] _) _); refine cl_num (by assumption) rfl rfl rfl ?_)
        | ((with_reducible show Ev _ _ _ _ (Expr.Call (Expr.Name (Str.ofString "AlphaIdentifier") _) _ [] _) _); refine cl_alpha (by assumption) rfl rfl rfl ?_)
        | ((with_reducible show Ev _ _ _ _ (Expr.Call (Expr.Name (Str.ofString "Version") _) _ [] _) _); refine cl_ver (by assumption) rfl rfl rfl ?_)
        | ((with_reducible show Ev _ _ _ _ (Expr.Call (Expr.Name (Str.ofString "_law_text") _) _ [] _) _); refine cl_ltext (by assumption) rfl rfl rfl ?_)
        | ((with_reducible show Ev _ _ _ _ (Expr.Call (Expr.Name (Str.ofString "_law_cut") _) _ [] _) _); refine cl_lcut (by assumption) rfl rfl rfl ?_)
        | ((with_reducible show Ev _ _ _ _ (Expr.Call (Expr.Name (Str.ofString "_law_key") _) _ [] _) _); refine cl_lkey (by assumption) rfl rfl rfl ?_)
        | ((with_reducible show Ev _ _ _ _ (Expr.Call (Expr.Name (Str.ofString "Version") _) _ _ _) _); refine ck_ver (by assumption) rfl rfl rfl rfl ?_))
      | ((with_reducible show Ev _ _ _ _ (Expr.Compare _ _ _ _) _); refine ev_cmp rfl ?_)
      | ((with_reducible show Ev _ _ _ _ (Expr.Call (Expr.Attribute _ _ _) _ [] _) _); first
        | ((with_reducible show Ev _ _ _ _ (Expr.Call (Expr.Attribute _ (Str.ofString "isdigit") _) _ [] _) _); refine ev_methv (by assumption) (fun _ => rfl) rfl (evv_dat ?_))
        | ((with_reducible show Ev _ _ _ _ (Expr.Call (Expr.Attribute _ (Str.ofString "split") _) _ [] _) _); refine ev_methv (by assumption) (fun _ => rfl) rfl (evv_dat ?_))
        | ((with_reducible show Ev _ _ _ _ (Expr.Call (Expr.Attribute _ (Str.ofString "join") _) _ [] _) _); refine ev_methv (by assumption) (fun _ => rfl) rfl (evv_dat ?_))
        | ((with_reducible show Ev _ _ _ _ (Expr.Call (Expr.Attribute _ (Str.ofString "encode") _) _ [] _) _); refine ev_methv (by assumption) (fun _ => rfl) rfl (evv_dat ?_)))
      | ((with_reducible show Ev _ _ _ _ (Expr.Attribute (Expr.Name _ _) _ _) _); first
        | ((with_reducible show Ev _ _ _ _ (Expr.Attribute (Expr.Name _ _) (Str.ofString "major") _) _); refine ev_attr (fun _ => rfl) (evv_nm rfl rfl rfl (attr_inst (by assumption) rfl at_major rfl rfl ?_)))
        | ((with_reducible show Ev _ _ _ _ (Expr.Attribute (Expr.Name _ _) (Str.ofString "minor") _) _); refine ev_attr (fun _ => rfl) (evv_nm rfl rfl rfl (attr_inst (by assumption) rfl at_minor rfl rfl ?_)))
        | ((with_reducible show Ev _ _ _ _ (Expr.Attribute (Expr.Name _ _) (Str.ofString "patch") _) _); refine ev_attr (fun _ => rfl) (evv_nm rfl rfl rfl (attr_inst (by assumption) rfl at_patch rfl rfl ?_)))
        | ((with_reducible show Ev _ _ _ _ (Expr.Attribute (Expr.Name _ _) (Str.ofString "prerelease") _) _); refine ev_attr (fun _ => rfl) (evv_nm rfl rfl rfl (attr_inst (by assumption) rfl at_pre rfl rfl ?_)))
        | ((with_reducible show Ev _ _ _ _ (Expr.Attribute (Expr.Name _ _) (Str.ofString "build") _) _); refine ev_attr (fun _ => rfl) (evv_nm rfl rfl rfl (attr_inst (by assumption) rfl at_build rfl rfl ?_)))
        | ((with_reducible show Ev _ _ _ _ (Expr.Attribute (Expr.Name _ _) (Str.ofString "partial") _) _); refine ev_attr (fun _ => rfl) (evv_nm rfl rfl rfl (attr_inst (by assumption) rfl at_partial rfl rfl ?_)))
        | ((with_reducible show Ev _ _ _ _ (Expr.Attribute (Expr.Name _ _) (Str.ofString "_cmp_precedence_key") _) _); refine ev_attr (fun _ => rfl) (evv_nm rfl rfl rfl (attr_inst (by assumption) rfl at_cmpk rfl rfl ?_))))
      | ((with_reducible show Ev _ _ _ _ (Expr.BoolOp BoolOp.And (_ :: _ :: _) _) _); refine ev_and ?_)
      | ((with_reducible show Ev _ _ _ _ (Expr.BoolOp BoolOp.Or (_ :: _ :: _) _) _); refine ev_or ?_)
      | ((with_reducible show Ev _ _ _ _ (Expr.BoolOp _ [_] _) _); refine ev_bool1 ?_)
      | ((with_reducible show Ev _ _ _ _ (Expr.BinOp _ _ _ _) _); refine ev_bin ?_)
      | ((with_reducible show Ev _ _ _ _ (Expr.Tuple _ _ _) _); refine ev_tup ?_)
      | ((with_reducible show Ev _ _ _ _ (Expr.List _ _) _); refine ev_list ?_)
      | ((with_reducible show Ev _ _ _ _ (Expr.UnaryOp UnaryOp.Not _ _) _); refine ev_not ?_)
      | ((with_reducible show Ev _ _ _ _ (Expr.UnaryOp _ _ _) _); refine ev_un ?_)
      | ((with_reducible show Ev _ _ _ _ (Expr.Subscript _ (Expr.Slice _ _ _ _) _) _); refine ev_cut ?_)
      | ((with_reducible show Ev _ _ _ _ (Expr.Subscript _ _ _) _); refine ev_item rfl ?_))
    | ((with_reducible show MethV _ _ _ _ _); first
      | refine m_isdigit ?_
      | refine m_split ?_
      | refine m_join ?_
      | refine m_encode ?_)
    | ((with_reducible show EvK _ _ _ _ _ _); first
      | refine evk_cons rfl ?_
      | refine evk_nil ?_)
    | ((with_reducible show EvL _ _ _ _ _ _); first
      | ((with_reducible show EvL _ _ _ _ (_ :: _) _); refine evl_cons rfl ?_)
      | refine evl_nil ?_)
    | ((with_reducible show Ex _ _ _ _ _ _); first
      | ((with_reducible show Ex _ _ _ _ (_ :: _) _); (try conv => arg 4; simp only [List.set_cons_succ, List.set_cons_zero]); refine ex_cons ?_)
      | refine ex_nil ?_)
    | ((with_reducible show Ex1 _ _ _ _ _ _); first
      | ((with_reducible show Ex1 _ _ _ _ (Stmt.If _ _ _ _) _); refine ex_if ?_)
      | ((with_reducible show Ex1 _ _ _ _ (Stmt.Return (some _) _) _); refine ex_return ?_)
      | ((with_reducible show Ex1 _ _ _ _ (Stmt.Assign [Expr.Name _ _] _ _) _); refine ex_as rfl rfl rfl (fun _ => rfl) ?_))
    | ((with_reducible show Two _ _ _ _ _ _); first
      | ((with_reducible show Two _ _ (binaryOp Operator.Add) _ _ _); refine i_add ?_)
      | ((with_reducible show Two _ _ (binaryOp Operator.Sub) _ _ _); refine i_sub ?_)
      | ((with_reducible show Two _ _ (binaryOp Operator.BitXor) _ _ _); refine b_xor ?_)
      | ((with_reducible show Two _ _ (compareOp CmpOp.Lt) _ _ _); refine i_lt ?_)
      | ((with_reducible show Two _ _ (compareOp CmpOp.Gt) _ _ _); refine i_gt ?_)
      | ((with_reducible show Two _ _ (compareOp CmpOp.LtE) _ _ _); refine i_le ?_)
      | ((with_reducible show Two _ _ (compareOp CmpOp.GtE) _ _ _); refine i_ge ?_)
      | ((with_reducible show Two _ _ (compareOp CmpOp.Is) _ _ _); refine is_no ?_)
      | ((with_reducible show Two _ _ (compareOp CmpOp.IsNot) _ _ _); refine isnt_no ?_)
      | ((with_reducible show Two _ _ (compareOp CmpOp.Eq) (D.int _) _ _); refine i_eq ?_)
      | ((with_reducible show Two _ _ (compareOp CmpOp.Eq) (D.str (T _)) _ _); refine s_eqT ?_)
      | ((with_reducible show Two _ _ (compareOp CmpOp.NotEq) (D.int _) _ _); refine i_ne ?_)
      | ((with_reducible show Two _ _ (compareOp CmpOp.NotEq) (D.str (T _)) _ _); refine s_neT ?_))
    | ((with_reducible show Tst _ _ _ _ _ _); first
      | ((with_reducible show Tst _ _ _ _ (Expr.Compare _ _ _ _) _); refine tst_cmp rfl ?_)
      | ((with_reducible show Tst _ _ _ _ (Expr.Name _ _) _); refine tst_of (fun _ _ => rfl) ?_)
      | ((with_reducible show Tst _ _ _ _ (Expr.Call _ _ _ _) _); refine tst_of (fun _ _ => rfl) ?_)
      | ((with_reducible show Tst _ _ _ _ (Expr.Attribute _ _ _) _); refine tst_of (fun _ _ => rfl) ?_)
      | ((with_reducible show Tst _ _ _ _ (Expr.BinOp _ _ _ _) _); refine tst_of (fun _ _ => rfl) ?_)
      | ((with_reducible show Tst _ _ _ _ (Expr.Subscript _ _ _) _); refine tst_of (fun _ _ => rfl) ?_)
      | ((with_reducible show Tst _ _ _ _ (Expr.BoolOp BoolOp.And [] _) _); refine tst_and_nil ?_)
      | ((with_reducible show Tst _ _ _ _ (Expr.BoolOp BoolOp.Or [] _) _); refine tst_or_nil ?_)
      | ((with_reducible show Tst _ _ _ _ (Expr.UnaryOp UnaryOp.Not _ _) _); refine tst_not ?_)
      | ((with_reducible show Tst _ _ _ _ (Expr.BoolOp BoolOp.And (_ :: _) _) _); refine tst_and ?_)
      | ((with_reducible show Tst _ _ _ _ (Expr.BoolOp BoolOp.Or (_ :: _) _) _); refine tst_or ?_))
    | ((with_reducible show EvP _ _ _ _ _ _); first
      | refine evp_some ?_
      | refine evp_none ?_)
    | ((with_reducible show Tru _ _ _ _); first
      | refine tru_T (by assumption) ?_
      | refine tru_bool ?_
      | refine tru_none ?_)
    | ((with_reducible show One _ _ (unaryOp UnaryOp.USub) _ _); refine i_neg ?_)
    | ((with_reducible show Cut _ _ (D.str (T _)) _ _ _); refine cut_T (by assumption) ?_)
    | ((with_reducible show CallV _ _ (Value.builtin "len") _ _ _); refine c_len_T (by assumption) ?_)
    | ((with_reducible show CallV _ _ (Value.builtin "str.isdigit") _ _ _); refine c_isdigit ?_)
    | ((with_reducible show ∃ _, _ ∧ _); refine ⟨_, rfl, ?_⟩))

theorem law_runs (O : (cx w h₁ os₁ GI).Ok) (hGI : ∀ a b d, GI a d → (∀ y ∈ b, y ∈ a ∨ y.bare = true) → GI b d) {n : Nat} {ns : List Int} (hns : ns.length ≤ 63) :
    CallRoot (cx w h₁ os₁ GI) (n + 20) (.ref 415) [.dat (intL ns)] (· = .raw (.bool true)) := by
  have szl := sizeLine_eq
  refine' root_def O ?hf ?hc ?hs ?ρ ?hno ?hb ?_
  case hf => exact rfl
  case hc => kernel_rfl
  case hs => kernel_rfl
  case ρ => exact [some (.dat (intL ns)), none, none, none, none, none, none, none, none, none, none]
  case hno => exact rfl
  case hb =>
    rintro X s vs I ⟨v1, _, rfl, r1, rfl⟩
    refine ⟨_, BindsTo.of_eq rfl, rfl, ⟨⟨_, rfl, r1⟩, .inl rfl⟩, trivial⟩
  refine ex_cons (ex_ow rfl rfl rfl (evl_nil ⟨by simp, fun ar => ?_⟩))
  refine ex_cons (ex_for rfl ?_)
  repeat kd_subs
  refine cut_l (by rw [List.length_map]; omega) ?_
  repeat kd_subs
  refine ⟨by simp [szl], ?_⟩
  have l4 := cut_len (ns.map D.int) none (some 4)
  rw [List.length_map] at l4
  have l5 : (cut (ns.map D.int) none (some 4)).length ≤ 4 := by
    rw [show (some (4 : Int)) = some ((4 : Nat) : Int) from rfl, cut_upto, List.length_take]; omega
  refine l_add (by simp only [List.length_cons, List.length_nil]; omega) ?_
  repeat kd_subs
  refine cut_l (by rw [List.length_map]; omega) ?_
  repeat kd_subs
  refine c_len_l (by omega) ?_
  repeat kd_subs
  refine c_max2 ?_
  repeat kd_subs
  refine cut_l (by simp only [List.length_append, List.length_cons, List.length_nil]; omega) ?_
  rw [cut_map, show ([D.int 7, D.int 100, D.int 1000] : List D) = ([7, 100, 1000] : List Int).map .int from rfl, ← List.map_append, cut_map]
  rw [cut_map, List.length_map] at l5
  have hM4 : ∀ {M : Int}, M = (if (((cut ns none (some 4)).map D.int).length : Int) > 3 then (((cut ns none (some 4)).map D.int).length : Int) else 3) → 0 ≤ M ∧ M ≤ 4 := by
    rintro M rfl
    rw [List.length_map]
    split <;> omega
  generalize hM1 : (if (((cut ns none (some 4)).map D.int).length : Int) > 3 then (((cut ns none (some 4)).map D.int).length : Int) else 3) = M
  have hM2 := hM4 hM1.symm
  have lx := cut_four (l := cut ns none (some 4) ++ [7, 100, 1000]) hM2.1 hM2.2
  generalize hxs : cut (cut ns none (some 4) ++ [7, 100, 1000]) none (some M) = xs at lx
  refine ⟨_, .list, ?_⟩
  refine for_invc 2 rfl rfl (l := xs) (g := .int) (fun k ρ => ∃ kx kw kb : Option D, ρ = [some (.dat (intL ns)), some (.own ar ((xs.take k).map fun x => (rowOf x).row)), kx.map LV.dat, kw.map LV.dat, kb.map LV.dat, none, none, none, none, none, none]) ?_ ?_ ?_
  · exact ⟨none, none, none, rfl⟩
  · rintro k _ x hd ⟨kx, kw, kb, rfl⟩
    have hk : k < xs.length := (List.getElem?_eq_some_iff.mp hd).1
    refine ⟨rfl, ?_⟩
    have f4 := fmod_range (x.fdiv 3) (show (0 : Int) < 3 by decide)
    have f5 := fmod_range (x.fdiv 2 + 1) (show (0 : Int) < 3 by decide)
    have e4 : (x.fdiv 3).fmod 3 = (((x.fdiv 3).fmod 3).toNat : Int) := (Int.toNat_of_nonneg f4.1).symm
    have e5 : (x.fdiv 2 + 1).fmod 3 = (((x.fdiv 2 + 1).fmod 3).toNat : Int) := (Int.toNat_of_nonneg f5.1).symm
    refine ex_cons (ex_comp [none, none, some (.dat (.int x))] rfl 3 rfl (.inl rfl) (by simp) ?_ rfl rfl rfl ?_)
    · cases kw <;> cases kb <;> rfl
    repeat kd_subs
    refine i_div (by decide) (by decide) ?_
    repeat kd_subs
    refine i_mod (by decide) ?_
    repeat kd_subs
    rw [e4]
    refine c_range1 ⟨_, items_range0 (by omega), ?_⟩
    refine comp_map (i := 1) rfl rfl rfl (F := fun j => .str (T (rowW x j))) (by rw [List.length_range]; omega) (fun j hj => ?_) ?_
    · have hj := List.mem_range.mp hj
      refine ev_item rfl (ev_list (evl_cons rfl (ev_strT (l := [97]) (by kernel_rfl) (evl_cons rfl (ev_strT lit_zero (evl_cons rfl (ev_strT (l := [49]) (by kernel_rfl) (evl_cons rfl (ev_strT (l := [98, 45]) (by kernel_rfl) (evl_cons rfl (ev_strT (l := [65]) (by kernel_rfl) (evl_nil ⟨by simp [szl], ?_⟩))))))))))))
      repeat kd_subs
      refine i_div (by decide) (by decide) ?_
      repeat kd_subs
      have fr := fmod_range ((x.fdiv 27).fdiv (5 ^ (j : Int).toNat)) (show (0 : Int) < 5 by decide)
      have hj2 : j = 0 ∨ j = 1 := by omega
      rcases hj2 with rfl | rfl
      · refine i_pow (by decide) (by decide) (by decide) (by decide) ?_
        refine i_div (by decide) (by decide) ?_
        repeat kd_subs
        refine i_mod (by decide) ?_
        exact item_menu (ls := W5) fr.1 fr.2 (by decide) rfl
      · refine i_pow (by decide) (by decide) (by decide) (by decide) ?_
        refine i_div (by decide) (by decide) ?_
        repeat kd_subs
        refine i_mod (by decide) ?_
        exact item_menu (ls := W5) fr.1 fr.2 (by decide) rfl
    rw [show ((List.range ((x.fdiv 3).fmod 3).toNat).map fun j => D.str (T (rowW x j))) = (rowOf x).p.map fun y => .str (T y) from by unfold rowOf; rw [List.map_map]; rfl]
    refine ex_cons (ex_comp [none, none, some (.dat (.int x))] rfl 4 rfl (.inl rfl) (by simp) ?_ rfl rfl rfl ?_)
    · cases kb <;> rfl
    repeat kd_subs
    refine i_div (by decide) (by decide) ?_
    repeat kd_subs
    refine i_mod (by decide) ?_
    repeat kd_subs
    rw [e5]
    refine c_range1 ⟨_, items_range0 (by omega), ?_⟩
    refine comp_map (i := 1) rfl rfl rfl (F := fun j => .str (T (rowB x j))) (by rw [List.length_range]; omega) (fun j hj => ?_) ?_
    · have hj := List.mem_range.mp hj
      refine ev_item rfl (ev_list (evl_cons rfl (ev_strT (l := [98]) (by kernel_rfl) (evl_cons rfl (ev_strT (l := [48, 48]) (by kernel_rfl) (evl_cons rfl (ev_strT (l := [55]) (by kernel_rfl) (evl_cons rfl (ev_strT lit_dash (evl_nil ⟨by simp [szl], ?_⟩))))))))))
      repeat kd_subs
      refine i_div (by decide) (by decide) ?_
      repeat kd_subs
      have fr := fmod_range ((x.fdiv 11).fdiv (4 ^ (j : Int).toNat)) (show (0 : Int) < 4 by decide)
      have hj2 : j = 0 ∨ j = 1 := by omega
      rcases hj2 with rfl | rfl
      · refine i_pow (by decide) (by decide) (by decide) (by decide) ?_
        refine i_div (by decide) (by decide) ?_
        repeat kd_subs
        refine i_mod (by decide) ?_
        exact item_menu (ls := B4) fr.1 fr.2 (by decide) rfl
      · refine i_pow (by decide) (by decide) (by decide) (by decide) ?_
        refine i_div (by decide) (by decide) ?_
        repeat kd_subs
        refine i_mod (by decide) ?_
        exact item_menu (ls := B4) fr.1 fr.2 (by decide) rfl
    rw [show ((List.range ((x.fdiv 2 + 1).fmod 3).toNat).map fun j => D.str (T (rowB x j))) = (rowOf x).b.map fun y => .str (T y) from by unfold rowOf; rw [List.map_map]; rfl]
    refine ex_cons (ex_app rfl rfl rfl rfl rfl rfl (by rw [List.length_map, List.length_take]; omega) (ev_tup ?_))
    repeat kd_subs
    refine i_mod (by decide) ?_
    repeat kd_subs
    refine i_div (by decide) (by decide) ?_
    repeat kd_subs
    refine i_mod (by decide) ?_
    repeat kd_subs
    refine i_div (by decide) (by decide) ?_
    repeat kd_subs
    refine i_mod (by decide) ?_
    repeat kd_subs
    refine ⟨by simp [szl], ?_⟩
    repeat kd_subs
    refine ⟨by simp [szl], ?_⟩
    refine ex_nil ⟨some (.int x), some (strL (rowOf x).p), some (strL (rowOf x).b), ?_⟩
    rw [List.take_add_one, hd, List.map_append]
    rfl
  rintro _ ⟨kx, kw, kb, rfl⟩
  rw [List.take_length]
  have hro : ∀ v ∈ xs.map rowOf, v.Fine := fun v hv => by obtain ⟨x, _, rfl⟩ := List.mem_map.mp hv; exact row_fine x
  rw [show (xs.map fun x => (rowOf x).row) = (xs.map rowOf).map Ver.row from by rw [List.map_map]; rfl]
  have hrl : (xs.map rowOf).length ≤ 4 := by rw [List.length_map]; exact lx
  generalize xs.map rowOf = rs at hro hrl
  refine ex_nil ?_
  refine ex_freeze 1 rfl rfl rfl ?_
  have hnsx : ∀ l : Option D, noSelf (([some (.dat (intL ns)), some (.dat (.list (rs.map Ver.row))), kx.map LV.dat, kw.map LV.dat, kb.map LV.dat, l.map LV.dat, none, none, none, none, none] : Rho)) = true := fun l => by
    cases kx <;> cases kw <;> cases kb <;> cases l <;> rfl
  generalize ex' : kx.map LV.dat = ex at hnsx
  generalize ew' : kw.map LV.dat = ew at hnsx
  generalize eb' : kb.map LV.dat = eb at hnsx
  refine ex_cons (ex_comp [none, none, none, none] rfl 5 rfl (.inl rfl) (by simp) (hnsx none) rfl rfl rfl (ev_nm rfl rfl rfl ⟨_, .list, ?_⟩))
  refine comp_map (i := 1) rfl rfl rfl (l := rs) (g := Ver.row) (F := Ver.d) (by omega) (fun v hv => ?_) ?_
  · have ok := (hro v hv).ok
    repeat kd_subs
    refine law_text O ok ?_
    repeat kd_subs
    exact init_row O hGI ok rfl
  refine ex_cons (ex_comp [none, none, none] rfl 6 rfl (.inl rfl) (by simp) (hnsx (some _)) rfl rfl rfl (ev_nm rfl rfl rfl ⟨_, .list, ?_⟩))
  refine comp_mapc 1 rfl rfl rfl (l := rs) (g := Ver.d) (F := fun v => .list ((List.range 5).map fun i => (v.cut i).d)) (by omega) (fun v hv => ?_) ?_
  · have fi := hro v hv
    refine ev_comp [none, none, some (.dat v.d)] rfl rfl rfl ?_
    refine nm_levels O rfl rfl ⟨_, .tup, ?_⟩
    refine comp_map (i := 1) rfl rfl rfl (l := List.range 5) (g := fun i => .str (T (lvl i))) (F := fun i => (v.cut i).d) (by decide) (fun i hi => ?_) ?_
    · have hi := List.mem_range.mp hi
      refine ev_meth O (fun _ => rfl) rfl rfl (evv_dat (ev_nm rfl rfl rfl (meth_inst O rfl mi_trun rfl ?_)))
      repeat kd_subs
      exact trunc O hGI hi fi.ok.w.ids fi.ok.w.keys rfl
    · rfl
  clear hnsx
  refine ex_cons (ex_for rfl ?_)
  repeat kd_subs
  refine c_len_l (by rw [List.length_map]; omega) ?_
  rw [List.length_map]
  repeat kd_subs
  refine c_range1 ⟨_, items_range0 (by omega), ?_⟩
  refine for_inv (i := 7) rfl rfl (fun k ρ => ∃ q7 q8 q9 q10, ρ = [some (.dat (intL ns)), some (.dat (.list (rs.map Ver.row))), ex, ew, eb, some (.dat (.list (rs.map Ver.d))), some (.dat (.list (rs.map fun v => .list ((List.range 5).map fun i => (v.cut i).d)))), q7, q8, q9, q10]) ?_ ?_ ?_
  · exact ⟨none, none, none, none, rfl⟩
  · rintro k _ d hd ⟨q7, q8, q9, q10, rfl⟩
    have hk : k < rs.length := by
      have := (List.getElem?_eq_some_iff.mp hd).1
      rwa [List.length_range] at this
    have ed : d = k := by rw [List.getElem?_range hk] at hd; exact (Option.some.inj hd).symm
    subst ed
    obtain ⟨v, hv⟩ : ∃ v, rs[d]? = some v := ⟨_, List.getElem?_eq_getElem hk⟩
    have fi := hro v (List.mem_of_getElem? hv)
    have vit : ∀ {c : Cx} {n : Nat} {Pq : D → Prop} {d : Nat} {v : Ver}, rs[d]? = some v → Pq v.d → Item c n (.list (rs.map Ver.d)) (.int (d : Int)) Pq := fun hv q => item_map (by omega) (by rw [Int.toNat_natCast]; exact hv) (by omega) q
    have rit : ∀ {c : Cx} {n : Nat} {Pq : D → Prop} {d : Nat} {v : Ver}, rs[d]? = some v → Pq v.row → Item c n (.list (rs.map Ver.row)) (.int (d : Int)) Pq := fun hv q => item_map (by omega) (by rw [Int.toNat_natCast]; exact hv) (by omega) q
    have cit : ∀ {c : Cx} {n : Nat} {Pq : D → Prop} {d : Nat} {v : Ver}, rs[d]? = some v → Pq (.list ((List.range 5).map fun i => (v.cut i).d)) → Item c n (.list (rs.map fun v => .list ((List.range 5).map fun i => (v.cut i).d))) (.int (d : Int)) Pq := fun hv q => item_map (g := fun v : Ver => D.list ((List.range 5).map fun i => (v.cut i).d)) (by omega) (by rw [Int.toNat_natCast]; exact hv) (by omega) q
    have ciit : ∀ {c : Cx} {n : Nat} {Pq : D → Prop} {i : Nat} {v : Ver}, i < 5 → Pq (v.cut i).d → Item c n (.list ((List.range 5).map fun i => (v.cut i).d)) (.int (i : Int)) Pq := fun {c n Pq i v} hi q => item_map (g := fun i => (v.cut i).d) (by omega) (by rw [Int.toNat_natCast]; exact List.getElem?_range hi) (by rw [List.length_range]; omega) q
    have lit : ∀ {c : Cx} {n : Nat} {Pq : D → Prop} {i : Nat}, i < 5 → Pq (.str (T (lvl i))) → Item c n (.tup ((List.range 5).map fun i => .str (T (lvl i)))) (.int (i : Int)) Pq := fun {c n Pq i} hi q => item_t (by omega) (by simp; omega) (by rw [Int.toNat_natCast, List.getElem?_map, List.getElem?_range hi]; rfl) q
    refine ⟨rfl, ?_⟩
    refine ex_cons (ex_if ?_)
    repeat kd_subs
    refine ev_meth O (fun _ => rfl) rfl rfl (evv_dat (ev_item rfl (ev_nm rfl rfl rfl (ev_nm rfl rfl rfl (vit hv (meth_inst O rfl mi_trun rfl ?_))))))
    repeat kd_subs
    refine trunc_def O hGI ?_
    repeat kd_subs
    refine str_ver O (fi.cut 2).ok ?_
    repeat kd_subs
    refine rit hv ?_
    repeat kd_subs
    refine law_cut O (i := 2) (by decide) ?_
    repeat kd_subs
    refine law_text O (fi.cut 2).ok ?_
    repeat kd_subs
    rw [if_neg (by simp)]
    refine ex_nil ?_
    -- the levels
    refine ex_cons (ex_for rfl ?_)
    repeat kd_subs
    refine c_range1 ⟨_, items_range0 (m := 5) (by omega), ?_⟩
    refine for_inv (i := 8) rfl rfl (fun k ρ => ∃ q8 q9 q10, ρ = [some (.dat (intL ns)), some (.dat (.list (rs.map Ver.row))), ex, ew, eb, some (.dat (.list (rs.map Ver.d))), some (.dat (.list (rs.map fun v => .list ((List.range 5).map fun i => (v.cut i).d)))), some (.dat (.int (d : Int))), q8, q9, q10]) ?_ ?_ ?_
    · exact ⟨_, _, _, rfl⟩
    · rintro k' _ i hi' ⟨q8', q9', q10', rfl⟩
      have hi : k' < 5 := by
        have := (List.getElem?_eq_some_iff.mp hi').1
        rwa [List.length_range] at this
      have ei : i = k' := by rw [List.getElem?_range hi] at hi'; exact (Option.some.inj hi').symm
      subst ei
      refine ⟨rfl, ?_⟩
      refine ex_cons (ex_if ?_)
      repeat kd_subs
      refine cit hv ?_
      repeat kd_subs
      refine ciit hi ?_
      repeat kd_subs
      refine str_ver O (fi.cut i).ok ?_
      repeat kd_subs
      refine rit hv ?_
      repeat kd_subs
      refine law_cut O hi ?_
      repeat kd_subs
      refine law_text O (fi.cut i).ok ?_
      repeat kd_subs
      rw [if_neg (by simp)]
      refine ex_nil ?_
      -- j
      refine ex_cons (ex_as rfl rfl rfl (fun _ => rfl) ?_)
      repeat kd_subs
      refine rit hv ?_
      repeat kd_subs
      refine row_item (j := 0) rfl ?_
      repeat kd_subs
      refine item_int (ls := [v.A, v.B, v.C]) (by decide) (by simp) (by simp) ?_
      repeat kd_subs
      refine i_mod (by decide) ?_
      have fj := fmod_range ((i : Int) + [v.A, v.B, v.C].getD (1 : Int).toNat 0 + (d : Int) + 1) (show (0 : Int) < 5 by decide)
      generalize hj : ((i : Int) + [v.A, v.B, v.C].getD (1 : Int).toNat 0 + (d : Int) + 1).fmod 5 = j at fj
      obtain ⟨j, rfl⟩ := Int.eq_ofNat_of_zero_le fj.1
      have hj5 : j < 5 := by omega
      clear hj
      -- a text of the cut
      refine ex_cons (ex_if (Tst.mono (Pb := fun b => b = false) ?_ ?_))
      · repeat kd_subs
        by_cases h1 : 1 < i
        · rw [if_pos (by simp only [decide_eq_true_eq]; omega)]
          repeat kd_subs
          by_cases h2 : i < 4
          · rw [if_pos (by simp only [decide_eq_true_eq]; omega)]
            repeat kd_subs
            refine cit hv ?_
            repeat kd_subs
            refine ciit hi ?_
            repeat kd_subs
            refine rit hv ?_
            repeat kd_subs
            refine law_cut O hi ?_
            repeat kd_subs
            refine law_text O (fi.cut i).ok ?_
            repeat kd_subs
            refine init_row O hGI (fi.cut i).ok ?_
            refine two_ne O hGI (n := n + 12) ?_
            rw [Ver.same_self]
            repeat kd_subs
            rfl
          · rw [if_neg (by simp only [decide_eq_true_eq]; omega)]
        · rw [if_neg (by simp only [decide_eq_true_eq]; omega)]
      rintro _ rfl
      rw [if_neg (by simp)]
      refine ex_nil ?_
      -- cuts of a cut
      refine ex_cons (ex_if (Tst.mono (Pb := fun b => b = false) ?_ ?_))
      · repeat kd_subs
        refine ev_meth O (fun _ => rfl) rfl rfl (evv_dat (ev_item rfl (ev_item rfl (ev_nm rfl rfl rfl (ev_nm rfl rfl rfl (cit hv (ev_nm rfl rfl rfl (ciit hi (meth_inst O rfl mi_trun rfl ?_)))))))))
        refine evl_cons rfl (ev_item rfl (nm_levels O rfl rfl (ev_nm rfl rfl rfl (lit hj5 ?_))))
        repeat kd_subs
        refine trunc O hGI hj5 (fi.cut i).ok.w.ids (fi.cut i).ok.w.keys ?_
        rw [cut_cut v hi hj5]
        repeat kd_subs
        refine cit hv ?_
        repeat kd_subs
        refine c_min2 ?_
        rw [show (if ((j : Int) < (i : Int)) then (j : Int) else (i : Int)) = ((min i j : Nat) : Int) from by split <;> omega]
        refine ciit (by omega) ?_
        refine two_ne O hGI (n := n + 12) ?_
        rw [Ver.same_self]
        repeat kd_subs
        rw [if_neg (by simp)]
        repeat kd_subs
        refine ev_meth O (fun _ => rfl) rfl rfl (evv_dat (ev_item rfl (ev_item rfl (ev_nm rfl rfl rfl (ev_nm rfl rfl rfl (cit hv (ev_nm rfl rfl rfl (ciit hi (meth_inst O rfl mi_trun rfl ?_)))))))))
        refine evl_cons rfl (ev_item rfl (nm_levels O rfl rfl (ev_nm rfl rfl rfl (lit hi ?_))))
        repeat kd_subs
        refine trunc O hGI hi (fi.cut i).ok.w.ids (fi.cut i).ok.w.keys ?_
        rw [cut_cut v hi hi, Nat.min_self]
        repeat kd_subs
        refine cit hv ?_
        repeat kd_subs
        refine ciit hi ?_
        refine two_ne O hGI (n := n + 12) ?_
        rw [Ver.same_self]
        repeat kd_subs
        rw [if_neg (by simp)]
        repeat kd_subs
        rfl
      rintro _ rfl
      rw [if_neg (by simp)]
      refine ex_nil ?_
      exact ex_nil ⟨_, _, _, rfl⟩
    · rintro _ ⟨q8', q9', q10', rfl⟩
      refine ex_nil ?_
      refine ex_cons (ex_for rfl ?_)
      repeat kd_subs
      refine c_len_l (by rw [List.length_map]; omega) ?_
      rw [List.length_map]
      repeat kd_subs
      refine c_range1 ⟨_, items_range0 (by omega), ?_⟩
      refine for_inv (i := 10) rfl rfl (fun k ρ => ∃ q8 q9 q10, ρ = [some (.dat (intL ns)), some (.dat (.list (rs.map Ver.row))), ex, ew, eb, some (.dat (.list (rs.map Ver.d))), some (.dat (.list (rs.map fun v => .list ((List.range 5).map fun i => (v.cut i).d)))), some (.dat (.int (d : Int))), q8, q9, q10]) ?_ ?_ ?_
      · exact ⟨_, _, _, rfl⟩
      · rintro k' _ m hm' ⟨q8'', q9'', q10'', rfl⟩
        have hm : k' < rs.length := by
          have := (List.getElem?_eq_some_iff.mp hm').1
          rwa [List.length_range] at this
        have em : m = k' := by rw [List.getElem?_range hm] at hm'; exact (Option.some.inj hm').symm
        subst em
        obtain ⟨u, hu⟩ : ∃ u, rs[m]? = some u := ⟨_, List.getElem?_eq_getElem hm⟩
        have fu := hro u (List.mem_of_getElem? hu)
        refine ⟨rfl, ?_⟩
        refine ex_cons (ex_if (Tst.mono (Pb := fun b => b = false) ?_ ?_))
        · repeat kd_subs
          refine vit hv ?_
          repeat kd_subs
          refine vit hu ?_
          refine two_vle O (n := n + 12) fi.ok fu.ok ?_
          repeat kd_subs
          refine rit hv ?_
          repeat kd_subs
          refine law_key O fi.ok.w.few ?_
          repeat kd_subs
          refine rit hu ?_
          repeat kd_subs
          refine law_key O fu.ok.w.few ?_
          refine key_two (n := n + 13) fi.w5 fu.w5 ?_
          refine b_ne ?_
          repeat kd_subs
          cases v.le u <;> rfl
        rintro _ rfl
        rw [if_neg (by simp)]
        refine ex_nil ?_
        refine ex_cons (ex_for rfl ?_)
        repeat kd_subs
        refine c_range1 ⟨_, items_range0 (m := 5) (by omega), ?_⟩
        refine for_inv (i := 8) rfl rfl (fun k ρ => ∃ q8 q9, ρ = [some (.dat (intL ns)), some (.dat (.list (rs.map Ver.row))), ex, ew, eb, some (.dat (.list (rs.map Ver.d))), some (.dat (.list (rs.map fun v => .list ((List.range 5).map fun i => (v.cut i).d)))), some (.dat (.int (d : Int))), q8, q9, some (.dat (.int (m : Int)))]) ?_ ?_ ?_
        · exact ⟨_, _, rfl⟩
        · rintro k' _ i hi' ⟨q8', q9', rfl⟩
          have hi : k' < 5 := by
            have := (List.getElem?_eq_some_iff.mp hi').1
            rwa [List.length_range] at this
          have ei : i = k' := by rw [List.getElem?_range hi] at hi'; exact (Option.some.inj hi').symm
          subst ei
          refine ⟨rfl, ?_⟩
          refine ex_cons (ex_if (Tst.mono (Pb := fun b => b = false) ?_ ?_))
          · repeat kd_subs
            refine vit hv ?_
            repeat kd_subs
            refine vit hu ?_
            refine two_vle O (n := n + 12) fi.ok fu.ok ?_
            repeat kd_subs
            by_cases hle : v.le u = true
            · rw [if_pos hle]
              repeat kd_subs
              refine cit hv ?_
              repeat kd_subs
              refine ciit hi ?_
              repeat kd_subs
              refine cit hu ?_
              repeat kd_subs
              refine ciit hi ?_
              refine two_vle O (n := n + 12) (fi.cut i).ok (fu.cut i).ok ?_
              rw [cut_le hle]
              repeat kd_subs
              rfl
            · rw [if_neg hle]
          rintro _ rfl
          rw [if_neg (by simp)]
          refine ex_nil ?_
          refine ex_cons (ex_if (Tst.mono (Pb := fun b => b = false) ?_ ?_))
          · repeat kd_subs
            refine cit hv ?_
            repeat kd_subs
            refine ciit hi ?_
            repeat kd_subs
            refine cit hu ?_
            repeat kd_subs
            refine ciit hi ?_
            have ci := (fi.cut i).ok
            have cu := (fu.cut i).ok
            refine two_eq O (n := n + 12) (by have := ci.w.few; omega) (by have := cu.w.few; omega) (by have := ci.bl.few; omega) (by have := cu.bl.few; omega) ?_
            repeat kd_subs
            refine rit hv ?_
            repeat kd_subs
            refine law_cut O hi ?_
            repeat kd_subs
            refine rit hu ?_
            repeat kd_subs
            refine law_cut O hi ?_
            refine row_eq (n := n + 13) ?_
            refine b_ne ?_
            repeat kd_subs
            cases (v.cut i).same (u.cut i) <;> rfl
          rintro _ rfl
          rw [if_neg (by simp)]
          refine ex_nil ?_
          exact ex_nil ⟨_, _, rfl⟩
        · rintro _ ⟨q8', q9', rfl⟩
          refine ex_nil ?_
          exact ex_nil ⟨_, _, _, rfl⟩
      · rintro _ ⟨q8', q9', q10', rfl⟩
        refine ex_nil ?_
        exact ex_nil ⟨_, _, _, _, rfl⟩
  · rintro _ ⟨q7, q8, q9, q10, rfl⟩
    repeat kd_subs
    rfl
end
end Mine
end
section
set_option maxHeartbeats 0
namespace Mine
open PySem PySem.W PySem.Calls PyProof.Rows Builtin
theorem ints_rep {X : Addr → Prop} {h : Heap} : ∀ {vs : List Value} {ns : List Int}, IntsAre vs ns → RepL X h (ns.map .int) vs := by
  intro vs ns h
  induction h with
  | nil => rfl
  | cons _ _ _ ih => exact ⟨_, _, rfl, ⟨_, rfl⟩, ih⟩
def fieldsOf (K : Frag) (a : Addr) : Option (Array Value) := match K.lookup a with
  | some ⟨_, _, .fields vs, _⟩ => some vs
  | _ => none
def codeOk (K : Frag) (cP P : Addr) : Bool := match K.lookup cP, K.lookup P with
  | some ⟨.type t, _, .fields vs, _⟩, some ⟨.none, none, .fields ps, sl⟩ => t == "code" && (match vs.getD 11 .none with | .ref p => p == P | _ => false) && vs[11]? == some (.ref P) && (match vs.getD 18 .none with | .str _ _ => true | _ => false) &&
      (match vs.getD 7 .none with | .int _ _ => true | _ => false) && (match vs.getD 9 .none with | .bool _ => true | _ => false) && (match vs.getD 10 .none with | .int _ _ => true | _ => false) && ps.isEmpty && sl.isEmpty && cP != P
  | _, _ => false
theorem code_of {K : Frag} {cP P : Addr} {h : Heap} (X : K.In h) (e : codeOk K cP P = true) : h.IsCode cP P #[] ∧ h.TableAt cP P #[] := by
  unfold codeOk at e
  split at e
  · rename_i t d vs sl ps sl2 e1 e2
    simp only [Bool.and_eq_true, beq_iff_eq, bne_iff_ne, ne_eq] at e
    obtain ⟨⟨⟨⟨⟨⟨⟨⟨⟨h0, h1⟩, h2⟩, h3⟩, h4⟩, h5⟩, h6⟩, h7⟩, h8⟩, h9⟩ := e
    have hps : ps = #[] := Array.isEmpty_iff.mp h7
    have hsl : sl2 = #[] := Array.isEmpty_iff.mp h8
    subst h0 hps hsl
    have g1 := X _ _ e1
    have g2 := X _ _ e2
    split at h1
    · rename_i p hp
      split at h3
      · rename_i f tf hf
        split at h4
        · rename_i fl tg hfl
          split at h5
          · rename_i b hb
            split at h6
            · rename_i tx tt htx
              exact ⟨⟨_, vs, f, tf, fl, tg, b, tx, tt, _, g1, rfl, by rw [hp, beq_iff_eq.mp h1], hf, hfl, hb, htx, g2, rfl, trivial, h9⟩, ⟨⟨_, vs, g1, rfl, rfl, h2⟩, g2⟩⟩
            · cases h6
          · cases h5
        · cases h4
      · cases h3
    · cases h1
  · cases e
theorem root (w : World) (s₁ : Shared) {mb : Str → Option Value} {a : Addr} {vs : List Value} {ns : List Int} {Q E : Value → Shared → Prop} (KX : (hd.heap_39 w.params).In s₁.heap) (hb : s₁.heap.Ns builtinsNs mb) (hbb : ∀ x : Str, x ≠ "__name__" → mb x = bootBuiltins x) (hlim : s₁.heap.NoLimit) (hg : s₁.gens = #[])
    (hL : s₁.heap.IsList a vs.toArray) (hI : IntsAre vs ns) (hlen : ns.length ≤ 63) (hQ : ∀ s', OldK s₁.heap s'.heap → s'.os = s₁.os → (∀ y ∈ s'.gens, y.bare = true) → Q (.bool true) s') :
    wpAny (model PySem.Challenge.rw_br0026_03.prog w) callerA (call (.ref 415) [.ref a]) Q E s₁ := by
  have hc := code_of KX (cP := 327) (P := 323) (by kernel_rfl)
  obtain ⟨isc, tab⟩ := hc
  have O : (cx w s₁.heap s₁.os (fun g _ => ∀ y ∈ g, y.bare = true)).Ok := ⟨but_in KX, fun a o e => but_ne e, ⟨mb, hb, hbb⟩, hlim, (by decide : (323 : Nat) ≠ cStatics), (by decide : (323 : Nat) ≠ builtinsNs), (by decide : (323 : Nat) ≠ mainGlobals), ⟨_, tab.2, rfl⟩, ⟨_, tab⟩⟩
  have I : Inv (cx w s₁.heap s₁.os (fun g _ => ∀ y ∈ g, y.bare = true)) s₁ := ⟨Stay.refl _ _, OldK.refl _, ⟨_, isc, tab⟩, rfl, (by rw [hg]; intro y hy; simp at hy), ⟨isc.lt.2, isc.lt.1⟩, Nat.le_refl _⟩
  obtain ⟨⟨cls, dd, data, sl⟩, ho, hcl, n, hd⟩ := hL
  simp only at hcl hd
  subst hcl hd
  have ra : LRepL (· = 323) s₁.heap [.dat (intL ns)] [.ref a] := by
    refine ⟨_, _, rfl, ⟨a, vs, (n, dd, sl), rfl, fun e => ?_, ho, ints_rep hI⟩, rfl⟩
    rw [show a = 323 from e, tab.2] at ho
    cases ho
  have G : Good 20 callerA := ⟨rfl, by decide, by decide⟩
  have run := law_runs O (fun a b d h k y hy => (k y hy).elim (h y) id) (n := 0) hlen (· = 323) callerA s₁ [.ref a] G I rfl (fun x hx => by rw [show x = 323 from hx]; exact ⟨_, tab.2⟩) (fun x hx => .inl hx) ra
  refine wpAny_call (codeAny_mono run fun r s' e => ?_)
  cases r with
  | error e' => exact e.elim
  | ok fl =>
    cases fl with
    | ret v =>
      obtain ⟨I', _, d, hd, r⟩ := e
      subst hd
      have ev : v = Value.bool true := r
      subst ev
      exact hQ s' I'.old I'.os I'.gens
    | _ => exact e.elim
end Mine
end
open PySem PySem.W PyProof.Rows PySem.W.X
set_option maxHeartbeats 8000000
theorem PySem.Challenge.cw_br0026_03_holds : PySem.Challenge.rw_br0026_03.Holds :=
  Mine.hd (by
  k_fill
  intro w s₀ s₁ mg mb G Y fa o pm cd doc dV kV ho hd hcd hD hmg hg args vals as hpre hlay hrd hwl hlo
  have KX := kIn_of Y
  refine Ground.open G ?_
  intro T B D TE TW
  wrow_args hpre hlay hrd hwl hlo
  x_fa T KX hmg
  have hI' := (by assumption : IntsAre _ _)
  have hL' := (by assumption : Heap.IsList _ _ _)
  refine Mine.root w s₁ KX T.b T.builtins T.nolimit hg hL' hI' (by omega) fun s' hK hos hgs => ?_
  exact ⟨.inl ⟨_, .bool true, [], rfl, fun _ => rfl, .bool true, (by first | rfl | wrow_post), fun _ => ⟨List.nodup_nil, fun _ h => nomatch h⟩⟩, hK, hos, hgs⟩)
