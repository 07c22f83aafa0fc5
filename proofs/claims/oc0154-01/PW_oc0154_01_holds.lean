import PyProof.Rows.All
import Wide.All
import OpenK.AllK
import Wide.FinOn
import PySem.Challenge.RW_oc0154_01

set_option Elab.async false

section
open PySem PySem.W PyProof.Rows
namespace Mine

/-- the kept part of a heap: objects that stay as they are -/
abbrev PH := Addr → Option Obj

def KLe (K K' : PH) : Prop := ∀ b o, K b = some o → K' b = some o
theorem KLe.refl (K : PH) : KLe K K := fun _ _ e => e
theorem KLe.trans {K K' K'' : PH} (a : KLe K K') (b : KLe K' K'') : KLe K K'' := fun c o e => b c o (a c o e)
def put (K : PH) (a : Addr) (o : Obj) : PH := fun b => if b = a then some o else K b
theorem put_self (K : PH) (a : Addr) (o : Obj) : put K a o a = some o := if_pos rfl
theorem put_ne {K : PH} {a b : Addr} {o : Obj} (h : b ≠ a) : put K a o b = K b := if_neg h
theorem KLe.put {K : PH} {a : Addr} {o : Obj} (h : K a = none) : KLe K (put K a o) := fun b o' e => by
  by_cases hb : b = a
  · subst hb; rw [h] at e; cases e
  · rw [put_ne hb]; exact e

abbrev tupOf (us : List Value) : Obj := { cls := .type "tuple", data := .seq us.toArray }
abbrev lstOf (us : List Value) (n : Nat) : Obj := { cls := .type "list", data := .seq us.toArray n }
abbrev matOf (x : Str) (t : Tok) (pat : Value) (p q li : Int) (b : Addr) : Obj := { cls := .type "re.Match", data := .fields #[.str x t, pat, rawInt p, rawInt q, rawInt li, .ref b] }

inductive AV where
  | none
  | bool (b : Bool)
  | int (i : Int)
  | str (s : Str)
  | tup (xs : List AV)
  | lst (xs : List AV)
  | own (i : Nat)
  | mat (x : Str) (sp : List Int)
  | raw (v : Value)
  | obj (o : Obj)
  | fn (o : Obj) (c : Addr) (oc : Obj)

mutual
def V (K : PH) (ad : List Addr) : AV → Value → Prop
  | .none, u => u = .none
  | .bool b, u => u = .bool b
  | .int i, u => ∃ t, u = .int i t
  | .str s, u => ∃ t, u = .str s t
  | .tup xs, u => ∃ a us, u = .ref a ∧ K a = some (tupOf us) ∧ Vs K ad xs us
  | .lst xs, u => ∃ a us n, u = .ref a ∧ K a = some (lstOf us n) ∧ Vs K ad xs us
  | .own i, u => ∃ a, u = .ref a ∧ ad[i]? = some a
  | .mat x sp, u => ∃ a b t pat p q li, u = .ref a ∧ K a = some (matOf x t pat p q li b) ∧ K b = some (tupOf (sp.map rawInt))
  | .raw v, u => u = v
  | .obj o, u => ∃ a, u = .ref a ∧ K a = some o
  | .fn o c oc, u => ∃ a, u = .ref a ∧ K a = some o ∧ K c = some oc
def Vs (K : PH) (ad : List Addr) : List AV → List Value → Prop
  | [], us => us = []
  | x :: xs, us => ∃ u r, us = u :: r ∧ V K ad x u ∧ Vs K ad xs r
end

theorem pre_get {ad ad' : List Addr} (h : ad <+: ad') {i : Nat} {a : Addr} (e : ad[i]? = some a) : ad'[i]? = some a := by
  obtain ⟨t, rfl⟩ := h
  rw [List.getElem?_append_left (List.getElem?_eq_some_iff.mp e).1]; exact e

mutual
theorem V.mono {K K' : PH} {ad ad' : List Addr} (hK : KLe K K') (ha : ad <+: ad') : ∀ {v : AV} {u : Value}, V K ad v u → V K' ad' v u
  | .none, _, h => by simpa [V] using h
  | .bool _, _, h => by simpa [V] using h
  | .int _, _, h => by simpa [V] using h
  | .str _, _, h => by simpa [V] using h
  | .tup xs, u, h => by
    simp only [V] at h ⊢
    obtain ⟨a, us, e, k, r⟩ := h
    exact ⟨a, us, e, hK _ _ k, Vs.mono hK ha r⟩
  | .lst xs, u, h => by
    simp only [V] at h ⊢
    obtain ⟨a, us, n, e, k, r⟩ := h
    exact ⟨a, us, n, e, hK _ _ k, Vs.mono hK ha r⟩
  | .own i, u, h => by
    simp only [V] at h ⊢
    obtain ⟨a, e, k⟩ := h
    exact ⟨a, e, pre_get ha k⟩
  | .mat x sp, u, h => by
    simp only [V] at h ⊢
    obtain ⟨a, b, t, pat, p, q, li, e, k, k'⟩ := h
    exact ⟨a, b, t, pat, p, q, li, e, hK _ _ k, hK _ _ k'⟩
  | .raw _, _, h => by simpa [V] using h
  | .obj o, u, h => by
    simp only [V] at h ⊢
    obtain ⟨a, e, k⟩ := h
    exact ⟨a, e, hK _ _ k⟩
  | .fn o c oc, u, h => by
    simp only [V] at h ⊢
    obtain ⟨a, e, k, k'⟩ := h
    exact ⟨a, e, hK _ _ k, hK _ _ k'⟩
theorem Vs.mono {K K' : PH} {ad ad' : List Addr} (hK : KLe K K') (ha : ad <+: ad') : ∀ {xs : List AV} {us : List Value}, Vs K ad xs us → Vs K' ad' xs us
  | [], _, h => by simpa [Vs] using h
  | x :: xs, us, h => by
    simp only [Vs] at h ⊢
    obtain ⟨u, r, e, a, b⟩ := h
    exact ⟨u, r, e, V.mono hK ha a, Vs.mono hK ha b⟩
end

theorem Vs.length {K : PH} {ad : List Addr} : ∀ {xs : List AV} {us : List Value}, Vs K ad xs us → us.length = xs.length
  | [], _, h => by simp only [Vs] at h; subst h; rfl
  | x :: xs, _, h => by
    simp only [Vs] at h
    obtain ⟨u, r, rfl, _, b⟩ := h
    simp [Vs.length b]
theorem Vs.get {K : PH} {ad : List Addr} : ∀ {xs : List AV} {us : List Value}, Vs K ad xs us → ∀ {i : Nat} {x : AV}, xs[i]? = some x → ∃ u, us[i]? = some u ∧ V K ad x u
  | [], _, _, _, _, e => by simp at e
  | x :: xs, _, h, i, y, e => by
    simp only [Vs] at h
    obtain ⟨u, r, rfl, a, b⟩ := h
    cases i with
    | zero => simp at e; subst e; exact ⟨u, by simp, a⟩
    | succ i => simp at e; obtain ⟨u', h1, h2⟩ := Vs.get b e; exact ⟨u', by simpa using h1, h2⟩
theorem Vs.append {K : PH} {ad : List Addr} : ∀ {xs ys : List AV} {us vs : List Value}, Vs K ad xs us → Vs K ad ys vs → Vs K ad (xs ++ ys) (us ++ vs)
  | [], _, _, _, h, h' => by simp only [Vs] at h; subst h; exact h'
  | x :: xs, _, _, _, h, h' => by
    simp only [Vs] at h
    obtain ⟨u, r, rfl, a, b⟩ := h
    simp only [List.cons_append, Vs]
    exact ⟨u, _, rfl, a, Vs.append b h'⟩
theorem Vs.nil {K : PH} {ad : List Addr} : Vs K ad [] [] := by simp [Vs]
theorem Vs.cons {K : PH} {ad : List Addr} {x : AV} {xs : List AV} {u : Value} {us : List Value} (h : V K ad x u) (h' : Vs K ad xs us) : Vs K ad (x :: xs) (u :: us) := by
  simp only [Vs]; exact ⟨u, us, rfl, h, h'⟩
theorem Vs.one {K : PH} {ad : List Addr} {x : AV} {u : Value} (h : V K ad x u) : Vs K ad [x] [u] := Vs.cons h Vs.nil

/-- what a piece of the run may do to a heap: all stands but X and the tables T; a dict's slots may turn -/
def Step (T X : List Addr) (h h' : Heap) : Prop :=
  ∀ b o, h.get? b = some o → b ∉ X → b ∉ T → ∃ sl, h'.get? b = some { o with slots := sl } ∧ ((∀ es n, o.data ≠ .dict es n) → sl = o.slots)
theorem Step.refl (T X : List Addr) (h : Heap) : Step T X h h := fun _ o e _ _ => ⟨o.slots, e, fun _ => rfl⟩
theorem Step.trans {T X : List Addr} {h h' h'' : Heap} (a : Step T X h h') (b : Step T X h' h'') : Step T X h h'' := fun c o e hx ht => by
  obtain ⟨sl, e1, q1⟩ := a c o e hx ht
  obtain ⟨sl', e2, q2⟩ := b c _ e1 hx ht
  exact ⟨sl', e2, fun q => (q2 q).trans (q1 q)⟩
theorem Step.mono {T X X' : List Addr} {h h' : Heap} (a : Step T X h h') (s : ∀ b ∈ X, b ∈ X' ∨ h.get? b = none) : Step T X' h h' :=
  fun b o e hx ht => a b o e (fun q => (s b q).elim hx fun n => by rw [n] at e; cases e) ht
theorem Step.of_keeps {T X : List Addr} {h h' : Heap} (k : ∀ b o, h.get? b = some o → b ∉ X → b ∉ T → h'.get? b = some o) : Step T X h h' :=
  fun b o e hx ht => ⟨o.slots, k b o e hx ht, fun _ => rfl⟩
theorem Step.get {T X : List Addr} {h h' : Heap} (a : Step T X h h') {b : Addr} {o : Obj} (e : h.get? b = some o) (hx : b ∉ X) (ht : b ∉ T) (hd : ∀ es n, o.data ≠ .dict es n) : h'.get? b = some o := by
  obtain ⟨sl, e1, q⟩ := a b o e hx ht
  rw [q hd] at e1; exact e1
theorem Step.ns {T X : List Addr} {h h' : Heap} (a : Step T X h h') {b : Addr} {m : Str → Option Value} (e : h.Ns b m) (hx : b ∉ X) (ht : b ∉ T) : h'.Ns b m := by
  obtain ⟨o, es, ep, ho, hd, r⟩ := e
  obtain ⟨sl, e1, _⟩ := a b o ho hx ht
  exact ⟨_, es, ep, e1, hd, r⟩
theorem Step.some {T X : List Addr} {h h' : Heap} (a : Step T X h h') {b : Addr} {o : Obj} (e : h.get? b = some o) (hx : b ∉ X) (ht : b ∉ T) : ∃ o', h'.get? b = some o' ∧ o'.data = o.data ∧ o'.cls = o.cls := by
  obtain ⟨sl, e1, _⟩ := a b o e hx ht
  exact ⟨_, e1, rfl, rfl⟩

end Mine
end

section
open PySem PySem.W PyProof.Rows
set_option autoImplicit false
set_option linter.unusedVariables false
namespace Mine

abbrev cellWith (u : Value) : Obj := { cls := .type "cell", data := .cell (some u) }

structure Tab where
  c : Addr
  P : Addr
  pos : Pos
  qual : Str

/-- what is fixed for the whole call -/
structure Glob where
  prog : Program
  w : World
  H : Heap
  mg : Str → Option Value
  mb : Str → Option Value
  tabs : List Tab

def Glob.T (G : Glob) : List Addr := G.tabs.map (·.P)

structure Glob.Ok (G : Glob) : Prop where
  g : G.H.Ns mainGlobals G.mg
  b : G.H.Ns builtinsNs G.mb
  nolimit : G.H.NoLimit
  hd : ∀ t ∈ G.tabs, CodeHd G.H t.c t.P

def TabsOk (G : Glob) (K : PH) (h : Heap) : Prop := ∀ t ∈ G.tabs, ∃ ps, h.get? t.P = some (tabObj ps) ∧ TriplesOk ps.toList ∧
  (codeAmong t.pos ps.toList = none ∨ ∃ c' o vs tk, codeAmong t.pos ps.toList = some (.ref c') ∧ K c' = some o ∧ o.data = .fields vs ∧ vs[1]? = some (.str t.qual tk))

structure Base where
  env : Env
  fenv : Env
  outer : List Env
  K₀ : PH
  h₀ : Heap
  po : List Addr
  oc : List Str
  io : List (Addr × Obj) := []

/-- an object of one's own: a list, or just this object -/
inductive OW where
  | lst (xs : List AV)
  | obj (o : Obj)
  | dead
def OwIs (K : PH) (ad : List Addr) (h : Heap) (a : Addr) : OW → Prop
  | .lst xs => ∃ us n, h.get? a = some (lstOf us n) ∧ Vs K ad xs us
  | .obj o => h.get? a = some o ∧ ∀ es n, o.data ≠ .dict es n
  | .dead => True
theorem OwIs.mono {K K' : PH} {ad ad' : List Addr} {h h' : Heap} {a : Addr} {w : OW} (x : OwIs K ad h a w) (hK : KLe K K') (ha : ad <+: ad') (k : ∀ o, h.get? a = some o → h'.get? a = some o) : OwIs K' ad' h' a w := by
  cases w with
  | lst xs => obtain ⟨us, n, h1, h2⟩ := x; exact ⟨us, n, k _ h1, h2.mono hK ha⟩
  | obj o => exact ⟨k _ x.1, x.2⟩
  | dead => trivial

structure St where
  lo : List (Str × AV)
  ce : List (Str × AV) := []
  ow : List OW := []

/-- no value yet -/
abbrev unset : AV := .raw .notImplemented
def VO (K : PH) (ad : List Addr) (v : AV) : Option Value → Prop
  | some u => V K ad v u
  | none => v = unset
theorem VO.mono {K K' : PH} {ad ad' : List Addr} {v : AV} {ou : Option Value} (h : VO K ad v ou) (hK : KLe K K') (ha : ad <+: ad') : VO K' ad' v ou := by
  cases ou with
  | none => exact h
  | some u => exact V.mono hK ha h
def privs (B : Base) (ad : List Addr) : List Addr := B.env.locals :: ((B.env.cells.map (·.2) ++ B.io.map (·.1)) ++ ad)

/-- the frames of the activations: none of one's own, dicts all -/
def FrOk (G : Glob) (B : Base) : Prop := ∀ env ∈ B.fenv :: B.outer, ∀ L, env.frame = some L → L = B.env.locals ∨
  (L ∉ G.T ∧ L ∉ B.po ∧ B.K₀ L = none ∧ ∃ o es n, B.h₀.get? L = some o ∧ o.data = .dict es n)

structure Rel (G : Glob) (B : Base) (K : PH) (ad : List Addr) (σ : St) (h : Heap) : Prop where
  base : ∀ b o, G.H.get? b = some o → K b = some o
  keep : ∀ b o, K b = some o → h.get? b = some o
  noT : ∀ b ∈ G.T, K b = none
  tabs : TabsOk G K h
  step : Step G.T B.po B.h₀ h
  K0 : KLe B.K₀ K
  new : ∀ b o, K b = some o → B.K₀ b = some o ∨ B.h₀.get? b = none
  ff : h.FunFrames G.H (B.fenv :: B.outer)
  priv : ∀ b ∈ privs B ad, K b = none ∧ b ∉ G.T
  live : ∀ b ∈ privs B ad, ∃ o, h.get? b = some o
  nodup : (privs B ad).Nodup
  lnew : B.h₀.get? B.env.locals = none
  anew : ∀ a ∈ ad, a ∈ B.po ∨ B.h₀.get? a = none
  cnew : ∀ x ∈ B.oc, ∀ c, B.env.cells.lookup x = some c → B.h₀.get? c = none
  ns : ∃ m, h.Ns B.env.locals m ∧ ∀ x v, σ.lo.lookup x = some v → ∃ u, m x = some u ∧ V K ad v u
  cells : ∀ x v, σ.ce.lookup x = some v → ∃ c u, B.env.cells.lookup x = some c ∧ h.IsCell c u ∧ VO K ad v u
  ownl : ad.length = σ.ow.length
  own : ∀ (i : Nat) (a : Addr) (w : OW), ad[i]? = some a → σ.ow[i]? = some w → OwIs K ad h a w
  pon : ∀ a ∈ B.po, a ∈ ad
  iob : ∀ q ∈ B.io, h.get? q.1 = some q.2 ∧ (∃ vs, q.2.data = .fields vs) ∧ B.h₀.get? q.1 = none
  fok : FrOk G B

def SameRest (s s' : Shared) : Prop := s'.gens = s.gens ∧ s'.drawn = s.drawn ∧ s'.os = s.os
theorem SameRest.refl (s : Shared) : SameRest s s := ⟨rfl, rfl, rfl⟩
theorem SameRest.trans {s s' s'' : Shared} (a : SameRest s s') (b : SameRest s' s'') : SameRest s s'' := ⟨b.1.trans a.1, b.2.1.trans a.2.1, b.2.2.trans a.2.2⟩

/-- a class of exceptions; bare: nothing was being handled when it came up -/
structure XC where
  cls : String
  bare : Bool := true
def TbAt (B : Base) (K : PH) (ad : List Addr) (h : Heap) (e tb : Addr) (fl : Value) : Prop :=
  tb ≠ e ∧ K tb = none ∧ tb ∉ privs B ad ∧ B.h₀.get? tb = none ∧ ∃ otb tvs, h.get? tb = some otb ∧ otb.cls = .type "traceback" ∧ otb.data = .fields tvs ∧ tvs[3]? = some fl
/-- an exception made in this activation and on its way -/
def Exc (B : Base) (K : PH) (ad : List Addr) (h : Heap) (e : Addr) (c : XC) : Prop :=
  K e = none ∧ e ∉ privs B ad ∧ B.h₀.get? e = none ∧ ∃ ob vs, h.get? e = some ob ∧ ob.cls = .type c.cls ∧ ob.data = .fields vs ∧ (c.bare = true → vs[2]? = some .none) ∧ 2 < vs.size ∧
    (vs[1]? = some .none ∨ ∃ L tb, B.fenv.frame = some L ∧ vs[1]? = some (.ref tb) ∧ TbAt B K ad h e tb (rawInt L))

abbrev RelOf (β α : Type) := PH → List Addr → β → α → Prop
abbrev XPost := XC → St → Prop
def noX : XPost := fun _ _ => False

/-- from every state that σ tells of, the tree t comes to a result told by Φ, or raises as Ψ tells -/
def Do {α β : Type} (G : Glob) (B : Base) (A : Around) (σ : St) (t : Sem α) (R : RelOf β α) (Φ : β → St → Prop) (Ψ : XPost) : Prop :=
  ∀ K ad s, Rel G B K ad σ s.heap → ∀ (Q : α → Shared → Prop) (E : Value → Shared → Prop),
    (∀ a s' K' ad' b σ', KLe K K' → ad <+: ad' → Rel G B K' ad' σ' s'.heap → R K' ad' b a → SameRest s s' → Φ b σ' → Q a s') →
    (∀ e s' K' ad' cls σ', KLe K K' → ad <+: ad' → Rel G B K' ad' σ' s'.heap → Exc B K' ad' s'.heap e cls → SameRest s s' → Ψ cls σ' → E (.ref e) s') →
    wpAny (model G.prog G.w) A t Q E s

inductive AF where
  | next | brk | cont
  | ret (v : AV)

def FlowIs (K : PH) (ad : List Addr) : AF → Flow → Prop
  | .next, f => f = .next
  | .brk, f => f = .brk
  | .cont, f => f = .cont
  | .ret v, f => ∃ u, f = .ret u ∧ V K ad v u
def Same {α : Type} (_ : PH) (_ : List Addr) (a b : α) : Prop := b = a

abbrev Ev (G : Glob) (B : Base) (A : Around) (σ : St) (e : Expr) (Φ : AV → St → Prop) (Ψ : XPost) : Prop := Do G B A σ (eval e B.env) V Φ Ψ
abbrev Tr (G : Glob) (B : Base) (A : Around) (σ : St) (e : Expr) (Φ : Bool → St → Prop) (Ψ : XPost) : Prop := Do G B A σ (isTrue e B.env (eval e B.env)) Same Φ Ψ
abbrev Ex (G : Glob) (B : Base) (A : Around) (σ : St) (ss : List Stmt) (Φ : AF → St → Prop) (Ψ : XPost) : Prop := Do G B A σ (execs ss B.env) FlowIs Φ Ψ
abbrev Ex1 (G : Glob) (B : Base) (A : Around) (σ : St) (st : Stmt) (Φ : AF → St → Prop) (Ψ : XPost) : Prop := Do G B A σ (exec st B.env) FlowIs Φ Ψ

/-- a step on values at hand -/
def Op (G : Glob) (B : Base) (A : Around) (σ : St) (vs : List AV) {α β : Type} (f : List Value → Sem α) (R : RelOf β α) (Φ : β → St → Prop) (Ψ : XPost) : Prop :=
  ∀ K ad s us, Rel G B K ad σ s.heap → Vs K ad vs us → ∀ (Q : α → Shared → Prop) (E : Value → Shared → Prop),
    (∀ a s' K' ad' b σ', KLe K K' → ad <+: ad' → Rel G B K' ad' σ' s'.heap → R K' ad' b a → SameRest s s' → Φ b σ' → Q a s') →
    (∀ e s' K' ad' cls σ', KLe K K' → ad <+: ad' → Rel G B K' ad' σ' s'.heap → Exc B K' ad' s'.heap e cls → SameRest s s' → Ψ cls σ' → E (.ref e) s') →
    wpAny (model G.prog G.w) A (f us) Q E s

section
variable {G : Glob} {B : Base} {A : Around} {σ : St} {α β γ δ : Type} {Ψ : XPost}

theorem Do.mono {t : Sem α} {R : RelOf β α} {Φ Φ' : β → St → Prop} (h : Do G B A σ t R Φ Ψ) (k : ∀ b σ', Φ b σ' → Φ' b σ') : Do G B A σ t R Φ' Ψ :=
  fun K ad s hR Q E q e => h K ad s hR Q E (fun a s' K' ad' b σ' h1 h2 h3 h4 h5 h6 => q a s' K' ad' b σ' h1 h2 h3 h4 h5 (k b σ' h6)) e
theorem Do.monoX {t : Sem α} {R : RelOf β α} {Φ : β → St → Prop} {Ψ' : XPost} (h : Do G B A σ t R Φ Ψ) (k : ∀ c σ', Ψ c σ' → Ψ' c σ') : Do G B A σ t R Φ Ψ' :=
  fun K ad s hR Q E q e => h K ad s hR Q E q (fun a s' K' ad' b σ' h1 h2 h3 h4 h5 h6 => e a s' K' ad' b σ' h1 h2 h3 h4 h5 (k b σ' h6))

end

section
variable {G : Glob} {B : Base} {K : PH} {ad : List Addr} {σ : St} {h h' : Heap}

theorem Rel.fresh (R : Rel G B K ad σ h) : K h.objs.size = none := by
  cases q : K h.objs.size with
  | none => rfl
  | some o => exact absurd (Heap.lt_size (R.keep _ _ q)) (Nat.lt_irrefl _)
theorem Rel.h0fresh (R : Rel G B K ad σ h) : B.h₀.get? h.objs.size = none := by
  cases q : B.h₀.get? h.objs.size with
  | none => rfl
  | some o =>
    exfalso
    by_cases hx : h.objs.size ∈ B.po
    · obtain ⟨o', e⟩ := R.live _ (List.mem_cons_of_mem _ (List.mem_append_right _ (R.pon _ hx)))
      exact absurd (Heap.lt_size e) (Nat.lt_irrefl _)
    · by_cases ht : h.objs.size ∈ G.T
      · obtain ⟨t, ht, e⟩ := List.mem_map.mp ht
        obtain ⟨ps, e', _⟩ := R.tabs t ht
        rw [e] at e'
        exact absurd (Heap.lt_size e') (Nat.lt_irrefl _)
      · obtain ⟨o', e, _⟩ := R.step.some q hx ht
        exact absurd (Heap.lt_size e) (Nat.lt_irrefl _)

/-- a heap that keeps all -/
theorem Rel.keeps (R : Rel G B K ad σ h) (k : ∀ b o, h.get? b = some o → h'.get? b = some o) : Rel G B K ad σ h' where
  base := R.base
  keep b o e := k b o (R.keep b o e)
  noT := R.noT
  tabs t ht := let ⟨ps, e, r⟩ := R.tabs t ht; ⟨ps, k _ _ e, r⟩
  step := R.step.trans (.of_keeps fun b o e _ _ => k b o e)
  K0 := R.K0
  new := R.new
  ff := R.ff.of_keeps fun b o e _ => ⟨o, k b o e, rfl⟩
  priv := R.priv
  live b hb := let ⟨o, e⟩ := R.live b hb; ⟨o, k b o e⟩
  nodup := R.nodup
  lnew := R.lnew
  anew := R.anew
  cnew := R.cnew
  ns := let ⟨m, hm, r⟩ := R.ns; ⟨m, hm.keeps k, r⟩
  cells x v e := let ⟨c, u, h1, h2, h3⟩ := R.cells x v e; ⟨c, u, h1, h2.keeps k, h3⟩
  ownl := R.ownl
  own i a w e1 e2 := (R.own i a w e1 e2).mono (KLe.refl _) (List.prefix_refl _) fun o e => k _ _ e
  pon := R.pon
  iob q hq := let ⟨h1, h2⟩ := R.iob q hq; ⟨k _ _ h1, h2⟩
  fok := R.fok
theorem Rel.push (R : Rel G B K ad σ h) (o : Obj) : Rel G B K ad σ (h.push o) := R.keeps fun _ _ e => Heap.get?_push_of_some _ e

/-- one more kept object, at an address that is no private one and new since the entry -/
theorem Rel.grow (R : Rel G B K ad σ h) {a : Addr} {o : Obj} (e : h.get? a = some o) (hp : a ∉ privs B ad) (ht : a ∉ G.T) (hn : B.h₀.get? a = none) (hK : K a = none) : Rel G B (put K a o) ad σ h where
  base b o' q := (KLe.put hK) b o' (R.base b o' q)
  keep b o' q := by
    by_cases hb : b = a
    · subst hb; rw [put_self] at q; cases q; exact e
    · rw [put_ne hb] at q; exact R.keep b o' q
  noT b hb := by
    by_cases q : b = a
    · exact absurd (q ▸ hb) ht
    · rw [put_ne q]; exact R.noT b hb
  tabs t ht' := by
    obtain ⟨ps, h1, h2, h3⟩ := R.tabs t ht'
    refine ⟨ps, h1, h2, h3.imp id ?_⟩
    rintro ⟨c', o', vs, tk, g1, g2, g3⟩
    exact ⟨c', o', vs, tk, g1, KLe.put hK _ _ g2, g3⟩
  step := R.step
  K0 := R.K0.trans (KLe.put hK)
  new b o' q := by
    by_cases hb : b = a
    · subst hb; exact .inr hn
    · rw [put_ne hb] at q; exact R.new b o' q
  ff := R.ff
  priv b hb := by
    have : b ≠ a := fun q => hp (q ▸ hb)
    rw [put_ne this]; exact R.priv b hb
  live := R.live
  nodup := R.nodup
  lnew := R.lnew
  anew := R.anew
  cnew := R.cnew
  ns := let ⟨m, hm, r⟩ := R.ns; ⟨m, hm, fun x v q => let ⟨u, h1, h2⟩ := r x v q; ⟨u, h1, h2.mono (KLe.put hK) (List.prefix_refl _)⟩⟩
  cells x v q := let ⟨c, u, h1, h2, h3⟩ := R.cells x v q; ⟨c, u, h1, h2, h3.mono (KLe.put hK) (List.prefix_refl _)⟩
  ownl := R.ownl
  own i b w e1 e2 := (R.own i b w e1 e2).mono (KLe.put hK) (List.prefix_refl _) fun o e => e
  pon := R.pon
  iob := R.iob
  fok := R.fok

theorem Rel.privLt (R : Rel G B K ad σ h) : h.objs.size ∉ privs B ad := fun q => by
  obtain ⟨o, e⟩ := R.live _ q
  exact absurd (Heap.lt_size e) (Nat.lt_irrefl _)
end
end Mine
end

section
open PySem PySem.W PyProof.Rows
set_option autoImplicit false
set_option linter.unusedVariables false
namespace Mine

def setL : List (Str × AV) → Str → AV → List (Str × AV)
  | [], x, v => [(x, v)]
  | (y, w) :: r, x, v => match x == y with
    | true => (x, v) :: r
    | false => (y, w) :: setL r x v
theorem setL_look (x : Str) (v : AV) (z : Str) : ∀ l : List (Str × AV), (setL l x v).lookup z = if z = x then some v else l.lookup z
  | [] => by
    unfold setL
    by_cases h : z = x
    · subst h; simp
    · have : (z == x) = false := beq_eq_false_iff_ne.mpr h
      simp [h, List.lookup_cons, this]
  | (y, w) :: r => by
    have ih := setL_look x v z r
    unfold setL
    cases q : x == y with
    | true =>
      have := beq_iff_eq.mp q
      subst this
      simp only [List.lookup_cons]
      by_cases h : z = x
      · subst h; simp
      · have : (z == x) = false := beq_eq_false_iff_ne.mpr h
        simp [h, this]
    | false =>
      simp only [List.lookup_cons, ih]
      by_cases h : z = x
      · subst h; simp [q]
      · simp [h]

section
variable {G : Glob} {B : Base} {K : PH} {ad : List Addr} {σ : St} {h h' : Heap}

theorem Rel.privNe (R : Rel G B K ad σ h) {b : Addr} {o : Obj} (e : K b = some o) : b ∉ privs B ad := fun q => by
  rw [(R.priv b q).1] at e; cases e
theorem Rel.cellNeL (R : Rel G B K ad σ h) {x : Str} {c : Addr} (e : B.env.cells.lookup x = some c) : c ≠ B.env.locals ∧ c ∉ ad ∧ c ∈ privs B ad := by
  have hm : c ∈ B.env.cells.map (·.2) := by
    have : ∀ l : List (Str × Addr), l.lookup x = some c → c ∈ l.map (·.2) := by
      intro l
      induction l with
      | nil => intro e; cases e
      | cons p l ih =>
        intro e
        rw [List.lookup_cons] at e
        cases q : x == p.1 with
        | true => rw [q] at e; cases e; exact .head _
        | false => rw [q] at e; exact .tail _ (ih e)
    exact this _ e
  have nd := R.nodup
  unfold privs at nd
  rw [List.nodup_cons, List.nodup_append] at nd
  refine ⟨fun q => nd.1 (q ▸ List.mem_append_left _ (List.mem_append_left _ hm)), fun q => ?_, List.mem_cons_of_mem _ (List.mem_append_left _ (List.mem_append_left _ hm))⟩
  exact nd.2.2.2 c (List.mem_append_left _ hm) c q rfl
theorem Rel.ioNe (R : Rel G B K ad σ h) {q : Addr × Obj} (hq : q ∈ B.io) : q.1 ≠ B.env.locals ∧ q.1 ∉ ad ∧ q.1 ∈ privs B ad ∧ ∀ x c, B.env.cells.lookup x = some c → c ≠ q.1 := by
  have hm : q.1 ∈ B.io.map (·.1) := List.mem_map_of_mem hq
  have nd := R.nodup
  unfold privs at nd
  rw [List.nodup_cons, List.nodup_append] at nd
  refine ⟨fun q => nd.1 (q ▸ List.mem_append_left _ (List.mem_append_right _ hm)), fun z => nd.2.2.2 _ (List.mem_append_right _ hm) _ z rfl, List.mem_cons_of_mem _ (List.mem_append_left _ (List.mem_append_right _ hm)), fun x c e z => ?_⟩
  have hc : c ∈ B.env.cells.map (·.2) := by
    have : ∀ l : List (Str × Addr), l.lookup x = some c → c ∈ l.map (·.2) := by
      intro l
      induction l with
      | nil => intro e; cases e
      | cons p l ih =>
        intro e
        rw [List.lookup_cons] at e
        cases q : x == p.1 with
        | true => rw [q] at e; cases e; exact .head _
        | false => rw [q] at e; exact .tail _ (ih e)
    exact this _ e
  exact (List.nodup_append.mp nd.2.1).2.2 c hc _ hm z
theorem Rel.ownNeL (R : Rel G B K ad σ h) {a : Addr} (e : a ∈ ad) : a ≠ B.env.locals ∧ a ∈ privs B ad := by
  have nd := R.nodup
  unfold privs at nd
  rw [List.nodup_cons] at nd
  exact ⟨fun q => nd.1 (q ▸ List.mem_append_right _ e), List.mem_cons_of_mem _ (List.mem_append_right _ e)⟩

theorem Step.at {T X : List Addr} {h h' : Heap} {a : Addr} {h0 : Heap} (st : Step T X h0 h) (hs : Heap.ExtBut a h h') (ha : a ∈ X ∨ h0.get? a = none) : Step T X h0 h' := fun b o e hx ht => by
  obtain ⟨sl, e1, q⟩ := st b o e hx ht
  have : b ≠ a := fun q' => ha.elim (fun m => hx (q' ▸ m)) fun n => by rw [← q', e] at n; cases n
  exact ⟨sl, hs b _ this e1, q⟩

theorem ff_turn {h h' base : Heap} (k : ∀ b o, h.get? b = some o → (∀ vs, o.data ≠ .fields vs) → ∃ o', h'.get? b = some o' ∧ ∀ vs, o'.data ≠ .fields vs) : ∀ {l : List Env}, h.FunFrames base l → h'.FunFrames base l
  | [], _ => trivial
  | env :: rest, hl => by
    obtain ⟨hk, ⟨L, o, hf, hn, ho, hd⟩, hr⟩ := hl
    obtain ⟨o', ho', hd'⟩ := k L o ho hd
    exact ⟨hk, ⟨L, o', hf, hn, ho', hd'⟩, ff_turn k hr⟩

/-- the heap is turned at one private address -/
theorem Rel.turn (R : Rel G B K ad σ h) {a : Addr} (hs : Heap.ExtBut a h h') (hp : a ∈ privs B ad) (hn : a ∈ B.po ∨ B.h₀.get? a = none) {o' : Obj} (ho : h'.get? a = some o') (hf : ∀ o, h.get? a = some o → (∀ vs, o.data ≠ .fields vs) → ∀ vs, o'.data ≠ .fields vs) {σ' : St}
    (ns : ∃ m, h'.Ns B.env.locals m ∧ ∀ x v, σ'.lo.lookup x = some v → ∃ u, m x = some u ∧ V K ad v u)
    (cells : ∀ x v, σ'.ce.lookup x = some v → ∃ c u, B.env.cells.lookup x = some c ∧ h'.IsCell c u ∧ VO K ad v u)
    (ownl : ad.length = σ'.ow.length)
    (own : ∀ (i : Nat) (b : Addr) (w : OW), ad[i]? = some b → σ'.ow[i]? = some w → OwIs K ad h' b w) (hio : ∀ q ∈ B.io, q.1 ≠ a) : Rel G B K ad σ' h' where
  base := R.base
  keep b o e := hs b o (fun q => R.privNe e (q ▸ hp)) (R.keep b o e)
  noT := R.noT
  tabs t ht := by
    obtain ⟨ps, e, r⟩ := R.tabs t ht
    exact ⟨ps, hs _ _ (fun q => (R.priv a hp).2 (by rw [← q]; exact List.mem_map_of_mem ht)) e, r⟩
  step := R.step.at hs hn
  K0 := R.K0
  new := R.new
  ff := ff_turn (h' := h') (fun b o e hd => by
    by_cases q : b = a
    · subst q; exact ⟨_, ho, hf o e hd⟩
    · exact ⟨o, hs b o q e, hd⟩) R.ff
  priv := R.priv
  live b hb := by
    by_cases q : b = a
    · subst q; exact ⟨_, ho⟩
    · obtain ⟨o, e⟩ := R.live b hb; exact ⟨o, hs b o q e⟩
  nodup := R.nodup
  lnew := R.lnew
  anew := R.anew
  cnew := R.cnew
  ns := ns
  cells := cells
  ownl := ownl
  own := own
  pon := R.pon
  iob q hq := let ⟨h1, h2⟩ := R.iob q hq; ⟨hs _ _ (hio q hq) h1, h2⟩
  fok := R.fok

theorem Rel.setLo (R : Rel G B K ad σ h) {x : Str} {v : AV} {u : Value} (hv : V K ad v u) {m : Str → Option Value} (hm : h.Ns B.env.locals m) (hm' : h'.Ns B.env.locals fun y => if y = x then some u else m y) (hs : Heap.SameBut B.env.locals h h') :
    Rel G B K ad { σ with lo := setL σ.lo x v } h' := by
  obtain ⟨m₁, hm₁, r⟩ := R.ns
  have em : m₁ = m := by
    obtain ⟨o, es, ep, e1, d1, _, f1⟩ := hm₁
    obtain ⟨o', es', ep', e2, d2, _, f2⟩ := hm
    rw [e1] at e2; cases e2; rw [d1] at d2; cases d2
    funext y; rw [← f1, f2]
  subst em
  obtain ⟨o', es', ep', ho', hd', _⟩ := id hm'
  refine R.turn hs.extBut (.head _) (.inr R.lnew) ho' (fun _ _ _ vs q => by rw [hd'] at q; cases q) ⟨_, hm', fun y w e => ?_⟩ (fun y w e => ?_) R.ownl (fun i b xs e1 e2 => ?_) (fun q hq => (R.ioNe hq).1)
  · dsimp only at e
    rw [setL_look] at e
    by_cases hy : y = x
    · rw [if_pos hy] at e; cases e; exact ⟨u, if_pos hy, hv⟩
    · rw [if_neg hy] at e
      obtain ⟨u', h1, h2⟩ := r y w e
      exact ⟨u', (if_neg hy).trans h1, h2⟩
  · obtain ⟨c, u', h1, h2, h3⟩ := R.cells y w e
    exact ⟨c, u', h1, h2.sameBut hs (R.cellNeL h1).1, h3⟩
  · exact (R.own i b xs e1 e2).mono (KLe.refl _) (List.prefix_refl _) fun o e => (hs.2 b (R.ownNeL (List.mem_of_getElem? e1)).1).trans e

theorem Rel.setCe (R : Rel G B K ad σ h) {x : Str} {c : Addr} {v : AV} {u : Value} (hv : V K ad v u) (hc : B.env.cells.lookup x = some c) (ho : x ∈ B.oc) (hs : Heap.SameBut c h h') (hg : h'.IsCell c (some u))
    (inj : ∀ y d, B.env.cells.lookup y = some d → y ≠ x → d ≠ c) :
    Rel G B K ad { σ with ce := setL σ.ce x v } h' := by
  have hcp := R.cellNeL hc
  obtain ⟨oc, hoc, hdc⟩ := id hg
  refine R.turn hs.extBut hcp.2.2 (.inr (R.cnew x ho c hc)) hoc (fun _ _ _ vs q => by rw [hdc] at q; cases q) ?_ (fun y w e => ?_) R.ownl (fun i b xs e1 e2 => ?_) (fun q hq => Ne.symm ((R.ioNe hq).2.2.2 _ _ hc))
  · obtain ⟨m, hm, r⟩ := R.ns
    exact ⟨m, hm.sameBut hs (Ne.symm hcp.1), r⟩
  · dsimp only at e
    rw [setL_look] at e
    by_cases hy : y = x
    · rw [if_pos hy] at e; cases e; exact ⟨c, some u, hy ▸ hc, hg, hv⟩
    · rw [if_neg hy] at e
      obtain ⟨d, u', h1, h2, h3⟩ := R.cells y w e
      exact ⟨d, u', h1, h2.sameBut hs (inj y d h1 hy), h3⟩
  · exact (R.own i b xs e1 e2).mono (KLe.refl _) (List.prefix_refl _) fun o e => (hs.2 b fun q => hcp.2.1 (q ▸ List.mem_of_getElem? e1)).trans e

/-- a new object that is kept -/
theorem Rel.newKept (R : Rel G B K ad σ h) (o : Obj) (hf : o.isFreed = false := by rfl) : Rel G B (put K h.objs.size o) ad σ (h.push o) := by
  refine (R.push o).grow (Heap.get?_push_size _ hf) R.privLt ?_ R.h0fresh R.fresh
  intro q
  obtain ⟨t, ht, e⟩ := List.mem_map.mp q
  obtain ⟨ps, e', _⟩ := R.tabs t ht
  exact absurd (Heap.lt_size e') (by rw [e]; exact Nat.lt_irrefl _)
theorem Rel.notT (R : Rel G B K ad σ h) : h.objs.size ∉ G.T := by
  intro q
  obtain ⟨t, ht, e⟩ := List.mem_map.mp q
  obtain ⟨ps, e', _⟩ := R.tabs t ht
  exact absurd (Heap.lt_size e') (by rw [e]; exact Nat.lt_irrefl _)

/-- a new object of one's own -/
theorem Rel.newOwn (R : Rel G B K ad σ h) {o : Obj} {w : OW} (hf : o.isFreed = false) (hw : OwIs K (ad ++ [h.objs.size]) (h.push o) h.objs.size w) : Rel G B K (ad ++ [h.objs.size]) { σ with ow := σ.ow ++ [w] } (h.push o) where
  base := R.base
  keep b o e := Heap.get?_push_of_some _ (R.keep b o e)
  noT := R.noT
  tabs := (R.push _).tabs
  step := (R.push _).step
  K0 := R.K0
  new := R.new
  ff := (R.push _).ff
  priv b hb := by
    unfold privs at hb
    rw [← List.append_assoc] at hb
    rcases List.mem_cons.mp hb with q | q
    · exact q ▸ R.priv _ (.head _)
    · rcases List.mem_append.mp q with q | q
      · exact R.priv _ (.tail _ q)
      · rw [List.mem_singleton.mp q]; exact ⟨R.fresh, R.notT⟩
  live b hb := by
    unfold privs at hb
    rw [← List.append_assoc] at hb
    rcases List.mem_cons.mp hb with q | q
    · obtain ⟨o, e⟩ := R.live _ (.head _); exact q ▸ ⟨o, Heap.get?_push_of_some _ e⟩
    · rcases List.mem_append.mp q with q | q
      · obtain ⟨o, e⟩ := R.live _ (.tail _ q); exact ⟨o, Heap.get?_push_of_some _ e⟩
      · rw [List.mem_singleton.mp q]; exact ⟨_, Heap.get?_push_size _ hf⟩
  nodup := by
    have nd := R.nodup
    have hn := R.privLt
    unfold privs at nd hn ⊢
    rw [← List.append_assoc, ← List.cons_append]
    exact List.nodup_append.mpr ⟨nd, by simp, fun a ha b hb q => hn (by rw [List.mem_singleton.mp hb] at q; exact q ▸ ha)⟩
  lnew := R.lnew
  anew a ha := by
    rcases List.mem_append.mp ha with q | q
    · exact R.anew a q
    · rw [List.mem_singleton.mp q]; exact .inr R.h0fresh
  cnew := R.cnew
  ns := let ⟨m, hm, r⟩ := R.ns; ⟨m, hm.push _, fun x v e => let ⟨u, h1, h2⟩ := r x v e; ⟨u, h1, h2.mono (KLe.refl _) (List.prefix_append _ _)⟩⟩
  cells x v e := let ⟨c, u, h1, h2, h3⟩ := R.cells x v e; ⟨c, u, h1, h2.keeps (fun b o e => Heap.get?_push_of_some _ e), h3.mono (KLe.refl _) (List.prefix_append _ _)⟩
  ownl := by simp [R.ownl]
  own i a ys e1 e2 := by
    dsimp only at e2
    by_cases hi : i < ad.length
    · rw [List.getElem?_append_left hi] at e1
      rw [List.getElem?_append_left (R.ownl ▸ hi)] at e2
      exact (R.own i a ys e1 e2).mono (KLe.refl _) (List.prefix_append _ _) fun o e => Heap.get?_push_of_some _ e
    · have hl := (List.getElem?_eq_some_iff.mp e1).1
      simp only [List.length_append, List.length_singleton] at hl
      have : i = ad.length := by omega
      subst this
      have ea : a = h.objs.size := by
        have := e1; rw [List.getElem?_append_right (Nat.le_refl _)] at this; simp at this; exact this.symm
      have ex : ys = w := by
        rw [R.ownl] at e2; rw [List.getElem?_append_right (Nat.le_refl _)] at e2; simp at e2; exact e2.symm
      subst ea; subst ex
      exact hw
  pon a ha := List.mem_append_left _ (R.pon a ha)
  iob := (R.push _).iob
  fok := R.fok

/-- an object of one's own is turned -/
theorem Rel.setOwn (R : Rel G B K ad σ h) {i : Nat} {a : Addr} {o' : Obj} {w : OW} (ha : ad[i]? = some a) (hs : Heap.ExtBut a h h') (hg : h'.get? a = some o') (hfd : ∀ o, h.get? a = some o → (∀ vs, o.data ≠ .fields vs) → ∀ vs, o'.data ≠ .fields vs) (hv : OwIs K ad h' a w) :
    Rel G B K ad { σ with ow := σ.ow.set i w } h' := by
  have hm := List.mem_of_getElem? ha
  have hp := R.ownNeL hm
  have nd : ad.Nodup := by
    have nd := R.nodup
    unfold privs at nd
    rw [List.nodup_cons, List.nodup_append] at nd
    exact nd.2.2.1
  refine R.turn hs hp.2 (R.anew a hm) hg hfd ?_ (fun y w e => ?_) (by simp [R.ownl]) (fun j b ys e1 e2 => ?_) (fun q hq z => (R.ioNe hq).2.1 (z ▸ hm))
  · obtain ⟨m, hm', r⟩ := R.ns
    exact ⟨m, hm'.extBut hs (Ne.symm hp.1), r⟩
  · obtain ⟨c, u', h1, h2, h3⟩ := R.cells y w e
    exact ⟨c, u', h1, (let ⟨oc, e1, e2⟩ := h2; ⟨oc, hs _ _ (fun q => (R.cellNeL h1).2.1 (q ▸ hm)) e1, e2⟩), h3⟩
  · dsimp only at e2
    by_cases hj : j = i
    · subst hj
      rw [ha] at e1; cases e1
      have hl : j < σ.ow.length := R.ownl ▸ (List.getElem?_eq_some_iff.mp ha).1
      rw [List.getElem?_set_self hl] at e2
      cases e2
      exact hv
    · rw [List.getElem?_set_ne (Ne.symm hj)] at e2
      have : b ≠ a := fun q => hj (by
        subst q
        obtain ⟨l1, g1⟩ := List.getElem?_eq_some_iff.mp e1
        obtain ⟨l2, g2⟩ := List.getElem?_eq_some_iff.mp ha
        exact (List.getElem_inj (h₀ := l1) (h₁ := l2) nd).mp (g1.trans g2.symm))
      exact (R.own j b ys e1 e2).mono (KLe.refl _) (List.prefix_refl _) fun o e => hs b o this e

/-- frames as a callee sees them -/
theorem Rel.frames (R : Rel G B K ad σ h) : ∀ env ∈ B.fenv :: B.outer, ∀ L, env.frame = some L → L ∉ G.T ∧ L ∉ ad ∧ K L = none ∧ ∃ o es n, h.get? L = some o ∧ o.data = .dict es n := fun env he L hL => by
  rcases R.fok env he L hL with rfl | ⟨h1, h2, h3, o, es, n, h4, h5⟩
  · obtain ⟨m, ⟨o, es, ep, ho, hd, _⟩, _⟩ := R.ns
    exact ⟨(R.priv _ (.head _)).2, fun q => (R.ownNeL q).1 rfl, (R.priv _ (.head _)).1, o, es, ep, ho, hd⟩
  · refine ⟨h1, fun q => ?_, ?_, ?_⟩
    · rcases R.anew L q with z | z
      · exact h2 z
      · rw [z] at h4; cases h4
    · cases q : K L with
      | none => rfl
      | some o' =>
        rcases R.new L o' q with z | z
        · rw [h3] at z; cases z
        · rw [z] at h4; cases h4
    · obtain ⟨o', e1, e2, _⟩ := R.step.some h4 h2 h1
      exact ⟨o', es, n, e1, e2.trans h5⟩
end
end Mine
end

section
open PySem PySem.W PyProof.Rows PySem.Calls
set_option autoImplicit false
set_option linter.unusedVariables false
namespace Mine

/-- room in the activation's surroundings: n calls deep at least -/
structure AOk (n : Nat) (A : Around) (fr : List Env) : Prop where
  frames : A.frames = some fr
  depth : A.depth + n < recursionLimit
  units : A.units + 40 * n < cLine
  handled : A.handled = none

structure Pub (G : Glob) (fr : List Env) (K : PH) (ad : List Addr) (ws : List OW) (h : Heap) : Prop where
  base : ∀ b o, G.H.get? b = some o → K b = some o
  keep : ∀ b o, K b = some o → h.get? b = some o
  noT : ∀ b ∈ G.T, K b = none
  tabs : TabsOk G K h
  ff : h.FunFrames G.H fr
  priv : ∀ b ∈ ad, K b = none ∧ b ∉ G.T
  live : ∀ b ∈ ad, ∃ o, h.get? b = some o
  nodup : ad.Nodup
  ownl : ad.length = ws.length
  own : ∀ (i : Nat) (a : Addr) (w : OW), ad[i]? = some a → ws[i]? = some w → OwIs K ad h a w
  fk : ∀ env ∈ fr, ∀ L, env.frame = some L → L ∉ G.T ∧ L ∉ ad ∧ K L = none ∧ ∃ o es n, h.get? L = some o ∧ o.data = .dict es n

/-- what is called with xs on the own lists ws: it ends, and Φ tells its result and the lists -/
def Fun (G : Glob) (n : Nat) (f : Addr) (xs : List AV) (ws : List OW) (Φ : AV → List OW → Prop) : Prop :=
  ∀ A fr K ad s us, AOk n A fr → Pub G fr K ad ws s.heap → Vs K ad xs us → ∀ (Q : Value → Shared → Prop) (E : Value → Shared → Prop),
    (∀ u s' K' r ws', KLe K K' → Pub G fr K' ad ws' s'.heap → Step G.T ad s.heap s'.heap → (∀ b o, K' b = some o → K b = some o ∨ s.heap.get? b = none) → V K' ad r u → SameRest s s' → Φ r ws' → Q u s') →
    wpAny (model G.prog G.w) A (call (.ref f) us) Q E s

def fz (p : Nat) (ow : List OW) : Nat → AV → AV
  | 0, v => v
  | n + 1, .own i => match Nat.blt i p with
    | true => .own i
    | false => match ow[i]? with
      | some (.lst xs) => .lst (xs.map (fz p ow n))
      | _ => .own i
  | n + 1, .tup xs => .tup (xs.map (fz p ow n))
  | _ + 1, v => v

/-- r tells of nothing of one's own beyond the first p -/
def Shut (p : Nat) (r : AV) : Prop := ∀ K ad u, V K ad r u → V K (ad.take p) r u

/-- the kept part with the own lists from p on -/
def shutK (K : PH) (ad : List Addr) (p : Nat) (h : Heap) : PH := fun b => if b ∈ ad.drop p then h.get? b else K b

theorem shutK_le {K : PH} {ad : List Addr} {p : Nat} {h : Heap} (hk : ∀ b o, K b = some o → h.get? b = some o) : KLe K (shutK K ad p h) := fun b o e => by
  unfold shutK
  by_cases hb : b ∈ ad.drop p
  · rw [if_pos hb]; exact hk b o e
  · rw [if_neg hb]; exact e

theorem mapVs {K K' : PH} {ad : List Addr} {f : AV → AV} (hf : ∀ v u, V K ad v u → V K' ad (f v) u) : ∀ {xs : List AV} {us : List Value}, Vs K ad xs us → Vs K' ad (xs.map f) us
  | [], _, h => by simp only [Vs] at h; subst h; exact Vs.nil
  | x :: xs, _, h => by
    simp only [Vs] at h
    obtain ⟨u, r, rfl, a, b⟩ := h
    exact Vs.cons (hf _ _ a) (mapVs hf b)

theorem fz_ok {K : PH} {ad : List Addr} {p : Nat} {ow : List OW} {h : Heap} (hk : ∀ b o, K b = some o → h.get? b = some o)
    (own : ∀ (i : Nat) (a : Addr) (w : OW), ad[i]? = some a → ow[i]? = some w → OwIs K ad h a w) :
    ∀ (n : Nat) (v : AV) (u : Value), V K ad v u → V (shutK K ad p h) ad (fz p ow n v) u
  | 0, v, u, hv => hv.mono (shutK_le hk) (List.prefix_refl _)
  | n + 1, v, u, hv => by
    have tl := shutK_le (ad := ad) (p := p) hk
    cases v with
    | own i =>
      simp only [V] at hv
      obtain ⟨a, rfl, ha⟩ := hv
      unfold fz
      cases hb : Nat.blt i p with
      | true => simp only [V]; exact ⟨a, rfl, ha⟩
      | false =>
        dsimp only
        split
        · rename_i xs hx
          obtain ⟨us, n', h1, h2⟩ := own i a _ ha hx
          simp only [V]
          refine ⟨a, us, n', rfl, ?_, mapVs (fun v u hv => fz_ok hk own n v u hv) h2⟩
          unfold shutK
          have hp : p ≤ i := X.blt_false hb
          rw [if_pos (List.mem_iff_getElem?.mpr ⟨i - p, by rw [List.getElem?_drop, Nat.add_sub_cancel' hp]; exact ha⟩)]
          exact h1
        · simp only [V]; exact ⟨a, rfl, ha⟩
    | tup xs =>
      simp only [V] at hv
      obtain ⟨a, us, rfl, ha, hx⟩ := hv
      unfold fz
      simp only [V]
      exact ⟨a, us, rfl, tl _ _ ha, mapVs (fun v u hv => fz_ok hk own n v u hv) hx⟩
    | none => exact hv.mono tl (List.prefix_refl _)
    | bool => exact hv.mono tl (List.prefix_refl _)
    | int => exact hv.mono tl (List.prefix_refl _)
    | str => exact hv.mono tl (List.prefix_refl _)
    | lst => exact hv.mono tl (List.prefix_refl _)
    | mat => exact hv.mono tl (List.prefix_refl _)
    | raw => exact hv.mono tl (List.prefix_refl _)
    | obj => exact hv.mono tl (List.prefix_refl _)
    | fn => exact hv.mono tl (List.prefix_refl _)

theorem shut_list {p : Nat} {K : PH} {ad : List Addr} : ∀ {xs : List AV} {us : List Value}, (∀ x ∈ xs, Shut p x) → Vs K ad xs us → Vs K (ad.take p) xs us
  | [], _, _, h => by simp only [Vs] at h; subst h; exact Vs.nil
  | x :: xs, _, hs, h => by
    simp only [Vs] at h
    obtain ⟨u, r, rfl, a, b⟩ := h
    exact Vs.cons (hs x (.head _) _ _ _ a) (shut_list (fun y hy => hs y (.tail _ hy)) b)
/-- the lists that were handed in tell of nothing new of one's own -/
def ShutW (p : Nat) (ws : List OW) : Prop := ∀ w ∈ ws, ∀ xs, w = .lst xs → ∀ x ∈ xs, Shut p x

def retOf : AF → AV
  | .ret v => v
  | _ => .none

def flowVal : Flow → Value
  | .ret v => v
  | _ => .none

/-- the base of an activation of fd at L, its own lists ad, its callers fr -/
def baseOf (env : Env) (fr : List Env) (K : PH) (h : Heap) (ad : List Addr) (oc : List Str) : Base := { env := env, fenv := env, outer := fr, K₀ := K, h₀ := h, po := ad, oc := oc }

structure FnAt (G : Glob) (a : Addr) (fd : FuncData) (body : List Stmt) : Prop where
  obj : ∃ o, G.H.get? a = some o ∧ o.data = .func fd
  code : G.H.CodeRec fd.code fd.qualname
  stmts : fd.body = .stmts body
  co : fd.scope.isCoroutine = false
  gen : fd.scope.isGenerator = false
  kind : fd.scope.kind = .function
  clos : fd.closure = []
  glob : fd.globals = mainGlobals
  blt : fd.builtins = builtinsNs

theorem exit_pub {G : Glob} {B : Base} {K K₁ : PH} {ad : List Addr} {ws : List OW} {ad₁ : List Addr} {σ : St} {h h₁ : Heap} {fr : List Env}
    (P : Pub G fr K ad ws h) (R : Rel G B K₁ ad₁ σ h₁) (hB : B.K₀ = K ∧ B.h₀ = h ∧ B.po = ad ∧ B.outer = fr) (hp : ad <+: ad₁) (hw : ShutW ad.length (σ.ow.take ad.length)) :
    Pub G fr (shutK K₁ ad₁ ad.length h₁) ad (σ.ow.take ad.length) h₁ ∧ Step G.T ad h h₁ ∧ (∀ b o, shutK K₁ ad₁ ad.length h₁ b = some o → K b = some o ∨ h.get? b = none) := by
  obtain ⟨rfl, rfl, rfl, rfl⟩ := hB
  obtain ⟨more, rfl⟩ := hp
  have hd : (B.po ++ more).drop B.po.length = more := by simp
  have nd : (B.po ++ more).Nodup := by
    have nd := R.nodup
    unfold privs at nd
    rw [List.nodup_cons, List.nodup_append] at nd
    exact nd.2.2.1
  have dj : ∀ a ∈ B.po, a ∉ more := fun a ha q => (List.nodup_append.mp nd).2.2 a ha a q rfl
  have tl := shutK_le (ad := B.po ++ more) (p := B.po.length) R.keep
  have pv : ∀ b ∈ B.po ++ more, K₁ b = none ∧ b ∉ G.T := fun b hb => R.priv b (List.mem_cons_of_mem _ (List.mem_append_right _ hb))
  have lv : ∀ b ∈ B.po ++ more, ∃ o, h₁.get? b = some o := fun b hb => R.live b (List.mem_cons_of_mem _ (List.mem_append_right _ hb))
  have lenle : B.po.length ≤ σ.ow.length := by rw [← R.ownl]; simp
  refine ⟨⟨fun b o e => tl _ _ (R.base b o e), fun b o e => ?_, fun b hb => ?_, fun t ht => ?_, R.ff.2.2, fun b hb => ⟨?_, (pv b (List.mem_append_left _ hb)).2⟩, fun b hb => lv b (List.mem_append_left _ hb), P.nodup, ?_, fun i a xs e1 e2 => ?_, fun env he L hL => ?_⟩, R.step, fun b o e => ?_⟩
  · unfold shutK at e
    rw [hd] at e
    split at e
    · exact e
    · exact R.keep b o e
  · unfold shutK
    rw [hd, if_neg fun q => (pv b (List.mem_append_right _ q)).2 hb]
    exact R.noT b hb
  · obtain ⟨ps, h1, h2, h3⟩ := R.tabs t ht
    exact ⟨ps, h1, h2, h3.imp id fun ⟨c', o', vs, tk, g1, g2, g3⟩ => ⟨c', o', vs, tk, g1, tl _ _ g2, g3⟩⟩
  · unfold shutK
    rw [hd, if_neg (dj b hb)]
    exact (pv b (List.mem_append_left _ hb)).1
  · rw [List.length_take, Nat.min_eq_left lenle]
  · have hi : i < B.po.length := (List.getElem?_eq_some_iff.mp e1).1
    rw [List.getElem?_take_of_lt hi] at e2
    have z := R.own i a xs (by rw [List.getElem?_append_left hi]; exact e1) e2
    cases xs with
    | dead => trivial
    | obj o => exact z
    | lst xs =>
      obtain ⟨us, n, h1, h2⟩ := z
      refine ⟨us, n, h1, ?_⟩
      have hm : OW.lst xs ∈ σ.ow.take B.po.length := List.mem_iff_getElem?.mpr ⟨i, by rw [List.getElem?_take_of_lt hi]; exact e2⟩
      have z := shut_list (fun x hx => hw _ hm xs rfl x hx) (h2.mono tl (List.prefix_refl _))
      rwa [List.take_left] at z
  · obtain ⟨f1, f2, f3, f4⟩ := R.frames env (.tail _ he) L hL
    refine ⟨f1, fun q => f2 (List.mem_append_left _ q), ?_, f4⟩
    unfold shutK
    rw [hd, if_neg fun q => f2 (List.mem_append_right _ q)]
    exact f3
  · unfold shutK at e
    rw [hd] at e
    split at e
    · rename_i hb
      rcases R.anew b (List.mem_append_right _ hb) with q | q
      · exact absurd hb (dj b q)
      · exact .inr q
    · exact R.new b o e

theorem lookup_zip_rel {K : PH} {ad : List Addr} : ∀ {ns : List Str} {xs : List AV} {us : List Value} {x : Str} {v : AV}, Vs K ad xs us → (ns.zip xs).lookup x = some v → ∃ u, (ns.zip us).lookup x = some u ∧ V K ad v u
  | [], _, _, _, _, _, e => by simp at e
  | _ :: _, [], _, _, _, _, e => by simp at e
  | n :: ns, y :: xs, _, x, v, h, e => by
    simp only [Vs] at h
    obtain ⟨u, r, rfl, a, b⟩ := h
    simp only [List.zip_cons_cons, List.lookup_cons] at e ⊢
    cases q : x == n with
    | true => rw [q] at e; cases e; exact ⟨u, rfl, a⟩
    | false => rw [q] at e; exact lookup_zip_rel b e

theorem lookup_reverse_nodup {α : Type} : ∀ {l : List (Str × α)}, (l.map (·.1)).Nodup → ∀ x, l.reverse.lookup x = l.lookup x
  | [], _, _ => rfl
  | (y, v) :: l, nd, x => by
    rw [List.map_cons, List.nodup_cons] at nd
    rw [List.reverse_cons, List.lookup_append, lookup_reverse_nodup nd.2, List.lookup_cons]
    cases q : x == y with
    | true =>
      have hx := beq_iff_eq.mp q
      have : l.lookup x = none := by
        rw [List.lookup_eq_none_iff]
        intro p hp
        have : p.1 ≠ y := fun e => nd.1 (e ▸ List.mem_map.mpr ⟨p, hp, rfl⟩)
        simp only [hx, bne_iff_ne, ne_eq]
        exact fun e => this e.symm
      simp [this, List.lookup_cons, q]
    | false => simp [List.lookup_cons, q]

/-- a def by its body -/
theorem Fun.of_body {G : Glob} (GO : G.Ok) {n : Nat} {f : Addr} {fd : FuncData} {body : List Stmt} {xs : List AV} {ws : List OW} {ns : List Str} {Φ : AV → List OW → Prop} (hf : FnAt G f fd body)
    (hns : ns.Nodup) (hlen : ns.length = xs.length) (hbind : ∀ us : List Value, us.length = ns.length → bindArgs fd ⟨us, []⟩ = pure (ns.zip us))
    (hcell : ∀ x ∈ fd.scope.names, x.2 ≠ .cell) (hloc : ∀ x ∈ ns, fd.scope.names.lookup x = some .local)
    (h : ∀ A L fr K h₀ ad, AOk n A (callEnv fd L f :: fr) → Ex G (baseOf (callEnv fd L f) fr K h₀ ad []) A { lo := ns.zip xs, ow := ws } body
      (fun fl σ' => ∃ k, Shut ws.length (fz ws.length σ'.ow k (retOf fl)) ∧ ShutW ws.length (σ'.ow.take ws.length) ∧ Φ (fz ws.length σ'.ow k (retOf fl)) (σ'.ow.take ws.length)) noX) :
    Fun G (n + 1) f xs ws Φ := by
  intro A fr K ad s us hA P hv Q E q
  obtain ⟨o, ho, hd⟩ := hf.obj
  have keepH : ∀ b o, G.H.get? b = some o → s.heap.get? b = some o := fun b o e => P.keep b o (P.base b o e)
  have hul : us.length = ns.length := hv.length.trans hlen.symm
  refine wpAny_call (codeAny_call_def (fd := fd) (body := body) (binds := ns.zip us) (by have := hA.depth; omega) (keepH _ _ ho) hd (GO.nolimit.keeps keepH) ?_ hf.stmts (BindsTo.of_eq (hbind us hul)) hcell (fun x hx => ?_) (fun h₁ hns₁ hk₁ => ?_) hf.co hf.gen hf.kind)
  · obtain ⟨c, o', vs, t, h1, h2, h3⟩ := hf.code
    exact ⟨c, o', vs, t, h1, keepH _ _ h2, h3⟩
  · exact hloc _ (List.of_mem_zip hx).1
  · have hLnone : s.heap.get? s.heap.objs.size = none := Heap.get?_none_of_le (Nat.le_refl _)
    have hL1 : ∃ o, h₁.get? s.heap.objs.size = some o := let ⟨o, _, _, e, _⟩ := hns₁; ⟨o, e⟩
    have hsz : s.heap.objs.size ≤ h₁.objs.size := Nat.le_of_lt hns₁.lt
    have fresh : K s.heap.objs.size = none := by
      cases e : K s.heap.objs.size with
      | none => rfl
      | some o => exact absurd (Heap.lt_size (P.keep _ _ e)) (Nat.lt_irrefl _)
    have hcs : (callEnv fd s.heap.objs.size f).cells = [] := hf.clos
    have R : Rel G (baseOf (callEnv fd s.heap.objs.size f) fr K s.heap ad []) K ad { lo := ns.zip xs, ow := ws } h₁ := {
      base := P.base
      keep := fun b o e => hk₁ b o (P.keep b o e)
      noT := P.noT
      tabs := fun t ht => let ⟨ps, e, r⟩ := P.tabs t ht; ⟨ps, hk₁ _ _ e, r⟩
      step := .of_keeps fun b o e _ _ => hk₁ b o e
      K0 := KLe.refl _
      new := fun b o e => .inl e
      ff := by
        obtain ⟨oL, es, ep, hL, hLd, _⟩ := hns₁
        refine ⟨?_, ⟨s.heap.objs.size, oL, rfl, ?_, hL, fun vs q => by rw [hLd] at q; cases q⟩, P.ff.of_keeps fun b o e _ => ⟨o, hk₁ b o e, rfl⟩⟩
        · show fd.scope.kind ≠ .module
          rw [hf.kind]; decide
        · cases q' : G.H.get? s.heap.objs.size with
          | none => rfl
          | some o => rw [keepH _ _ q'] at hLnone; cases hLnone
      priv := fun b hb => by
        rcases List.mem_cons.mp hb with e | e
        · rw [e]
          refine ⟨fresh, fun m => ?_⟩
          obtain ⟨t, ht, e'⟩ := List.mem_map.mp m
          obtain ⟨ps, e2, _⟩ := P.tabs t ht
          rw [e'] at e2
          exact absurd (Heap.lt_size e2) (Nat.lt_irrefl _)
        · exact P.priv b (by simpa [baseOf, hcs] using e)
      live := fun b hb => by
        rcases List.mem_cons.mp hb with e | e
        · rw [e]; exact hL1
        · obtain ⟨o, e'⟩ := P.live b (by simpa [baseOf, hcs] using e); exact ⟨o, hk₁ _ _ e'⟩
      nodup := by
        show (s.heap.objs.size :: (((callEnv fd s.heap.objs.size f).cells.map (·.2) ++ []) ++ ad)).Nodup
        rw [hcs, List.map_nil, List.nil_append, List.nil_append, List.nodup_cons]
        exact ⟨fun m => by obtain ⟨o, e⟩ := P.live _ m; exact absurd (Heap.lt_size e) (Nat.lt_irrefl _), P.nodup⟩
      lnew := hLnone
      anew := fun a ha => .inl ha
      cnew := fun x hx => nomatch hx
      ns := ⟨_, hns₁, fun x v e => by
        dsimp only at e
        obtain ⟨u, h1, h2⟩ := lookup_zip_rel hv e
        have hm : ((ns.zip us).map (·.1)).Nodup := by
          rw [List.map_fst_zip (by omega)]; exact hns
        exact ⟨u, (lookup_reverse_nodup hm x).trans h1, h2⟩⟩
      cells := fun x v e => nomatch e
      ownl := P.ownl
      own := fun i a ys e1 e2 => (P.own i a ys e1 e2).mono (KLe.refl _) (List.prefix_refl _) fun o e => hk₁ _ _ e
      pon := fun a ha => ha
      iob := fun q hq => nomatch hq
      fok := fun env he L hL => by
        rcases List.mem_cons.mp he with q | q
        · subst q; cases hL; exact .inl rfl
        · exact .inr (P.fk env q L hL) }
    have hA' : AOk n (A.deeper (callEnv fd s.heap.objs.size f)) (callEnv fd s.heap.objs.size f :: fr) := by
      refine ⟨?_, ?_, ?_, hA.handled⟩
      · show A.frames.map _ = _
        rw [hA.frames]; rfl
      · have := hA.depth
        show A.depth + 1 + n < recursionLimit
        omega
      · have := hA.units
        show A.units + 3 + 40 * n < cLine
        omega
    refine h _ _ fr K s.heap ad hA' K ad { s with heap := h₁, toks := s.toks + (ns.zip us).length } R _ _ (fun fl s' K' ad' b σ' g1 g2 g3 g4 g5 g6 => ?_) (fun e s' K' ad' cls σ' _ _ _ _ _ x => x.elim)
    obtain ⟨k, k1, k2, k3⟩ := g6
    rw [← P.ownl] at k1 k2 k3
    obtain ⟨p1, p2, p3⟩ := exit_pub P g3 ⟨rfl, rfl, rfl, rfl⟩ g2 k2
    have hu : V K' ad' (retOf b) (flowVal fl) := by
      cases b with
      | ret v => simp only [FlowIs] at g4; obtain ⟨u, rfl, z⟩ := g4; exact z
      | next => simp only [FlowIs] at g4; subst g4; simp [retOf, V, flowVal]
      | brk => simp only [FlowIs] at g4; subst g4; simp [retOf, V, flowVal]
      | cont => simp only [FlowIs] at g4; subst g4; simp [retOf, V, flowVal]
    have z := k1 _ _ _ (fz_ok (p := ad.length) g3.keep g3.own k (retOf b) _ hu)
    obtain ⟨more, rfl⟩ := g2
    rw [List.take_left] at z
    exact q (flowVal fl) s' _ _ _ (g1.trans (shutK_le g3.keep)) p1 p2 p3 z g5 k3
end Mine
end

section
open PySem PySem.W PyProof.Rows PySem.Calls
set_option autoImplicit false
set_option linter.unusedVariables false
namespace Mine

abbrev QC {α β : Type} (G : Glob) (B : Base) (K : PH) (ad : List Addr) (s : Shared) (R : RelOf β α) (Φ : β → St → Prop) (Q : α → Shared → Prop) : Prop :=
  ∀ a s' K' ad' b σ', KLe K K' → ad <+: ad' → Rel G B K' ad' σ' s'.heap → R K' ad' b a → SameRest s s' → Φ b σ' → Q a s'
abbrev EC (G : Glob) (B : Base) (K : PH) (ad : List Addr) (s : Shared) (Ψ : XPost) (E : Value → Shared → Prop) : Prop :=
  ∀ e s' K' ad' cls σ', KLe K K' → ad <+: ad' → Rel G B K' ad' σ' s'.heap → Exc B K' ad' s'.heap e cls → SameRest s s' → Ψ cls σ' → E (.ref e) s'

section
variable {α β : Type} {G : Glob} {B : Base} {K K₁ : PH} {ad ad₁ : List Addr} {s s₁ : Shared} {R : RelOf β α} {Φ : β → St → Prop} {Q : α → Shared → Prop} {Ψ : XPost} {E : Value → Shared → Prop}
theorem QC.after (q : QC G B K ad s R Φ Q) (h1 : KLe K K₁) (h2 : ad <+: ad₁) (h3 : SameRest s s₁) : QC G B K₁ ad₁ s₁ R Φ Q :=
  fun a s' K' ad' b σ' g1 g2 g3 g4 g5 g6 => q a s' K' ad' b σ' (h1.trans g1) (h2.trans g2) g3 g4 (h3.trans g5) g6
theorem EC.after (q : EC G B K ad s Ψ E) (h1 : KLe K K₁) (h2 : ad <+: ad₁) (h3 : SameRest s s₁) : EC G B K₁ ad₁ s₁ Ψ E :=
  fun a s' K' ad' b σ' g1 g2 g3 g4 g5 g6 => q a s' K' ad' b σ' (h1.trans g1) (h2.trans g2) g3 g4 (h3.trans g5) g6
end

section
variable {G : Glob} {B : Base} {A : Around} {σ : St} {Ψ : XPost}

/-- a value, the heap untouched -/
theorem Do.val {α β : Type} {t : Sem α} {R : RelOf β α} {Φ : β → St → Prop} {v : β} (h : ∀ K ad s, Rel G B K ad σ s.heap → ∀ (Q : α → Shared → Prop) (E : Value → Shared → Prop), (∀ u tk, R K ad v u → Q u { s with toks := tk }) → wpAny (model G.prog G.w) A t Q E s) (hΦ : Φ v σ) : Do G B A σ t R Φ Ψ :=
  fun K ad s hR Q E q e => h K ad s hR Q E fun u tk hv => q u { s with toks := tk } K ad v σ (KLe.refl _) (List.prefix_refl _) hR hv ⟨rfl, rfl, rfl⟩ hΦ

theorem Ev.int {Φ : AV → St → Prop} {i : Int} {k : Nat} {pos : Pos} (h : Φ (.int i) σ) : Ev G B A σ (.Constant (.int i) k pos) Φ Ψ :=
  Do.val (fun K ad s hR Q E q => wpAny_Constant_int (q _ _ (by simp only [V]; exact ⟨_, rfl⟩))) h
theorem Ev.str {Φ : AV → St → Prop} {x : Str} {k : Nat} {pos : Pos} (h : Φ (.str x) σ) : Ev G B A σ (.Constant (.str x) k pos) Φ Ψ :=
  Do.val (fun K ad s hR Q E q => wpAny_Constant_str (q _ _ (by simp only [V]; exact ⟨_, rfl⟩))) h
theorem Ev.none {Φ : AV → St → Prop} {k : Nat} {pos : Pos} (h : Φ .none σ) : Ev G B A σ (.Constant .none k pos) Φ Ψ :=
  Do.val (fun K ad s hR Q E q => wpAny_Constant_none (q _ s.toks (by simp only [V]))) h
theorem Ev.bool {Φ : AV → St → Prop} {b : Bool} {k : Nat} {pos : Pos} (h : Φ (.bool b) σ) : Ev G B A σ (.Constant (.bool b) k pos) Φ Ψ :=
  Do.val (fun K ad s hR Q E q => wpAny_Constant_bool (q _ s.toks (by simp only [V]))) h

structure EnvOk (env : Env) : Prop where
  kind : env.scope.kind = .function
  glob : env.globals = mainGlobals
  blt : env.builtins = builtinsNs

theorem Ev.loc {Φ : AV → St → Prop} {x : Str} {pos : Pos} {v : AV} (hE : EnvOk B.env) (hl : B.env.kindOf x = some .local) (hv : σ.lo.lookup x = some v) (h : Φ v σ) (hd : (x == ("__debug__" : Str)) = false := by decide) : Ev G B A σ (.Name x pos) Φ Ψ :=
  Do.val (fun K ad s hR Q E q => by
    obtain ⟨m, hm, r⟩ := hR.ns
    obtain ⟨u, h1, h2⟩ := r x v hv
    exact wpAny_Name (wpAny_loadName_local hE.kind hl hm h1 (q u s.toks h2)) hd) h
theorem Ev.cell {Φ : AV → St → Prop} {x : Str} {pos : Pos} {v : AV} (hE : EnvOk B.env) (hl : B.env.kindOf x = some .cell) (hv : σ.ce.lookup x = some v) (hn : v ≠ unset) (h : Φ v σ) (hd : (x == ("__debug__" : Str)) = false := by decide) : Ev G B A σ (.Name x pos) Φ Ψ :=
  Do.val (fun K ad s hR Q E q => by
    obtain ⟨c, ou, h1, h2, h3⟩ := hR.cells x v hv
    cases ou with
    | none => exact absurd h3 hn
    | some u =>
    exact wpAny_Name (wpAny_loadName_cell hE.kind hl h1 h2 (q u s.toks h3)) hd) h
theorem Rel.H {K : PH} {ad : List Addr} {h : Heap} (R : Rel G B K ad σ h) : ∀ b o, G.H.get? b = some o → h.get? b = some o := fun b o e => R.keep b o (R.base b o e)
theorem Ev.glob {Φ : AV → St → Prop} {x : Str} {pos : Pos} {u : Value} (GO : G.Ok) (hE : EnvOk B.env) (hl : B.env.kindOf x = some .globalImplicit) (hv : G.mg x = some u) (h : Φ (.raw u) σ) (hd : (x == ("__debug__" : Str)) = false := by decide) : Ev G B A σ (.Name x pos) Φ Ψ :=
  Do.val (fun K ad s hR Q E q => by
    exact Name_function_global hE.kind hl (loadGlobal_global (by rw [hE.glob]; exact GO.g.keeps hR.H) hv (q u s.toks (by simp only [V]))) hd) h
theorem Ev.blt {Φ : AV → St → Prop} {x : Str} {pos : Pos} {u : Value} (GO : G.Ok) (hE : EnvOk B.env) (hl : B.env.kindOf x = some .globalImplicit) (hn : G.mg x = Option.none) (hv : G.mb x = some u) (h : Φ (.raw u) σ) (hd : (x == ("__debug__" : Str)) = false := by decide) : Ev G B A σ (.Name x pos) Φ Ψ :=
  Do.val (fun K ad s hR Q E q => by
    exact Name_function_global hE.kind hl (loadGlobal_builtin (by rw [hE.glob]; exact GO.g.keeps hR.H) hn (by rw [hE.blt]; exact GO.b.keeps hR.H) hv (q u s.toks (by simp only [V]))) hd) h

abbrev Evs (G : Glob) (B : Base) (A : Around) (σ : St) (pos : Pos) (es : List Expr) (Φ : List AV → St → Prop) (Ψ : XPost) : Prop := Do G B A σ (spliced (backTo pos (starEach es B.env))) Vs Φ Ψ
theorem Evs.nil {Φ : List AV → St → Prop} {pos : Pos} (h : Φ [] σ) : Evs G B A σ pos [] Φ Ψ :=
  Do.val (fun K ad s hR Q E q => wpAny_items_nil (q [] s.toks Vs.nil)) h
theorem Evs.cons {Φ : List AV → St → Prop} {pos : Pos} {e : Expr} {es : List Expr} (h : Ev G B A σ e (fun v σ₁ => Evs G B A σ₁ pos es (fun vs σ₂ => Φ (v :: vs) σ₂) Ψ) Ψ)
    (he : starEach (e :: es) B.env = (false, eval e B.env) :: starEach es B.env := by rfl) : Evs G B A σ pos (e :: es) Φ Ψ := fun K ad s hR Q E q e =>
  wpAny_items_cons (h K ad s hR _ _ (fun u s₁ K₁ ad₁ v σ₁ g1 g2 g3 g4 g5 g6 => g6 K₁ ad₁ s₁ g3 _ _ (fun us s₂ K₂ ad₂ vs σ₂ f1 f2 f3 f4 f5 f6 =>
    q (u :: us) s₂ K₂ ad₂ (v :: vs) σ₂ (g1.trans f1) (g2.trans f2) f3 (Vs.cons (g4.mono f1 f2) f4) (g5.trans f5) f6) (EC.after e g1 g2 g5)) e) he

/-- a new tuple, kept -/
theorem Ev.tuple {Φ : AV → St → Prop} {es : List Expr} {k : Nat} {pos : Pos} (h : Evs G B A σ pos es (fun vs σ₁ => vs.length ≤ sizeLine ∧ Φ (.tup vs) σ₁) Ψ) : Ev G B A σ (.Tuple es k pos) Φ Ψ := fun K ad s hR Q E q e =>
  wpAny_Tuple (h K ad s hR _ _ (fun us s₁ K₁ ad₁ vs σ₁ g1 g2 g3 g4 g5 g6 => ⟨by rw [g4.length]; exact g6.1,
    q _ { s₁ with heap := s₁.heap.push (tupOf us) } _ ad₁ (.tup vs) σ₁ (g1.trans (KLe.put g3.fresh)) g2 (g3.newKept (tupOf us)) (by simp only [V]; exact ⟨_, us, rfl, put_self .., g4.mono (KLe.put g3.fresh) (List.prefix_refl _)⟩) g5 g6.2⟩) e)
/-- a list display whose list is not turned any more -/
theorem Ev.list {Φ : AV → St → Prop} {es : List Expr} {pos : Pos} (h : Evs G B A σ pos es (fun vs σ₁ => vs.length ≤ sizeLine ∧ Φ (.lst vs) σ₁) Ψ) : Ev G B A σ (.List es pos) Φ Ψ := fun K ad s hR Q E q e =>
  wpAny_List (h K ad s hR _ _ (fun us s₁ K₁ ad₁ vs σ₁ g1 g2 g3 g4 g5 g6 => ⟨by rw [g4.length]; exact g6.1,
    q _ { s₁ with heap := s₁.heap.push (lstOf us 0) } _ ad₁ (.lst vs) σ₁ (g1.trans (KLe.put g3.fresh)) g2 (g3.newKept (lstOf us 0)) (by simp only [V]; exact ⟨_, us, 0, rfl, put_self .., g4.mono (KLe.put g3.fresh) (List.prefix_refl _)⟩) g5 g6.2⟩) e)
/-- an empty list of one's own -/
theorem Ev.listOwn {Φ : AV → St → Prop} {pos : Pos} (h : Φ (.own σ.ow.length) { σ with ow := σ.ow ++ [.lst []] }) : Ev G B A σ (.List [] pos) Φ Ψ := fun K ad s hR Q E q e =>
  wpAny_List (wpAny_items_nil ⟨by decide, q _ { s with heap := s.heap.push (lstOf [] 0) } K (ad ++ [s.heap.objs.size]) (.own σ.ow.length) _ (KLe.refl _) (List.prefix_append _ _) (hR.newOwn (w := .lst []) rfl ⟨[], 0, Heap.get?_push_size _ rfl, Vs.nil⟩) (by simp only [V]; exact ⟨_, rfl, by rw [← hR.ownl]; simp⟩) ⟨rfl, rfl, rfl⟩ h⟩)

/-- two operands, then a step on them -/
abbrev Op2 (G : Glob) (B : Base) (A : Around) (σ : St) (f : Value → Value → Sem Value) (a b : AV) (Φ : AV → St → Prop) (Ψ : XPost) : Prop :=
  ∀ K ad s u w, Rel G B K ad σ s.heap → V K ad a u → V K ad b w → ∀ (Q : Value → Shared → Prop) (E : Value → Shared → Prop), QC G B K ad s V Φ Q → EC G B K ad s Ψ E → wpAny (model G.prog G.w) A (f u w) Q E s
abbrev Op1 (G : Glob) (B : Base) (A : Around) (σ : St) {α β : Type} (f : Value → Sem α) (a : AV) (R : RelOf β α) (Φ : β → St → Prop) (Ψ : XPost) : Prop :=
  ∀ K ad s u, Rel G B K ad σ s.heap → V K ad a u → ∀ (Q : α → Shared → Prop) (E : Value → Shared → Prop), QC G B K ad s R Φ Q → EC G B K ad s Ψ E → wpAny (model G.prog G.w) A (f u) Q E s

theorem Ev.binop {Φ : AV → St → Prop} {l r : Expr} {op : Operator} {pos : Pos} (h : Ev G B A σ l (fun a σ₁ => Ev G B A σ₁ r (fun b σ₂ => Op2 G B A σ₂ (binaryOp op) a b Φ Ψ) Ψ) Ψ) : Ev G B A σ (.BinOp l op r pos) Φ Ψ := fun K ad s hR Q E q e =>
  wpAny_BinOp (h K ad s hR _ _ (fun u s₁ K₁ ad₁ a σ₁ g1 g2 g3 g4 g5 g6 => g6 K₁ ad₁ s₁ g3 _ _ (fun w s₂ K₂ ad₂ b σ₂ f1 f2 f3 f4 f5 f6 =>
    f6 K₂ ad₂ s₂ u w f3 (g4.mono f1 f2) f4 Q E (QC.after q (g1.trans f1) (g2.trans f2) (g5.trans f5)) (EC.after e (g1.trans f1) (g2.trans f2) (g5.trans f5))) (EC.after e g1 g2 g5)) e)
theorem Ev.compare {Φ : AV → St → Prop} {l r : Expr} {op : CmpOp} {pos : Pos} (h : Ev G B A σ l (fun a σ₁ => Ev G B A σ₁ r (fun b σ₂ => Op2 G B A σ₂ (compareOp op) a b Φ Ψ) Ψ) Ψ) (hm : behindInMarks op r = false := by with_unfolding_all rfl) : Ev G B A σ (.Compare l [op] [r] pos) Φ Ψ := fun K ad s hR Q E q e =>
  wpAny_Compare1 (h K ad s hR _ _ (fun u s₁ K₁ ad₁ a σ₁ g1 g2 g3 g4 g5 g6 => g6 K₁ ad₁ s₁ g3 _ _ (fun w s₂ K₂ ad₂ b σ₂ f1 f2 f3 f4 f5 f6 =>
    f6 K₂ ad₂ s₂ u w f3 (g4.mono f1 f2) f4 Q E (QC.after q (g1.trans f1) (g2.trans f2) (g5.trans f5)) (EC.after e (g1.trans f1) (g2.trans f2) (g5.trans f5))) (EC.after e g1 g2 g5)) e) hm
theorem Tr.compare {Φ : Bool → St → Prop} {l r : Expr} {op : CmpOp} {pos : Pos} (h : Ev G B A σ l (fun a σ₁ => Ev G B A σ₁ r (fun b σ₂ => Op2 G B A σ₂ (compareOp op) a b (fun c σ₃ => ∃ x, c = .bool x ∧ Φ x σ₃) Ψ) Ψ) Ψ) (hm : behindInMarks op r = false := by with_unfolding_all rfl) : Tr G B A σ (.Compare l [op] [r] pos) Φ Ψ := fun K ad s hR Q E q e =>
  wpAny_isTrue_Compare1 (h K ad s hR _ _ (fun u s₁ K₁ ad₁ a σ₁ g1 g2 g3 g4 g5 g6 => g6 K₁ ad₁ s₁ g3 _ _ (fun w s₂ K₂ ad₂ b σ₂ f1 f2 f3 f4 f5 f6 =>
    f6 K₂ ad₂ s₂ u w f3 (g4.mono f1 f2) f4 _ E (fun c s₃ K₃ ad₃ v σ₃ k1 k2 k3 k4 k5 k6 => by
      obtain ⟨x, rfl, hx⟩ := k6
      simp only [V] at k4
      subst k4
      exact wpAny_truthy_bool (q x s₃ K₃ ad₃ x σ₃ (g1.trans (f1.trans k1)) (g2.trans (f2.trans k2)) k3 rfl (g5.trans (f5.trans k5)) hx)) (EC.after e (g1.trans f1) (g2.trans f2) (g5.trans f5))) (EC.after e g1 g2 g5)) e) hm

theorem Tr.not {Φ : Bool → St → Prop} {x : Expr} {pos : Pos} (h : Tr G B A σ x (fun b σ₁ => Φ (!b) σ₁) Ψ) : Tr G B A σ (.UnaryOp .Not x pos) Φ Ψ := fun K ad s hR Q E q e =>
  wpAny_isTrue_Not (h K ad s hR _ _ (fun b s₁ K₁ ad₁ c σ₁ g1 g2 g3 g4 g5 g6 => by cases g4; exact q (!b) s₁ K₁ ad₁ (!b) σ₁ g1 g2 g3 rfl g5 g6) e)
/-- a test by its value -/
theorem Tr.value {Φ : Bool → St → Prop} {x : Expr} (h : Ev G B A σ x (fun v σ₁ => Op1 G B A σ₁ truthy v Same Φ Ψ) Ψ) (he : isTrue x B.env (eval x B.env) = (do let v ← eval x B.env; standAt x.pos; holding [v] (truthy v)) := by rfl) : Tr G B A σ x Φ Ψ := fun K ad s hR Q E q e =>
  wpAny_isTrue_value (h K ad s hR _ _ (fun u s₁ K₁ ad₁ v σ₁ g1 g2 g3 g4 g5 g6 => g6 K₁ ad₁ s₁ u g3 g4 _ E (QC.after q g1 g2 g5) (EC.after e g1 g2 g5)) e) he

abbrev TrL (G : Glob) (B : Base) (A : Around) (σ : St) (op : BoolOp) (es : List Expr) (Φ : Bool → St → Prop) (Ψ : XPost) : Prop := Do G B A σ (allTrue op es B.env) Same Φ Ψ
theorem Tr.boolop {Φ : Bool → St → Prop} {op : BoolOp} {es : List Expr} {pos : Pos} (h : TrL G B A σ op es Φ Ψ) : Tr G B A σ (.BoolOp op es pos) Φ Ψ := fun K ad s hR Q E q e => wpAny_isTrue_BoolOp (h K ad s hR Q E q e)
theorem TrL.andNil {Φ : Bool → St → Prop} (h : Φ true σ) : TrL G B A σ .And [] Φ Ψ := Do.val (fun K ad s hR Q E q => wpAny_allTrue_And_nil (q true s.toks rfl)) h
theorem TrL.orNil {Φ : Bool → St → Prop} (h : Φ false σ) : TrL G B A σ .Or [] Φ Ψ := Do.val (fun K ad s hR Q E q => wpAny_allTrue_Or_nil (q false s.toks rfl)) h
theorem TrL.and {Φ : Bool → St → Prop} {x : Expr} {es : List Expr} (h : Tr G B A σ x (fun b σ₁ => if b then TrL G B A σ₁ .And es Φ Ψ else Φ false σ₁) Ψ) : TrL G B A σ .And (x :: es) Φ Ψ := fun K ad s hR Q E q e =>
  wpAny_allTrue_And_cons (h K ad s hR _ _ (fun b s₁ K₁ ad₁ c σ₁ g1 g2 g3 g4 g5 g6 => by
    cases g4
    cases b with
    | true => rw [if_pos rfl] at g6 ⊢; exact g6 K₁ ad₁ s₁ g3 Q E (QC.after q g1 g2 g5) (EC.after e g1 g2 g5)
    | false => rw [if_neg Bool.false_ne_true] at g6 ⊢; exact q false s₁ K₁ ad₁ false σ₁ g1 g2 g3 rfl g5 g6) e)
theorem TrL.or {Φ : Bool → St → Prop} {x : Expr} {es : List Expr} (h : Tr G B A σ x (fun b σ₁ => if b then Φ true σ₁ else TrL G B A σ₁ .Or es Φ Ψ) Ψ) : TrL G B A σ .Or (x :: es) Φ Ψ := fun K ad s hR Q E q e =>
  wpAny_allTrue_Or_cons (h K ad s hR _ _ (fun b s₁ K₁ ad₁ c σ₁ g1 g2 g3 g4 g5 g6 => by
    cases g4
    cases b with
    | true => rw [if_pos rfl] at g6 ⊢; exact q true s₁ K₁ ad₁ true σ₁ g1 g2 g3 rfl g5 g6
    | false => rw [if_neg Bool.false_ne_true] at g6 ⊢; exact g6 K₁ ad₁ s₁ g3 Q E (QC.after q g1 g2 g5) (EC.after e g1 g2 g5)) e)

theorem Ev.ifexp {Φ : AV → St → Prop} {t b o : Expr} {pos : Pos} (h : Tr G B A σ t (fun c σ₁ => if c then Ev G B A σ₁ b Φ Ψ else Ev G B A σ₁ o Φ Ψ) Ψ) : Ev G B A σ (.IfExp t b o pos) Φ Ψ := fun K ad s hR Q E q e =>
  wpAny_IfExp (h K ad s hR _ _ (fun b s₁ K₁ ad₁ c σ₁ g1 g2 g3 g4 g5 g6 => by
    cases g4
    cases b with
    | true => rw [if_pos rfl] at g6 ⊢; exact g6 K₁ ad₁ s₁ g3 Q E (QC.after q g1 g2 g5) (EC.after e g1 g2 g5)
    | false => rw [if_neg Bool.false_ne_true] at g6 ⊢; exact g6 K₁ ad₁ s₁ g3 Q E (QC.after q g1 g2 g5) (EC.after e g1 g2 g5)) e)

-- statements
theorem Ex.nil {Φ : AF → St → Prop} (h : Φ .next σ) : Ex G B A σ [] Φ Ψ := Do.val (v := AF.next) (fun K ad s hR Q E q => wpAny_execs_nil (q _ s.toks rfl)) h
/-- what follows a statement: the others, if it ends plainly -/
abbrev seqK (G : Glob) (B : Base) (A : Around) (ss : List Stmt) (Φ : AF → St → Prop) (Ψ : XPost) : AF → St → Prop := fun f σ₁ => match f with | .next => Ex G B A σ₁ ss Φ Ψ | f => Φ f σ₁
/-- what follows a turn of a loop -/
abbrev loopK (N : St → Prop) (Φ : AF → St → Prop) : AF → St → Prop := fun f σ₂ => match f with
  | .next | .cont => N σ₂
  | .brk => Φ .next σ₂
  | .ret v => Φ (.ret v) σ₂
/-- the post put aside -/
theorem Ex.hide {ss : List Stmt} {Φ : AF → St → Prop} (h : ∀ Φ' : AF → St → Prop, (∀ f σ', Φ f σ' → Φ' f σ') → Ex G B A σ ss Φ' Ψ) : Ex G B A σ ss Φ Ψ := h Φ (fun _ _ z => z)
theorem Ex.cons {Φ : AF → St → Prop} {st : Stmt} {ss : List Stmt} (h : Ex1 G B A σ st (seqK G B A ss Φ Ψ) Ψ) : Ex G B A σ (st :: ss) Φ Ψ := fun K ad s hR Q E q e =>
  wpAny_execs_cons (h K ad s hR _ _ (fun fl s₁ K₁ ad₁ f σ₁ g1 g2 g3 g4 g5 g6 => by
    cases f with
    | next => simp only [FlowIs] at g4; subst g4; exact g6 K₁ ad₁ s₁ g3 Q E (QC.after q g1 g2 g5) (EC.after e g1 g2 g5)
    | brk => have z := g4; simp only [FlowIs] at g4; subst g4; exact q _ s₁ K₁ ad₁ _ σ₁ g1 g2 g3 z g5 g6
    | cont => have z := g4; simp only [FlowIs] at g4; subst g4; exact q _ s₁ K₁ ad₁ _ σ₁ g1 g2 g3 z g5 g6
    | ret v => have z := g4; simp only [FlowIs] at g4; obtain ⟨u, rfl, _⟩ := g4; exact q _ s₁ K₁ ad₁ _ σ₁ g1 g2 g3 z g5 g6) e)
theorem Ex1.if {Φ : AF → St → Prop} {t : Expr} {b o : List Stmt} {pos : Pos} (h : Tr G B A σ t (fun c σ₁ => if c then Ex G B A σ₁ b Φ Ψ else Ex G B A σ₁ o Φ Ψ) Ψ) : Ex1 G B A σ (.If t b o pos) Φ Ψ := fun K ad s hR Q E q e =>
  wpAny_If (h K ad s hR _ _ (fun b s₁ K₁ ad₁ c σ₁ g1 g2 g3 g4 g5 g6 => by
    cases g4
    cases b with
    | true => rw [if_pos rfl] at g6 ⊢; exact g6 K₁ ad₁ s₁ g3 Q E (QC.after q g1 g2 g5) (EC.after e g1 g2 g5)
    | false => rw [if_neg Bool.false_ne_true] at g6 ⊢; exact g6 K₁ ad₁ s₁ g3 Q E (QC.after q g1 g2 g5) (EC.after e g1 g2 g5)) e)
theorem Ex1.ret {Φ : AF → St → Prop} {x : Expr} {pos : Pos} (h : Ev G B A σ x (fun v σ₁ => Φ (.ret v) σ₁) Ψ) : Ex1 G B A σ (.Return (some x) pos) Φ Ψ := fun K ad s hR Q E q e =>
  wpAny_Return_some (h K ad s hR _ _ (fun u s₁ K₁ ad₁ v σ₁ g1 g2 g3 g4 g5 g6 => q (.ret u) s₁ K₁ ad₁ (.ret v) σ₁ g1 g2 g3 (by simp only [FlowIs]; exact ⟨u, rfl, g4⟩) g5 g6) e)
theorem Ex1.brk {Φ : AF → St → Prop} {pos : Pos} (h : Φ .brk σ) : Ex1 G B A σ (.Break pos) Φ Ψ := Do.val (v := AF.brk) (fun K ad s hR Q E q => wpAny_Break (q _ s.toks rfl)) h
theorem Ex1.cont {Φ : AF → St → Prop} {pos : Pos} (h : Φ .cont σ) : Ex1 G B A σ (.Continue pos) Φ Ψ := Do.val (v := AF.cont) (fun K ad s hR Q E q => wpAny_Continue (q _ s.toks rfl)) h
theorem Ex1.assert {Φ : AF → St → Prop} {t : Expr} {msg : Option Expr} {pos : Pos} (h : Tr G B A σ t (fun c σ₁ => c = true ∧ Φ .next σ₁) Ψ) : Ex1 G B A σ (.Assert t msg pos) Φ Ψ := fun K ad s hR Q E q e =>
  wpAny_Assert_holds (h K ad s hR _ _ (fun b s₁ K₁ ad₁ c σ₁ g1 g2 g3 g4 g5 g6 => by
    cases g4; exact ⟨g6.1, q _ s₁ K₁ ad₁ .next σ₁ g1 g2 g3 rfl g5 g6.2⟩) e)

/-- a name of the frame's is stored -/
theorem st_loc {K : PH} {ad : List Addr} {s : Shared} {x : Str} {v : AV} {u : Value} {Q : Unit → Shared → Prop} {E : Value → Shared → Prop} (hE : EnvOk B.env) (hl : B.env.kindOf x = some .local) (hR : Rel G B K ad σ s.heap) (hv : V K ad v u)
    (q : ∀ h', Rel G B K ad { σ with lo := setL σ.lo x v } h' → Q () { s with heap := h', toks := s.toks + 1 }) : wpAny (model G.prog G.w) A (storeName B.env x u) Q E s := by
  obtain ⟨m, hm, r⟩ := hR.ns
  exact wpAny_storeName_local hl hm (fun h' hn hs => q h' (hR.setLo hv hm hn hs)) (by rw [hE.kind]; rfl)
theorem Ex1.assign {Φ : AF → St → Prop} {x : Str} {p1 pos : Pos} {e : Expr} (hE : EnvOk B.env) (hl : B.env.kindOf x = some .local) (h : Ev G B A σ e (fun v σ₁ => Φ .next { σ₁ with lo := setL σ₁.lo x v }) Ψ)
    (hs : swapsWith e (some (.Name x p1)) pos.line B.env = pure false := by rfl) : Ex1 G B A σ (.Assign [.Name x p1] e pos) Φ Ψ := fun K ad s hR Q E q ex =>
  wpAny_Assign_Name (h K ad s hR _ _ (fun u s₁ K₁ ad₁ v σ₁ g1 g2 g3 g4 g5 g6 => st_loc hE hl g3 g4 fun h' R' => q .next { s₁ with heap := h', toks := s₁.toks + 1 } K₁ ad₁ .next _ g1 g2 R' rfl (g5.trans ⟨rfl, rfl, rfl⟩) g6) ex) hs
theorem Ex1.aug {Φ : AF → St → Prop} {x : Str} {p1 pos : Pos} {op : Operator} {e : Expr} {v : AV} (hE : EnvOk B.env) (hl : B.env.kindOf x = some .local) (hv : σ.lo.lookup x = some v)
    (h : Ev G B A σ e (fun b σ₁ => Op2 G B A σ₁ (inplaceOp op) v b (fun r σ₂ => Φ .next { σ₂ with lo := setL σ₂.lo x r }) Ψ) Ψ) : Ex1 G B A σ (.AugAssign (.Name x p1) op e pos) Φ Ψ := fun K ad s hR Q E q ex => by
  obtain ⟨m, hm, r⟩ := hR.ns
  obtain ⟨u, h1, h2⟩ := r x v hv
  refine wpAny_AugAssign_Name (wpAny_loadName_local hE.kind hl hm h1 (h K ad s hR _ _ (fun w s₁ K₁ ad₁ b σ₁ g1 g2 g3 g4 g5 g6 => ?_) ex))
  exact g6 K₁ ad₁ s₁ u w g3 (h2.mono g1 g2) g4 _ _ (fun u' s₂ K₂ ad₂ r' σ₂ f1 f2 f3 f4 f5 f6 => st_loc hE hl f3 f4 fun h' R' =>
    q .next { s₂ with heap := h', toks := s₂.toks + 1 } K₂ ad₂ .next _ (g1.trans f1) (g2.trans f2) R' rfl (g5.trans (f5.trans ⟨rfl, rfl, rfl⟩)) f6) (EC.after ex g1 g2 g5)
end
end Mine
end

section
open PySem PySem.W PyProof.Rows PySem.Calls
set_option autoImplicit false
set_option linter.unusedVariables false
namespace Mine

section
variable {G : Glob} {B : Base} {A : Around} {σ : St} {Ψ : XPost}

theorem Rel.own? {K : PH} {ad : List Addr} {h : Heap} (R : Rel G B K ad σ h) {i : Nat} {w : OW} (e : σ.ow[i]? = some w) : ∃ a, ad[i]? = some a ∧ OwIs K ad h a w := by
  have hi : i < ad.length := by rw [R.ownl]; exact (List.getElem?_eq_some_iff.mp e).1
  exact ⟨ad[i], List.getElem?_eq_getElem hi, R.own i _ w (List.getElem?_eq_getElem hi) e⟩

/-- the state as a called def sees it: the first p of the own objects handed on -/
theorem Rel.pub {K : PH} {ad : List Addr} {h : Heap} (R : Rel G B K ad σ h) (p : Nat) (hw : ShutW p (σ.ow.take p)) : Pub G (B.fenv :: B.outer) K (ad.take p) (σ.ow.take p) h where
  base := R.base
  keep := R.keep
  noT := R.noT
  tabs := R.tabs
  ff := R.ff
  priv b hb := R.priv b (List.mem_cons_of_mem _ (List.mem_append_right _ (List.mem_of_mem_take hb)))
  live b hb := R.live b (List.mem_cons_of_mem _ (List.mem_append_right _ (List.mem_of_mem_take hb)))
  nodup := by
    have nd := R.nodup
    unfold privs at nd
    rw [List.nodup_cons, List.nodup_append] at nd
    exact nd.2.2.1.sublist (List.take_sublist _ _)
  ownl := by simp [R.ownl]
  own i a w e1 e2 := by
    have hi : i < p := by
      have := (List.getElem?_eq_some_iff.mp e1).1
      rw [List.length_take] at this; omega
    have e1' := e1
    have e2' := e2
    rw [List.getElem?_take_of_lt hi] at e1' e2'
    have z := R.own i a w e1' e2'
    cases w with
    | dead => trivial
    | obj o => exact z
    | lst xs =>
      obtain ⟨us, n, h1, h2⟩ := z
      exact ⟨us, n, h1, shut_list (fun x hx => hw _ (List.mem_of_getElem? e2) xs rfl x hx) h2⟩
  fk env he L hL := let ⟨f1, f2, f3, f4⟩ := R.frames env he L hL; ⟨f1, fun q => f2 (List.mem_of_mem_take q), f3, f4⟩

/-- the state behind a call that turned the first p of the own objects alone -/
theorem Rel.called {K K' : PH} {ad : List Addr} {h h' : Heap} {p : Nat} {ws' : List OW} (R : Rel G B K ad σ h) (hK : KLe K K') (P : Pub G (B.fenv :: B.outer) K' (ad.take p) ws' h') (st : Step G.T (ad.take p) h h')
    (new : ∀ b o, K' b = some o → K b = some o ∨ h.get? b = none) (hp : p ≤ ad.length) : Rel G B K' ad { σ with ow := ws' ++ σ.ow.drop p } h' := by
  have wl : ws'.length = p := by rw [← P.ownl, List.length_take]; omega
  have nd : ad.Nodup := by
    have nd := R.nodup
    unfold privs at nd
    rw [List.nodup_cons, List.nodup_append] at nd
    exact nd.2.2.1
  have hL : B.env.locals ∉ ad.take p := fun q => (R.ownNeL (List.mem_of_mem_take q)).1 rfl
  have pv : ∀ b ∈ privs B ad, K' b = none ∧ b ∉ G.T := fun b hb => by
    refine ⟨?_, (R.priv b hb).2⟩
    cases q : K' b with
    | none => rfl
    | some o =>
      rcases new b o q with e | e
      · rw [(R.priv b hb).1] at e; cases e
      · obtain ⟨o', e'⟩ := R.live b hb; rw [e] at e'; cases e'
  refine ⟨P.base, P.keep, P.noT, P.tabs, ?_, R.K0.trans hK, fun b o e => ?_, P.ff, pv, fun b hb => ?_, R.nodup, R.lnew, R.anew, R.cnew, ?_, fun x v e => ?_, ?_, fun i a w e1 e2 => ?_, R.pon, fun q hq => ?_, R.fok⟩
  · intro b o e hx ht
    obtain ⟨sl, e1, q1⟩ := R.step b o e hx ht
    by_cases hb : b ∈ ad.take p
    · exfalso
      rcases R.anew b (List.mem_of_mem_take hb) with q | q
      · exact hx q
      · rw [q] at e; cases e
    · obtain ⟨sl', e2, q2⟩ := st b _ e1 hb ht
      exact ⟨sl', e2, fun q => (q2 q).trans (q1 q)⟩
  · rcases new b o e with q | q
    · exact R.new b o q
    · cases hq : B.h₀.get? b with
      | none => exact .inr rfl
      | some o' =>
        exfalso
        by_cases hx : b ∈ B.po
        · obtain ⟨o'', e''⟩ := R.live b (List.mem_cons_of_mem _ (List.mem_append_right _ (R.pon _ hx)))
          rw [q] at e''; cases e''
        · by_cases ht : b ∈ G.T
          · obtain ⟨t, ht, e2⟩ := List.mem_map.mp ht
            obtain ⟨ps, e', _⟩ := R.tabs t ht
            rw [e2, q] at e'; cases e'
          · obtain ⟨o'', e'', _⟩ := R.step.some hq hx ht
            rw [q] at e''; cases e''
  · obtain ⟨o, e⟩ := R.live b hb
    by_cases hm : b ∈ ad.take p
    · exact P.live b hm
    · obtain ⟨o', e', _⟩ := st.some e hm (R.priv b hb).2; exact ⟨o', e'⟩
  · obtain ⟨m, hm, r⟩ := R.ns
    exact ⟨m, st.ns hm hL (R.priv _ (.head _)).2, fun x v e => let ⟨u, h1, h2⟩ := r x v e; ⟨u, h1, h2.mono hK (List.prefix_refl _)⟩⟩
  · obtain ⟨c, u, h1, ⟨oc, h2, h2'⟩, h3⟩ := R.cells x v e
    have hc := R.cellNeL h1
    exact ⟨c, u, h1, ⟨oc, st.get h2 (fun q => hc.2.1 (List.mem_of_mem_take q)) (R.priv c hc.2.2).2 (fun es n q => by rw [h2'] at q; cases q), h2'⟩, h3.mono hK (List.prefix_refl _)⟩
  · simp only [List.length_append, List.length_drop, wl]
    have := R.ownl
    omega
  · dsimp only at e2
    by_cases hi : i < p
    · rw [List.getElem?_append_left (by omega)] at e2
      have z := P.own i a w (by rw [List.getElem?_take_of_lt hi]; exact e1) e2
      cases w with
      | dead => trivial
      | obj o => exact z
      | lst xs => obtain ⟨us, n, g1, g2⟩ := z; exact ⟨us, n, g1, g2.mono (KLe.refl _) (List.take_prefix _ _)⟩
    · rw [List.getElem?_append_right (by omega), List.getElem?_drop, wl, show p + (i - p) = i from by omega] at e2
      have z := R.own i a w e1 e2
      have ha : a ∉ ad.take p := fun q => by
        obtain ⟨j, hj, e3⟩ := List.mem_iff_getElem.mp q
        rw [List.length_take] at hj
        rw [List.getElem_take] at e3
        obtain ⟨l1, g1⟩ := List.getElem?_eq_some_iff.mp e1
        have := (List.getElem_inj (h₀ := l1) (h₁ := by omega) nd).mp (g1.trans e3.symm)
        omega
      have hT : a ∉ G.T := (R.priv a (R.ownNeL (List.mem_of_getElem? e1)).2).2
      cases w with
      | dead => trivial
      | obj o => exact ⟨st.get z.1 ha hT z.2, z.2⟩
      | lst xs =>
        obtain ⟨us, n, g1, g2⟩ := z
        exact ⟨us, n, st.get g1 ha hT (fun es n q => by cases q), g2.mono hK (List.prefix_refl _)⟩
  · obtain ⟨h1, h2, h3⟩ := R.iob q hq
    obtain ⟨n1, n2, n3, _⟩ := R.ioNe hq
    exact ⟨st.get h1 (fun z => n2 (List.mem_of_mem_take z)) (R.priv _ n3).2 (fun es n z => by obtain ⟨vs, e⟩ := h2; rw [e] at z; cases z), h2, h3⟩

theorem shutW_nil : ShutW 0 [] := fun _ h => nomatch h

theorem Shut.none {p : Nat} : Shut p .none := fun _ _ _ h => by simpa [V] using h
theorem Shut.bool {p : Nat} {b : Bool} : Shut p (.bool b) := fun _ _ _ h => by simpa [V] using h
theorem Shut.int {p : Nat} {b : Int} : Shut p (.int b) := fun _ _ _ h => by simpa [V] using h
theorem Shut.str {p : Nat} {b : Str} : Shut p (.str b) := fun _ _ _ h => by simpa [V] using h
theorem Shut.raw {p : Nat} {b : Value} : Shut p (.raw b) := fun _ _ _ h => by simpa [V] using h
theorem Shut.mat {p : Nat} {x : Str} {sp : List Int} : Shut p (.mat x sp) := fun _ _ _ h => by simp only [V] at h ⊢; exact h
theorem Shut.own {p i : Nat} (hi : i < p) : Shut p (.own i) := fun _ ad _ h => by
  simp only [V] at h ⊢
  obtain ⟨a, e, k⟩ := h
  exact ⟨a, e, by rw [List.getElem?_take_of_lt hi]; exact k⟩
theorem Shut.tup {p : Nat} {xs : List AV} (hx : ∀ x ∈ xs, Shut p x) : Shut p (.tup xs) := fun _ _ _ h => by
  simp only [V] at h ⊢
  obtain ⟨a, us, e, k, r⟩ := h
  exact ⟨a, us, e, k, shut_list hx r⟩
theorem Shut.lst {p : Nat} {xs : List AV} (hx : ∀ x ∈ xs, Shut p x) : Shut p (.lst xs) := fun _ _ _ h => by
  simp only [V] at h ⊢
  obtain ⟨a, us, n, e, k, r⟩ := h
  exact ⟨a, us, n, e, k, shut_list hx r⟩
theorem Shut.nil {p : Nat} : ∀ x ∈ ([] : List AV), Shut p x := fun _ h => nomatch h
theorem Shut.cons {p : Nat} {x : AV} {xs : List AV} (h : Shut p x) (h' : ∀ x ∈ xs, Shut p x) : ∀ y ∈ x :: xs, Shut p y := fun y hy => by
  rcases List.mem_cons.mp hy with e | e
  · exact e ▸ h
  · exact h' y e

/-- a def of the text is called by its name, the first p of the own objects handed on -/
theorem Ev.call {Φ : AV → St → Prop} {n p : Nat} {f : Str} {fp pos : Pos} {e₀ : Expr} {es : List Expr} {a : Addr} (GO : G.Ok) (hE : EnvOk B.env) (hA : AOk n A (B.fenv :: B.outer)) (hl : B.env.kindOf f = some .globalImplicit) (hv : G.mg f = some (.ref a)) (hfn : ∃ o fd, G.H.get? a = some o ∧ o.data = .func fd)
    (h : Evs G B A σ pos (e₀ :: es) (fun xs σ₁ => p ≤ σ₁.ow.length ∧ ShutW p (σ₁.ow.take p) ∧ (∀ x ∈ xs, Shut p x) ∧ Fun G n a xs (σ₁.ow.take p) (fun r ws => Φ r { σ₁ with ow := ws ++ σ₁.ow.drop p })) Ψ)
    (hs : starEach (e₀ :: es) B.env = (false, eval e₀ B.env) :: starEach es B.env := by rfl)
    (hd : (f == ("__debug__" : Str)) = false := by decide) : Ev G B A σ (.Call (.Name f fp) (e₀ :: es) [] pos) Φ Ψ := fun K ad s hR Q E q ex => by
  show wpAny _ A (do callWith pos (← eval (.Name f fp) B.env) [] (backTo pos (starEach (e₀ :: es) B.env)) []) Q E s
  refine wpAny_bind ?_
  refine Name_function_global hE.kind hl (loadGlobal_global (by rw [hE.glob]; exact GO.g.keeps hR.H) hv ?_) hd
  obtain ⟨o, fd, ho, hd'⟩ := hfn
  refine callWith_function (o := o) (fd := fd) ?_
  have := h K ad s hR (fun us s₁ => (s₁.heap.get? a = some o ∧ o.data = .func fd) ∧ wpAny (model G.prog G.w) A (PySem.call (.ref a) us []) Q E s₁) E (fun us s₁ K₁ ad₁ xs σ₁ g1 g2 g3 g4 g5 g6 => ?_) ex
  · rw [hs] at this ⊢
    exact evalArgs_plain (wpAny_mono this (fun us s₁ z => z) fun _ _ z => z)
  · refine ⟨⟨g3.H _ _ ho, hd'⟩, ?_⟩
    obtain ⟨hp, k1, k2, k3⟩ := g6
    refine k3 A _ K₁ (ad₁.take p) s₁ us hA (g3.pub p k1) (shut_list k2 g4) Q E (fun u s' K' r ws' f1 f2 f3 f4 f5 f6 f7 => ?_)
    exact q u s' K' ad₁ r _ (g1.trans f1) g2 (g3.called f1 f2 f3 f4 (by rw [g3.ownl]; exact hp)) (f5.mono (KLe.refl _) (List.take_prefix _ _)) (g5.trans f6) f7

/-- v's type, as the method look-up asks it -/
def HasT (G : Glob) (B : Base) (σ : St) (v : AV) (T : String) : Prop :=
  ∀ (K : PH) (ad : List Addr) (s : Shared) (u : Value), Rel G B K ad σ s.heap → V K ad v u → s.TypeIs u T ∧ ∀ a, u = .ref a → ∃ ob, s.heap.get? a = some ob ∧ ob.dict = Option.none

theorem HasT.str {x : Str} : HasT G B σ (.str x) "str" := fun K ad s u R hv => by
  simp only [V] at hv; obtain ⟨t, rfl⟩ := hv
  exact ⟨typeIs_str _ _ _, fun _ e => nomatch e⟩
theorem HasT.own {i : Nat} {xs : List AV} (h : σ.ow[i]? = some (.lst xs)) : HasT G B σ (.own i) "list" := fun K ad s u R hv => by
  simp only [V] at hv; obtain ⟨a, rfl, k⟩ := hv
  obtain ⟨us, n, h1, _⟩ := R.own i a _ k h
  exact ⟨⟨_, h1, rfl⟩, fun _ e => by cases e; exact ⟨_, h1, rfl⟩⟩
theorem HasT.mat {x : Str} {sp : List Int} : HasT G B σ (.mat x sp) "re.Match" := fun K ad s u R hv => by
  simp only [V] at hv; obtain ⟨a, b, t, pat, p, q, li, rfl, k, _⟩ := hv
  exact ⟨⟨_, R.keep _ _ k, rfl⟩, fun _ e => by cases e; exact ⟨_, R.keep _ _ k, rfl⟩⟩

/-- a method of a built-in type is called -/
theorem Ev.meth {Φ : AV → St → Prop} {o : Expr} {name : Str} {apos pos : Pos} {args : List Expr}
    (h : Ev G B A σ o (fun ov σ₁ => ∃ T id, PlainAttrs T ∧ Slot T name id ∧ typeOf (.builtin id) = pure (.type "method_descriptor") ∧ HasT G B σ₁ ov T ∧
      Evs G B A σ₁ pos args (fun xs σ₂ => Op G B A σ₂ (ov :: xs) (fun us => PySem.call (.builtin id) us) V Φ Ψ) Ψ) Ψ)
    (hbase : attributeBase o name B.env (eval o B.env) = eval o B.env := by rfl)
    (hfew : ((backTo pos (starEach args B.env)).all (fun x => !x.1) && (backToKw pos (keywordEach [] B.env)).all (fun x => x.1.isSome)
      && decide (args.length + ([] : List Keyword).length + (if ([] : List Keyword).isEmpty then 0 else 1) < 30)) = true := by rfl)
    (hline : (apos.endLine == pos.line) = true := by rfl) : Ev G B A σ (.Call (.Attribute o name apos) args [] pos) Φ Ψ := fun K ad s hR Q E q ex => by
  have hst : ∀ x ∈ backTo pos (starEach args B.env), x.1 = false := fun x hx => by
    have hf := hfew
    rw [Bool.and_eq_true, Bool.and_eq_true, List.all_eq_true] at hf
    simpa using hf.1.1 x hx
  refine wpAny_Call_method_lateS hbase hfew hline (h K ad s hR _ _ (fun u s₁ K₁ ad₁ ov σ₁ g1 g2 g3 g4 g5 g6 => ?_) ex)
  obtain ⟨T, id, pa, slot, hty, hT, hargs⟩ := g6
  obtain ⟨t1, t2⟩ := hT K₁ ad₁ s₁ u g3 g4
  refine ⟨T, id, pa, slot, hty, t1, t2, ?_⟩
  have hany : (backTo pos (starEach args B.env)).any (·.1) = false := List.any_eq_false.mpr fun x hx => by rw [hst x hx]; exact Bool.false_ne_true
  refine callWith_builtin hany ?_
  have main := hargs K₁ ad₁ s₁ g3 (fun us s₂ => wpAny (model G.prog G.w) A (PySem.call (.builtin id) (u :: us) []) Q E s₂) E (fun us s₂ K₂ ad₂ xs σ₂ f1 f2 f3 f4 f5 f6 => f6 K₂ ad₂ s₂ (u :: us) f3 (Vs.cons (g4.mono f1 f2) f4) Q E (QC.after q (g1.trans f1) (g2.trans f2) (g5.trans f5)) (EC.after ex (g1.trans f1) (g2.trans f2) (g5.trans f5))) (EC.after ex g1 g2 g5)
  cases hb : backTo pos (starEach args B.env) with
  | nil =>
    rw [hb] at main
    exact PySem.evalArgs_none (by
      have z : wpAny (model G.prog G.w) A (spliced []) (fun us s₂ => wpAny (model G.prog G.w) A (PySem.call (.builtin id) (u :: us) []) Q E s₂) E s₁ := main
      have z' : wpAny (model G.prog G.w) A (pure []) (fun us s₂ => wpAny (model G.prog G.w) A (PySem.call (.builtin id) (u :: us) []) Q E s₂) E s₁ := z
      intro Γ p hΓ
      exact z' Γ p hΓ Γ p hΓ)
  | cons x r =>
    obtain ⟨b, t⟩ := x
    have hbf : b = false := hst (b, t) (by rw [hb]; exact .head _)
    subst hbf
    rw [hb] at main
    exact evalArgs_plain (wpAny_mono main (fun us s₂ z => z) fun _ _ z => z)
end
end Mine
end

section
open PySem PySem.W PyProof.Rows PySem.Calls
set_option autoImplicit false
set_option linter.unusedVariables false
namespace Mine

def Base.withIo (B : Base) (io : List (Addr × Obj)) : Base := { B with io := io }

section
variable {G : Glob} {B : Base} {A : Around} {σ : St} {Ψ : XPost}

theorem Ex1.expr {Φ : AF → St → Prop} {e : Expr} {pos : Pos} (h : Ev G B A σ e (fun v σ₁ => v = .none ∧ Φ .next σ₁) Ψ)
    (hi : interactive B.env = false := by rfl) (hs : swapsWith e none pos.line B.env = pure false := by rfl) : Ex1 G B A σ (.Expr e pos) Φ Ψ := fun K ad s hR Q E q ex =>
  wpAny_Expr (h K ad s hR _ _ (fun u s₁ K₁ ad₁ v σ₁ g1 g2 g3 g4 g5 g6 => by
    obtain ⟨rfl, k⟩ := g6
    simp only [V] at g4; subst g4
    exact q _ s₁ K₁ ad₁ .next σ₁ g1 g2 g3 rfl g5 k) ex) hi hs

/-- a target takes a value -/
abbrev Asg (G : Glob) (B : Base) (A : Around) (σ : St) (t : Expr) (v : AV) (Φ : St → Prop) (Ψ : XPost) : Prop :=
  Op1 G B A σ (assign t B.env) v (fun _ _ (_ : Unit) (_ : Unit) => True) (fun _ σ₁ => Φ σ₁) Ψ
theorem Asg.name {Φ : St → Prop} {x : Str} {pos : Pos} {v : AV} (hE : EnvOk B.env) (hl : B.env.kindOf x = some .local) (h : Φ { σ with lo := setL σ.lo x v }) : Asg G B A σ (.Name x pos) v Φ Ψ := fun K ad s u hR hv Q E q ex =>
  wpAny_assign_Name (st_loc hE hl hR hv fun h' R' => q () { s with heap := h', toks := s.toks + 1 } K ad () _ (KLe.refl _) (List.prefix_refl _) R' trivial ⟨rfl, rfl, rfl⟩ h)

/-- a new iterator -/
theorem Rel.newIo {K : PH} {ad : List Addr} {h : Heap} (R : Rel G B K ad σ h) {o : Obj} (hf : o.isFreed = false) (hd : ∃ vs, o.data = .fields vs) : Rel G (B.withIo ((h.objs.size, o) :: B.io)) K ad σ (h.push o) := by
  have P := R.push o
  have nd := R.nodup
  have pl := R.privLt
  refine ⟨P.base, P.keep, P.noT, P.tabs, P.step, P.K0, P.new, P.ff, fun b hb => ?_, fun b hb => ?_, ?_, P.lnew, P.anew, P.cnew, P.ns, P.cells, P.ownl, P.own, P.pon, fun q hq => ?_, R.fok⟩
  · by_cases e : b = h.objs.size
    · subst e; exact ⟨R.fresh, R.notT⟩
    · refine R.priv b ?_
      simp only [privs, Base.withIo, List.map_cons, List.mem_cons, List.mem_append] at hb ⊢
      rcases hb with q | ((q | q | q) | q)
      · exact .inl q
      · exact .inr (.inl (.inl q))
      · exact absurd q e
      · exact .inr (.inl (.inr q))
      · exact .inr (.inr q)
  · by_cases e : b = h.objs.size
    · subst e; exact ⟨_, Heap.get?_push_size _ hf⟩
    · refine P.live b ?_
      simp only [privs, Base.withIo, List.map_cons, List.mem_cons, List.mem_append] at hb ⊢
      rcases hb with q | ((q | q | q) | q)
      · exact .inl q
      · exact .inr (.inl (.inl q))
      · exact absurd q e
      · exact .inr (.inl (.inr q))
      · exact .inr (.inr q)
  · have hp : (privs (B.withIo ((h.objs.size, o) :: B.io)) ad).Perm (h.objs.size :: privs B ad) := by
      simp only [privs, Base.withIo, List.map_cons]
      refine List.Perm.trans ?_ (List.Perm.swap _ _ _)
      refine List.Perm.cons _ ?_
      rw [List.append_assoc, List.append_assoc]
      exact List.perm_middle
    exact hp.nodup_iff.mpr (List.nodup_cons.mpr ⟨pl, nd⟩)
  · rcases List.mem_cons.mp hq with e | e
    · subst e; exact ⟨Heap.get?_push_size _ hf, hd, R.h0fresh⟩
    · exact P.iob q e

/-- an iterator goes; the heap is turned at it alone -/
theorem Rel.dropIo {K : PH} {ad : List Addr} {h h' : Heap} {it : Addr} {o : Obj} (R : Rel G (B.withIo ((it, o) :: B.io)) K ad σ h) (hs : Heap.ExtBut it h h') : Rel G B K ad σ h' := by
  have hm : (it, o) ∈ (B.withIo ((it, o) :: B.io)).io := .head _
  obtain ⟨n1, n2, n3, n4⟩ := R.ioNe hm
  have hp : (privs (B.withIo ((it, o) :: B.io)) ad).Perm (it :: privs B ad) := by
    simp only [privs, Base.withIo, List.map_cons]
    refine List.Perm.trans ?_ (List.Perm.swap _ _ _)
    refine List.Perm.cons _ ?_
    rw [List.append_assoc, List.append_assoc]
    exact List.perm_middle
  have nd := hp.nodup_iff.mp R.nodup
  rw [List.nodup_cons] at nd
  have sub : ∀ b ∈ privs B ad, b ∈ privs (B.withIo ((it, o) :: B.io)) ad := fun b hb => hp.mem_iff.mpr (.tail _ hb)
  have ne : ∀ b ∈ privs B ad, b ≠ it := fun b hb e => nd.1 (e ▸ hb)
  obtain ⟨ho, hd, h0n⟩ := R.iob _ hm
  refine ⟨R.base, fun b o' e => hs b o' (fun q => R.privNe e (q ▸ n3)) (R.keep b o' e), R.noT, fun t ht => ?_, R.step.at hs (.inr h0n), R.K0, R.new, ?_, fun b hb => R.priv b (sub b hb), fun b hb => ?_, nd.2, R.lnew, R.anew, R.cnew, ?_, fun x v e => ?_, R.ownl, fun i a w e1 e2 => ?_, R.pon, fun q hq => ?_, R.fok⟩
  · obtain ⟨ps, e, r⟩ := R.tabs t ht
    exact ⟨ps, hs _ _ (fun q => (R.priv it n3).2 (by rw [← q]; exact List.mem_map_of_mem ht)) e, r⟩
  · refine ff_turn (fun b o' e hnf => ?_) R.ff
    have : b ≠ it := fun q => by
      subst q
      rw [ho] at e; cases e
      obtain ⟨vs, hv⟩ := hd
      exact hnf vs hv
    exact ⟨o', hs _ _ this e, hnf⟩
  · obtain ⟨o', e⟩ := R.live b (sub b hb); exact ⟨o', hs _ _ (ne b hb) e⟩
  · obtain ⟨m, hm', r⟩ := R.ns
    exact ⟨m, hm'.extBut hs (Ne.symm n1), r⟩
  · obtain ⟨c, u, h1, ⟨oc, h2, h2'⟩, h3⟩ := R.cells x v e
    exact ⟨c, u, h1, ⟨oc, hs _ _ (n4 x c h1) h2, h2'⟩, h3⟩
  · exact (R.own i a w e1 e2).mono (KLe.refl _) (List.prefix_refl _) fun o' e => hs _ _ (fun q => n2 (q ▸ List.mem_of_getElem? e1)) e
  · have hq' : q ∈ (B.withIo ((it, o) :: B.io)).io := .tail _ hq
    obtain ⟨h1, h2, h3⟩ := R.iob q hq'
    refine ⟨hs _ _ (fun z => nd.1 ?_) h1, h2, h3⟩
    rw [← z]
    exact List.mem_cons_of_mem _ (List.mem_append_left _ (List.mem_append_right _ (List.mem_map_of_mem hq)))

/-- an iterator goes on -/
theorem Rel.setIo {K : PH} {ad : List Addr} {h h' : Heap} {it : Addr} {o o' : Obj} (R : Rel G (B.withIo ((it, o) :: B.io)) K ad σ h) (hs : Heap.SameBut it h h') (ho' : h'.get? it = some o') (hd' : ∃ vs, o'.data = .fields vs) : Rel G (B.withIo ((it, o') :: B.io)) K ad σ h' := by
  have P := R.dropIo hs.extBut
  obtain ⟨_, _, h0n⟩ := R.iob _ (List.Mem.head _)
  refine ⟨P.base, P.keep, P.noT, P.tabs, P.step, P.K0, P.new, P.ff, R.priv, fun b hb => ?_, R.nodup, P.lnew, P.anew, P.cnew, P.ns, P.cells, P.ownl, P.own, P.pon, fun q hq => ?_, R.fok⟩
  · by_cases e : b = it
    · subst e; exact ⟨_, ho'⟩
    · obtain ⟨o₁, e₁⟩ := R.live b hb; exact ⟨o₁, (hs.2 b e).trans e₁⟩
  · rcases List.mem_cons.mp hq with e | e
    · subst e; exact ⟨ho', hd', h0n⟩
    · exact P.iob q e

/-- how an iterator hands out xs: P i tells its object once i are handed out -/
structure Iter (G : Glob) (A : Around) (K : PH) (ad : List Addr) (P : Nat → Obj → Prop) (xs : List AV) : Prop where
  fl : ∀ i o, P i o → ∃ vs, o.data = .fields vs
  li : ∀ i o, P i o → ∃ n, o.cls = .type n ∧ (["enumerate", "zip", "dict_itemiterator", "dict_reverseitemiterator", "odict_iterator", "itertools.zip_longest", "itertools.pairwise"].contains n) = false
  item : ∀ (i : Nat) (x : AV), xs[i]? = some x → ∀ (s : Shared) (it : Addr) (o : Obj) (Q : Option Value → Shared → Prop) (E : Value → Shared → Prop), (∀ b o, K b = some o → s.heap.get? b = some o) → K it = none → s.heap.get? it = some o → P i o →
    (∀ u h' tk o', V K ad x u → h'.get? it = some o' → P (i + 1) o' → Heap.SameBut it s.heap h' → Q (some u) { s with heap := h', toks := tk }) → wpAny (model G.prog G.w) A (pyNext (.ref it)) Q E s
  fin : ∀ (i : Nat), xs.length = i → ∀ (s : Shared) (it : Addr) (o : Obj) (Q : Option Value → Shared → Prop) (E : Value → Shared → Prop), (∀ b o, K b = some o → s.heap.get? b = some o) → K it = none → s.heap.get? it = some o → P i o →
    (∀ h', Heap.ExtBut it s.heap h' → Q Option.none { s with heap := h' }) → wpAny (model G.prog G.w) A (pyNext (.ref it)) Q E s
  self : ∀ (i : Nat) (s : Shared) (it : Addr) (o : Obj) (Q : Value → Shared → Prop) (E : Value → Shared → Prop), s.heap.get? it = some o → P i o → Q (.ref it) s → wpAny (model G.prog G.w) A (pyIter (.ref it)) Q E s

theorem Iter.mono {K K' : PH} {ad ad' : List Addr} {P : Nat → Obj → Prop} {xs : List AV} (I : Iter G A K ad P xs) (hK : KLe K K') (ha : ad <+: ad') : Iter G A K' ad' P xs := by
  have kn : ∀ it, K' it = none → K it = none := fun it e => by
    cases q : K it with
    | none => rfl
    | some o => rw [hK _ _ q] at e; cases e
  exact ⟨I.fl, I.li, fun i x e s it o Q E k hn ho hp q => I.item i x e s it o Q E (fun b o e => k b o (hK b o e)) (kn it hn) ho hp fun u h' tk o' hv => q u h' tk o' (hv.mono hK ha), fun i e s it o Q E k hn ho hp q => I.fin i e s it o Q E (fun b o e => k b o (hK b o e)) (kn it hn) ho hp q, I.self⟩

theorem go_iter {t : Expr} {it : Addr} {o : Obj} {n : String} {vs : Array Value} {v : Value} {s : Shared} {Q : Unit → Shared → Prop} {E : Value → Shared → Prop} (ho : s.heap.get? it = some o) (hc : o.cls = .type n) (hd : o.data = .fields vs)
    (hn : (["enumerate", "zip", "dict_itemiterator", "dict_reverseitemiterator", "odict_iterator", "itertools.zip_longest", "itertools.pairwise"].contains n) = false) (q : Q () s) : wpAny (model G.prog G.w) A (letOwnedTupleGo t (.ref it) v) Q E s := by
  unfold letOwnedTupleGo
  split
  · split
    · rename_i r a e
      cases e
      refine wpAny_bind (wpAny_load ho ?_)
      rw [hc, hd]
      dsimp only
      rw [hn, Bool.false_and, if_neg Bool.false_ne_true]
      exact wpAny_pure q
    · exact wpAny_pure q
  · split
    · rename_i r a e
      cases e
      refine wpAny_bind (wpAny_load ho ?_)
      rw [hc, hd]
      dsimp only
      rw [hn, Bool.false_and, if_neg Bool.false_ne_true]
      exact wpAny_pure q
    · exact wpAny_pure q
  · exact wpAny_pure q

/-- the turns of a for -/
def ForL (G : Glob) (B : Base) (A : Around) (t : Expr) (body : List Stmt) (Φ : AF → St → Prop) : List AV → St → Prop
  | [], σ => Φ .next σ
  | x :: xs, σ => ∀ io, Asg G (B.withIo io) A σ t x (fun σ₁ => Ex G (B.withIo io) A σ₁ body (loopK (ForL G B A t body Φ xs) Φ) noX) noX

theorem ec_noX {K : PH} {ad : List Addr} {s : Shared} {E : Value → Shared → Prop} : EC G B K ad s noX E := fun _ _ _ _ _ _ _ _ _ _ _ x => x.elim

theorem for_loop {t : Expr} {body : List Stmt} {Φ : AF → St → Prop} {K₀ : PH} {ad₀ : List Addr} {s₀ : Shared} {R : Result → Shared → Prop} {it : Addr} {P : Nat → Obj → Prop} {o₀ : Obj} {xs : List AV}
    (hR : Rel G (B.withIo ((it, o₀) :: B.io)) K₀ ad₀ σ s₀.heap) (h0 : P 0 o₀) (I : Iter G A K₀ ad₀ P xs) (hf : ForL G B A t body Φ xs σ)
    (q : ∀ fl s' K' ad' f σ', KLe K₀ K' → ad₀ <+: ad' → Rel G B K' ad' σ' s'.heap → FlowIs K' ad' f fl → SameRest s₀ s' → Φ f σ' → R (.ok fl) s') :
    codeAny (model G.prog G.w) A (.forLoop t (.ref it) body [] B.env) R s₀ := by
  refine codeAny_forLoop_any (fun m s => ∃ K ad σ' i o, m + i = xs.length ∧ P i o ∧ KLe K₀ K ∧ ad₀ <+: ad ∧ Rel G (B.withIo ((it, o) :: B.io)) K ad σ' s.heap ∧ SameRest s₀ s ∧ ForL G B A t body Φ (xs.drop i) σ') ?_ xs.length
    ⟨K₀, ad₀, σ, 0, o₀, by simp, h0, KLe.refl _, List.prefix_refl _, hR, SameRest.refl _, by simpa using hf⟩
  rintro m s ⟨K, ad, σ', i, o, hm, hP, hK, had, hR', hs, hF⟩
  have I' := I.mono hK had
  obtain ⟨hit, hfl, _⟩ := hR'.iob _ (List.Mem.head _)
  have hKn := (hR'.priv _ (hR'.ioNe (List.Mem.head _)).2.2.1).1
  cases hx : xs[i]? with
  | none =>
    have hi : xs.length ≤ i := List.getElem?_eq_none_iff.mp hx
    rw [List.drop_eq_nil_of_le hi] at hF
    refine I'.fin i (by omega) s it o _ _ hR'.keep hKn hit hP fun h' hx' => ?_
    exact wpAny_execs_nil (q .next { s with heap := h' } K ad .next σ' hK had (hR'.dropIo hx') rfl (hs.trans ⟨rfl, rfl, rfl⟩) hF)
  | some x =>
    have hi : i < xs.length := (List.getElem?_eq_some_iff.mp hx).1
    have hdr : xs.drop i = x :: xs.drop (i + 1) := by
      rw [List.drop_eq_getElem_cons hi]
      congr 1
      exact (List.getElem?_eq_some_iff.mp hx).2
    rw [hdr] at hF
    refine I'.item i x hx s it o _ _ hR'.keep hKn hit hP fun u h' tk o' hv ho' hP' hsb => ?_
    obtain ⟨n, hc, hn⟩ := I.li (i + 1) o' hP'
    obtain ⟨vs, hd⟩ := I.fl (i + 1) o' hP'
    have hR₁ : Rel G (B.withIo ((it, o') :: B.io)) K ad σ' h' := hR'.setIo hsb ho' ⟨vs, hd⟩
    refine go_iter (s := { s with heap := h', toks := tk }) ho' hc hd hn ?_
    refine hF ((it, o') :: B.io) K ad { s with heap := h', toks := tk } u hR₁ hv _ _ (fun _ s₂ K₂ ad₂ _ σ₂ g1 g2 g3 _ g5 g6 => ?_) ec_noX
    refine g6 K₂ ad₂ s₂ g3 _ _ (fun fl s₃ K₃ ad₃ f σ₃ f1 f2 f3 f4 f5 f6 => ?_) ec_noX
    have e1 := hK.trans (g1.trans f1)
    have e2 := had.trans (g2.trans f2)
    have e3 : SameRest s₀ s₃ := hs.trans (SameRest.trans ⟨rfl, rfl, rfl⟩ (g5.trans f5))
    have hob : Rel G B K₃ ad₃ σ₃ s₃.heap := f3.dropIo (Heap.ExtBut.refl _ _)
    cases f with
    | next =>
      simp only [FlowIs] at f4; subst f4
      exact ⟨m - 1, by omega, K₃, ad₃, σ₃, i + 1, o', by omega, hP', e1, e2, f3, e3, f6⟩
    | cont =>
      simp only [FlowIs] at f4; subst f4
      exact ⟨m - 1, by omega, K₃, ad₃, σ₃, i + 1, o', by omega, hP', e1, e2, f3, e3, f6⟩
    | brk =>
      simp only [FlowIs] at f4; subst f4
      exact q .next s₃ K₃ ad₃ .next σ₃ e1 e2 hob rfl e3 f6
    | ret v =>
      have z := f4
      simp only [FlowIs] at f4; obtain ⟨w, rfl, _⟩ := f4
      exact q _ s₃ K₃ ad₃ (.ret v) σ₃ e1 e2 hob z e3 f6

/-- v, walked over, hands out xs -/
def Iterable (G : Glob) (B : Base) (A : Around) (σ : St) (v : AV) (xs : List AV) : Prop :=
  ∀ (K : PH) (ad : List Addr) (s : Shared) (u : Value), Rel G B K ad σ s.heap → V K ad v u → ∀ (Q : Value → Shared → Prop) (E : Value → Shared → Prop),
    (∀ P o, Iter G A K ad P xs → P 0 o → o.isFreed = false → Q (.ref s.heap.objs.size) { s with heap := s.heap.push o }) → wpAny (model G.prog G.w) A (pyIter u) Q E s

theorem Ex1.for {Φ : AF → St → Prop} {t iter : Expr} {body : List Stmt} {pos : Pos} (h : Ev G B A σ iter (fun v σ₁ => ∃ xs, Iterable G B A σ₁ v xs ∧ ForL G B A t body Φ xs σ₁) Ψ)
    (hs : ∀ x, foldedSetIterable iter B.env x = pure x := by intro _; rfl) : Ex1 G B A σ (.For t iter body [] pos) Φ Ψ := fun K ad s hR Q E q ex => by
  refine wpAny_For (h K ad s hR _ _ (fun u s₁ K₁ ad₁ v σ₁ g1 g2 g3 g4 g5 g6 => ?_) ex) hs
  obtain ⟨xs, hi, hf⟩ := g6
  refine hi K₁ ad₁ s₁ u g3 g4 _ _ fun P o I hP hfr => ?_
  refine for_loop (s₀ := { s₁ with heap := s₁.heap.push o }) (g3.newIo hfr (I.fl 0 o hP)) hP I hf fun fl s' K' ad' f σ' f1 f2 f3 f4 f5 f6 => ?_
  exact q fl s' K' ad' f σ' (g1.trans f1) (g2.trans f2) f3 f4 (g5.trans (SameRest.trans ⟨rfl, rfl, rfl⟩ f5)) f6

theorem Ex1.while {Φ : AF → St → Prop} {t : Expr} {body : List Stmt} {pos : Pos} (I : Nat → St → Prop) (n : Nat) (h₀ : I n σ)
    (turn : ∀ n σ, I n σ → Tr G B A σ t (fun b σ₁ => if b then Ex G B A σ₁ body (loopK (fun σ₂ => ∃ m, m < n ∧ I m σ₂) Φ) noX else Φ .next σ₁) noX) : Ex1 G B A σ (.While t body [] pos) Φ Ψ := fun K ad s hR Q E q ex => by
  refine wpAny_While (codeAny_whileLoop (fun m s' => ∃ K' ad' σ', KLe K K' ∧ ad <+: ad' ∧ Rel G B K' ad' σ' s'.heap ∧ SameRest s s' ∧ I m σ') ?_ n ⟨K, ad, σ, KLe.refl _, List.prefix_refl _, hR, SameRest.refl _, h₀⟩)
  rintro m s₁ ⟨K₁, ad₁, σ₁, hK, had, hR₁, hs, hI⟩
  refine turn m σ₁ hI K₁ ad₁ s₁ hR₁ _ _ (fun b s₂ K₂ ad₂ c σ₂ g1 g2 g3 g4 g5 g6 => ?_) ec_noX
  cases g4
  cases b with
  | false =>
    rw [if_neg Bool.false_ne_true] at g6 ⊢
    exact wpAny_execs_nil (q _ s₂ K₂ ad₂ .next σ₂ (hK.trans g1) (had.trans g2) g3 rfl (hs.trans g5) g6)
  | true =>
    rw [if_pos rfl] at g6 ⊢
    refine g6 K₂ ad₂ s₂ g3 _ _ (fun fl s₃ K₃ ad₃ f σ₃ f1 f2 f3 f4 f5 f6 => ?_) ec_noX
    have e1 := hK.trans (g1.trans f1)
    have e2 := had.trans (g2.trans f2)
    have e3 := hs.trans (g5.trans f5)
    cases f with
    | next =>
      simp only [FlowIs] at f4; subst f4
      obtain ⟨m', hm', hI'⟩ := f6
      exact ⟨m', hm', K₃, ad₃, σ₃, e1, e2, f3, e3, hI'⟩
    | cont =>
      simp only [FlowIs] at f4; subst f4
      obtain ⟨m', hm', hI'⟩ := f6
      exact ⟨m', hm', K₃, ad₃, σ₃, e1, e2, f3, e3, hI'⟩
    | brk =>
      simp only [FlowIs] at f4; subst f4
      exact q .next s₃ K₃ ad₃ .next σ₃ e1 e2 f3 rfl e3 f6
    | ret v =>
      have z := f4
      simp only [FlowIs] at f4; obtain ⟨w, rfl, _⟩ := f4
      exact q _ s₃ K₃ ad₃ (.ret v) σ₃ e1 e2 f3 z e3 f6
end
end Mine
end

section
open PySem PySem.W PyProof.Rows PySem.Calls
set_option autoImplicit false
set_option linter.unusedVariables false
namespace Mine

section
variable {G : Glob} {B : Base} {A : Around} {σ : St} {Ψ : XPost}

theorem Iterable.lst {xs : List AV} (hh : A.handled = none) : Iterable G B A σ (.lst xs) xs := fun K ad s u hR hv Q E q => by
  simp only [V] at hv
  obtain ⟨l, us, n, rfl, hl, hx⟩ := hv
  have il : ∀ h : Heap, (∀ b o, K b = some o → h.get? b = some o) → h.IsList l us.toArray := fun h k => ⟨_, k _ _ hl, rfl, n, rfl⟩
  refine wpAny_pyIter_list (il _ hR.keep) (q (fun i o => o.cls = .type "list_iterator" ∧ o.data = .fields #[.ref l, .int i 0]) _ ⟨fun i o h => ⟨_, h.2⟩, fun i o h => ⟨_, h.1, by decide⟩, fun i x e s it o Q E k hn ho hp q => ?_, fun i e s it o Q E k hn ho hp q => ?_, fun i s it o Q E ho hp q => wpAny_pyIter_listiter ⟨o, ho, hp⟩ q⟩ ⟨rfl, rfl⟩ rfl)
  · obtain ⟨w, hw, hvw⟩ := hx.get e
    refine wpAny_pyNext_list_item ⟨o, ho, hp⟩ (il _ k) (by simpa using hw) fun h' hi hs => ?_
    obtain ⟨o', ho', hp'⟩ := hi
    exact q w h' s.toks o' hvw ho' hp' hs
  · exact wpAny_pyNext_list_end hh ⟨o, ho, hp⟩ (il _ k) (by rw [List.getElem?_toArray]; exact List.getElem?_eq_none_iff.mpr (by rw [hx.length]; omega)) q
theorem Iterable.tup {xs : List AV} (hh : A.handled = none) : Iterable G B A σ (.tup xs) xs := fun K ad s u hR hv Q E q => by
  simp only [V] at hv
  obtain ⟨l, us, rfl, hl, hx⟩ := hv
  have il : ∀ h : Heap, (∀ b o, K b = some o → h.get? b = some o) → h.IsTuple l us.toArray := fun h k => ⟨_, k _ _ hl, rfl, 0, rfl⟩
  refine wpAny_pyIter_tuple (il _ hR.keep) (q (fun i o => o.cls = .type "tuple_iterator" ∧ o.data = .fields #[.ref l, .int i 0]) _ ⟨fun i o h => ⟨_, h.2⟩, fun i o h => ⟨_, h.1, by decide⟩, fun i x e s it o Q E k hn ho hp q => ?_, fun i e s it o Q E k hn ho hp q => ?_, fun i s it o Q E ho hp q => wpAny_pyIter_tupleiter ⟨o, ho, hp⟩ q⟩ ⟨rfl, rfl⟩ rfl)
  · obtain ⟨w, hw, hvw⟩ := hx.get e
    refine wpAny_pyNext_tuple_item ⟨o, ho, hp⟩ (il _ k) (by simpa using hw) fun h' hi hs => ?_
    obtain ⟨o', ho', hp'⟩ := hi
    exact q w h' s.toks o' hvw ho' hp' hs
  · exact wpAny_pyNext_tuple_end hh ⟨o, ho, hp⟩ (il _ k) (by rw [List.getElem?_toArray]; exact List.getElem?_eq_none_iff.mpr (by rw [hx.length]; omega)) q
theorem Iterable.str {x : Str} (hh : A.handled = none) (ha : x.cps.all (· < 128) = true) : Iterable G B A σ (.str x) (x.cps.toList.map fun c => .str ⟨#[c]⟩) := fun K ad s u hR hv Q E q => by
  simp only [V] at hv
  obtain ⟨t, rfl⟩ := hv
  refine wpAny_pyIter_ascii ha (q (fun i o => o.cls = .type "str_ascii_iterator" ∧ o.data = .fields #[.str x t, .int i 0]) _ ⟨fun i o h => ⟨_, h.2⟩, fun i o h => ⟨_, h.1, by decide⟩, fun i y e s it o Q E k hn ho hp q => ?_, fun i e s it o Q E k hn ho hp q => ?_, fun i s it o Q E ho hp q => wpAny_pyIter_striter_ascii ⟨o, ho, hp⟩ q⟩ ⟨rfl, rfl⟩ rfl)
  · rw [List.getElem?_map] at e
    cases hc : x.cps.toList[i]? with
    | none => rw [hc] at e; cases e
    | some c =>
      rw [hc] at e; cases e
      refine wpAny_pyNext_ascii_item ⟨o, ho, hp⟩ (c := c) (by rw [← Array.getElem?_toList]; exact hc) fun h' hi hs => ?_
      obtain ⟨o', ho', hp'⟩ := hi
      exact q _ h' _ o' (by simp only [V]; exact ⟨_, rfl⟩) ho' hp' hs
  · exact wpAny_pyNext_ascii_end hh ⟨o, ho, hp⟩ (by rw [← Array.getElem?_toList]; exact List.getElem?_eq_none_iff.mpr (by rw [← e]; simp)) q

abbrev rangeOf (a b c : Int) (t u v : Tok) : Obj := { cls := .type "range", dict := none, data := .fields #[.int a t, .int b u, .int c v], slots := #[] }
theorem Iterable.range2 {t u v : Tok} (hh : A.handled = none) : Iterable G B A σ (.obj (rangeOf 0 2 1 t u v)) [.int 0, .int 1] := fun K ad s w hR hv Q E q => by
  simp only [V] at hv
  obtain ⟨l, rfl, hl⟩ := hv
  refine wpAny_pyIter_range (hR.keep _ _ hl) (by decide) (q (fun i o => o = { cls := .type "range_iterator", dict := none, data := .fields #[rawInt i, rawInt (2 - i), rawInt 1], slots := #[] }) _ ⟨fun i o h => by subst h; exact ⟨_, rfl⟩, fun i o h => by subst h; exact ⟨_, rfl, by decide⟩, fun i x e s it o Q E k hn ho hp q => ?_, fun i e s it o Q E k hn ho hp q => ?_, fun i s it o Q E ho hp q => by subst hp; exact wpAny_pyIter_rangeiter ho q⟩ (by first | rfl | decide) rfl)
  · have hi : i < 2 := (List.getElem?_eq_some_iff.mp e).1
    subst hp
    refine wpAny_pyNext_range_item (x := i) (left := 2 - i) (step := 1) ho (by omega) fun h' hi' hs => ?_
    refine q _ h' _ _ ?_ hi' ?_ hs
    · have : x = .int i := by
        match i, e with
        | 0, e => cases e; rfl
        | 1, e => cases e; rfl
      rw [this]; simp only [V]; exact ⟨_, rfl⟩
    · show _ = _
      have e1 : (2 : Int) - ↑i - 1 = 2 - ↑(i + 1) := by omega
      have e2 : (i : Int) + 1 = ↑(i + 1) := by omega
      rw [e1, e2]
  · subst hp
    refine wpAny_pyNext_range_end hh (x := i) (left := 2 - i) (step := 1) ho ?_ q
    simp at e
    omega

/-- a tuple is unpacked into names -/
theorem assign_names {env : Env} : ∀ {es : List Expr} {us : List Value} {s : Shared} {Q : Unit → Shared → Prop} {E : Value → Shared → Prop} {t : Expr} {u : Value},
    wpAny (model G.prog G.w) A (assign t env u) (fun _ s₁ => wpAny (model G.prog G.w) A (assignInOrder ((assignEach es env).map (·.2)) us) Q E s₁) E s →
    (assignEach (t :: es) env = (false, assign t env) :: assignEach es env) → wpAny (model G.prog G.w) A (assignInOrder ((assignEach (t :: es) env).map (·.2)) (u :: us)) Q E s := by
  intro es us s Q E t u h he
  rw [he]
  simp only [List.map_cons, assignInOrder]
  exact wpAny_bind (wpAny_holding h)

theorem ext_keeps {h h' : Heap} (he : Heap.ExtBut h.objs.size h h') : ∀ b o, h.get? b = some o → h'.get? b = some o := fun b o e => he b o (Nat.ne_of_lt (Heap.lt_size e)) e

theorem Asg.tup2 {Φ : St → Prop} {t₁ t₂ : Expr} {k : Nat} {pos : Pos} {x y : AV} (hh : A.handled = none)
    (h : Asg G B A σ t₁ x (fun σ₁ => Asg G B A σ₁ t₂ y Φ Ψ) Ψ)
    (he : assignEach [t₁, t₂] B.env = [(false, assign t₁ B.env), (false, assign t₂ B.env)] := by rfl) : Asg G B A σ (.Tuple [t₁, t₂] k pos) (.tup [x, y]) Φ Ψ := fun K ad s u hR hv Q E q ex => by
  simp only [V] at hv
  obtain ⟨a, us, rfl, ha, hx⟩ := hv
  simp only [Vs] at hx
  obtain ⟨u₁, r, rfl, h1, u₂, r', rfl, h2, rfl⟩ := hx
  refine PySem.wpAny_assign_Tuple hh (items := [u₁, u₂].toArray) ⟨_, hR.keep _ _ ha, rfl, 0, rfl⟩ (by rw [he]; rfl) (by rw [he]; rfl) fun h' hext => ?_
  have hR' : Rel G B K ad σ h' := hR.keeps (ext_keeps hext)
  rw [he]
  simp only [List.map_cons, List.map_nil, assignInOrder]
  refine wpAny_bind (wpAny_holding (h K ad { s with heap := h' } u₁ hR' h1 _ _ (fun _ s₁ K₁ ad₁ _ σ₁ g1 g2 g3 _ g5 g6 => ?_) (EC.after ex (KLe.refl _) (List.prefix_refl _) ⟨rfl, rfl, rfl⟩)))
  have g5' : SameRest s s₁ := SameRest.trans (s' := { s with heap := h' }) ⟨rfl, rfl, rfl⟩ g5
  refine wpAny_bind (wpAny_holding (g6 K₁ ad₁ s₁ u₂ g3 (h2.mono g1 g2) _ _ (fun _ s₂ K₂ ad₂ _ σ₂ f1 f2 f3 _ f5 f6 => ?_) (EC.after ex g1 g2 g5')))
  exact wpAny_pure (q () s₂ K₂ ad₂ () σ₂ (g1.trans f1) (g2.trans f2) f3 trivial (g5'.trans f5) f6)
end
end Mine
end

section
open PySem PySem.W PyProof.Rows PySem.Calls
set_option autoImplicit false
set_option linter.unusedVariables false
namespace Mine

theorem lst_append {prog : Program} {w : World} {A : Around} {s : Shared} {E : Value → Shared → Prop} {a : Addr} {us : List Value} {n : Nat} {x : Value} {Q : Value → Shared → Prop} (ho : s.heap.get? a = some (lstOf us n)) (hsz : us.length ≤ sizeLine)
    (hQ : ∀ h', h'.get? a = some (lstOf (us ++ [x]) (n + 1)) → Heap.SameBut a s.heap h' → Q .none { s with heap := h' }) : wpAny (model prog w) A (call (.builtin "list.append") [.ref a, x]) Q E s := by
  refine wpAny_call_entry slot_list_append ⟨_, ho, rfl⟩ entry_list_append ?_ (args_list_append _ _)
  show wpAny _ _ (updateSeq a (·.push x) >>= fun _ => ret .none) _ _ s
  refine wpAny_bind ?_
  refine wpAny_updateSeq ho rfl (wpAny_pure ⟨.none, rfl, hQ _ ?_ (Heap.SameBut.update ..)⟩) (by simpa using hsz) (by simp; omega)
  rw [Heap.get?_update_self _ ho (by simp [Obj.mapSeq, Obj.isFreed])]
  simp [Obj.mapSeq]

section
variable {G : Glob} {B : Base} {A : Around} {σ : St} {Ψ : XPost}

theorem frames_ne {h base : Heap} {C : Addr} (hn : h.get? C = none) : ∀ {l : List Env}, h.FunFrames base l → ∀ env ∈ l, env.frame ≠ some C
  | [], _, _, hm => nomatch hm
  | e :: r, hl, env, hm => by
    obtain ⟨_, ⟨L, o, hf, _, ho, _⟩, hr⟩ := hl
    rcases List.mem_cons.mp hm with q | q
    · subst q
      intro e'
      rw [hf] at e'; cases e'
      rw [hn] at ho; cases ho
    · exact frames_ne hn hr env q
theorem ff_aside {h h' base : Heap} {C : Addr} (hs : Heap.ExtBut C h h') : ∀ {l : List Env}, h.FunFrames base l → (∀ env ∈ l, env.frame ≠ some C) → h'.FunFrames base l
  | [], _, _ => trivial
  | e :: r, hl, hne => by
    obtain ⟨hk, ⟨L, o, hf, hn, ho, hd⟩, hr⟩ := hl
    exact ⟨hk, ⟨L, o, hf, hn, hs _ _ (fun q => hne e (.head _) (q ▸ hf)) ho, hd⟩, ff_aside hs hr fun env hm => hne env (.tail _ hm)⟩

/-- the heap is turned at an address that is nobody's -/
theorem Rel.aside {K : PH} {ad : List Addr} {h h' : Heap} {C : Addr} (R : Rel G B K ad σ h) (hs : Heap.ExtBut C h h') (hK : K C = none) (hp : C ∉ privs B ad) (ht : C ∉ G.T) (h0 : B.h₀.get? C = none) (hf : ∀ env ∈ B.fenv :: B.outer, env.frame ≠ some C) : Rel G B K ad σ h' := by
  have ne : ∀ b ∈ privs B ad, b ≠ C := fun b hb e => hp (e ▸ hb)
  refine ⟨R.base, fun b o e => hs b o (fun q => by rw [q, hK] at e; cases e) (R.keep b o e), R.noT, fun t ht' => ?_, R.step.at hs (.inr h0), R.K0, R.new, ff_aside hs R.ff hf, R.priv, fun b hb => ?_, R.nodup, R.lnew, R.anew, R.cnew, ?_, fun x v e => ?_, R.ownl, fun i a w e1 e2 => ?_, R.pon, fun q hq => ?_, R.fok⟩
  · obtain ⟨ps, e, r⟩ := R.tabs t ht'
    exact ⟨ps, hs _ _ (fun q => ht (by rw [← q]; exact List.mem_map_of_mem ht')) e, r⟩
  · obtain ⟨o', e⟩ := R.live b hb; exact ⟨o', hs _ _ (ne b hb) e⟩
  · obtain ⟨m, hm', r⟩ := R.ns
    exact ⟨m, hm'.extBut hs (ne _ (.head _)), r⟩
  · obtain ⟨c, u, h1, ⟨oc, h2, h2'⟩, h3⟩ := R.cells x v e
    exact ⟨c, u, h1, ⟨oc, hs _ _ (ne _ (R.cellNeL h1).2.2) h2, h2'⟩, h3⟩
  · exact (R.own i a w e1 e2).mono (KLe.refl _) (List.prefix_refl _) fun o' e => hs _ _ (ne _ (R.ownNeL (List.mem_of_getElem? e1)).2) e
  · obtain ⟨h1, h2, h3⟩ := R.iob q hq
    exact ⟨hs _ _ (ne _ (R.ioNe hq).2.2.1) h1, h2, h3⟩

/-- how a comprehension's block stands to the block around it -/
structure CBase (B B' : Base) (scope : Scope) (cl : List (Str × Addr)) (C : Addr) : Prop where
  env : B'.env = compEnvC scope cl C B.env
  fenv : B'.fenv = B.fenv
  outer : B'.outer = B.outer

/-- no test, or one -/
def Tst (G : Glob) (B : Base) (A : Around) (σ : St) : List Expr → (Bool → St → Prop) → Prop
  | [], Φ => Φ true σ
  | [c], Φ => Tr G B A σ c Φ noX
  | _, _ => False

/-- the turns of a comprehension, ys the items made so far, in the own list j -/
def CompL (G : Glob) (B : Base) (A : Around) (j : Nat) (t : Expr) (ifs : List Expr) (elt : Expr) (Φ : List AV → St → Prop) : List AV → List AV → St → Prop
  | [], ys, σ => Φ ys σ
  | x :: xs, ys, σ => ∀ io, Asg G (B.withIo io) A σ t x (fun σ₁ => Tst G (B.withIo io) A σ₁ ifs (fun ok σ₂ => match ok with
      | false => σ₂.ow[j]? = some (.lst ys) ∧ CompL G B A j t ifs elt Φ xs ys σ₂
      | true => Ev G (B.withIo io) A σ₂ elt (fun y σ₃ => σ₃.ow[j]? = some (.lst ys) ∧ ys.length ≤ sizeLine ∧ CompL G B A j t ifs elt Φ xs (ys ++ [y]) { σ₃ with ow := σ₃.ow.set j (.lst (ys ++ [y])) }) noX)) noX

theorem comp_test {K : PH} {ad : List Addr} {s : Shared} {ifs : List Expr} {Φ : Bool → St → Prop} {Q : Bool → Shared → Prop} {E : Value → Shared → Prop} (hR : Rel G B K ad σ s.heap) (h : Tst G B A σ ifs Φ) (q : QC G B K ad s Same Φ Q) :
    wpAny (model G.prog G.w) A (forIn ifs true fun c r => if r = true then do let ok ← isTrue c B.env (eval c B.env); pure (ForInStep.yield ok) else pure (ForInStep.yield r)) Q E s := by
  match ifs, h with
  | [], h => exact wpAny_tests_nil (q true s K ad true σ (KLe.refl _) (List.prefix_refl _) hR rfl (SameRest.refl _) h)
  | [c], h => exact wpAny_tests_one (h K ad s hR Q E q ec_noX)

theorem comp_loop {t iter elt : Expr} {ifs : List Expr} {scope : Scope} {pos : Pos} {Φ : List AV → St → Prop} {K₀ : PH} {ad₀ : List Addr} {s₀ : Shared} {R : Result → Shared → Prop} {it acc : Addr} {P : Nat → Obj → Prop} {o₀ : Obj} {xs : List AV} {j : Nat}
    (hR : Rel G (B.withIo ((it, o₀) :: B.io)) K₀ ad₀ σ s₀.heap) (h0 : P 0 o₀) (I : Iter G A K₀ ad₀ P xs) (hj : ad₀[j]? = some acc) (hacc : σ.ow[j]? = some (.lst [])) (hf : CompL G B A j t ifs elt Φ xs [] σ)
    (q : ∀ s' K' ad' ys σ', KLe K₀ K' → ad₀ <+: ad' → Rel G B K' ad' σ' s'.heap → σ'.ow[j]? = some (.lst ys) → SameRest s₀ s' → Φ ys σ' → R (.ok .next) s')
    (hgo : ∀ i v, letOwnedTupleGo t (.ref i) v = pure () := by intro _ _; rfl) :
    codeAny (model G.prog G.w) A (.compLoop (.ListComp elt [⟨t, iter, ifs, 0⟩] scope pos) 0 (.ref it) (.ref acc) B.env) R s₀ := by
  refine codeAny_compLoop_tests (fun m s => ∃ K ad σ' i o ys, m + i = xs.length ∧ P i o ∧ KLe K₀ K ∧ ad₀ <+: ad ∧ Rel G (B.withIo ((it, o) :: B.io)) K ad σ' s.heap ∧ SameRest s₀ s ∧ σ'.ow[j]? = some (.lst ys) ∧ CompL G B A j t ifs elt Φ (xs.drop i) ys σ') ?_ xs.length
    ⟨K₀, ad₀, σ, 0, o₀, [], by simp, h0, KLe.refl _, List.prefix_refl _, hR, SameRest.refl _, hacc, by simpa using hf⟩ (hgo it)
  rintro m s ⟨K, ad, σ', i, o, ys, hm, hP, hK, had, hR', hs, hys, hF⟩
  have I' := I.mono hK had
  obtain ⟨hit, hfl, _⟩ := hR'.iob _ (List.Mem.head _)
  have hKn := (hR'.priv _ (hR'.ioNe (List.Mem.head _)).2.2.1).1
  cases hx : xs[i]? with
  | none =>
    have hi : xs.length ≤ i := List.getElem?_eq_none_iff.mp hx
    rw [List.drop_eq_nil_of_le hi] at hF
    refine I'.fin i (by omega) s it o _ _ hR'.keep hKn hit hP fun h' hx' => ?_
    exact q { s with heap := h' } K ad ys σ' hK had (hR'.dropIo hx') hys (hs.trans ⟨rfl, rfl, rfl⟩) hF
  | some x =>
    have hi : i < xs.length := (List.getElem?_eq_some_iff.mp hx).1
    have hdr : xs.drop i = x :: xs.drop (i + 1) := by
      rw [List.drop_eq_getElem_cons hi]
      congr 1
      exact (List.getElem?_eq_some_iff.mp hx).2
    rw [hdr] at hF
    refine I'.item i x hx s it o _ _ hR'.keep hKn hit hP fun u h' tk o' hv ho' hP' hsb => ?_
    have hR₁ : Rel G (B.withIo ((it, o') :: B.io)) K ad σ' h' := hR'.setIo hsb ho' (I.fl (i + 1) o' hP')
    refine hF ((it, o') :: B.io) K ad { s with heap := h', toks := tk } u hR₁ hv _ _ (fun _ s₂ K₂ ad₂ _ σ₂ g1 g2 g3 _ g5 g6 => ?_) ec_noX
    refine comp_test (B := B.withIo ((it, o') :: B.io)) g3 g6 (fun ok s₃ K₃ ad₃ b σ₃ f1 f2 f3 f4 f5 f6 => ?_)
    cases f4
    have e1 := hK.trans (g1.trans f1)
    have e2 := had.trans (g2.trans f2)
    have e3 : SameRest s₀ s₃ := hs.trans (SameRest.trans ⟨rfl, rfl, rfl⟩ (g5.trans f5))
    cases ok with
    | false =>
      rw [if_neg Bool.false_ne_true]
      exact ⟨m - 1, by omega, K₃, ad₃, σ₃, i + 1, o', ys, by omega, hP', e1, e2, f3, e3, f6.1, f6.2⟩
    | true =>
      rw [if_pos rfl]
      refine f6 K₃ ad₃ s₃ f3 _ _ (fun w s₄ K₄ ad₄ y σ₄ k1 k2 k3 k4 k5 k6 => ?_) ec_noX
      obtain ⟨y1, y2, y3⟩ := k6
      have ha := pre_get (e2.trans k2) hj
      obtain ⟨us, n, l1, l2⟩ := k3.own j acc _ ha y1
      refine lst_append l1 (by rw [l2.length]; exact y2) fun h₅ l3 l4 => ?_
      have hR₅ : Rel G (B.withIo ((it, o') :: B.io)) K₄ ad₄ { σ₄ with ow := σ₄.ow.set j (.lst (ys ++ [y])) } h₅ :=
        k3.setOwn ha l4.extBut l3 (fun _ _ _ vs z => by cases z) ⟨us ++ [w], n + 1, l3, l2.append (Vs.one k4)⟩
      refine ⟨m - 1, by omega, K₄, ad₄, _, i + 1, o', ys ++ [y], by omega, hP', e1.trans k1, e2.trans k2, hR₅, e3.trans (k5.trans ⟨rfl, rfl, rfl⟩), ?_, y3⟩
      exact List.getElem?_set_self (by rw [← k3.ownl]; exact (List.getElem?_eq_some_iff.mp ha).1)

/-- the block of a comprehension is left: the block around it goes on -/
theorem comp_exit {B' : Base} {K₁ K' : PH} {ad₁ ad' : List Addr} {h₁ h' : Heap} {σ₁ σ' : St} (R₁ : Rel G B K₁ ad₁ σ₁ h₁) (R' : Rel G B' K' ad' σ' h') (hB : B'.K₀ = K₁ ∧ B'.h₀ = h₁ ∧ B'.po = ad₁ ∧ B'.fenv = B.fenv ∧ B'.outer = B.outer) (hp : ad₁ <+: ad')
    (hw : ShutW ad₁.length (σ'.ow.take ad₁.length)) : Rel G B (shutK K' ad' ad₁.length h') ad₁ { σ₁ with ow := σ'.ow.take ad₁.length } h' := by
  obtain ⟨b1, b2, b3, b4, b5⟩ := hB
  have full : ∀ {l : List Addr}, l.take l.length = l := fun {l} => List.take_length ..
  have P₁ : Pub G (B.fenv :: B.outer) K₁ ad₁ (σ₁.ow) h₁ := by
    have nd : ad₁.Nodup := by
      have nd := R₁.nodup
      unfold privs at nd
      rw [List.nodup_cons, List.nodup_append] at nd
      exact nd.2.2.1
    exact ⟨R₁.base, R₁.keep, R₁.noT, R₁.tabs, R₁.ff, fun b hb => R₁.priv b (R₁.ownNeL hb).2, fun b hb => R₁.live b (R₁.ownNeL hb).2, nd, R₁.ownl, R₁.own, R₁.frames⟩
  obtain ⟨more, rfl⟩ := hp
  have hd : (ad₁ ++ more).drop ad₁.length = more := by simp
  have nd' : (ad₁ ++ more).Nodup := by
    have nd := R'.nodup
    unfold privs at nd
    rw [List.nodup_cons, List.nodup_append] at nd
    exact nd.2.2.1
  have dj : ∀ a ∈ ad₁, a ∉ more := fun a ha q => (List.nodup_append.mp nd').2.2 a ha a q rfl
  have tl := shutK_le (ad := ad₁ ++ more) (p := ad₁.length) R'.keep
  have pv : ∀ b ∈ ad₁ ++ more, K' b = none ∧ b ∉ G.T := fun b hb => R'.priv b (R'.ownNeL hb).2
  have lv : ∀ b ∈ ad₁ ++ more, ∃ o, h'.get? b = some o := fun b hb => R'.live b (R'.ownNeL hb).2
  have lenle : ad₁.length ≤ σ'.ow.length := by rw [← R'.ownl]; simp
  have Q : Pub G (B.fenv :: B.outer) (shutK K' (ad₁ ++ more) ad₁.length h') ad₁ (σ'.ow.take ad₁.length) h' := by
    refine ⟨fun b o e => tl _ _ (R'.base b o e), fun b o e => ?_, fun b hb => ?_, fun t ht => ?_, b4 ▸ b5 ▸ R'.ff, fun b hb => ⟨?_, (pv b (List.mem_append_left _ hb)).2⟩, fun b hb => lv b (List.mem_append_left _ hb), P₁.nodup, ?_, fun i a w e1 e2 => ?_, fun env he L hL => ?_⟩
    · unfold shutK at e
      rw [hd] at e
      split at e
      · exact e
      · exact R'.keep b o e
    · unfold shutK
      rw [hd, if_neg fun q => (pv b (List.mem_append_right _ q)).2 hb]
      exact R'.noT b hb
    · obtain ⟨ps, h1, h2, h3⟩ := R'.tabs t ht
      exact ⟨ps, h1, h2, h3.imp id fun ⟨c', o', vs, tk, g1, g2, g3⟩ => ⟨c', o', vs, tk, g1, tl _ _ g2, g3⟩⟩
    · unfold shutK
      rw [hd, if_neg (dj b hb)]
      exact (pv b (List.mem_append_left _ hb)).1
    · rw [List.length_take, Nat.min_eq_left lenle]
    · have hi : i < ad₁.length := (List.getElem?_eq_some_iff.mp e1).1
      rw [List.getElem?_take_of_lt hi] at e2
      have z := R'.own i a w (by rw [List.getElem?_append_left hi]; exact e1) e2
      cases w with
      | dead => trivial
      | obj o => exact z
      | lst xs =>
        obtain ⟨us, n, h1, h2⟩ := z
        refine ⟨us, n, h1, ?_⟩
        have hm : OW.lst xs ∈ σ'.ow.take ad₁.length := List.mem_iff_getElem?.mpr ⟨i, by rw [List.getElem?_take_of_lt hi]; exact e2⟩
        have z := shut_list (fun x hx => hw _ hm xs rfl x hx) (h2.mono tl (List.prefix_refl _))
        rwa [List.take_left] at z
    · rw [← b4, ← b5] at he
      obtain ⟨f1, f2, f3, f4⟩ := R'.frames env he L hL
      refine ⟨f1, fun q => f2 (List.mem_append_left _ q), ?_, f4⟩
      unfold shutK
      rw [hd, if_neg fun q => f2 (List.mem_append_right _ q)]
      exact f3
  have st : Step G.T ad₁ h₁ h' := by have := R'.step; rw [b2, b3] at this; exact this
  have nw : ∀ b o, shutK K' (ad₁ ++ more) ad₁.length h' b = some o → K₁ b = some o ∨ h₁.get? b = none := fun b o e => by
    unfold shutK at e
    rw [hd] at e
    split at e
    · rename_i hb
      rcases R'.anew b (List.mem_append_right _ hb) with q | q
      · rw [b3] at q; exact absurd hb (dj b q)
      · rw [b2] at q; exact .inr q
    · have := R'.new b o e
      rw [b1, b2] at this; exact this
  have hK0 : KLe K₁ (shutK K' (ad₁ ++ more) ad₁.length h') := by
    have := R'.K0; rw [b1] at this; exact this.trans tl
  have z := R₁.called (p := ad₁.length) hK0 (by rw [full]; exact Q) (by rw [full]; exact st) nw (Nat.le_refl _)
  rw [R₁.ownl, List.drop_length, List.append_nil, ← R₁.ownl] at z
  exact z

/-- what the free names of a comprehension stand for -/
structure ClOk (B : Base) (cl : List (Str × Addr)) : Prop where
  nodup : (cl.map (·.2)).Nodup
  mem : ∀ c ∈ cl.map (·.2), c ∈ B.env.cells.map (·.2)
  look : ∀ x c, cl.lookup x = some c → B.env.cells.lookup x = some c

def compBase (B : Base) (scope : Scope) (cl : List (Str × Addr)) (C : Addr) (K : PH) (h : Heap) (ad : List Addr) : Base :=
  { env := compEnvC scope cl C B.env, fenv := B.fenv, outer := B.outer, K₀ := K, h₀ := h, po := ad, oc := [] }

theorem natNe {a b : Nat} (h : a ≠ b) : a ≠ b := h
theorem natAbs {a b : Nat} (h1 : a = b) (h2 : a ≠ b) : False := h2 h1
theorem comp_enter {K : PH} {ad : List Addr} {h h₄ : Heap} {scope : Scope} {cl : List (Str × Addr)} {o : Obj} {ce' : List (Str × AV)} (R : Rel G B K ad σ h) (hcl : ClOk B cl) (hfr : o.isFreed = false) (hfl : ∃ vs, o.data = .fields vs)
    (hce : ∀ x v, ce'.lookup x = some v → σ.ce.lookup x = some v ∧ ∃ c, cl.lookup x = some c)
    (hns : h₄.Ns (((h.push o).push (lstOf [] 0)).objs.size) fun _ => none) (hs : Heap.SameBut (((h.push o).push (lstOf [] 0)).objs.size) (((h.push o).push (lstOf [] 0)).push { cls := .type "dict", data := .dict #[] }) h₄) :
    Rel G ((compBase B scope cl (((h.push o).push (lstOf [] 0)).objs.size) K h ad).withIo [(h.objs.size, o)]) K (ad ++ [(h.push o).objs.size]) { lo := [], ce := ce', ow := σ.ow ++ [.lst []] } h₄ := by
  have s1 : (h.push o).objs.size = h.objs.size + 1 := Heap.size_push ..
  have s2 : ((h.push o).push (lstOf [] 0)).objs.size = h.objs.size + 2 := by rw [Heap.size_push, s1]
  rw [s2] at hns hs ⊢
  rw [s1]
  have kp : ∀ b o', h.get? b = some o' → h₄.get? b = some o' := fun b o' e => by
    have hb := Heap.lt_size e
    rw [hs.2 b (Nat.ne_of_lt (Nat.lt_of_lt_of_le hb (Nat.le_add_right _ _)))]
    exact Heap.get?_push_of_some _ (Heap.get?_push_of_some _ (Heap.get?_push_of_some _ e))
  have hI : h₄.get? h.objs.size = some o := by
    rw [hs.2 _ (natNe (by omega))]
    exact Heap.get?_push_of_some _ (Heap.get?_push_of_some _ (Heap.get?_push_size _ hfr))
  have hA : h₄.get? (h.objs.size + 1) = some (lstOf [] 0) := by
    rw [hs.2 _ (natNe (by omega))]
    refine Heap.get?_push_of_some _ ?_
    rw [← s1]
    exact Heap.get?_push_size _ rfl
  have hC : ∃ oC, h₄.get? (h.objs.size + 2) = some oC := let ⟨oC, _, _, e, _⟩ := hns; ⟨oC, e⟩
  have P := R.keeps kp
  have out : ∀ b, h.objs.size ≤ b → K b = none ∧ b ∉ G.T ∧ h.get? b = none ∧ b ∉ privs B ad := fun b hb => by
    have hn : h.get? b = none := Heap.get?_none_of_le hb
    refine ⟨?_, fun q => ?_, hn, fun q => ?_⟩
    · cases e : K b with
      | none => rfl
      | some o' => rw [R.keep _ _ e] at hn; cases hn
    · obtain ⟨t, ht, e⟩ := List.mem_map.mp q
      obtain ⟨ps, e', _⟩ := R.tabs t ht
      rw [e, hn] at e'; cases e'
    · obtain ⟨o', e⟩ := R.live _ q
      rw [hn] at e; cases e
  have clp : ∀ c ∈ cl.map (·.2), c ∈ privs B ad := fun c hc => List.mem_cons_of_mem _ (List.mem_append_left _ (List.mem_append_left _ (hcl.mem c hc)))
  have adp : ∀ a ∈ ad, a ∈ privs B ad := fun a ha => (R.ownNeL ha).2
  have mem : ∀ b, b ∈ privs ((compBase B scope cl (h.objs.size + 2) K h ad).withIo [(h.objs.size, o)]) (ad ++ [h.objs.size + 1]) → b = h.objs.size + 2 ∨ b ∈ cl.map (·.2) ∨ b = h.objs.size ∨ b ∈ ad ∨ b = h.objs.size + 1 := fun b hb => by
    simp only [privs, Base.withIo, compBase, compEnvC, List.map_cons, List.map_nil, List.mem_cons, List.mem_append, List.not_mem_nil, or_false] at hb
    rcases hb with q | ((q | q) | (q | q))
    · exact .inl q
    · exact .inr (.inl q)
    · exact .inr (.inr (.inl q))
    · exact .inr (.inr (.inr (.inl q)))
    · exact .inr (.inr (.inr (.inr q)))
  refine ⟨R.base, P.keep, R.noT, P.tabs, .of_keeps fun b o' e _ _ => kp b o' e, KLe.refl _, fun b o' e => .inl e, P.ff, fun b hb => ?_, fun b hb => ?_, ?_, (out _ (Nat.le_add_right _ _)).2.2.1, fun a ha => ?_, fun x hx => (nomatch hx), ⟨_, hns, fun x v e => (nomatch e)⟩, fun x v e => ?_, by simp [R.ownl], fun i a w e1 e2 => ?_, fun a ha => List.mem_append_left _ ha, fun q hq => ?_, fun env he L hL => .inr (R.frames env he L hL)⟩
  · rcases mem b hb with q | q | q | q | q
    · rw [q]; exact ⟨(out _ (by first | exact Nat.le_refl _ | exact Nat.le_add_right _ _)).1, (out _ (by first | exact Nat.le_refl _ | exact Nat.le_add_right _ _)).2.1⟩
    · exact R.priv b (clp b q)
    · rw [q]; exact ⟨(out _ (by first | exact Nat.le_refl _ | exact Nat.le_add_right _ _)).1, (out _ (by first | exact Nat.le_refl _ | exact Nat.le_add_right _ _)).2.1⟩
    · exact R.priv b (adp b q)
    · rw [q]; exact ⟨(out _ (by first | exact Nat.le_refl _ | exact Nat.le_add_right _ _)).1, (out _ (by first | exact Nat.le_refl _ | exact Nat.le_add_right _ _)).2.1⟩
  · rcases mem b hb with q | q | q | q | q
    · rw [q]; exact hC
    · exact P.live b (clp b q)
    · rw [q]; exact ⟨_, hI⟩
    · exact P.live b (adp b q)
    · rw [q]; exact ⟨_, hA⟩
  · have nd := R.nodup
    unfold privs at nd
    rw [List.nodup_cons, List.nodup_append] at nd
    have lt : ∀ b ∈ privs B ad, b < h.objs.size := fun b hb => by obtain ⟨o', e⟩ := R.live b hb; exact Heap.lt_size e
    simp only [privs, Base.withIo, compBase, compEnvC, List.map_cons, List.map_nil]
    rw [List.nodup_cons]
    refine ⟨fun q => ?_, List.nodup_append.mpr ⟨List.nodup_append.mpr ⟨hcl.nodup, by simp, fun a ha b hb e => ?_⟩, List.nodup_append.mpr ⟨nd.2.2.1, by simp, fun a ha b hb e => ?_⟩, fun a ha b hb e => ?_⟩⟩
    · simp only [List.mem_append, List.mem_cons, List.not_mem_nil, or_false] at q
      rcases q with (q | q) | (q | q)
      · have := lt _ (clp _ q); exact absurd this (Nat.not_lt_of_le (Nat.le_add_right _ _))
      · exact natAbs q (by omega)
      · have := lt _ (adp _ q); exact absurd this (Nat.not_lt_of_le (Nat.le_add_right _ _))
      · exact natAbs q (by omega)
    · simp only [List.mem_cons, List.not_mem_nil, or_false] at hb
      have := lt _ (clp _ ha); rw [e, hb] at this; exact Nat.lt_irrefl _ this
    · simp only [List.mem_cons, List.not_mem_nil, or_false] at hb
      have := lt _ (adp _ ha); rw [e, hb] at this; exact absurd this (Nat.not_lt_of_le (Nat.le_add_right _ _))
    · simp only [List.mem_append, List.mem_cons, List.not_mem_nil, or_false] at ha hb
      rcases ha with ha | ha <;> rcases hb with hb | hb
      · exact nd.2.2.2 a (List.mem_append_left _ (hcl.mem a ha)) b hb e
      · have := lt _ (clp _ ha); rw [e, hb] at this; exact absurd this (Nat.not_lt_of_le (Nat.le_add_right _ _))
      · have := lt _ (adp _ hb); rw [← e, ha] at this; exact Nat.lt_irrefl _ this
      · rw [ha, hb] at e; exact natAbs e (by omega)
  · rcases List.mem_append.mp ha with q | q
    · exact .inl q
    · rw [List.mem_singleton.mp q]; exact .inr (out _ (Nat.le_add_right _ _)).2.2.1
  · obtain ⟨e1, c, e2⟩ := hce x v e
    obtain ⟨c', u, h1, h2, h3⟩ := R.cells x v e1
    have : c' = c := by rw [hcl.look x c e2] at h1; cases h1; rfl
    subst this
    exact ⟨c', u, e2, h2.keeps kp, h3.mono (KLe.refl _) (List.prefix_append _ _)⟩
  · dsimp only at e2
    by_cases hi : i < ad.length
    · rw [List.getElem?_append_left hi] at e1
      rw [List.getElem?_append_left (R.ownl ▸ hi)] at e2
      exact (R.own i a w e1 e2).mono (KLe.refl _) (List.prefix_append _ _) fun o' e => kp _ _ e
    · have hl := (List.getElem?_eq_some_iff.mp e1).1
      simp only [List.length_append, List.length_singleton] at hl
      have : i = ad.length := by omega
      subst this
      have ea : a = h.objs.size + 1 := by
        have := e1; rw [List.getElem?_append_right (Nat.le_refl _)] at this; simp at this; exact this.symm
      have ex : w = .lst [] := by
        rw [R.ownl] at e2; rw [List.getElem?_append_right (Nat.le_refl _)] at e2; simp at e2; exact e2.symm
      subst ea; subst ex
      exact ⟨[], 0, hA, Vs.nil⟩
  · have : q = (h.objs.size, o) := by simpa [Base.withIo] using hq
    subst this
    exact ⟨hI, hfl, (out _ (Nat.le_refl _)).2.2.1⟩

theorem V_shut {K' : PH} {ad₁ ad' : List Addr} {h' : Heap} {j : Nat} {acc : Addr} {ys : List AV} (hp : ad₁ <+: ad') (hk : ∀ b o, K' b = some o → h'.get? b = some o) (hjl : ad₁.length ≤ j) (ha : ad'[j]? = some acc) (hl : OwIs K' ad' h' acc (.lst ys)) (hsh : ∀ y ∈ ys, Shut ad₁.length y) :
    V (shutK K' ad' ad₁.length h') ad₁ (.lst ys) (.ref acc) := by
  obtain ⟨us, n, h1, h2⟩ := hl
  obtain ⟨more, rfl⟩ := hp
  simp only [V]
  refine ⟨acc, us, n, rfl, ?_, ?_⟩
  · unfold shutK
    rw [if_pos (List.mem_iff_getElem?.mpr ⟨j - ad₁.length, by rw [List.getElem?_drop, Nat.add_sub_cancel' hjl]; exact ha⟩)]
    exact h1
  · have z := shut_list hsh (h2.mono (shutK_le (ad := ad₁ ++ more) (p := ad₁.length) hk) (List.prefix_refl _))
    rwa [List.take_left] at z

/-- a list comprehension with one for -/
theorem comp_run {Φ : AV → St → Prop} {elt t iter : Expr} {ifs : List Expr} {scope : Scope} {pos : Pos} {cl : List (Str × Addr)} {ce' : List (Str × AV)} {use : Option (Value → Sem Unit)} {K : PH} {ad : List Addr} {s : Shared} {Q : Value → Shared → Prop} {E : Value → Shared → Prop} {p : Pos}
    (hclos : closureFor scope B.env = pure cl) (hcl : ClOk B cl) (hkind : scope.kind = .function) (hnc : ∀ x ∈ scope.names, x.2 ≠ .cell) (hnames : ∀ x ∈ scope.names, x.2 = .local → scope.names.lookup x.1 = some .local)
    (hs : ∀ x, foldedSetIterable iter B.env x = pure x) (hgo : ∀ i v, letOwnedTupleGo t (.ref i) v = pure ())
    (hR : Rel G B K ad σ s.heap)
    (h : Ev G B A σ iter (fun v σ₁ => ∃ xs, Iterable G B A σ₁ v xs ∧ (∀ x v, ce'.lookup x = some v → σ₁.ce.lookup x = some v ∧ ∃ c, cl.lookup x = some c) ∧
      ∀ B', (∃ C K h ad, B' = compBase B scope cl C K h ad) → CompL G B' A σ₁.ow.length t ifs elt (fun ys σ' => ShutW σ₁.ow.length (σ'.ow.take σ₁.ow.length) ∧ (∀ y ∈ ys, Shut σ₁.ow.length y) ∧ Φ (.lst ys) { σ₁ with ow := σ'.ow.take σ₁.ow.length }) xs [] { lo := [], ce := ce', ow := σ₁.ow ++ [.lst []] }) Ψ)
    (ex : EC G B K ad s Ψ E)
    (q : ∀ acc C s' K' ad' ys σ', KLe K K' → ad <+: ad' → Rel G B K' ad' σ' s'.heap → V K' ad' (.lst ys) acc → SameRest s s' → Φ (.lst ys) σ' → K' C = none → C ∉ privs B ad' → C ∉ G.T → B.h₀.get? C = none → (∀ env ∈ B.fenv :: B.outer, env.frame ≠ some C) → (∃ m, s'.heap.Ns C m) →
      compPost (model G.prog G.w) A E use Q acc C (.ok .next) s') :
    wpAny (model G.prog G.w) A (comprehension (.ListComp elt [⟨t, iter, ifs, 0⟩] scope pos) scope B.env p (newList []) false (eval iter B.env) use) Q E s := by
  refine wpAny_comprehension_free (g := ⟨t, iter, ifs, 0⟩) (gs := []) rfl hs hclos hkind hnames ?_
  refine h K ad s hR _ _ (fun u s₁ K₁ ad₁ v σ₁ g1 g2 g3 g4 g5 g6 => ?_) ex
  obtain ⟨xs, hi, hce, hL⟩ := g6
  refine hi K₁ ad₁ s₁ u g3 g4 _ _ fun P o I hP hfr => ?_
  refine wpAny_newList ?_ (by decide)
  refine wpAny_newFunctionEnv hnc (fun x hx => nomatch hx) (fun h₄ hns hsb => ?_) hkind
  have R₄ := comp_enter (scope := scope) (ce' := ce') g3 hcl hfr (I.fl 0 o hP) hce hns hsb
  have hs4 : SameRest s₁ ⟨h₄, s₁.gens, s₁.drawn, s₁.toks + ([] : List (Str × Value)).length, s₁.os⟩ := ⟨rfl, rfl, rfl⟩
  have hjacc : (ad₁ ++ [(s₁.heap.push o).objs.size])[σ₁.ow.length]? = some (s₁.heap.push o).objs.size := by rw [← g3.ownl]; simp
  have main : codeAny (model G.prog G.w) A (.compLoop (.ListComp elt [⟨t, iter, ifs, 0⟩] scope pos) 0 (.ref s₁.heap.objs.size) (.ref (s₁.heap.push o).objs.size) (compEnvC scope cl ((s₁.heap.push o).push (lstOf [] 0)).objs.size B.env))
      (compPost (model G.prog G.w) A E use Q (.ref (s₁.heap.push o).objs.size) ((s₁.heap.push o).push (lstOf [] 0)).objs.size) ⟨h₄, s₁.gens, s₁.drawn, s₁.toks + ([] : List (Str × Value)).length, s₁.os⟩ := by
    refine comp_loop (B := compBase B scope cl ((s₁.heap.push o).push (lstOf [] 0)).objs.size K₁ s₁.heap ad₁) R₄ hP (I.mono (KLe.refl _) (List.prefix_append _ _)) hjacc (by simp) (hL _ ⟨_, _, _, _, rfl⟩) (fun s' K' ad' ys σ' f1 f2 f3 f4 f5 f6 => ?_) hgo
    obtain ⟨w1, w2, w3⟩ := f6
    have hpre : ad₁ <+: ad' := (List.prefix_append _ _).trans f2
    rw [← g3.ownl] at w1 w2 w3
    have R' := comp_exit g3 f3 ⟨rfl, rfl, rfl, rfl, rfl⟩ hpre w1
    have hja := pre_get f2 hjacc
    have hV := V_shut hpre f3.keep (by rw [g3.ownl]; exact Nat.le_refl _) hja (f3.own _ _ _ hja f4) w2
    have hCn : s₁.heap.get? ((s₁.heap.push o).push (lstOf [] 0)).objs.size = none := Heap.get?_none_of_le (by rw [Heap.size_push, Heap.size_push]; omega)
    have hCp := f3.priv _ (List.Mem.head _)
    have hCad : ((s₁.heap.push o).push (lstOf [] 0)).objs.size ∉ ad' := fun z => (f3.ownNeL z).1 rfl
    refine q (.ref (s₁.heap.push o).objs.size) _ s' _ ad₁ ys _ (g1.trans (f1.trans (shutK_le f3.keep))) g2 R' hV (g5.trans (hs4.trans f5)) w3 ?_ ?_ hCp.2 ?_ (frames_ne hCn g3.ff) ?_
    · unfold shutK
      rw [if_neg fun z => hCad (List.mem_of_mem_drop z)]
      exact hCp.1
    · intro z
      obtain ⟨o', e⟩ := g3.live _ z
      rw [hCn] at e; cases e
    · cases e : B.h₀.get? ((s₁.heap.push o).push (lstOf [] 0)).objs.size with
      | none => rfl
      | some o' =>
        exfalso
        by_cases hx : ((s₁.heap.push o).push (lstOf [] 0)).objs.size ∈ B.po
        · obtain ⟨o'', e''⟩ := g3.live _ (g3.ownNeL (g3.pon _ hx)).2
          rw [hCn] at e''; cases e''
        · obtain ⟨o'', e'', _⟩ := g3.step.some e hx hCp.2
          rw [hCn] at e''; cases e''
    · obtain ⟨m, hm, _⟩ := f3.ns
      exact ⟨m, hm⟩
  exact codeAny_compStart_list main (I.self 0 _ _ o _ _ (R₄.iob _ (List.Mem.head _)).1 hP main)

/-- what a comprehension asks for, Φ told of its list -/
abbrev CompOk (G : Glob) (B : Base) (A : Around) (σ : St) (elt t iter : Expr) (ifs : List Expr) (scope : Scope) (cl : List (Str × Addr)) (ce' : List (Str × AV)) (Φ : AV → St → Prop) (Ψ : XPost) : Prop :=
  Ev G B A σ iter (fun v σ₁ => ∃ xs, Iterable G B A σ₁ v xs ∧ (∀ x v, ce'.lookup x = some v → σ₁.ce.lookup x = some v ∧ ∃ c, cl.lookup x = some c) ∧
      ∀ B', (∃ C K h ad, B' = compBase B scope cl C K h ad) → CompL G B' A σ₁.ow.length t ifs elt (fun ys σ' => ShutW σ₁.ow.length (σ'.ow.take σ₁.ow.length) ∧ (∀ y ∈ ys, Shut σ₁.ow.length y) ∧ Φ (.lst ys) { σ₁ with ow := σ'.ow.take σ₁.ow.length }) xs [] { lo := [], ce := ce', ow := σ₁.ow ++ [.lst []] }) Ψ

theorem Ev.comp {Φ : AV → St → Prop} {elt t iter : Expr} {ifs : List Expr} {scope : Scope} {pos : Pos} {cl : List (Str × Addr)} {ce' : List (Str × AV)}
    (hclos : closureFor scope B.env = pure cl) (hcl : ClOk B cl) (h : CompOk G B A σ elt t iter ifs scope cl ce' Φ Ψ)
    (hkind : scope.kind = .function := by rfl) (hnc : ∀ x ∈ scope.names, x.2 ≠ .cell := by decide) (hnames : ∀ x ∈ scope.names, x.2 = .local → scope.names.lookup x.1 = some .local := by decide)
    (hs : ∀ x, foldedSetIterable iter B.env x = pure x := by intro _; rfl) (hgo : ∀ i v, letOwnedTupleGo t (.ref i) v = pure () := by intro _ _; rfl) :
    Ev G B A σ (.ListComp elt [⟨t, iter, ifs, 0⟩] scope pos) Φ Ψ := fun K ad s hR Q E q ex => by
  rw [eval_ListComp]
  refine comp_run (use := Option.none) hclos hcl hkind hnc hnames hs hgo hR h ex fun acc C s' K' ad' ys σ' g1 g2 g3 g4 g5 g6 c1 c2 c3 c4 c5 c6 => ?_
  obtain ⟨m, hm⟩ := c6
  exact ⟨m, hm, fun h' hsb => q acc { s' with heap := h' } K' ad' (.lst ys) σ' g1 g2 (g3.aside hsb.extBut c1 c2 c3 c4 c5) g4 (g5.trans ⟨rfl, rfl, rfl⟩) g6⟩

/-- a comprehension's list stored in a local name, by the exchanged stores -/
theorem Ex1.assignComp {Φ : AF → St → Prop} {x : Str} {p1 pos cpos : Pos} {elt t iter : Expr} {ifs : List Expr} {scope : Scope} {cl : List (Str × Addr)} {ce' : List (Str × AV)} (hE : EnvOk B.env) (hl : B.env.kindOf x = some .local)
    (hclos : closureFor scope B.env = pure cl) (hcl : ClOk B cl) (h : CompOk G B A σ elt t iter ifs scope cl ce' (fun v σ₁ => Φ .next { σ₁ with lo := setL σ₁.lo x v }) Ψ)
    (hsw : swapsWith (.ListComp elt [⟨t, iter, ifs, 0⟩] scope cpos) (some (.Name x p1)) pos.line B.env = pure true := by rfl)
    (hkind : scope.kind = .function := by rfl) (hnc : ∀ x ∈ scope.names, x.2 ≠ .cell := by decide) (hnames : ∀ x ∈ scope.names, x.2 = .local → scope.names.lookup x.1 = some .local := by decide)
    (hs : ∀ x, foldedSetIterable iter B.env x = pure x := by intro _; rfl) (hgo : ∀ i v, letOwnedTupleGo t (.ref i) v = pure () := by intro _ _; rfl) :
    Ex1 G B A σ (.Assign [.Name x p1] (.ListComp elt [⟨t, iter, ifs, 0⟩] scope cpos) pos) Φ Ψ := fun K ad s hR Q E q ex => by
  rw [exec_Assign_Name_used (hs := hsw)]
  refine wpAny_bind (wpAny_standAt (wpAny_bind ?_))
  show wpAny _ A (do let _ ← comprehension (.ListComp elt [⟨t, iter, ifs, 0⟩] scope cpos) scope B.env (firstIterPos [⟨t, iter, ifs, 0⟩] cpos) (newList []) (firstAsync [⟨t, iter, ifs, 0⟩]) (firstIter [⟨t, iter, ifs, 0⟩] B.env) (some (PySem.assign (.Name x p1) B.env))) _ _ s
  refine wpAny_bind ?_
  refine comp_run (Φ := fun v σ₁ => Φ .next { σ₁ with lo := setL σ₁.lo x v }) (use := some (PySem.assign (.Name x p1) B.env)) hclos hcl hkind hnc hnames hs hgo hR h ex fun acc C s' K' ad' ys σ' g1 g2 g3 g4 g5 g6 c1 c2 c3 c4 c5 c6 => ?_
  obtain ⟨m, hm⟩ := c6
  obtain ⟨mL, hmL, _⟩ := g3.ns
  have hCL : C ≠ B.env.locals := fun e => c2 (e ▸ .head _)
  refine wpAny_assign_Name (wpAny_storeName_local hl hmL (fun h' hn hsb => ⟨m, hm.sameBut hsb hCL, fun h'' hsb' => ?_⟩) (by rw [hE.kind]; rfl))
  have R' := (g3.setLo g4 hmL hn hsb).aside hsb'.extBut c1 c2 c3 c4 c5
  exact wpAny_pure (wpAny_pure (q .next { s' with heap := h'', toks := s'.toks + 1 } K' ad' .next _ g1 g2 R' rfl (g5.trans ⟨rfl, rfl, rfl⟩) g6))
end
end Mine
end

section
open PySem PySem.W PyProof.Rows PySem.Calls
set_option autoImplicit false
set_option linter.unusedVariables false
namespace Mine

section
variable {G : Glob} {B : Base} {A : Around} {σ : St} {Ψ : XPost} {Φ : AV → St → Prop}

theorem qc_toks {K : PH} {ad : List Addr} {s : Shared} {Q : Value → Shared → Prop} {v : AV} {u : Value} {tk : Nat} (hR : Rel G B K ad σ s.heap) (q : QC G B K ad s V Φ Q) (hv : V K ad v u) (h : Φ v σ) : Q u { s with toks := tk } :=
  q u { s with toks := tk } K ad v σ (KLe.refl _) (List.prefix_refl _) hR hv ⟨rfl, rfl, rfl⟩ h
theorem V_int {K : PH} {ad : List Addr} {i : Int} {t : Tok} : V K ad (.int i) (.int i t) := by simp only [V]; exact ⟨_, rfl⟩
theorem V_str {K : PH} {ad : List Addr} {x : Str} {t : Tok} : V K ad (.str x) (.str x t) := by simp only [V]; exact ⟨_, rfl⟩
theorem V_bool {K : PH} {ad : List Addr} {b : Bool} : V K ad (.bool b) (.bool b) := by simp only [V]
theorem V_none {K : PH} {ad : List Addr} : V K ad .none .none := by simp only [V]

theorem Op2.add_int {a b : Int} (h : Φ (.int (a + b)) σ) : Op2 G B A σ (binaryOp .Add) (.int a) (.int b) Φ Ψ := fun K ad s u w hR h1 h2 Q E q ex => by
  simp only [V] at h1 h2; obtain ⟨t, rfl⟩ := h1; obtain ⟨t', rfl⟩ := h2
  exact PyProof.Rows.add_int (qc_toks hR q V_int h)
theorem Op2.iadd_int {a b : Int} (h : Φ (.int (a + b)) σ) : Op2 G B A σ (inplaceOp .Add) (.int a) (.int b) Φ Ψ := fun K ad s u w hR h1 h2 Q E q ex => by
  simp only [V] at h1 h2; obtain ⟨t, rfl⟩ := h1; obtain ⟨t', rfl⟩ := h2
  exact PyProof.Rows.iadd_int (qc_toks hR q V_int h)
theorem Op2.sub_int {a b : Int} (h : Φ (.int (a - b)) σ) : Op2 G B A σ (binaryOp .Sub) (.int a) (.int b) Φ Ψ := fun K ad s u w hR h1 h2 Q E q ex => by
  simp only [V] at h1 h2; obtain ⟨t, rfl⟩ := h1; obtain ⟨t', rfl⟩ := h2
  exact PyProof.Rows.sub_int (qc_toks hR q V_int h)
theorem Op2.mul_int {a b : Int} (hm : IntMulOk a b) (h : Φ (.int (a * b)) σ) : Op2 G B A σ (binaryOp .Mult) (.int a) (.int b) Φ Ψ := fun K ad s u w hR h1 h2 Q E q ex => by
  simp only [V] at h1 h2; obtain ⟨t, rfl⟩ := h1; obtain ⟨t', rfl⟩ := h2
  exact PyProof.Rows.mul_int (qc_toks hR q V_int h) hm
theorem Op2.mod_int {a b : Int} (hb : b ≠ 0) (h : Φ (.int (a.fmod b)) σ) : Op2 G B A σ (binaryOp .Mod) (.int a) (.int b) Φ Ψ := fun K ad s u w hR h1 h2 Q E q ex => by
  simp only [V] at h1 h2; obtain ⟨t, rfl⟩ := h1; obtain ⟨t', rfl⟩ := h2
  exact PyProof.Rows.mod_int' hb (qc_toks hR q V_int h)
theorem Op2.div_int {a b : Int} (hb : b ≠ 0) (hp : Builtin.divisionGoesByPylong a b = false) (h : Φ (.int (a.fdiv b)) σ) : Op2 G B A σ (binaryOp .FloorDiv) (.int a) (.int b) Φ Ψ := fun K ad s u w hR h1 h2 Q E q ex => by
  simp only [V] at h1 h2; obtain ⟨t, rfl⟩ := h1; obtain ⟨t', rfl⟩ := h2
  exact PyProof.Rows.floordiv_int hb (qc_toks hR q V_int h) (.inl hp)
theorem Op2.rshift_int {a n : Int} (hn : 0 ≤ n) (h : Φ (.int (a.fdiv (2 ^ n.toNat))) σ) : Op2 G B A σ (binaryOp .RShift) (.int a) (.int n) Φ Ψ := fun K ad s u w hR h1 h2 Q E q ex => by
  simp only [V] at h1 h2; obtain ⟨t, rfl⟩ := h1; obtain ⟨t', rfl⟩ := h2
  exact PyProof.Rows.rshift_int hn (qc_toks hR q V_int h)
theorem Op2.eq_int {a b : Int} (h : Φ (.bool (a == b)) σ) : Op2 G B A σ (compareOp .Eq) (.int a) (.int b) Φ Ψ := fun K ad s u w hR h1 h2 Q E q ex => by
  simp only [V] at h1 h2; obtain ⟨t, rfl⟩ := h1; obtain ⟨t', rfl⟩ := h2
  exact PyProof.Rows.eq_int (qc_toks (tk := s.toks) hR q V_bool h)
theorem Op2.ne_int {a b : Int} (h : Φ (.bool (a != b)) σ) : Op2 G B A σ (compareOp .NotEq) (.int a) (.int b) Φ Ψ := fun K ad s u w hR h1 h2 Q E q ex => by
  simp only [V] at h1 h2; obtain ⟨t, rfl⟩ := h1; obtain ⟨t', rfl⟩ := h2
  exact PyProof.Rows.ne_int (qc_toks (tk := s.toks) hR q V_bool h)
theorem Op2.lt_int {a b : Int} (h : Φ (.bool (decide (a < b))) σ) : Op2 G B A σ (compareOp .Lt) (.int a) (.int b) Φ Ψ := fun K ad s u w hR h1 h2 Q E q ex => by
  simp only [V] at h1 h2; obtain ⟨t, rfl⟩ := h1; obtain ⟨t', rfl⟩ := h2
  exact PyProof.Rows.lt_int (qc_toks (tk := s.toks) hR q V_bool h)
theorem Op2.gt_int {a b : Int} (h : Φ (.bool (decide (b < a))) σ) : Op2 G B A σ (compareOp .Gt) (.int a) (.int b) Φ Ψ := fun K ad s u w hR h1 h2 Q E q ex => by
  simp only [V] at h1 h2; obtain ⟨t, rfl⟩ := h1; obtain ⟨t', rfl⟩ := h2
  exact PyProof.Rows.gt_int (qc_toks (tk := s.toks) hR q V_bool h)

-- texts
theorem Op2.add_str {x y : Str} (hz : x.length + y.length ≤ sizeLine) (h : Φ (.str (x ++ y)) σ) : Op2 G B A σ (binaryOp .Add) (.str x) (.str y) Φ Ψ := fun K ad s u w hR h1 h2 Q E q ex => by
  simp only [V] at h1 h2; obtain ⟨t, rfl⟩ := h1; obtain ⟨t', rfl⟩ := h2
  exact PyProof.Rows.add_str (fun _ tk => qc_toks hR q V_str h) hz
theorem Op2.eq_str {x y : Str} (h : Φ (.bool (x == y)) σ) : Op2 G B A σ (compareOp .Eq) (.str x) (.str y) Φ Ψ := fun K ad s u w hR h1 h2 Q E q ex => by
  simp only [V] at h1 h2; obtain ⟨t, rfl⟩ := h1; obtain ⟨t', rfl⟩ := h2
  exact PyProof.Rows.eq_str (qc_toks (tk := s.toks) hR q V_bool h)
theorem Op2.lt_str {x y : Str} (h : Φ (.bool (decide (x.cps.toList < y.cps.toList))) σ) : Op2 G B A σ (compareOp .Lt) (.str x) (.str y) Φ Ψ := fun K ad s u w hR h1 h2 Q E q ex => by
  simp only [V] at h1 h2; obtain ⟨t, rfl⟩ := h1; obtain ⟨t', rfl⟩ := h2
  exact PyProof.Rows.lt_str (qc_toks (tk := s.toks) hR q V_bool h)
theorem Op2.gt_str {x y : Str} (h : Φ (.bool (decide (y.cps.toList < x.cps.toList))) σ) : Op2 G B A σ (compareOp .Gt) (.str x) (.str y) Φ Ψ := fun K ad s u w hR h1 h2 Q E q ex => by
  simp only [V] at h1 h2; obtain ⟨t, rfl⟩ := h1; obtain ⟨t', rfl⟩ := h2
  exact PySem.P.gt_str (qc_toks (tk := s.toks) hR q V_bool h)
theorem Op2.in_str {x y : Str} (h : Φ (.bool !(Builtin.Str.occurrences x y 0 x.length 1).isEmpty) σ) : Op2 G B A σ (compareOp .In) (.str y) (.str x) Φ Ψ := fun K ad s u w hR h1 h2 Q E q ex => by
  simp only [V] at h1 h2; obtain ⟨t, rfl⟩ := h1; obtain ⟨t', rfl⟩ := h2
  exact PyProof.Rows.in_str (qc_toks (tk := s.toks) hR q V_bool h)

def AV.isNone : AV → Bool
  | .none => true
  | .raw w => w == .none
  | _ => false
theorem V_isNone {K : PH} {ad : List Addr} {v : AV} {u : Value} (hv : V K ad v u) : (u == .none) = v.isNone := by
  cases v <;> simp only [V] at hv <;> (try obtain ⟨_, rfl⟩ := hv) <;> (try subst hv) <;> (try rfl)
  all_goals (first | (obtain ⟨_, rfl, _⟩ := hv; rfl) | (obtain ⟨_, _, rfl, _⟩ := hv; rfl) | (obtain ⟨_, _, _, rfl, _⟩ := hv; rfl) | (obtain ⟨_, _, _, _, _, _, _, rfl, _⟩ := hv; rfl))
theorem Op2.is_none {v : AV} (h : Φ (.bool v.isNone) σ) : Op2 G B A σ (compareOp .Is) v .none Φ Ψ := fun K ad s u w hR h1 h2 Q E q ex => by
  have z := V_isNone h1
  simp only [V] at h2; subst h2
  refine PySem.is_none ?_
  rw [z]; exact qc_toks (tk := s.toks) hR q V_bool h
theorem Op2.isNot_none {v : AV} (h : Φ (.bool !v.isNone) σ) : Op2 G B A σ (compareOp .IsNot) v .none Φ Ψ := fun K ad s u w hR h1 h2 Q E q ex => by
  have z := V_isNone h1
  simp only [V] at h2; subst h2
  refine PySem.isNot_none ?_
  rw [z]; exact qc_toks (tk := s.toks) hR q V_bool h

-- truth
theorem qc_bool {K : PH} {ad : List Addr} {s : Shared} {Φ : Bool → St → Prop} {Q : Bool → Shared → Prop} {b : Bool} {tk : Nat} (hR : Rel G B K ad σ s.heap) (q : QC G B K ad s Same Φ Q) (h : Φ b σ) : Q b { s with toks := tk } :=
  q b { s with toks := tk } K ad b σ (KLe.refl _) (List.prefix_refl _) hR rfl ⟨rfl, rfl, rfl⟩ h
theorem Op1.true_bool {b : Bool} {Φ : Bool → St → Prop} (h : Φ b σ) : Op1 G B A σ truthy (.bool b) Same Φ Ψ := fun K ad s u hR h1 Q E q ex => by
  simp only [V] at h1; subst h1
  exact wpAny_truthy_bool (qc_bool (tk := s.toks) hR q h)
theorem Op1.true_none {Φ : Bool → St → Prop} (h : Φ false σ) : Op1 G B A σ truthy .none Same Φ Ψ := fun K ad s u hR h1 Q E q ex => by
  simp only [V] at h1; subst h1
  exact truthy_none (qc_bool (tk := s.toks) hR q h)
theorem Op1.true_str {x : Str} {Φ : Bool → St → Prop} (hz : x.length ≤ sizeLine) (h : Φ ((x.length : Int) != 0) σ) : Op1 G B A σ truthy (.str x) Same Φ Ψ := fun K ad s u hR h1 Q E q ex => by
  simp only [V] at h1; obtain ⟨t, rfl⟩ := h1
  exact PySem.P.truthy_str (by have : sizeLine = 16777216 := by decide
                               omega) (qc_bool hR q h)
theorem Op1.true_own {i : Nat} {xs : List AV} {Φ : Bool → St → Prop} (hi : σ.ow[i]? = some (.lst xs)) (hz : xs.length ≤ sizeLine) (h : Φ (!xs.isEmpty) σ) : Op1 G B A σ truthy (.own i) Same Φ Ψ := fun K ad s u hR h1 Q E q ex => by
  simp only [V] at h1; obtain ⟨a, rfl, ha⟩ := h1
  obtain ⟨us, n, k, hv⟩ := hR.own i a _ ha hi
  have hs : sizeLine = 16777216 := by decide
  have e : (us.toArray.size : Int) = xs.length := by rw [List.size_toArray, hv.length]
  refine wpAny_truthy_list ⟨_, k, rfl, n, rfl⟩ (by rw [e]; omega) ?_
  have e' : us.toArray.isEmpty = xs.isEmpty := by
    have := hv.length
    cases us <;> cases xs <;> simp_all
  rw [e']; exact qc_bool hR q h

-- items
abbrev Sub (G : Glob) (B : Base) (A : Around) (σ : St) (value slice : Expr) (o i : AV) (Φ : AV → St → Prop) (Ψ : XPost) : Prop := Op2 G B A σ (fun u w => subscriptTail value slice u w) o i Φ Ψ
theorem Ev.subscript {value slice : Expr} {pos : Pos} (h : Ev G B A σ value (fun o σ₁ => Ev G B A σ₁ slice (fun i σ₂ => Sub G B A σ₂ value slice o i Φ Ψ) Ψ) Ψ) : Ev G B A σ (.Subscript value slice pos) Φ Ψ := fun K ad s hR Q E q ex =>
  Subscript_ (h K ad s hR _ _ (fun u s₁ K₁ ad₁ o σ₁ g1 g2 g3 g4 g5 g6 => g6 K₁ ad₁ s₁ g3 _ _ (fun w s₂ K₂ ad₂ i σ₂ f1 f2 f3 f4 f5 f6 =>
    f6 K₂ ad₂ s₂ u w f3 (g4.mono f1 f2) f4 Q E (QC.after q (g1.trans f1) (g2.trans f2) (g5.trans f5)) (EC.after ex (g1.trans f1) (g2.trans f2) (g5.trans f5))) (EC.after ex g1 g2 g5)) ex)

theorem tail_any {value slice : Expr} {o i : Value} {T id : String} {s : Shared} {Q : Value → Shared → Prop} {E : Value → Shared → Prop} (hT : s.TypeIs o T) (hl : typeLookup (.type T) "__getitem__" = pure (some (.builtin id)))
    (h : wpAny (model G.prog G.w) A (getItem o i) Q E s) (hs : ∀ (P : Value → Shared → Prop) (E' : Value → Shared → Prop) (s' : Shared), wpAny (model G.prog G.w) A (getItem o i) P E' s' → wpAny (model G.prog G.w) A (subscripted slice false o i) P E' s') :
    wpAny (model G.prog G.w) A (subscriptTail value slice o i) Q E s := by
  unfold subscriptTail
  refine wpAny_bind ?_
  rw [getitemInPython_of_ne hT.not_modules]
  refine wpAny_bind (wpAny_specialOf hT hl ?_)
  refine wpAny_pure (wpAny_bind (hs _ _ _ ?_))
  exact wpAny_mono h (fun r s₃ h₃ => wpAny_bind (wpAny_letTemporaryGo (wpAny_pure h₃))) fun _ _ x => x
theorem sub_ok {slice : Expr} {o i : Value} (P : Value → Shared → Prop) (E' : Value → Shared → Prop) (s' : Shared) (h : wpAny (model G.prog G.w) A (getItem o i) P E' s') : wpAny (model G.prog G.w) A (subscripted slice false o i) P E' s' := by
  unfold subscripted
  split
  · exact wpAny_operating h
  · rename_i e; cases e
  · exact wpAny_operating h

theorem seqIndex_ok {k : Int} {n : Nat} (h0 : 0 ≤ k) (hk : k.toNat < n) : seqIndex? k n = some k.toNat := by
  unfold seqIndex?
  have a : ¬ k < 0 := by omega
  have b : k < (n : Int) := by omega
  simp only [a, if_false, h0, b, decide_true, Bool.and_self, if_true]
theorem Sub.lst {value slice : Expr} {xs : List AV} {k : Int} {x : AV} (h0 : 0 ≤ k) (hx : xs[k.toNat]? = some x) (hz : xs.length ≤ sizeLine) (h : Φ x σ) : Sub G B A σ value slice (.lst xs) (.int k) Φ Ψ := fun K ad s u w hR h1 h2 Q E q ex => by
  simp only [V] at h1 h2; obtain ⟨a, us, n, rfl, ha, hv⟩ := h1; obtain ⟨t', rfl⟩ := h2
  obtain ⟨y, hy, hvy⟩ := hv.get hx
  have hs : sizeLine = 16777216 := by decide
  have hk : k.toNat < xs.length := (List.getElem?_eq_some_iff.mp hx).1
  have hl : s.heap.IsList a us.toArray := ⟨_, hR.keep _ _ ha, rfl, n, rfl⟩
  exact tail_any hl.typeIs slot_list_getitem.lookup (wpAny_getItem_list hl h0 (by omega) (by simpa using hy) (qc_toks (tk := s.toks) hR q hvy h)) sub_ok
theorem Sub.own {value slice : Expr} {i : Nat} {xs : List AV} {k : Int} {x : AV} (hi : σ.ow[i]? = some (.lst xs)) (h0 : 0 ≤ k) (hx : xs[k.toNat]? = some x) (hz : xs.length ≤ sizeLine) (h : Φ x σ) : Sub G B A σ value slice (.own i) (.int k) Φ Ψ := fun K ad s u w hR h1 h2 Q E q ex => by
  simp only [V] at h1 h2; obtain ⟨a, rfl, ha⟩ := h1; obtain ⟨t', rfl⟩ := h2
  obtain ⟨us, n, hg, hv⟩ := hR.own i a _ ha hi
  obtain ⟨y, hy, hvy⟩ := hv.get hx
  have hs : sizeLine = 16777216 := by decide
  have hk : k.toNat < xs.length := (List.getElem?_eq_some_iff.mp hx).1
  have hl : s.heap.IsList a us.toArray := ⟨_, hg, rfl, n, rfl⟩
  exact tail_any hl.typeIs slot_list_getitem.lookup (wpAny_getItem_list hl h0 (by omega) (by simpa using hy) (qc_toks (tk := s.toks) hR q hvy h)) sub_ok
theorem Sub.tup {value slice : Expr} {xs : List AV} {k : Int} {x : AV} (h0 : 0 ≤ k) (hx : xs[k.toNat]? = some x) (hz : xs.length ≤ sizeLine) (h : Φ x σ) : Sub G B A σ value slice (.tup xs) (.int k) Φ Ψ := fun K ad s u w hR h1 h2 Q E q ex => by
  simp only [V] at h1 h2; obtain ⟨a, us, rfl, ha, hv⟩ := h1; obtain ⟨t', rfl⟩ := h2
  obtain ⟨y, hy, hvy⟩ := hv.get hx
  have hs : sizeLine = 16777216 := by decide
  have hk : k.toNat < xs.length := (List.getElem?_eq_some_iff.mp hx).1
  have ht : IsTup s.heap a us.toArray := ⟨_, hR.keep _ _ ha, rfl, 0, rfl⟩
  refine tail_any ht.typeIs PyProof.Rows.slot_tuple_getitem.lookup (getItem_tuple (j := k.toNat) ht (by omega) (by omega) ?_ (by simpa using hy) (qc_toks (tk := s.toks) hR q hvy h)) sub_ok
  rw [List.size_toArray, hv.length]
  exact seqIndex_ok h0 hk
theorem Sub.str {value slice : Expr} {x : Str} {k : Int} {c : Nat} (h0 : 0 ≤ k) (hx : x.cps[k.toNat]? = some c) (hz : x.length ≤ sizeLine) (h : Φ (.str ⟨#[c]⟩) σ) : Sub G B A σ value slice (.str x) (.int k) Φ Ψ := fun K ad s u w hR h1 h2 Q E q ex => by
  simp only [V] at h1 h2; obtain ⟨t, rfl⟩ := h1; obtain ⟨t', rfl⟩ := h2
  have hs : sizeLine = 16777216 := by decide
  have hk : k.toNat < x.cps.size := (Array.getElem?_eq_some_iff.mp hx).1
  have hz' : x.cps.size ≤ sizeLine := hz
  refine tail_any (typeIs_str _ _ _) PyProof.Rows.slot_str_getitem.lookup (PyProof.Rows.getItem_str (c := c) ?_ ?_ (qc_toks hR q V_str h)) sub_ok
  · have a : ¬ k < -(2 ^ 63 : Int) := by omega
    have b : ¬ k ≥ 2 ^ 63 := by omega
    rw [decide_eq_false a, decide_eq_false b]; rfl
  · rw [seqIndex_ok (n := x.length) h0 hk]; exact hx
end
end Mine
end

section
open PySem PySem.W PyProof.Rows PySem.Calls
set_option autoImplicit false
set_option linter.unusedVariables false
set_option maxRecDepth 100000
namespace Mine

section
variable {G : Glob} {B : Base} {A : Around} {σ : St} {Ψ : XPost} {Φ : AV → St → Prop}

theorem sz16 : sizeLine = 16777216 := by decide
theorem Vs1 {K : PH} {ad : List Addr} {x : AV} {us : List Value} (h : Vs K ad [x] us) : ∃ u, us = [u] ∧ V K ad x u := by
  simp only [Vs] at h; obtain ⟨u, r, rfl, h1, rfl⟩ := h; exact ⟨u, rfl, h1⟩
theorem Vs2 {K : PH} {ad : List Addr} {x y : AV} {us : List Value} (h : Vs K ad [x, y] us) : ∃ u w, us = [u, w] ∧ V K ad x u ∧ V K ad y w := by
  simp only [Vs] at h; obtain ⟨u, r, rfl, h1, w, r', rfl, h2, rfl⟩ := h; exact ⟨u, w, rfl, h1, h2⟩
theorem Vs.takeL {K : PH} {ad : List Addr} : ∀ {ys zs : List AV} {vs : List Value}, Vs K ad (ys ++ zs) vs → Vs K ad ys (vs.take ys.length) := by
  intro ys
  induction ys with
  | nil => intro zs vs h; simp [Vs]
  | cons y ys ih =>
    intro zs vs h
    simp only [List.cons_append, Vs] at h
    obtain ⟨u, r, rfl, h1, h2⟩ := h
    simp only [List.length_cons, List.take_succ_cons]
    exact Vs.cons h1 (ih h2)
theorem Vs.dropN {K : PH} {ad : List Addr} : ∀ {n : Nat} {xs : List AV} {vs : List Value}, Vs K ad xs vs → Vs K ad (xs.drop n) (vs.drop n)
  | 0, _, _, h => h
  | n + 1, [], _, h => by simp only [Vs] at h; subst h; simp [Vs]
  | n + 1, x :: xs, _, h => by
    simp only [Vs] at h
    obtain ⟨u, r, rfl, h1, h2⟩ := h
    simpa using Vs.dropN (n := n) h2
theorem Vs.takeN {K : PH} {ad : List Addr} : ∀ {n : Nat} {xs : List AV} {vs : List Value}, Vs K ad xs vs → Vs K ad (xs.take n) (vs.take n)
  | 0, _, _, h => by simp [Vs]
  | n + 1, [], _, h => by simp only [Vs] at h; subst h; simp [Vs]
  | n + 1, x :: xs, _, h => by
    simp only [Vs] at h
    obtain ⟨u, r, rfl, h1, h2⟩ := h
    simpa using Vs.cons h1 (Vs.takeN (n := n) h2)
theorem Vs.rev {K : PH} {ad : List Addr} : ∀ {xs : List AV} {vs : List Value}, Vs K ad xs vs → Vs K ad xs.reverse vs.reverse
  | [], _, h => by simp only [Vs] at h; subst h; simp [Vs]
  | x :: xs, _, h => by
    simp only [Vs] at h
    obtain ⟨u, r, rfl, h1, h2⟩ := h
    simpa using Vs.append (Vs.rev h2) (Vs.one h1)
theorem Vs.setAt {K : PH} {ad : List Addr} : ∀ {n : Nat} {xs : List AV} {vs : List Value} {x : AV} {u : Value}, Vs K ad xs vs → V K ad x u → Vs K ad (xs.set n x) (vs.set n u)
  | _, [], _, _, _, h, _ => by simp only [Vs] at h; subst h; simp [Vs]
  | 0, x :: xs, _, _, _, h, hx => by
    simp only [Vs] at h
    obtain ⟨u, r, rfl, h1, h2⟩ := h
    simpa using Vs.cons hx h2
  | n + 1, x :: xs, _, _, _, h, hx => by
    simp only [Vs] at h
    obtain ⟨u, r, rfl, h1, h2⟩ := h
    simpa using Vs.cons h1 (Vs.setAt (n := n) h2 hx)
theorem Vs.eraseAt {K : PH} {ad : List Addr} : ∀ {n : Nat} {xs : List AV} {vs : List Value}, Vs K ad xs vs → Vs K ad (xs.eraseIdx n) (vs.eraseIdx n)
  | _, [], _, h => by simp only [Vs] at h; subst h; simp [Vs]
  | 0, x :: xs, _, h => by
    simp only [Vs] at h
    obtain ⟨u, r, rfl, h1, h2⟩ := h
    simpa using h2
  | n + 1, x :: xs, _, h => by
    simp only [Vs] at h
    obtain ⟨u, r, rfl, h1, h2⟩ := h
    simpa using Vs.cons h1 (Vs.eraseAt (n := n) h2)

/-- own.append(x) -/
theorem Op.append {i : Nat} {xs : List AV} {x : AV} (hi : σ.ow[i]? = some (.lst xs)) (hz : xs.length ≤ sizeLine) (h : Φ .none { σ with ow := σ.ow.set i (.lst (xs ++ [x])) }) :
    Op G B A σ [.own i, x] (fun us => PySem.call (.builtin "list.append") us) V Φ Ψ := fun K ad s us hR hv Q E q ex => by
  obtain ⟨u, w, rfl, h1, h2⟩ := Vs2 hv
  simp only [V] at h1; obtain ⟨a, rfl, ha⟩ := h1
  obtain ⟨us, n, hg, hx⟩ := hR.own i a _ ha hi
  refine lst_append hg (by rw [hx.length]; exact hz) fun h' hg' hs => ?_
  exact q .none { s with heap := h' } K ad .none _ (KLe.refl _) (List.prefix_refl _) (hR.setOwn (w := .lst (xs ++ [x])) ha hs.extBut hg' (fun _ _ _ vs z => by cases z) ⟨us ++ [w], n + 1, hg', hx.append (Vs.one h2)⟩) V_none ⟨rfl, rfl, rfl⟩ h

/-- own.pop() -/
theorem Op.pop {i : Nat} {xs : List AV} {x : AV} (hi : σ.ow[i]? = some (.lst (xs ++ [x]))) (hz : xs.length < sizeLine) (h : Φ x { σ with ow := σ.ow.set i (.lst xs) }) :
    Op G B A σ [.own i] (fun us => PySem.call (.builtin "list.pop") us) V Φ Ψ := fun K ad s us hR hv Q E q ex => by
  obtain ⟨u, rfl, h1⟩ := Vs1 hv
  simp only [V] at h1; obtain ⟨a, rfl, ha⟩ := h1
  obtain ⟨us, n, hg, hx⟩ := hR.own i a _ ha hi
  have hl := hx.length
  rw [List.length_append, List.length_singleton] at hl
  obtain ⟨w, hw, hvw⟩ := hx.get (i := xs.length) (x := x) (by simp)
  refine Copied.pop_at hg (y := w) (by rw [List.size_toArray, hl, Nat.add_sub_cancel]; simpa using hw) (fun h' hs hg' => ?_) (by rw [List.size_toArray, hl]; exact hz)
  have hp : us.toArray.pop = (us.take xs.length).toArray := by
    rw [List.pop_toArray, List.dropLast_eq_take, hl, Nat.add_sub_cancel]
  rw [hp] at hg'
  exact q w { s with heap := h' } K ad x _ (KLe.refl _) (List.prefix_refl _) (hR.setOwn (w := .lst xs) ha hs.extBut hg' (fun _ _ _ vs z => by cases z) ⟨_, n + 1, hg', hx.takeL⟩) hvw ⟨rfl, rfl, rfl⟩ h

/-- own[k] = v, a step -/
theorem set_own {i : Nat} {xs : List AV} {k : Int} {x : AV} (hi : σ.ow[i]? = some (.lst xs)) (h0 : 0 ≤ k) (hk : k.toNat < xs.length) (hz : xs.length ≤ sizeLine) {Φ : Unit → St → Prop} (h : Φ () { σ with ow := σ.ow.set i (.lst (xs.set k.toNat x)) })
    {K : PH} {ad : List Addr} {s : Shared} {o iv v : Value} {Q : Unit → Shared → Prop} {E : Value → Shared → Prop} (hR : Rel G B K ad σ s.heap) (ho : V K ad (.own i) o) (hiv : V K ad (.int k) iv) (hv : V K ad x v) (q : QC G B K ad s (fun _ _ (_ : Unit) (_ : Unit) => True) Φ Q) :
    wpAny (model G.prog G.w) A (setItem o iv v) Q E s := by
  simp only [V] at ho hiv; obtain ⟨l, rfl, ha⟩ := ho; obtain ⟨t, rfl⟩ := hiv
  obtain ⟨us, n, hg, hx⟩ := hR.own i l _ ha hi
  have hl : s.heap.IsList l us.toArray := ⟨_, hg, rfl, n, rfl⟩
  have hul := hx.length
  have hs16 := sz16
  have hfit : k < 2 ^ 63 := by omega
  unfold setItem
  try with_reducible refine wpAny_holding ?_
  first | refine wpAny_bind (wpAny_pure ?_) | skip
  refine wpAny_bind (wpAny_sequenceKey hl.typeIs (by decide) ?_)
  refine wpAny_bind (wpAny_callSpecial?_slot (name := Str.ofString "__setitem__") hl.typeIs slot_list_setitem
    (wpAny_call_entry slot_list_setitem hl.typeIs entry_list_setitem ?_ (args_list_setitem _ _ _)))
  show wpAny _ _ (Builtin.List.listSubscript? (.int k t) >>= _) _ _ s
  refine wpAny_bind (wpAny_listSubscript_int (fitsIndex_of h0 hfit) ?_)
  clear hfit
  obtain ⟨j, rfl⟩ := Int.eq_ofNat_of_zero_le h0
  have hj : j < us.toArray.size := by rw [List.size_toArray, hul]; exact hk
  have hx' : us.toArray[j]? = some us.toArray[j] := Array.getElem?_eq_getElem hj
  show wpAny _ _ ((seqItemAt l j >>= fun r => pure (r.map (j, ·))) >>= _) _ _ s
  refine wpAny_bind (wpAny_bind (wpAny_seqItemAt hg rfl (wpAny_pure ?_)))
  rw [hx']
  show wpAny _ _ (setSeqItemAt l j v >>= _) _ _ s
  have hg' : (s.heap.update l (Obj.mapSeq (·.setIfInBounds j v))).get? l = some (lstOf (us.set j v) n) := by
    rw [Heap.get?_update_self _ hg (by simp [Obj.mapSeq, Obj.isFreed])]
    simp [Obj.mapSeq]
  have fin : Q () { s with heap := s.heap.update l (Obj.mapSeq (·.setIfInBounds j v)) } :=
    q () { s with heap := s.heap.update l (Obj.mapSeq (·.setIfInBounds j v)) } K ad () _ (KLe.refl _) (List.prefix_refl _)
      (hR.setOwn (w := .lst (xs.set j x)) ha (Heap.SameBut.update ..).extBut hg' (fun _ _ _ vs z => by cases z) ⟨_, n, hg', hx.setAt hv⟩) trivial ⟨rfl, rfl, rfl⟩ h
  refine wpAny_bind (wpAny_setSeqItemAt hg rfl ?_)
  first
    | exact wpAny_bind (wpAny_pure (wpAny_pure ⟨.none, rfl, wpAny_pure fin⟩))
    | exact wpAny_pure ⟨.none, rfl, wpAny_pure fin⟩

/-- o[i] = value -/
theorem Ex1.setitem {Φ : AF → St → Prop} {o i value : Expr} {pos' pos : Pos}
    (h : Ev G B A σ value (fun v σ₁ => Ev G B A σ₁ o (fun ov σ₂ => Ev G B A σ₂ i (fun iv σ₃ => ∃ j xs k, ov = .own j ∧ iv = .int k ∧ σ₃.ow[j]? = some (.lst xs) ∧ 0 ≤ k ∧ k.toNat < xs.length ∧ xs.length ≤ sizeLine ∧ Φ .next { σ₃ with ow := σ₃.ow.set j (.lst (xs.set k.toNat v)) }) Ψ) Ψ) Ψ)
    (hs : swapsWith value (some (.Subscript o i pos')) pos.line B.env = pure false := by rfl) : Ex1 G B A σ (.Assign [.Subscript o i pos'] value pos) Φ Ψ := fun K ad s hR Q E q ex => by
  refine wpAny_Assign_Subscript (h K ad s hR _ _ (fun v s₁ K₁ ad₁ x σ₁ g1 g2 g3 g4 g5 g6 => g6 K₁ ad₁ s₁ g3 _ _ (fun ov s₂ K₂ ad₂ y σ₂ f1 f2 f3 f4 f5 f6 => f6 K₂ ad₂ s₂ f3 _ _ (fun iv s₃ K₃ ad₃ z σ₃ k1 k2 k3 k4 k5 k6 => ?_) (EC.after (EC.after ex g1 g2 g5) f1 f2 f5)) (EC.after ex g1 g2 g5)) ex) hs
  obtain ⟨j, xs, k, rfl, rfl, a1, a2, a3, a4, a5⟩ := k6
  refine set_own (Φ := fun _ σ' => Φ .next σ') a1 a2 a3 a4 a5 k3 (f4.mono k1 k2) k4 ((g4.mono f1 f2).mono k1 k2) (fun _ s₄ K₄ ad₄ _ σ₄ e1 e2 e3 _ e5 e6 => ?_)
  exact q _ s₄ K₄ ad₄ .next σ₄ (g1.trans (f1.trans (k1.trans e1))) (g2.trans (f2.trans (k2.trans e2))) e3 rfl (g5.trans (f5.trans (k5.trans e5))) e6

/-- a built-in function or type is called by its name -/
theorem Ev.callB {f : Str} {fp pos : Pos} {e₀ : Expr} {es : List Expr} {c : Value} (GO : G.Ok) (hE : EnvOk B.env) (hl : B.env.kindOf f = some .globalImplicit) (hn : G.mg f = Option.none) (hv : G.mb f = some c) (hc : (∃ id, c = .builtin id) ∨ ∃ T, c = .type T)
    (h : Evs G B A σ pos (e₀ :: es) (fun xs σ₁ => Op G B A σ₁ xs (fun us => PySem.call c us) V Φ Ψ) Ψ)
    (hs : starEach (e₀ :: es) B.env = (false, eval e₀ B.env) :: starEach es B.env := by rfl)
    (hplain : (backTo pos (starEach es B.env)).any (·.1) = false := by rfl)
    (hd : (f == ("__debug__" : Str)) = false := by decide) : Ev G B A σ (.Call (.Name f fp) (e₀ :: es) [] pos) Φ Ψ := fun K ad s hR Q E q ex => by
  refine Call_Name (trees := backTo pos (starEach (e₀ :: es) B.env)) rfl ?_
  refine Name_function_global hE.kind hl (loadGlobal_builtin (by rw [hE.glob]; exact GO.g.keeps hR.H) hn (by rw [hE.blt]; exact GO.b.keeps hR.H) hv ?_) hd
  have main := h K ad s hR (fun us s₁ => wpAny (model G.prog G.w) A (PySem.call c us []) Q E s₁) E (fun us s₁ K₁ ad₁ xs σ₁ g1 g2 g3 g4 g5 g6 => g6 K₁ ad₁ s₁ us g3 g4 Q E (QC.after q g1 g2 g5) (EC.after ex g1 g2 g5)) ex
  rcases hc with ⟨id, rfl⟩ | ⟨T, rfl⟩
  · exact callWith_builtin1 main hs hplain
  · exact PyProof.Rows.callWith_type1 main hs hplain

theorem Op.len_own {i : Nat} {xs : List AV} (hi : σ.ow[i]? = some (.lst xs)) (hz : xs.length ≤ sizeLine) (h : Φ (.int xs.length) σ) : Op G B A σ [.own i] (fun us => PySem.call (.builtin "len") us) V Φ Ψ := fun K ad s us hR hv Q E q ex => by
  obtain ⟨u, rfl, h1⟩ := Vs1 hv
  simp only [V] at h1; obtain ⟨a, rfl, ha⟩ := h1
  obtain ⟨us, n, hg, hx⟩ := hR.own i a _ ha hi
  have e : (us.toArray.size : Int) = xs.length := by rw [List.size_toArray, hx.length]
  have hs16 := sz16
  refine PyProof.Rows.len_list ⟨_, hg, rfl, n, rfl⟩ (by rw [e]; omega) ?_
  rw [e]
  exact qc_toks hR q V_int h

theorem Rel.beyond {K : PH} {ad : List Addr} {h : Heap} (R : Rel G B K ad σ h) {a : Addr} (ha : h.objs.size ≤ a) : K a = Option.none ∧ a ∉ G.T ∧ B.h₀.get? a = Option.none ∧ a ∉ privs B ad := by
  have nl : ∀ o, h.get? a ≠ some o := fun o e => Nat.lt_irrefl _ (Nat.lt_of_lt_of_le (Heap.lt_size e) ha)
  refine ⟨?_, fun q => ?_, ?_, fun q => ?_⟩
  · cases q : K a with
    | none => rfl
    | some o => exact absurd (R.keep _ _ q) (nl o)
  · obtain ⟨t, ht, e⟩ := List.mem_map.mp q
    obtain ⟨ps, e', _⟩ := R.tabs t ht
    rw [e] at e'; exact nl _ e'
  · cases q : B.h₀.get? a with
    | none => rfl
    | some o =>
      exfalso
      by_cases hx : a ∈ B.po
      · obtain ⟨o', e⟩ := R.live _ (List.mem_cons_of_mem _ (List.mem_append_right _ (R.pon _ hx)))
        exact nl _ e
      · by_cases ht : a ∈ G.T
        · obtain ⟨t, ht, e⟩ := List.mem_map.mp ht
          obtain ⟨ps, e', _⟩ := R.tabs t ht
          rw [e] at e'; exact nl _ e'
        · obtain ⟨o', e, _⟩ := R.step.some q hx ht
          exact nl _ e
  · obtain ⟨o, e⟩ := R.live _ q; exact nl _ e
/-- a kept object made somewhere beyond the old heap -/
theorem Rel.keptAt {K : PH} {ad : List Addr} {h h' : Heap} (R : Rel G B K ad σ h) {a : Addr} {o : Obj} (hk : ∀ b o, h.get? b = some o → h'.get? b = some o) (ha : h.objs.size ≤ a) (hg : h'.get? a = some o) : Rel G B (put K a o) ad σ h' ∧ KLe K (put K a o) := by
  obtain ⟨h1, h2, h3, h4⟩ := R.beyond ha
  exact ⟨(R.keeps hk).grow hg h4 h2 h3 h1, KLe.put h1⟩
/-- an own object made somewhere beyond the old heap -/
theorem Rel.ownAt {K : PH} {ad : List Addr} {h h' : Heap} (R : Rel G B K ad σ h) {a : Addr} {o : Obj} {w : OW} (hk : ∀ b o, h.get? b = some o → h'.get? b = some o) (ha : h.objs.size ≤ a) (hg : h'.get? a = some o) (hw : OwIs K (ad ++ [a]) h' a w) : Rel G B K (ad ++ [a]) { σ with ow := σ.ow ++ [w] } h' := by
  obtain ⟨h1, h2, h3, h4⟩ := R.beyond ha
  have P := R.keeps hk
  refine ⟨P.base, P.keep, P.noT, P.tabs, P.step, P.K0, P.new, P.ff, fun b hb => ?_, fun b hb => ?_, ?_, P.lnew, fun b hb => ?_, P.cnew, ?_, fun x v e => ?_, by simp [P.ownl], fun i b ys e1 e2 => ?_, fun b hb => List.mem_append_left _ (P.pon b hb), P.iob, P.fok⟩
  · unfold privs at hb
    rw [← List.append_assoc] at hb
    rcases List.mem_cons.mp hb with q | q
    · exact q ▸ P.priv _ (.head _)
    · rcases List.mem_append.mp q with q | q
      · exact P.priv _ (.tail _ q)
      · rw [List.mem_singleton.mp q]; exact ⟨h1, h2⟩
  · unfold privs at hb
    rw [← List.append_assoc] at hb
    rcases List.mem_cons.mp hb with q | q
    · exact q ▸ P.live _ (.head _)
    · rcases List.mem_append.mp q with q | q
      · exact P.live _ (.tail _ q)
      · rw [List.mem_singleton.mp q]; exact ⟨_, hg⟩
  · have nd := P.nodup
    unfold privs at nd h4 ⊢
    rw [← List.append_assoc, ← List.cons_append]
    exact List.nodup_append.mpr ⟨nd, by simp, fun x hx b hb q => h4 (by rw [List.mem_singleton.mp hb] at q; exact q ▸ hx)⟩
  · rcases List.mem_append.mp hb with q | q
    · exact P.anew b q
    · rw [List.mem_singleton.mp q]; exact .inr h3
  · obtain ⟨m, hm, r⟩ := P.ns
    exact ⟨m, hm, fun x v e => let ⟨u, h1, h2⟩ := r x v e; ⟨u, h1, h2.mono (KLe.refl _) (List.prefix_append _ _)⟩⟩
  · obtain ⟨c, u, h1, h2, h3⟩ := P.cells x v e
    exact ⟨c, u, h1, h2, h3.mono (KLe.refl _) (List.prefix_append _ _)⟩
  · dsimp only at e2
    by_cases hi : i < ad.length
    · rw [List.getElem?_append_left hi] at e1
      rw [List.getElem?_append_left (R.ownl ▸ hi)] at e2
      exact (P.own i b ys e1 e2).mono (KLe.refl _) (List.prefix_append _ _) fun o e => e
    · have hl := (List.getElem?_eq_some_iff.mp e1).1
      simp only [List.length_append, List.length_singleton] at hl
      have : i = ad.length := by omega
      subst this
      have ea : b = a := by
        have := e1; rw [List.getElem?_append_right (Nat.le_refl _)] at this; simp at this; exact this.symm
      have ex : ys = w := by
        rw [R.ownl] at e2; rw [List.getElem?_append_right (Nat.le_refl _)] at e2; simp at e2; exact e2.symm
      subst ea; subst ex
      exact hw

/-- list(x) of a kept list: a list of one's own -/
theorem Op.list_lst {xs : List AV} (hz : xs.length ≤ sizeLine) (h : Φ (.own σ.ow.length) { σ with ow := σ.ow ++ [.lst xs] }) : Op G B A σ [.lst xs] (fun us => PySem.call (.type "list") us) V Φ Ψ := fun K ad s us hR hv Q E q ex => by
  obtain ⟨u, rfl, h1⟩ := Vs1 hv
  simp only [V] at h1; obtain ⟨a, us, n, rfl, ha, hx⟩ := h1
  refine call_list_seq a (.inl rfl) (hR.keep _ _ ha) rfl rfl (fun h' c' hk hg => ?_) (by rw [List.size_toArray, hx.length]; exact hz)
  exact q _ { s with heap := h' } K (ad ++ [s.heap.objs.size]) (.own σ.ow.length) _ (KLe.refl _) (List.prefix_append _ _) (hR.ownAt (w := .lst xs) hk (Nat.le_refl _) hg ⟨us, c', hg, hx.mono (KLe.refl _) (List.prefix_append _ _)⟩) (by simp only [V]; exact ⟨_, rfl, by rw [← hR.ownl]; simp⟩) ⟨rfl, rfl, rfl⟩ h

theorem strsAre {K : PH} {ad : List Addr} : ∀ {ys : List Str} {us : List Value}, Vs K ad (ys.map .str) us → StrsAre us ys
  | [], _, h => by simp only [List.map_nil, Vs] at h; subst h; exact .nil
  | y :: ys, _, h => by
    simp only [List.map_cons, Vs, V] at h
    obtain ⟨u, r, rfl, ⟨t, rfl⟩, h2⟩ := h
    exact .cons y t (strsAre h2)
theorem ofStrsAre {K : PH} {ad : List Addr} : ∀ {ys : List Str} {us : List Value}, StrsAre us ys → Vs K ad (ys.map .str) us
  | _, _, .nil => by simp [Vs]
  | _, _, .cons x t h => by
    simp only [List.map_cons]
    exact Vs.cons (by simp only [V]; exact ⟨t, rfl⟩) (ofStrsAre h)

/-- sep.join(list) -/
theorem Op.join_lst {x : Str} {ys : List Str} (hok : (ys.map (·.length)).sum + ys.length * x.length ≤ 16777216) (h : Φ (.str (Txt.join x ys)) σ) : Op G B A σ [.str x, .lst (ys.map .str)] (fun us => PySem.call (.builtin "str.join") us) V Φ Ψ := fun K ad s us hR hv Q E q ex => by
  obtain ⟨u, w, rfl, h1, h2⟩ := Vs2 hv
  simp only [V] at h1 h2; obtain ⟨t, rfl⟩ := h1; obtain ⟨a, us, n, rfl, ha, hx⟩ := h2
  exact PyProof.Rows.join_list (items := us.toArray) ⟨_, hR.keep _ _ ha, rfl, n, rfl⟩ (strsAre hx) hok fun t' k => qc_toks hR q V_str h
theorem Op.join_own {x : Str} {i : Nat} {ys : List Str} (hi : σ.ow[i]? = some (.lst (ys.map .str))) (hok : (ys.map (·.length)).sum + ys.length * x.length ≤ 16777216) (h : Φ (.str (Txt.join x ys)) σ) : Op G B A σ [.str x, .own i] (fun us => PySem.call (.builtin "str.join") us) V Φ Ψ := fun K ad s us hR hv Q E q ex => by
  obtain ⟨u, w, rfl, h1, h2⟩ := Vs2 hv
  simp only [V] at h1 h2; obtain ⟨t, rfl⟩ := h1; obtain ⟨a, rfl, ha⟩ := h2
  obtain ⟨us, n, hg, hx⟩ := hR.own i a _ ha hi
  exact PyProof.Rows.join_list (items := us.toArray) ⟨_, hg, rfl, n, rfl⟩ (strsAre hx) hok fun t' k => qc_toks hR q V_str h

/-- sorted(list of texts) -/
theorem Op.sorted {ys : List Str} (h64 : ys.length < 64) (h : ∀ zs : List Str, zs.Perm ys → sortedS zs = true → Φ (.lst (zs.map .str)) σ) : Op G B A σ [.lst (ys.map .str)] (fun us => PySem.call (.builtin "sorted") us) V Φ Ψ := fun K ad s us hR hv Q E q ex => by
  obtain ⟨u, rfl, h1⟩ := Vs1 hv
  simp only [V] at h1; obtain ⟨a, us, n, rfl, ha, hx⟩ := h1
  refine sorted_strs (vs := us) ⟨_, hR.keep _ _ ha, rfl, n, rfl⟩ (strsAre hx) (by rw [hx.length, List.length_map]; exact h64) fun out zs h1 h2 h3 => ?_
  obtain ⟨e, he⟩ := sortedAll_at s.heap us out
  obtain ⟨r1, r2⟩ := hR.keptAt (fun _ _ => sortedAll_old) (Nat.le_succ _) he
  refine q _ { s with heap := sortedAll s.heap us out } _ ad (.lst (zs.map .str)) σ r2 (List.prefix_refl _) r1 ?_ ⟨rfl, rfl, rfl⟩ (h zs h2 h3)
  simp only [V]
  exact ⟨_, out.toList, e, rfl, by rw [put_self], ofStrsAre h1⟩
end
end Mine
end

section
open PySem PySem.W PyProof.Rows PySem.Calls PySem.SeqAt PySem.MeetsSeq
open AutoSeq1 (wpAny_loadPart')
set_option autoImplicit false
set_option linter.unusedVariables false
set_option maxRecDepth 100000
namespace Mine

mutual
/-- data as a told value -/
def emb : PyData → AV
  | .none => .none
  | .bool b => .bool b
  | .int i => .int i
  | .str s => .str s
  | .list xs => .lst (embs xs)
  | .tuple xs => .tup (embs xs)
  | .dict _ => .none
def embs : List PyData → List AV
  | [] => []
  | x :: xs => emb x :: embs xs
end
theorem embs_map : ∀ xs : List PyData, embs xs = xs.map emb
  | [] => by simp [embs]
  | x :: xs => by simp [embs, embs_map xs]

mutual
theorem reads_of {K : PH} {ad : List Addr} {h : Heap} (hk : ∀ b o, K b = some o → h.get? b = some o) : ∀ (d : PyData) (u : Value), d.canLay0 = true → V K ad (emb d) u → ∃ as, Reads h u d as
  | .none, u, _, hv => by simp only [emb, V] at hv; subst hv; exact ⟨_, .none⟩
  | .bool b, u, _, hv => by simp only [emb, V] at hv; subst hv; exact ⟨_, .bool b⟩
  | .int i, u, _, hv => by simp only [emb, V] at hv; obtain ⟨t, rfl⟩ := hv; exact ⟨_, .int i t⟩
  | .str x, u, _, hv => by simp only [emb, V] at hv; obtain ⟨t, rfl⟩ := hv; exact ⟨_, .str x t⟩
  | .list xs, u, hc, hv => by
    simp only [emb, V] at hv
    obtain ⟨a, us, n, rfl, ha, hx⟩ := hv
    obtain ⟨as, r⟩ := readsAll_of hk xs us (by simpa [PyData.canLay0] using hc) hx
    exact ⟨_, .list (hk _ _ ha) rfl rfl r⟩
  | .tuple xs, u, hc, hv => by
    simp only [emb, V] at hv
    obtain ⟨a, us, rfl, ha, hx⟩ := hv
    obtain ⟨as, r⟩ := readsAll_of hk xs us (by simpa [PyData.canLay0] using hc) hx
    exact ⟨_, .tuple (hk _ _ ha) rfl rfl r⟩
  | .dict _, u, hc, _ => by simp [PyData.canLay0] at hc
theorem readsAll_of {K : PH} {ad : List Addr} {h : Heap} (hk : ∀ b o, K b = some o → h.get? b = some o) : ∀ (ds : List PyData) (us : List Value), PyData.canLayAll0 ds = true → Vs K ad (embs ds) us → ∃ as, ReadsAll h us ds as
  | [], us, _, hv => by simp only [embs, Vs] at hv; subst hv; exact ⟨_, .nil⟩
  | d :: ds, us, hc, hv => by
    simp only [embs, Vs] at hv
    obtain ⟨u, r, rfl, h1, h2⟩ := hv
    have hc' : d.canLay0 = true ∧ PyData.canLayAll0 ds = true := by simpa [PyData.canLayAll0] using hc
    obtain ⟨as, ra⟩ := reads_of hk d u hc'.1 h1
    obtain ⟨bs, rb⟩ := readsAll_of hk ds r hc'.2 h2
    exact ⟨_, .cons ra rb⟩
end

section
variable {G : Glob} {B : Base} {A : Around} {σ : St} {Ψ : XPost} {Φ : AV → St → Prop}

theorem Rel.reads {K : PH} {ad : List Addr} {h : Heap} (R : Rel G B K ad σ h) {n : Nat} {v : AV} {d : PyData} {u : Value} (hd : fz 0 σ.ow n v = emb d) (hc : d.canLay0 = true) (hv : V K ad v u) : ∃ as, Reads h u d as := by
  have z := fz_ok (p := 0) R.keep R.own n v u hv
  rw [hd] at z
  refine reads_of (K := shutK K ad 0 h) (fun b o e => ?_) d u hc z
  unfold shutK at e
  split at e
  · exact e
  · exact R.keep b o e

theorem Op2.eqD {a b : AV} {n m : Nat} {da db : PyData} (ha : fz 0 σ.ow n a = emb da) (hb : fz 0 σ.ow m b = emb db) (ca : da.canLay0 = true) (cb : db.canLay0 = true) (hu : A.units + min da.depth db.depth < cLine) (h : Φ (.bool (PyData.eqv da db)) σ) :
    Op2 G B A σ (compareOp .Eq) a b Φ Ψ := fun K ad s u w hR h1 h2 Q E q ex => by
  obtain ⟨as, ra⟩ := hR.reads ha ca h1
  obtain ⟨bs, rb⟩ := hR.reads hb cb h2
  exact rcAt_reads ra rb ca cb hu G.prog G.w E Q (qc_toks (tk := s.toks) hR q V_bool h)
theorem Op2.neD {a b : AV} {n m : Nat} {da db : PyData} (ha : fz 0 σ.ow n a = emb da) (hb : fz 0 σ.ow m b = emb db) (ca : da.canLay0 = true) (cb : db.canLay0 = true) (hu : A.units + min da.depth db.depth < cLine) (h : Φ (.bool (!PyData.eqv da db)) σ) :
    Op2 G B A σ (compareOp .NotEq) a b Φ Ψ := fun K ad s u w hR h1 h2 Q E q ex => by
  obtain ⟨as, ra⟩ := hR.reads ha ca h1
  obtain ⟨bs, rb⟩ := hR.reads hb cb h2
  exact compareNe_reads ra rb ca cb hu (qc_toks (tk := s.toks) hR q V_bool h)

open Classical in
/-- does y read as something equal to d -/
noncomputable def eqTo (h : Heap) (d : PyData) (y : Value) : Bool := decide (∃ dy as, Reads h y dy as ∧ dy.canLay0 = true ∧ PyData.eqv dy d = true)
open Classical in
theorem eqTo_of {h : Heap} {d dy : PyData} {y : Value} {as : List Addr} (r : Reads h y dy as) (hc : dy.canLay0 = true) : eqTo h d y = PyData.eqv dy d := by
  unfold eqTo
  cases q : PyData.eqv dy d with
  | true => exact decide_eq_true ⟨dy, as, r, hc, q⟩
  | false =>
    refine decide_eq_false ?_
    rintro ⟨dz, bs, r', hc', q'⟩
    have := Reads.unique dy dz y as bs hc r r'
    rw [← this, q] at q'; cases q'

theorem reads_list {K : PH} {ad : List Addr} {h : Heap} (hk : ∀ b o, K b = some o → h.get? b = some o) : ∀ {ds : List PyData} {us : List Value}, (∀ d ∈ ds, d.canLay0 = true) → Vs K ad (ds.map emb) us → us.length = ds.length ∧ ∀ (i : Nat) (h1 : i < us.length) (h2 : i < ds.length), ∃ as, Reads h us[i] ds[i] as
  | [], us, _, hv => by simp only [List.map_nil, Vs] at hv; subst hv; exact ⟨rfl, fun i h1 => absurd h1 (Nat.not_lt_zero _)⟩
  | d :: ds, us, hc, hv => by
    simp only [List.map_cons, Vs] at hv
    obtain ⟨u, r, rfl, h1, h2⟩ := hv
    obtain ⟨l, k⟩ := reads_list hk (fun d hd => hc d (.tail _ hd)) h2
    refine ⟨by simp [l], fun i h1' h2' => ?_⟩
    cases i with
    | zero => exact reads_of hk d u (hc d (.head _)) h1
    | succ i => exact k i (Nat.lt_of_succ_lt_succ h1') (Nat.lt_of_succ_lt_succ h2')

theorem any_eqTo {h : Heap} {d : PyData} : ∀ {us : List Value} {ds : List PyData}, us.length = ds.length → (∀ d ∈ ds, d.canLay0 = true) → (∀ (i : Nat) (h1 : i < us.length) (h2 : i < ds.length), ∃ as, Reads h us[i] ds[i] as) → us.any (eqTo h d) = ds.any (PyData.eqv · d)
  | [], [], _, _, _ => rfl
  | [], _ :: _, e, _, _ => by cases e
  | _ :: _, [], e, _, _ => by cases e
  | u :: us, x :: ds, e, hc, hr => by
    obtain ⟨as, r⟩ := hr 0 (Nat.succ_pos _) (Nat.succ_pos _)
    have r' : Reads h u x as := r
    rw [List.any_cons, List.any_cons, eqTo_of r' (hc _ (.head _)), any_eqTo (Nat.succ.inj e) (fun d hd => hc d (.tail _ hd)) (fun i h1 h2 => hr (i + 1) (Nat.succ_lt_succ h1) (Nat.succ_lt_succ h2))]

theorem eqAt_items {s : Shared} {us : List Value} {ds : List PyData} {d : PyData} {x : Value} {bs : List Addr} (hlen : us.length = ds.length) (hc : ∀ d ∈ ds, d.canLay0 = true) (hr : ∀ (i : Nat) (h1 : i < us.length) (h2 : i < ds.length), ∃ as, Reads s.heap us[i] ds[i] as) (rx : Reads s.heap x d bs) (hd : d.canLay0 = true) (hu : A.units + d.depth < cLine) :
    ∀ y, y ∈ us.toArray → EqAt A s y x (eqTo s.heap d y) := fun y hy => by
  have hy' : y ∈ us := by simpa using hy
  obtain ⟨i, hi, rfl⟩ := List.mem_iff_getElem.mp hy'
  have hi2 : i < ds.length := hlen ▸ hi
  obtain ⟨as, r⟩ := hr i hi hi2
  rw [eqTo_of r (hc _ (List.getElem_mem hi2))]
  exact eqAt_reads _ _ A s _ _ as bs r rx (hc _ (List.getElem_mem hi2)) hd (by omega)

/-- x in list, x not in list -/
theorem in_data {K : PH} {ad : List Addr} {s : Shared} {l : Addr} {n : Nat} {us : List Value} {ds : List PyData} {d : PyData} {x : Value} {Q : Value → Shared → Prop} {E : Value → Shared → Prop} (neg : Bool) (hk : ∀ b o, K b = some o → s.heap.get? b = some o) (hl : s.heap.get? l = some (lstOf us n)) (hc : ∀ d ∈ ds, d.canLay0 = true) (hd : d.canLay0 = true)
    (hv : Vs K ad (ds.map emb) us) (hx : V K ad (emb d) x) (hu : A.units + 1 + d.depth < cLine) (h : Q (.bool (if neg then !ds.any (PyData.eqv · d) else ds.any (PyData.eqv · d))) s) :
    wpAny (model G.prog G.w) A (compareOp (if neg then .NotIn else .In) x (.ref l)) Q E s := by
  obtain ⟨bs, rx⟩ := reads_of hk d x hd hx
  obtain ⟨e1, e2⟩ := reads_list hk hc hv
  have he := eqAt_items (A := A.in1) e1 hc e2 rx hd hu
  have ha : us.toArray.any (eqTo s.heap d) = ds.any (PyData.eqv · d) := by rw [List.any_toArray]; exact any_eqTo e1 hc e2
  have il : s.heap.IsList l us.toArray := ⟨_, hl, rfl, n, rfl⟩
  cases neg with
  | true =>
    refine notIn_listAt (eqTo s.heap d) il he ?_
    rw [ha]; exact h
  | false =>
    refine in_listAt (eqTo s.heap d) il he ?_
    rw [ha]; exact h
theorem Op2.in_lst {ds : List PyData} {d : PyData} (hc : ∀ d ∈ ds, d.canLay0 = true) (hd : d.canLay0 = true) (hu : A.units + 1 + d.depth < cLine) (h : Φ (.bool (ds.any (PyData.eqv · d))) σ) : Op2 G B A σ (compareOp .In) (emb d) (.lst (ds.map emb)) Φ Ψ := fun K ad s u w hR h1 h2 Q E q ex => by
  simp only [V] at h2; obtain ⟨a, us, n, rfl, ha, hx⟩ := h2
  exact in_data false hR.keep (hR.keep _ _ ha) hc hd hx h1 hu (qc_toks (tk := s.toks) hR q V_bool h)
theorem Op2.notIn_lst {ds : List PyData} {d : PyData} (hc : ∀ d ∈ ds, d.canLay0 = true) (hd : d.canLay0 = true) (hu : A.units + 1 + d.depth < cLine) (h : Φ (.bool (!ds.any (PyData.eqv · d))) σ) : Op2 G B A σ (compareOp .NotIn) (emb d) (.lst (ds.map emb)) Φ Ψ := fun K ad s u w hR h1 h2 Q E q ex => by
  simp only [V] at h2; obtain ⟨a, us, n, rfl, ha, hx⟩ := h2
  exact in_data true hR.keep (hR.keep _ _ ha) hc hd hx h1 hu (qc_toks (tk := s.toks) hR q V_bool h)
theorem Op2.notIn_own {i : Nat} {ds : List PyData} {d : PyData} (hi : σ.ow[i]? = some (.lst (ds.map emb))) (hc : ∀ d ∈ ds, d.canLay0 = true) (hd : d.canLay0 = true) (hu : A.units + 1 + d.depth < cLine) (h : Φ (.bool (!ds.any (PyData.eqv · d))) σ) : Op2 G B A σ (compareOp .NotIn) (emb d) (.own i) Φ Ψ := fun K ad s u w hR h1 h2 Q E q ex => by
  simp only [V] at h2; obtain ⟨a, rfl, ha⟩ := h2
  obtain ⟨us, n, hg, hx⟩ := hR.own i a _ ha hi
  exact in_data true hR.keep hg hc hd hx h1 hu (qc_toks (tk := s.toks) hR q V_bool h)

-- list.remove
theorem remove_loopAt (l : Addr) (items : Array Value) (n : Nat) (x : Value) (e : Value → Bool) (j : Nat) (hj : j < items.size) (hit : e items[j] = true) (k : Nat) (hs1 : items.size ≤ sizeLine) :
    ∀ i : Nat, j - i = k → i ≤ j → (∀ m (hm : m < items.size), i ≤ m → m < j → e items[m] = false) → Meets (Builtin.«list.remove.loop» ⟨[.ref l, x, rawInt i], []⟩)
      (fun A R s => s.heap.get? l = some { cls := .type "list", dict := none, data := .seq items n, slots := #[] } ∧ (∀ y, y ∈ items → EqAt A.in1 s y x (e y)) ∧ R (.ok (.ret .none)) { s with heap := s.heap.update l (Obj.mapSeq fun xs => xs.eraseIdxIfInBounds j) }) := by
  induction k with
  | zero =>
    intro i hk hij hno prog w A R s h
    obtain ⟨hp, g, d, tk, os⟩ := s; obtain ⟨hl, he, h⟩ := h
    have hij' : i = j := by omega
    subst hij'
    wp_walk using wpAny_loadPart' hl
    have hi : items[((i : Nat) : Int).toNat]? = some items[i] := by simp [hj]
    rw [hi]
    refine wpAny_bind (he _ (Array.getElem_mem hj) prog w _ _ ?_)
    rw [hit]
    have hz' : (items.eraseIdxIfInBounds i).size ≤ sizeLine + 1 := Nat.le_trans (MeetsSeq.size_erased items _) (Nat.le_succ_of_le hs1)
    wp_walk using (wpAny_updateSeq hl rfl (hz := hs1) (_hz' := hz')), wpAny_loadPart' hl
    simpa using h
  | succ k ih =>
    intro i hk hij hno prog w A R s h
    obtain ⟨hp, g, d, tk, os⟩ := s; obtain ⟨hl, he, h⟩ := h
    have hlt : i < items.size := by omega
    wp_walk using wpAny_loadPart' hl
    have hi : items[((i : Nat) : Int).toNat]? = some items[i] := by simp [hlt]
    have hc : ((i : Int) + 1) = ((i + 1 : Nat) : Int) := by push_cast; rfl
    rw [hi]
    refine wpAny_bind (he _ (Array.getElem_mem hlt) prog w _ _ ?_)
    rw [hno i hlt (Nat.le_refl _) (by omega)]
    wp_walk
    rw [hc]
    exact ⟨plainId_quiet plain_remove_loop _, codeAny_builtin entry_remove_loop (by
      rw [Around.under_plainId plain_remove_loop _]
      exact ih (i + 1) (by omega) (by omega) (fun m hm h1 h2 => hno m hm (by omega) h2) prog w A R _ ⟨hl, he, h⟩)⟩
theorem remove_at (l : Addr) (items : Array Value) (n : Nat) (x : Value) (e : Value → Bool) (j : Nat) (hj : j < items.size)
    (hit : e items[j] = true) (hno : ∀ m (hm : m < items.size), m < j → e items[m] = false) (hs1 : items.size ≤ sizeLine) :
    Meets (Builtin.«list.remove» ⟨[.ref l, x], []⟩)
      (fun A R s => s.heap.get? l = some { cls := .type "list", dict := none, data := .seq items n, slots := #[] } ∧ (∀ y, y ∈ items → EqAt A.in1 s y x (e y)) ∧ R (.ok (.ret .none)) { s with heap := s.heap.update l (Obj.mapSeq fun xs => xs.eraseIdxIfInBounds j) }) := by
  intro prog w A R s h
  obtain ⟨hp, g, d, tk, os⟩ := s; obtain ⟨hl, he, h⟩ := h
  wp_walk using wpAny_loadPart' hl
  exact ⟨plainId_quiet plain_remove_loop _, codeAny_builtin entry_remove_loop (by
    rw [Around.under_plainId plain_remove_loop _]
    exact remove_loopAt l items n x e j hj hit _ hs1 0 rfl (Nat.zero_le _) (fun m hm _ h2 => hno m hm h2) prog w A R _ ⟨hl, he, h⟩)⟩
theorem remove_loop_noneAt (l : Addr) (items : Array Value) (n : Nat) (x : Value) (e : Value → Bool) (hno : ∀ m (hm : m < items.size), e items[m] = false) (k : Nat) :
    ∀ i : Nat, items.size - i = k → Meets (Builtin.«list.remove.loop» ⟨[.ref l, x, rawInt i], []⟩)
      (fun A R s => s.heap.get? l = some { cls := .type "list", dict := none, data := .seq items n, slots := #[] } ∧ (∀ y, y ∈ items → EqAt A.in1 s y x (e y)) ∧ raisesNew "ValueError" A R s) := by
  induction k with
  | zero =>
    intro i hk prog w A R s h
    obtain ⟨hp, g, d, tk, os⟩ := s; obtain ⟨hl, he, h⟩ := h
    wp_walk using wpAny_loadPart' hl
    have hi : items[((i : Nat) : Int).toNat]? = none := by simp; omega
    rw [hi]
    wp_walk
    exact_raiseError plainExc_ValueError h.1 h.2
  | succ k ih =>
    intro i hk prog w A R s h
    obtain ⟨hp, g, d, tk, os⟩ := s; obtain ⟨hl, he, h⟩ := h
    have hlt : i < items.size := by omega
    wp_walk using wpAny_loadPart' hl
    have hi : items[((i : Nat) : Int).toNat]? = some items[i] := by simp [hlt]
    have hc : ((i : Int) + 1) = ((i + 1 : Nat) : Int) := by push_cast; rfl
    rw [hi]
    refine wpAny_bind (he _ (Array.getElem_mem hlt) prog w _ _ ?_)
    rw [hno i hlt]
    wp_walk
    rw [hc]
    exact ⟨plainId_quiet plain_remove_loop _, codeAny_builtin entry_remove_loop (by
      rw [Around.under_plainId plain_remove_loop _]
      exact ih (i + 1) (by omega) prog w A R _ ⟨hl, he, h⟩)⟩
theorem remove_none (l : Addr) (items : Array Value) (n : Nat) (x : Value) (e : Value → Bool) (hno : ∀ m (hm : m < items.size), e items[m] = false) :
    Meets (Builtin.«list.remove» ⟨[.ref l, x], []⟩)
      (fun A R s => s.heap.get? l = some { cls := .type "list", dict := none, data := .seq items n, slots := #[] } ∧ (∀ y, y ∈ items → EqAt A.in1 s y x (e y)) ∧ raisesNew "ValueError" A R s) := by
  intro prog w A R s h
  obtain ⟨hp, g, d, tk, os⟩ := s; obtain ⟨hl, he, h⟩ := h
  wp_walk using wpAny_loadPart' hl
  exact ⟨plainId_quiet plain_remove_loop _, codeAny_builtin entry_remove_loop (by
    rw [Around.under_plainId plain_remove_loop _]
    exact remove_loop_noneAt l items n x e hno _ 0 rfl prog w A R _ ⟨hl, he, h⟩)⟩

theorem map_erase {α β : Type} (f : α → β) : ∀ (l : List α) (j : Nat), (l.map f).eraseIdx j = (l.eraseIdx j).map f
  | [], _ => rfl
  | _ :: _, 0 => rfl
  | x :: l, j + 1 => by simp [map_erase f l j]
/-- a new exception -/
theorem Rel.exc {K : PH} {ad : List Addr} {h h' : Heap} {e : Addr} {cls : String} (R : Rel G B K ad σ h) (x : Heap.NewExc h h' e cls) : Rel G B K ad σ h' ∧ Exc B K ad h' e ⟨cls, true⟩ := by
  have R' := R.keeps x.keeps
  obtain ⟨ob, t, h1, h2, h3⟩ := x.there
  refine ⟨R', ?_, fun q => ?_, ?_, ob, _, h1, h2, h3, fun _ => rfl, by simp, .inl rfl⟩
  · cases q : K e with
    | none => rfl
    | some o => have := R.keep _ _ q; rw [x.new] at this; cases this
  · obtain ⟨o, z⟩ := R.live _ q; rw [x.new] at z; cases z
  · cases q : B.h₀.get? e with
    | none => rfl
    | some o =>
      exfalso
      by_cases hx : e ∈ B.po
      · obtain ⟨o', e⟩ := R.live _ (List.mem_cons_of_mem _ (List.mem_append_right _ (R.pon _ hx)))
        rw [x.new] at e; cases e
      · by_cases ht : e ∈ G.T
        · obtain ⟨t, ht, e⟩ := List.mem_map.mp ht
          obtain ⟨ps, e', _⟩ := R.tabs t ht
          rw [e, x.new] at e'; cases e'
        · obtain ⟨o', e, _⟩ := R.step.some q hx ht
          rw [x.new] at e; cases e

/-- own.remove(x) -/
theorem Op.remove_hit {i : Nat} {ds : List PyData} {d : PyData} {j : Nat} (hi : σ.ow[i]? = some (.lst (ds.map emb))) (hc : ∀ d ∈ ds, d.canLay0 = true) (hd : d.canLay0 = true) (hu : A.units + 1 + d.depth < cLine) (hz : ds.length ≤ sizeLine) (hj : j < ds.length) (hit : PyData.eqv ds[j] d = true) (hno : ∀ m (hm : m < ds.length), m < j → PyData.eqv ds[m] d = false)
    (h : Φ .none { σ with ow := σ.ow.set i (.lst ((ds.eraseIdx j).map emb)) }) : Op G B A σ [.own i, emb d] (fun us => PySem.call (.builtin "list.remove") us) V Φ Ψ := fun K ad s us hR hv Q E q ex => by
  obtain ⟨u, x, rfl, h1, h2⟩ := Vs2 hv
  simp only [V] at h1; obtain ⟨l, rfl, ha⟩ := h1
  obtain ⟨us, n, hg, hx⟩ := hR.own i l _ ha hi
  obtain ⟨bs, rx⟩ := reads_of hR.keep d x hd h2
  obtain ⟨e1, e2⟩ := reads_list hR.keep hc hx
  have he := eqAt_items (A := A.in1) e1 hc e2 rx hd hu
  have ev : ∀ (m : Nat) (h1 : m < us.toArray.size) (h2 : m < ds.length), eqTo s.heap d us.toArray[m] = PyData.eqv ds[m] d := fun m h1 h2 => by
    obtain ⟨as, r⟩ := e2 m (by simpa using h1) h2
    simpa using eqTo_of (d := d) r (hc _ (List.getElem_mem h2))
  have hj' : j < us.toArray.size := by rw [List.size_toArray, e1]; exact hj
  refine call_meets PySem.F.slot_list_remove ⟨_, hg, rfl⟩ PySem.F.entry_list_remove (PySem.F.args_list_remove_2 _ _)
    (remove_at l us.toArray n x (eqTo s.heap d) j hj' (by rw [ev j hj' hj]; exact hit) (fun m hm hlt => by rw [ev m hm (by rw [List.size_toArray, e1] at hm; exact hm)]; exact hno m _ hlt) (by rw [List.size_toArray, e1]; exact hz)) ⟨hg, he, ?_⟩
  have hg' : (s.heap.update l (Obj.mapSeq fun xs => xs.eraseIdxIfInBounds j)).get? l = some (lstOf (us.eraseIdx j) (n + 1)) := by
    rw [Heap.get?_update_self _ hg (by simp [Obj.mapSeq, Obj.isFreed])]
    have e3 : us.toArray.eraseIdxIfInBounds j = (us.eraseIdx j).toArray := by simp [Array.eraseIdxIfInBounds, e1, hj]
    have e4 : ((us.eraseIdx j).toArray.size == us.toArray.size) = false := by
      rw [List.size_toArray, List.size_toArray, List.length_eraseIdx_of_lt (by rw [e1]; exact hj)]
      have : 0 < us.length := by omega
      simp; omega
    simp only [Obj.mapSeq, e3, e4]
    simp
  exact q .none { s with heap := s.heap.update l (Obj.mapSeq fun xs => xs.eraseIdxIfInBounds j) } K ad .none _ (KLe.refl _) (List.prefix_refl _)
    (hR.setOwn (w := .lst ((ds.eraseIdx j).map emb)) ha (Heap.SameBut.update ..).extBut hg' (fun _ _ _ vs z => by cases z) ⟨_, n + 1, hg', by rw [← map_erase]; exact hx.eraseAt⟩) V_none ⟨rfl, rfl, rfl⟩ h
theorem Op.remove_miss {i : Nat} {ds : List PyData} {d : PyData} (hh : A.handled = Option.none) (hi : σ.ow[i]? = some (.lst (ds.map emb))) (hc : ∀ d ∈ ds, d.canLay0 = true) (hd : d.canLay0 = true) (hu : A.units + 1 + d.depth < cLine) (hno : ∀ m (hm : m < ds.length), PyData.eqv ds[m] d = false)
    (h : Ψ ⟨"ValueError", true⟩ σ) : Op G B A σ [.own i, emb d] (fun us => PySem.call (.builtin "list.remove") us) V Φ Ψ := fun K ad s us hR hv Q E q ex => by
  obtain ⟨u, x, rfl, h1, h2⟩ := Vs2 hv
  simp only [V] at h1; obtain ⟨l, rfl, ha⟩ := h1
  obtain ⟨us, n, hg, hx⟩ := hR.own i l _ ha hi
  obtain ⟨bs, rx⟩ := reads_of hR.keep d x hd h2
  obtain ⟨e1, e2⟩ := reads_list hR.keep hc hx
  have he := eqAt_items (A := A.in1) e1 hc e2 rx hd hu
  refine call_meets PySem.F.slot_list_remove ⟨_, hg, rfl⟩ PySem.F.entry_list_remove (PySem.F.args_list_remove_2 _ _)
    (remove_none l us.toArray n x (eqTo s.heap d) (fun m hm => ?_)) ⟨hg, he, hh, fun h' tk e hx => ?_⟩
  · have hm' : m < ds.length := by rw [List.size_toArray, e1] at hm; exact hm
    obtain ⟨as, r⟩ := e2 m (by simpa using hm) hm'
    have := eqTo_of (d := d) r (hc _ (List.getElem_mem hm'))
    rw [hno m hm'] at this
    simpa using this
  · obtain ⟨r1, r2⟩ := hR.exc hx
    exact ex e { s with heap := h', toks := tk } K ad ⟨"ValueError", true⟩ σ (KLe.refl _) (List.prefix_refl _) r1 r2 ⟨rfl, rfl, rfl⟩ h

/-- own.extend(kept list) -/
theorem Op.extend {i : Nat} {xs ys : List AV} (hi : σ.ow[i]? = some (.lst xs)) (hz : xs.length + ys.length ≤ sizeLine) (h : Φ .none { σ with ow := σ.ow.set i (.lst (xs ++ ys)) }) :
    Op G B A σ [.own i, .lst ys] (fun us => PySem.call (.builtin "list.extend") us) V Φ Ψ := fun K ad s us hR hv Q E q ex => by
  obtain ⟨u, x, rfl, h1, h2⟩ := Vs2 hv
  simp only [V] at h1 h2; obtain ⟨l, rfl, ha⟩ := h1; obtain ⟨b, vs, n2, rfl, hb, hy⟩ := h2
  obtain ⟨us, n, hg, hx⟩ := hR.own i l _ ha hi
  have l1 := hx.length
  have l2 := hy.length
  have hs16 := sz16
  refine call_meets PySem.F.slot_list_extend ⟨_, hg, rfl⟩ PySem.F.entry_list_extend (PySem.F.args_list_extend_2 _ _) (PySem.AutoSeq1.list_extend_list_list_0 l us.toArray n b vs.toArray n2 ?_ (by rw [List.size_toArray]; omega) (by rw [List.size_toArray, List.size_toArray]; omega)) ⟨hg, hR.keep _ _ hb, ?_⟩
  · have : Builtin.List.listTooLong (us.toArray.size + vs.toArray.size) = false := by
      unfold Builtin.List.listTooLong
      rw [List.size_toArray, List.size_toArray]
      first | exact decide_eq_false (by omega) | (simp; omega)
    rw [this]; simp
  · have : ∃ n', (s.heap.update l (Obj.mapSeq fun x => x ++ vs.toArray)).get? l = some (lstOf (us ++ vs) n') := by
      rw [Heap.get?_update_self _ hg (by simp [Obj.mapSeq, Obj.isFreed])]
      simp [Obj.mapSeq]
    obtain ⟨n', hg'⟩ := this
    exact q .none { s with heap := s.heap.update l (Obj.mapSeq fun x => x ++ vs.toArray) } K ad .none _ (KLe.refl _) (List.prefix_refl _)
      (hR.setOwn (w := .lst (xs ++ ys)) ha (Heap.SameBut.update ..).extBut hg' (fun _ _ _ vs z => by cases z) ⟨_, n', hg', hx.append hy⟩) V_none ⟨rfl, rfl, rfl⟩ h

/-- list + list -/
theorem Op2.add_lst {xs ys : List AV} (hz : xs.length + ys.length ≤ sizeLine) (h : Φ (.lst (xs ++ ys)) σ) : Op2 G B A σ (binaryOp .Add) (.lst xs) (.lst ys) Φ Ψ := fun K ad s u w hR h1 h2 Q E q ex => by
  simp only [V] at h1 h2; obtain ⟨l, us, n, rfl, hl, hx⟩ := h1; obtain ⟨b, vs, n2, rfl, hb, hy⟩ := h2
  refine concat_meets ⟨_, hR.keep _ _ hl, rfl⟩ ⟨_, hR.keep _ _ hb, rfl⟩ noFill_list_add seq_list_add PySem.F.slot_list_add PySem.F.entry_list_add (PySem.F.args_list_add_2 _ _) (list_addW l b us.toArray vs.toArray n n2 _ _ _ _ (by rw [List.size_toArray, List.size_toArray, hx.length, hy.length]; exact hz)) ⟨hR.keep _ _ hl, hR.keep _ _ hb, ?_⟩
  have e : us.toArray ++ vs.toArray = (us ++ vs).toArray := by simp
  rw [e]
  refine q _ { s with heap := s.heap.push (lstOf (us ++ vs) 0) } _ ad (.lst (xs ++ ys)) σ (KLe.put hR.fresh) (List.prefix_refl _) (hR.newKept (lstOf (us ++ vs) 0)) ?_ ⟨rfl, rfl, rfl⟩ h
  simp only [V]
  exact ⟨_, us ++ vs, 0, rfl, put_self .., (hx.append hy).mono (KLe.put hR.fresh) (List.prefix_refl _)⟩
end
end Mine
end

section
open PySem PySem.W PyProof.Rows PySem.Calls
set_option maxRecDepth 100000
set_option maxHeartbeats 4000000
namespace Mine
theorem pc_q (y : PySem.Str) (t2 t : Tok) (hy : y.length ≤ 1000000) : Meets (Builtin.«str.__mod__» ⟨[.str ⟨#[34,37,115,34]⟩ t, .str y t2], []⟩) (fun _ R s => ∀ t' k, R (.ok (.ret (.str (Str.ofString "\"" ++ y ++ Str.ofString "\"") t'))) { s with toks := k }) := by
  kpc_run_s
end Mine
end

section
open PySem PySem.W PyProof.Rows PySem.Calls PySem.SeqAt PySem.MeetsSeq PySem.StrLaws
set_option autoImplicit false
set_option linter.unusedVariables false
set_option maxRecDepth 100000
namespace Mine

abbrev S (l : List Nat) : Str := ⟨l.toArray⟩
abbrev sliceOf (l u st : Value) : Obj := { cls := .type "slice", data := .fields #[l, u, st] }
def PartIs (_ : PH) (_ : List Addr) (l : Option Int) (v : Value) : Prop := IsPart v l

section
variable {G : Glob} {B : Base} {A : Around} {σ : St} {Ψ : XPost} {Φ : AV → St → Prop}

abbrev EvP (G : Glob) (B : Base) (A : Around) (σ : St) (e : Option Expr) (Φ : Option Int → St → Prop) (Ψ : XPost) : Prop := Do G B A σ (evalPart e B.env) PartIs Φ Ψ
theorem EvP.none {Φ : Option Int → St → Prop} (h : Φ Option.none σ) : EvP G B A σ Option.none Φ Ψ := Do.val (v := Option.none) (fun K ad s hR Q E q => evalPart_none_step (q _ s.toks .none)) h
theorem EvP.some {Φ : Option Int → St → Prop} {e : Expr} (h : Ev G B A σ e (fun v σ₁ => ∃ i, v = .int i ∧ Φ (Option.some i) σ₁) Ψ) : EvP G B A σ (Option.some e) Φ Ψ := fun K ad s hR Q E q ex =>
  evalPart_some_step (h K ad s hR _ _ (fun u s₁ K₁ ad₁ v σ₁ g1 g2 g3 g4 g5 g6 => by
    obtain ⟨i, rfl, k⟩ := g6
    simp only [V] at g4; obtain ⟨t, rfl⟩ := g4
    exact q _ s₁ K₁ ad₁ (Option.some i) σ₁ g1 g2 g3 (.int i t) g5 k) ex)
theorem Ev.slice {lower upper step : Option Expr} {p : Pos} (h : EvP G B A σ lower (fun l σ₁ => EvP G B A σ₁ upper (fun u σ₂ => EvP G B A σ₂ step (fun st σ₃ => ∀ vl vu vs, IsPart vl l → IsPart vu u → IsPart vs st → Φ (.obj (sliceOf vl vu vs)) σ₃) Ψ) Ψ) Ψ) : Ev G B A σ (.Slice lower upper step p) Φ Ψ := fun K ad s hR Q E q ex =>
  wpAny_Slice (h K ad s hR _ _ (fun vl s₁ K₁ ad₁ l σ₁ g1 g2 g3 g4 g5 g6 => g6 K₁ ad₁ s₁ g3 _ _ (fun vu s₂ K₂ ad₂ u σ₂ f1 f2 f3 f4 f5 f6 => f6 K₂ ad₂ s₂ f3 _ _ (fun vs s₃ K₃ ad₃ st σ₃ k1 k2 k3 k4 k5 k6 =>
    q _ { s₃ with heap := s₃.heap.push (sliceOf vl vu vs) } _ ad₃ (.obj (sliceOf vl vu vs)) σ₃ ((g1.trans (f1.trans k1)).trans (KLe.put k3.fresh)) (g2.trans (f2.trans k2)) (k3.newKept (sliceOf vl vu vs)) (by simp only [V]; exact ⟨_, rfl, put_self ..⟩) (g5.trans (f5.trans (k5.trans ⟨rfl, rfl, rfl⟩))) (k6 vl vu vs g4 f4 k4)) (EC.after (EC.after ex g1 g2 g5) f1 f2 f5)) (EC.after ex g1 g2 g5)) ex)

/-- a slice of a list, by what it picks -/
theorem slice_list {value slice : Expr} {l : Addr} {us : List Value} {n : Nat} {vl vu vs : Value} {lo hi st : Option Int} {xs ys : List AV} {K : PH} {ad : List Addr} {s : Shared} {i : Value} {Q : Value → Shared → Prop} {E : Value → Shared → Prop} (hR : Rel G B K ad σ s.heap) (hl : s.heap.get? l = some (lstOf us n)) (hi' : V K ad (.obj (sliceOf vl vu vs)) i)
    (pl : IsPart vl lo) (pu : IsPart vu hi) (ps : IsPart vs st) (h0 : st ≠ some 0) (hz : us.length ≤ sizeLine) {zs : List Value} (he : slicePick us.toArray lo hi st = zs.toArray) (hv : Vs K ad ys zs) (h : Φ (.lst ys) σ) (q : QC G B K ad s V Φ Q) :
    wpAny (model G.prog G.w) A (subscriptTail value slice (.ref l) i) Q E s := by
  simp only [V] at hi'; obtain ⟨b, rfl, hb⟩ := hi'
  have il : s.heap.IsList l us.toArray := ⟨_, hl, rfl, n, rfl⟩
  refine tail_any il.typeIs slot_list_getitem.lookup (wpAny_getItem_list_slice il ⟨_, hR.keep _ _ hb, rfl, rfl⟩ pl pu ps h0 ?_ (by simpa using hz)) sub_ok
  rw [he]
  refine q _ { s with heap := s.heap.push (lstOf zs 0) } _ ad (.lst ys) σ (KLe.put hR.fresh) (List.prefix_refl _) (hR.newKept (lstOf zs 0)) ?_ ⟨rfl, rfl, rfl⟩ h
  simp only [V]
  exact ⟨_, zs, 0, rfl, put_self .., hv.mono (KLe.put hR.fresh) (List.prefix_refl _)⟩
theorem Sub.lst_from {value slice : Expr} {xs : List AV} {k : Int} {vl vu vs : Value} (pl : IsPart vl (some k)) (pu : IsPart vu none) (ps : IsPart vs none) (h0 : 0 ≤ k) (hz : xs.length ≤ sizeLine) (h : Φ (.lst (xs.drop k.toNat)) σ) : Sub G B A σ value slice (.lst xs) (.obj (sliceOf vl vu vs)) Φ Ψ := fun K ad s u w hR h1 h2 Q E q ex => by
  simp only [V] at h1; obtain ⟨l, us, n, rfl, hl, hx⟩ := h1
  refine slice_list (xs := xs) hR (hR.keep _ _ hl) h2 pl pu ps (by simp) (by rw [hx.length]; exact hz) (zs := us.drop k.toNat) ?_ hx.dropN h q
  obtain ⟨j, rfl⟩ := Int.eq_ofNat_of_zero_le h0
  exact slicePick_from' us.toArray j
theorem Sub.lst_upto {value slice : Expr} {xs : List AV} {k : Int} {vl vu vs : Value} (pl : IsPart vl none) (pu : IsPart vu (some k)) (ps : IsPart vs none) (h0 : 0 ≤ k) (hz : xs.length ≤ sizeLine) (h : Φ (.lst (xs.take k.toNat)) σ) : Sub G B A σ value slice (.lst xs) (.obj (sliceOf vl vu vs)) Φ Ψ := fun K ad s u w hR h1 h2 Q E q ex => by
  simp only [V] at h1; obtain ⟨l, us, n, rfl, hl, hx⟩ := h1
  refine slice_list (xs := xs) hR (hR.keep _ _ hl) h2 pl pu ps (by simp) (by rw [hx.length]; exact hz) (zs := us.take k.toNat) ?_ hx.takeN h q
  obtain ⟨j, rfl⟩ := Int.eq_ofNat_of_zero_le h0
  exact slicePick_upto' us.toArray j
theorem Sub.lst_rev {value slice : Expr} {xs : List AV} {vl vu vs : Value} (pl : IsPart vl none) (pu : IsPart vu none) (ps : IsPart vs (some (-1))) (hz : xs.length ≤ sizeLine) (h : Φ (.lst xs.reverse) σ) : Sub G B A σ value slice (.lst xs) (.obj (sliceOf vl vu vs)) Φ Ψ := fun K ad s u w hR h1 h2 Q E q ex => by
  simp only [V] at h1; obtain ⟨l, us, n, rfl, hl, hx⟩ := h1
  exact slice_list (xs := xs) hR (hR.keep _ _ hl) h2 pl pu ps (by decide) (by rw [hx.length]; exact hz) (zs := us.reverse) (krv_pick us.toArray) hx.rev h q

theorem V_strs {K : PH} {ad : List Addr} {x : Str} {t : Tok} : V K ad (.str x) (.str x t) := by simp only [V]; exact ⟨t, rfl⟩

theorem slice_text (x : Str) (l u : Option (Int × Tok)) (a b : Nat) (hab : a ≤ b) (hb : b ≤ x.length) (hl : l.map (·.1) = some (a : Int) ∨ (l.map (·.1) = none ∧ a = 0)) (hu : u.map (·.1) = some (b : Int) ∨ (u.map (·.1) = none ∧ b = x.length)) :
    (if ((none : Option (Int × Tok)).map (·.1)).getD 1 == 1 && (slicePicked x l u none).length == x.length then x else ⟨((slicePicked x l u none).filterMap (x.cps[·]?)).toArray⟩) = S ((x.cps.toList.drop a).take (b - a)) := by
  have e : slicePicked x l u none = Builtin.Str.strSliceIndices (some (a : Int)) (some (b : Int)) 1 x.length := by
    unfold slicePicked
    show Builtin.Str.strSliceIndices (l.map (·.1)) (u.map (·.1)) 1 x.length = _
    have e1 : Builtin.Str.strSliceIndices (l.map (·.1)) (u.map (·.1)) 1 x.length = Builtin.Str.strSliceIndices (some (a : Int)) (u.map (·.1)) 1 x.length := by
      rcases hl with h | ⟨h, rfl⟩
      · rw [h]
      · rw [h]; exact sliceIdx_none_lo _ _
    rw [e1]
    rcases hu with h | ⟨h, rfl⟩
    · rw [h]
    · rw [h]; exact sliceIdx_none_hi _ _
  rw [e]
  have e2 := sliced_plain x hab hb
  split
  · rename_i hc
    have hlen : (Builtin.Str.strSliceIndices (some (a : Int)) (some (b : Int)) 1 x.length).length = x.length := by simpa using hc
    rw [strSliceIndices_plain hab hb] at hlen
    simp at hlen
    have ha : a = 0 := by omega
    have hb' : b = x.length := by omega
    subst ha; subst hb'
    apply Str.ext'
    have : x.cps.toList.take x.length = x.cps.toList := List.take_of_length_le (by simp [Str.length])
    simp [this]
  · rw [e2]

theorem slice_str {value slice : Expr} {x : Str} {t : Tok} {vl vu vs : Value} {lo hi : Option Int} {K : PH} {ad : List Addr} {s : Shared} {i : Value} {Q : Value → Shared → Prop} {E : Value → Shared → Prop} {a b : Nat} (hR : Rel G B K ad σ s.heap) (hi' : V K ad (.obj (sliceOf vl vu vs)) i)
    (pl : IsPart vl lo) (pu : IsPart vu hi) (ps : IsPart vs none) (hab : a ≤ b) (hb : b ≤ x.length) (hz : x.length ≤ sizeLine) (hl : lo = some (a : Int) ∨ (lo = none ∧ a = 0)) (hu : hi = some (b : Int) ∨ (hi = none ∧ b = x.length)) (h : Φ (.str (S ((x.cps.toList.drop a).take (b - a)))) σ) (q : QC G B K ad s V Φ Q) :
    wpAny (model G.prog G.w) A (subscriptTail value slice (.str x t) i) Q E s := by
  simp only [V] at hi'; obtain ⟨c, rfl, hc⟩ := hi'
  cases ps
  have key : ∀ (l u : Option (Int × Tok)), vl = partValue l → vu = partValue u → l.map (·.1) = lo → u.map (·.1) = hi → wpAny (model G.prog G.w) A (subscriptTail value slice (.str x t) (.ref c)) Q E s := fun l u e1 e2 e3 e4 => by
    refine tail_any (typeIs_str _ _ _) PyProof.Rows.slot_str_getitem.lookup (wpAny_getItem_str_slice (l := l) (u := u) (st := none) ?_ rfl ?_) sub_ok
    · exact ⟨_, hR.keep _ _ hc, rfl, by rw [e1, e2]; rfl⟩
    · have e := slice_text x l u a b hab hb (e3 ▸ hl) (e4 ▸ hu)
      unfold sliceMade
      refine post_val_or_made (fun _ => ?_) (fun t' k => ?_)
      · show (List.filterMap _ (slicePicked x l u none)).toArray.size ≤ sizeLine
        rw [List.size_toArray]
        exact Nat.le_trans (List.length_filterMap_le _ _) (Nat.le_trans (sliceIndices_le _ _ x.length) hz)
      · rw [e]; exact qc_toks hR q V_str h
  cases pl with
  | none =>
    cases pu with
    | none => exact key none none rfl rfl rfl rfl
    | int j tj => exact key none (some (j, tj)) rfl rfl rfl rfl
  | int k tk =>
    cases pu with
    | none => exact key (some (k, tk)) none rfl rfl rfl rfl
    | int j tj => exact key (some (k, tk)) (some (j, tj)) rfl rfl rfl rfl
theorem Sub.str_upto {value slice : Expr} {x : Str} {b : Nat} {vl vu vs : Value} (pl : IsPart vl none) (pu : IsPart vu (some (b : Int))) (ps : IsPart vs none) (hb : b ≤ x.length) (hz : x.length ≤ sizeLine) (h : Φ (.str (S (x.cps.toList.take b))) σ) : Sub G B A σ value slice (.str x) (.obj (sliceOf vl vu vs)) Φ Ψ := fun K ad s u w hR h1 h2 Q E q ex => by
  simp only [V] at h1; obtain ⟨t, rfl⟩ := h1
  exact slice_str (a := 0) (b := b) hR h2 pl pu ps (Nat.zero_le _) hb hz (.inr ⟨rfl, rfl⟩) (.inl rfl) (by simpa using h) q
theorem Sub.str_from {value slice : Expr} {x : Str} {a : Nat} {vl vu vs : Value} (pl : IsPart vl (some (a : Int))) (pu : IsPart vu none) (ps : IsPart vs none) (ha : a ≤ x.length) (hz : x.length ≤ sizeLine) (h : Φ (.str (S (x.cps.toList.drop a))) σ) : Sub G B A σ value slice (.str x) (.obj (sliceOf vl vu vs)) Φ Ψ := fun K ad s u w hR h1 h2 Q E q ex => by
  simp only [V] at h1; obtain ⟨t, rfl⟩ := h1
  refine slice_str (a := a) (b := x.length) hR h2 pl pu ps ha (Nat.le_refl _) hz (.inl rfl) (.inr ⟨rfl, rfl⟩) ?_ q
  rw [List.take_of_length_le (by simp [Str.length])]
  exact h

-- methods of texts
theorem Op.lstrip {x : Str} (hz : x.length ≤ sizeLine) (h : Φ (.str (Txt.lstrip x)) σ) : Op G B A σ [.str x] (fun us => PySem.call (.builtin "str.lstrip") us) V Φ Ψ := fun K ad s us hR hv Q E q ex => by
  obtain ⟨u, rfl, h1⟩ := Vs1 hv
  simp only [V] at h1; obtain ⟨t, rfl⟩ := h1
  exact call_gives PySem.F.slot_str_lstrip (typeIs_str _ _ _) PySem.F.entry_str_lstrip (PySem.F.args_str_lstrip_1 _) (gives_str_lstrip x t) (post_val_or_made (fun _ => fits_stripped _ _ _ hz) fun t' k => qc_toks hR q V_str h)
theorem Op.rstrip {x : Str} (hz : x.length ≤ sizeLine) (h : Φ (.str (Txt.rstrip x)) σ) : Op G B A σ [.str x] (fun us => PySem.call (.builtin "str.rstrip") us) V Φ Ψ := fun K ad s us hR hv Q E q ex => by
  obtain ⟨u, rfl, h1⟩ := Vs1 hv
  simp only [V] at h1; obtain ⟨t, rfl⟩ := h1
  exact call_gives PySem.F.slot_str_rstrip (typeIs_str _ _ _) PySem.F.entry_str_rstrip (PySem.F.args_str_rstrip_1 _) (gives_str_rstrip x t) (post_val_or_made (fun _ => fits_stripped _ _ _ hz) fun t' k => qc_toks hR q V_str h)
theorem Op.startswith {x y : Str} (h : Φ (.bool (0 + y.length ≤ x.length && Builtin.Str.subAt x y 0)) σ) : Op G B A σ [.str x, .str y] (fun us => PySem.call (.builtin "str.startswith") us) V Φ Ψ := fun K ad s us hR hv Q E q ex => by
  obtain ⟨u, w, rfl, h1, h2⟩ := Vs2 hv
  simp only [V] at h1 h2; obtain ⟨t, rfl⟩ := h1; obtain ⟨t', rfl⟩ := h2
  exact call_gives PySem.F.slot_str_startswith (typeIs_str _ _ _) PySem.F.entry_str_startswith (PySem.F.args_str_startswith_2 _ _) (gives_str_startswith x y t t') (qc_toks (tk := s.toks) hR q V_bool h)

/-- isinstance(kept list, str) -/
theorem Op.isinst {xs : List AV} (h : Φ (.bool false) σ) : Op G B A σ [.lst xs, .raw (.type "str")] (fun us => PySem.call (.builtin "isinstance") us) V Φ Ψ := fun K ad s us hR hv Q E q ex => by
  obtain ⟨u, w, rfl, h1, h2⟩ := Vs2 hv
  simp only [V] at h1 h2; obtain ⟨a, us, n, rfl, ha, hx⟩ := h1; subst h2
  exact PySem.IsiPair.list_str (hR.keep _ _ ha) rfl (qc_toks hR q V_bool h)
end
end Mine
end

section
open PySem PySem.W PyProof.Rows PySem.Calls PySem.SeqAt PySem.MeetsSeq
set_option autoImplicit false
set_option linter.unusedVariables false
set_option maxRecDepth 100000
namespace Mine

section
variable {G : Glob} {B : Base} {A : Around} {σ : St} {Ψ : XPost} {Φ : AV → St → Prop}

theorem unpack2_list {l : Addr} {u₁ u₂ : Value} {n : Nat} {s : Shared} {Q : List Value → Shared → Prop} {E : Value → Shared → Prop} (hh : A.handled = none) (ho : s.heap.get? l = some (lstOf [u₁, u₂] n))
    (hQ : ∀ h', Heap.ExtBut s.heap.objs.size s.heap h' → Q [u₁, u₂] { s with heap := h' }) : wpAny (model G.prog G.w) A (unpackItems (.ref l) 2 none) Q E s := by
  have ht : s.heap.IsList l [u₁, u₂].toArray := ⟨_, ho, rfl, n, rfl⟩
  have hlt : l ≠ s.heap.objs.size := Nat.ne_of_lt (Heap.lt_size ho)
  unfold unpackItems
  refine wpAny_bind ?_
  unfold notIterableAtAll
  refine wpAny_bind (wpAny_specialOf ht.typeIs slot_list_iter.lookup ?_)
  refine wpAny_pure ?_
  simp only [Bool.false_eq_true, if_false]
  refine wpAny_bind (wpAny_holding (wpAny_pyIter_list ht ?_))
  have il : ∀ h' : Heap, Heap.ExtBut s.heap.objs.size s.heap h' → h'.IsList l [u₁, u₂].toArray := fun h' he => ⟨_, he _ _ hlt ho, rfl, n, rfl⟩
  have hpush : ∀ {o : Obj} {h' : Heap}, Heap.ExtBut s.heap.objs.size (s.heap.push o) h' → Heap.ExtBut s.heap.objs.size s.heap h' := fun he b o' hb e => he b o' hb (Heap.get?_push_of_some _ e)
  refine wpAny_bind (wpAny_holding ?_)
  show wpAny _ _ (do match ← pyNext (.ref s.heap.objs.size) with
    | none => pure []
    | some x => pure (x :: (← holding [x] (draw (.ref s.heap.objs.size) 1)))) _ _ _
  refine wpAny_bind (wpAny_pyNext_list_item ⟨_, Heap.get?_push_size _ rfl, rfl, rfl⟩ (il _ (hpush (Heap.ExtBut.refl _ _))) (x := u₁) (by rfl) fun h₁ hit₁ hs₁ => ?_)
  refine wpAny_bind (wpAny_holding ?_)
  show wpAny _ _ (do match ← pyNext (.ref s.heap.objs.size) with
    | none => pure []
    | some x => pure (x :: (← holding [x] (draw (.ref s.heap.objs.size) 0)))) _ _ _
  have e₁ := hpush hs₁.extBut
  refine wpAny_bind (wpAny_pyNext_list_item hit₁ (il _ e₁) (x := u₂) (by rfl) fun h₂ hit₂ hs₂ => ?_)
  refine wpAny_bind (wpAny_holding (wpAny_pure (wpAny_pure (wpAny_pure ?_))))
  have e₂ : Heap.ExtBut s.heap.objs.size s.heap h₂ := fun b o hb e => hs₂.extBut b o hb (e₁ b o hb e)
  rw [if_neg (by simp)]
  refine wpAny_bind (wpAny_holding (wpAny_pyNext_list_end hh hit₂ (il _ e₂) (by rfl) fun h₃ he₃ => ?_))
  simp only [Option.isSome_none, Bool.false_eq_true, if_false]
  exact wpAny_pure (hQ h₃ fun b o hb e => he₃ b o hb (e₂ b o hb e))

/-- v is two things -/
inductive Two : AV → AV → AV → Prop
  | tup (x y : AV) : Two (.tup [x, y]) x y
  | lst (x y : AV) : Two (.lst [x, y]) x y

theorem unpack2 {K : PH} {ad : List Addr} {s : Shared} {v x y : AV} {u : Value} {Q : List Value → Shared → Prop} {E : Value → Shared → Prop} (hh : A.handled = none) (hR : Rel G B K ad σ s.heap) (hv : V K ad v u) (t : Two v x y)
    (q : ∀ u₁ u₂ h', V K ad x u₁ → V K ad y u₂ → Rel G B K ad σ h' → Q [u₁, u₂] { s with heap := h' }) : wpAny (model G.prog G.w) A (unpackItems u 2 none) Q E s := by
  cases t with
  | tup =>
    simp only [V] at hv
    obtain ⟨a, us, rfl, ha, hx⟩ := hv
    simp only [Vs] at hx
    obtain ⟨u₁, r, rfl, h1, u₂, r', rfl, h2, rfl⟩ := hx
    exact wpAny_unpackItems_tuple (items := [u₁, u₂].toArray) hh ⟨_, hR.keep _ _ ha, rfl, 0, rfl⟩ fun h' he => q u₁ u₂ h' h1 h2 (hR.keeps (ext_keeps he))
  | lst =>
    simp only [V] at hv
    obtain ⟨a, us, n, rfl, ha, hx⟩ := hv
    simp only [Vs] at hx
    obtain ⟨u₁, r, rfl, h1, u₂, r', rfl, h2, rfl⟩ := hx
    exact unpack2_list hh (hR.keep _ _ ha) fun h' he => q u₁ u₂ h' h1 h2 (hR.keeps (ext_keeps he))

/-- x, y = e: the stores in order -/
theorem Ex1.assign2 {Φ : AF → St → Prop} {x y : Str} {p1 p2 tp pos : Pos} {k : Nat} {e : Expr} (hh : A.handled = none) (hE : EnvOk B.env) (hx : B.env.kindOf x = some .local) (hy : B.env.kindOf y = some .local)
    (h : Ev G B A σ e (fun v σ₁ => ∃ a b, Two v a b ∧ Φ .next { σ₁ with lo := setL (setL σ₁.lo x a) y b }) Ψ)
    (hs : swapsWithSole [.Tuple [.Name x p1, .Name y p2] k tp] e pos.line B.env = pure false := by rfl)
    (hw : swappedStores [.Tuple [.Name x p1, .Name y p2] k tp] e B.env = pure none := by rfl) : Ex1 G B A σ (.Assign [.Tuple [.Name x p1, .Name y p2] k tp] e pos) Φ Ψ := fun K ad s hR Q E q ex => by
  refine Assign_Tuple (h K ad s hR _ _ (fun u s₁ K₁ ad₁ v σ₁ g1 g2 g3 g4 g5 g6 => ?_) ex) hs hw
  obtain ⟨a, b, t, k6⟩ := g6
  rw [arm_assign_Tuple]
  refine wpAny_bind (wpAny_standAt ?_)
  unfold unpack
  refine wpAny_bind (wpAny_holding (unpack2 hh g3 g4 t fun u₁ u₂ h' w1 w2 R' => ?_))
  show wpAny _ _ (assignInOrder [PySem.assign (.Name x p1) B.env, PySem.assign (.Name y p2) B.env] [u₁, u₂]) _ _ _
  simp only [assignInOrder]
  refine wpAny_bind (wpAny_holding (wpAny_assign_Name (st_loc hE hx R' w1 fun h₁ R₁ => ?_)))
  refine wpAny_bind (wpAny_holding (wpAny_assign_Name (st_loc (σ := { σ₁ with lo := setL σ₁.lo x a }) hE hy R₁ w2 fun h₂ R₂ => ?_)))
  exact wpAny_pure (q .next { s₁ with heap := h₂, toks := _ } K₁ ad₁ .next _ g1 g2 R₂ rfl (g5.trans ⟨rfl, rfl, rfl⟩) k6)
/-- x, y = e: the stores exchanged -/
theorem Ex1.assign2s {Φ : AF → St → Prop} {x y : Str} {p1 p2 tp pos : Pos} {k : Nat} {e : Expr} (hh : A.handled = none) (hE : EnvOk B.env) (hx : B.env.kindOf x = some .local) (hy : B.env.kindOf y = some .local)
    (h : Ev G B A σ e (fun v σ₁ => ∃ a b, Two v a b ∧ Φ .next { σ₁ with lo := setL (setL σ₁.lo y b) x a }) Ψ)
    (hs : swapsWithSole [.Tuple [.Name x p1, .Name y p2] k tp] e pos.line B.env = pure false := by rfl)
    (hw : swappedStores [.Tuple [.Name x p1, .Name y p2] k tp] e B.env = pure (some [x, y]) := by rfl) : Ex1 G B A σ (.Assign [.Tuple [.Name x p1, .Name y p2] k tp] e pos) Φ Ψ := fun K ad s hR Q E q ex => by
  refine Assign_Tuple_swapped (names := [x, y]) (h K ad s hR _ _ (fun u s₁ K₁ ad₁ v σ₁ g1 g2 g3 g4 g5 g6 => ?_) ex) hs hw
  obtain ⟨a, b, t, k6⟩ := g6
  refine unpack2 hh g3 g4 t fun u₁ u₂ h' w1 w2 R' => ?_
  show wpAny _ _ (assignInOrder [bindName B.env y, bindName B.env x] [u₂, u₁]) _ _ _
  simp only [assignInOrder]
  refine wpAny_bind (wpAny_holding (wpAny_bindName (st_loc hE hy R' w2 fun h₁ R₁ => ?_)))
  refine wpAny_bind (wpAny_holding (wpAny_bindName (st_loc (σ := { σ₁ with lo := setL σ₁.lo y b }) hE hx R₁ w1 fun h₂ R₂ => ?_)))
  exact wpAny_pure (q .next { s₁ with heap := h₂, toks := _ } K₁ ad₁ .next _ g1 g2 R₂ rfl (g5.trans ⟨rfl, rfl, rfl⟩) k6)
/-- x = y = e -/
theorem Ex1.assignBoth {Φ : AF → St → Prop} {x y : Str} {p1 p2 pos : Pos} {e : Expr} (hE : EnvOk B.env) (hx : B.env.kindOf x = some .local) (hy : B.env.kindOf y = some .local)
    (h : Ev G B A σ e (fun v σ₁ => Φ .next { σ₁ with lo := setL (setL σ₁.lo x v) y v }) Ψ)
    (hw : swappedStores [.Name x p1, .Name y p2] e B.env = pure none := by rfl) : Ex1 G B A σ (.Assign [.Name x p1, .Name y p2] e pos) Φ Ψ := fun K ad s hR Q E q ex => by
  refine wpAny_Assign_two (h K ad s hR _ _ (fun u s₁ K₁ ad₁ v σ₁ g1 g2 g3 g4 g5 g6 => ?_) ex) (by rfl) hw
  refine wpAny_assign_Name (st_loc hE hx g3 g4 fun h₁ R₁ => ?_)
  refine wpAny_assign_Name (st_loc (σ := { σ₁ with lo := setL σ₁.lo x v }) hE hy R₁ g4 fun h₂ R₂ => ?_)
  exact q .next { s₁ with heap := h₂, toks := _ } K₁ ad₁ .next _ g1 g2 R₂ rfl (g5.trans ⟨rfl, rfl, rfl⟩) g6

/-- x = e, x a cell of one's own -/
theorem st_cell {K : PH} {ad : List Addr} {s : Shared} {x : Str} {v w : AV} {u : Value} {Q : Unit → Shared → Prop} {E : Value → Shared → Prop} (hE : EnvOk B.env) (hl : B.env.kindOf x = some .cell) (ho : x ∈ B.oc) (inj : ∀ y d c, B.env.cells.lookup x = some c → B.env.cells.lookup y = some d → y ≠ x → d ≠ c)
    (hR : Rel G B K ad σ s.heap) (hw : σ.ce.lookup x = some w) (hv : V K ad v u) (q : ∀ h', Rel G B K ad { σ with ce := setL σ.ce x v } h' → Q () { s with heap := h' }) : wpAny (model G.prog G.w) A (storeName B.env x u) Q E s := by
  obtain ⟨c, ou, h1, h2, h3⟩ := hR.cells x w hw
  exact wpAny_storeName_cell hE.kind hl h1 h2 fun h' hc hs => q h' (hR.setCe hv h1 ho hs hc fun y d e n => inj y d c h1 e n)
theorem Ex1.assignCell {Φ : AF → St → Prop} {x : Str} {p1 pos : Pos} {e : Expr} (hE : EnvOk B.env) (hl : B.env.kindOf x = some .cell) (ho : x ∈ B.oc) (inj : ∀ y d c, B.env.cells.lookup x = some c → B.env.cells.lookup y = some d → y ≠ x → d ≠ c)
    (h : Ev G B A σ e (fun v σ₁ => (∃ w, σ₁.ce.lookup x = some w) ∧ Φ .next { σ₁ with ce := setL σ₁.ce x v }) Ψ)
    (hs : swapsWith e (some (.Name x p1)) pos.line B.env = pure false := by rfl) : Ex1 G B A σ (.Assign [.Name x p1] e pos) Φ Ψ := fun K ad s hR Q E q ex =>
  wpAny_Assign_Name (h K ad s hR _ _ (fun u s₁ K₁ ad₁ v σ₁ g1 g2 g3 g4 g5 g6 => by
    obtain ⟨⟨w, hw⟩, k⟩ := g6
    exact st_cell hE hl ho inj g3 hw g4 fun h' R' => q .next { s₁ with heap := h' } K₁ ad₁ .next _ g1 g2 R' rfl (g5.trans ⟨rfl, rfl, rfl⟩) k) ex) hs
theorem Asg.cell {Φ : St → Prop} {x : Str} {pos : Pos} {v w : AV} (hE : EnvOk B.env) (hl : B.env.kindOf x = some .cell) (ho : x ∈ B.oc) (inj : ∀ y d c, B.env.cells.lookup x = some c → B.env.cells.lookup y = some d → y ≠ x → d ≠ c) (hw : σ.ce.lookup x = some w)
    (h : Φ { σ with ce := setL σ.ce x v }) : Asg G B A σ (.Name x pos) v Φ Ψ := fun K ad s u hR hv Q E q ex =>
  wpAny_assign_Name (st_cell hE hl ho inj hR hw hv fun h' R' => q () { s with heap := h' } K ad () _ (KLe.refl _) (List.prefix_refl _) R' trivial ⟨rfl, rfl, rfl⟩ h)

theorem S_kv : Str.ofString "%s=%s" = ⟨#[37,115,61,37,115]⟩ := by decide +kernel
theorem S_q : Str.ofString "\"%s\"" = ⟨#[34,37,115,34]⟩ := by decide +kernel
theorem Op2.mod_q {y : Str} (hy : y.length ≤ 1000000) (h : Φ (.str (Str.ofString "\"" ++ y ++ Str.ofString "\"")) σ) : Op2 G B A σ (binaryOp .Mod) (.str (Str.ofString "\"%s\"")) (.str y) Φ Ψ := fun K ad s u w hR h1 h2 Q E q ex => by
  simp only [V] at h1 h2; obtain ⟨t, rfl⟩ := h1; obtain ⟨t2, rfl⟩ := h2
  rw [S_q]
  exact KPc.mod_str (T := fun z => Str.ofString "\"" ++ z ++ Str.ofString "\"") rfl hy (fun z hz => pc_q z t2 t hz) fun t' k => qc_toks hR q V_str h

/-- range(2) -/
theorem Op.range2 (h : ∀ t u v, Φ (.obj (rangeOf 0 2 1 t u v)) σ) : Op G B A σ [.int 2] (fun us => PySem.call (.type "range") us) V Φ Ψ := fun K ad s us hR hv Q E q ex => by
  obtain ⟨u, rfl, h1⟩ := Vs1 hv
  simp only [V] at h1; obtain ⟨t, rfl⟩ := h1
  refine call_range_1 ?_
  refine q _ { s with heap := s.heap.push (rangeOf 0 2 1 s.toks t (s.toks + 1)), toks := _ } _ ad _ σ (KLe.put hR.fresh) (List.prefix_refl _) (hR.newKept (rangeOf 0 2 1 s.toks t (s.toks + 1))) ?_ ⟨rfl, rfl, rfl⟩ (h s.toks t (s.toks + 1))
  simp only [V]
  exact ⟨_, rfl, put_self ..⟩
end
end Mine
end

section
open PySem PySem.W PyProof.Rows PySem.Calls
set_option autoImplicit false
set_option linter.unusedVariables false
set_option maxRecDepth 100000
namespace Mine

/-- a def of one parameter with one cell of its own -/
theorem Fun.of_bodyC {G : Glob} (GO : G.Ok) {n : Nat} {f : Addr} {fd : FuncData} {body : List Stmt} {x : AV} {ws : List OW} {p cn : Str} {Φ : AV → List OW → Prop} (hf : FnAt G f fd body)
    (hbind : ∀ u : Value, bindArgs fd ⟨[u], []⟩ = pure [(p, u)])
    (hcell : ∀ k, cellsFrom k fd.scope.names [] = [(cn, k)]) (hloc : fd.scope.names.lookup p = some .local)
    (h : ∀ A L fr K h₀ ad, AOk n A (callEnvC fd L f :: fr) → Ex G (baseOf (callEnvC fd L f) fr K h₀ ad [cn]) A { lo := [(p, x)], ce := [(cn, unset)], ow := ws } body
      (fun fl σ' => ∃ k, Shut ws.length (fz ws.length σ'.ow k (retOf fl)) ∧ ShutW ws.length (σ'.ow.take ws.length) ∧ Φ (fz ws.length σ'.ow k (retOf fl)) (σ'.ow.take ws.length)) noX) :
    Fun G (n + 1) f [x] ws Φ := by
  intro A fr K ad s us hA P hv Q E q
  obtain ⟨u, rfl, hvu⟩ := Vs1 hv
  obtain ⟨o, ho, hd⟩ := hf.obj
  have keepH : ∀ b o, G.H.get? b = some o → s.heap.get? b = some o := fun b o e => P.keep b o (P.base b o e)
  refine wpAny_call (codeAny_call_cells (fd := fd) (body := body) (binds := [(p, u)]) (by have := hA.depth; omega) (keepH _ _ ho) hd (GO.nolimit.keeps keepH) ?_ hf.stmts (hbind u) hf.clos (fun x hx => ?_) (fun s₁ IC => ?_) hf.co hf.gen hf.kind)
  · obtain ⟨c, o', vs, t, h1, h2, h3⟩ := hf.code
    exact ⟨c, o', vs, t, h1, keepH _ _ h2, h3⟩
  · rw [List.mem_singleton.mp hx]; exact .inl hloc
  · have hcs : (callEnvC fd s.heap.objs.size f).cells = [(cn, s.heap.objs.size + 1)] := hcell _
    have hLe : (callEnvC fd s.heap.objs.size f).locals = s.heap.objs.size := rfl
    have hkl : (callEnvC fd s.heap.objs.size f).kindOf p = some .local := hloc
    obtain ⟨⟨⟨h₁, tk, rfl⟩, hns₁, hk₁, hfr₁⟩, hcell₁, hapart, habove⟩ := IC
    dsimp only at hns₁ hk₁ hcell₁
    have hLnone : s.heap.get? s.heap.objs.size = none := Heap.get?_none_of_le (Nat.le_refl _)
    have hCnone : s.heap.get? (s.heap.objs.size + 1) = none := Heap.get?_none_of_le (Nat.le_succ _)
    rw [hLe] at hns₁
    have hns₂ : h₁.Ns s.heap.objs.size fun y => if y = p then some u else none := by
      have e : bindL (callEnvC fd s.heap.objs.size f).kindOf [(p, u)] (fun _ => none) = fun y => if y = p then some u else none := by
        simp only [bindL, hkl, if_true]
      rw [e] at hns₁; exact hns₁
    have hc₂ : h₁.IsCell (s.heap.objs.size + 1) none := by
      have z := hcell₁ cn (s.heap.objs.size + 1) (by rw [hcs]; simp [List.lookup_cons])
      have e : bindC (callEnvC fd s.heap.objs.size f).kindOf [(p, u)] (fun _ => none) cn = none := by
        simp only [bindC, hkl, if_true]
      rw [e] at z; exact z
    have hL1 : ∃ o, h₁.get? s.heap.objs.size = some o := let ⟨o, _, _, e, _⟩ := hns₂; ⟨o, e⟩
    have hC1 : ∃ o, h₁.get? (s.heap.objs.size + 1) = some o := let ⟨o, e, _⟩ := hc₂; ⟨o, e⟩
    have out : ∀ b, s.heap.objs.size ≤ b → K b = none ∧ b ∉ G.T ∧ b ∉ ad := fun b hb => by
      have hn : s.heap.get? b = none := Heap.get?_none_of_le hb
      refine ⟨?_, fun m => ?_, fun m => ?_⟩
      · cases e : K b with
        | none => rfl
        | some o => rw [P.keep _ _ e] at hn; cases hn
      · obtain ⟨t, ht, e'⟩ := List.mem_map.mp m
        obtain ⟨ps, e2, _⟩ := P.tabs t ht
        rw [e', hn] at e2; cases e2
      · obtain ⟨o, e⟩ := P.live _ m; rw [hn] at e; cases e
    have mem : ∀ b, b ∈ privs (baseOf (callEnvC fd s.heap.objs.size f) fr K s.heap ad [cn]) ad → b = s.heap.objs.size ∨ b = s.heap.objs.size + 1 ∨ b ∈ ad := fun b hb => by
      unfold privs at hb
      simp only [baseOf, hcs, hLe, List.map_cons, List.map_nil, List.mem_cons, List.mem_append, List.not_mem_nil, or_false] at hb
      exact hb
    have R : Rel G (baseOf (callEnvC fd s.heap.objs.size f) fr K s.heap ad [cn]) K ad { lo := [(p, x)], ce := [(cn, unset)], ow := ws } h₁ := {
      base := P.base
      keep := fun b o e => hk₁ b o (P.keep b o e)
      noT := P.noT
      tabs := fun t ht => let ⟨ps, e, r⟩ := P.tabs t ht; ⟨ps, hk₁ _ _ e, r⟩
      step := .of_keeps fun b o e _ _ => hk₁ b o e
      K0 := KLe.refl _
      new := fun b o e => .inl e
      ff := by
        obtain ⟨oL, es, ep, hL, hLd, _⟩ := hns₂
        refine ⟨?_, ⟨s.heap.objs.size, oL, rfl, ?_, hL, fun vs q => by rw [hLd] at q; cases q⟩, P.ff.of_keeps fun b o e _ => ⟨o, hk₁ b o e, rfl⟩⟩
        · show fd.scope.kind ≠ .module
          rw [hf.kind]; decide
        · cases q' : G.H.get? s.heap.objs.size with
          | none => rfl
          | some o => rw [keepH _ _ q'] at hLnone; cases hLnone
      priv := fun b hb => by
        rcases mem b hb with e | e | e
        · rw [e]; exact ⟨(out _ (Nat.le_refl _)).1, (out _ (Nat.le_refl _)).2.1⟩
        · rw [e]; exact ⟨(out _ (Nat.le_succ _)).1, (out _ (Nat.le_succ _)).2.1⟩
        · exact P.priv b e
      live := fun b hb => by
        rcases mem b hb with e | e | e
        · rw [e]; exact hL1
        · rw [e]; exact hC1
        · obtain ⟨o, e'⟩ := P.live b e; exact ⟨o, hk₁ _ _ e'⟩
      nodup := by
        show (s.heap.objs.size :: (((callEnvC fd s.heap.objs.size f).cells.map (·.2) ++ []) ++ ad)).Nodup
        rw [hcs]
        simp only [List.map_cons, List.map_nil, List.append_nil, List.cons_append, List.nil_append, List.nodup_cons, List.mem_cons, not_or]
        exact ⟨⟨natNe (by omega), (out _ (Nat.le_refl _)).2.2⟩, (out _ (Nat.le_succ _)).2.2, P.nodup⟩
      lnew := hLnone
      anew := fun a ha => .inl ha
      cnew := fun y hy c hc => by
        have e : y = cn := by simpa [baseOf] using hy
        subst e
        have : c = s.heap.objs.size + 1 := by
          have hc' : (callEnvC fd s.heap.objs.size f).cells.lookup y = some c := hc
          rw [hcs] at hc'; simp [List.lookup_cons] at hc'; exact hc'.symm
        subst this; exact hCnone
      ns := ⟨_, hns₂, fun y v e => by
        simp only [List.lookup_cons, List.lookup_nil] at e
        cases q' : y == p with
        | true => rw [q'] at e; cases e; exact ⟨u, if_pos (beq_iff_eq.mp q'), hvu⟩
        | false => rw [q'] at e; cases e⟩
      cells := fun y v e => by
        simp only [List.lookup_cons, List.lookup_nil] at e
        cases q' : y == cn with
        | true =>
          rw [q'] at e; cases e
          refine ⟨_, none, ?_, hc₂, rfl⟩
          show (callEnvC fd s.heap.objs.size f).cells.lookup y = _
          rw [hcs, List.lookup_cons, q']
        | false => rw [q'] at e; cases e
      ownl := P.ownl
      own := fun i a ys e1 e2 => (P.own i a ys e1 e2).mono (KLe.refl _) (List.prefix_refl _) fun o e => hk₁ _ _ e
      pon := fun a ha => ha
      iob := fun q hq => nomatch hq
      fok := fun env he L hL => by
        rcases List.mem_cons.mp he with q | q
        · subst q; cases hL; exact .inl rfl
        · exact .inr (P.fk env q L hL) }
    have hA' : AOk n (A.deeper (callEnvC fd s.heap.objs.size f)) (callEnvC fd s.heap.objs.size f :: fr) := by
      refine ⟨?_, ?_, ?_, hA.handled⟩
      · show A.frames.map _ = _
        rw [hA.frames]; rfl
      · have := hA.depth
        show A.depth + 1 + n < recursionLimit
        omega
      · have := hA.units
        show A.units + 3 + 40 * n < cLine
        omega
    refine h _ _ fr K s.heap ad hA' K ad { s with heap := h₁, toks := tk } R _ _ (fun fl s' K' ad' b σ' g1 g2 g3 g4 g5 g6 => ?_) (fun e s' K' ad' cls σ' _ _ _ _ _ x => x.elim)
    obtain ⟨k, k1, k2, k3⟩ := g6
    rw [← P.ownl] at k1 k2 k3
    obtain ⟨p1, p2, p3⟩ := exit_pub P g3 ⟨rfl, rfl, rfl, rfl⟩ g2 k2
    have hu : V K' ad' (retOf b) (flowVal fl) := by
      cases b with
      | ret v => simp only [FlowIs] at g4; obtain ⟨u, rfl, z⟩ := g4; exact z
      | next => simp only [FlowIs] at g4; subst g4; simp [retOf, V, flowVal]
      | brk => simp only [FlowIs] at g4; subst g4; simp [retOf, V, flowVal]
      | cont => simp only [FlowIs] at g4; subst g4; simp [retOf, V, flowVal]
    have z := k1 _ _ _ (fz_ok (p := ad.length) g3.keep g3.own k (retOf b) _ hu)
    obtain ⟨more, rfl⟩ := g2
    rw [List.take_left] at z
    exact q (flowVal fl) s' _ _ _ (g1.trans (shutK_le g3.keep)) p1 p2 p3 z (SameRest.trans (s' := { s with heap := h₁, toks := tk }) ⟨rfl, rfl, rfl⟩ g5) k3
end Mine
end

section
open PySem PySem.W PyProof.Rows PySem.Calls
set_option autoImplicit false
set_option linter.unusedVariables false
set_option linter.unusedSimpArgs false
set_option maxRecDepth 100000
namespace Mine

section
variable {M : Model} {A : Around} {E : Value → Shared → Prop} {s : Shared}
theorem newEnv_cell1 {scope : Scope} {globals : Addr} {cl : List (Str × Addr)} {qual : Str} {func : Option Addr} {code : Value} {env : Env} {builtins : Addr} {cn : Str} {Q : Env → Shared → Prop}
    (h1 : ∀ n acc, cellsFrom n scope.names acc = (cn, n) :: acc) (h2 : ∀ h, pushCells h scope.names = h.push { cls := .type "cell", data := .cell none })
    (hQ : Q (newEnv scope s.heap.objs.size globals ((cn, s.heap.objs.size + 1) :: cl) qual func code (some env) builtins) { s with heap := (s.heap.push { cls := .type "dict", data := .dict #[] }).push { cls := .type "cell", data := .cell none } }) :
    wpAny M A (newFunctionEnv scope globals cl [] qual func code (some env) builtins) Q E s := by
  simp only [newFunctionEnv, Option.isSome_some, if_true]
  refine wpAny_bind (wpAny_alloc ?_)
  refine wpAny_bind (wpAny_layCells _ (fun name kind cells => by cases hkc : kind == NameKind.cell <;> simp [hkc]) _ _ _ _ ?_)
  rw [show ({ s with heap := s.heap.push { cls := .type "dict", data := .dict #[] } } : Shared).heap.objs.size = s.heap.objs.size + 1 from Heap.size_push ..]
  rw [h1, h2]
  refine wpAny_bind ?_
  rw [List.forIn_nil]
  exact wpAny_pure (wpAny_pure hQ)
end

section
variable {G : Glob} {B : Base} {A : Around} {σ : St} {Ψ : XPost}

def compBaseC (B : Base) (scope : Scope) (cn : Str) (cl : List (Str × Addr)) (C : Addr) (K : PH) (h : Heap) (ad : List Addr) : Base :=
  { env := compEnvC scope ((cn, C + 1) :: cl) C B.env, fenv := B.fenv, outer := B.outer, K₀ := K, h₀ := h, po := ad, oc := [cn] }

theorem comp_enterC {K : PH} {ad : List Addr} {h h₄ : Heap} {scope : Scope} {cn : Str} {cl : List (Str × Addr)} {o : Obj} {ce' : List (Str × AV)} (R : Rel G B K ad σ h) (hcl : ClOk B cl) (hfr : o.isFreed = false) (hfl : ∃ vs, o.data = .fields vs)
    (hce : ∀ x v, ce'.lookup x = some v → σ.ce.lookup x = some v ∧ x ≠ cn ∧ ∃ c, cl.lookup x = some c)
    (e₄ : h₄ = (((h.push o).push (lstOf [] 0)).push { cls := .type "dict", data := .dict #[] }).push { cls := .type "cell", data := .cell none }) :
    Rel G ((compBaseC B scope cn cl (h.objs.size + 2) K h ad).withIo [(h.objs.size, o)]) K (ad ++ [h.objs.size + 1]) { lo := [], ce := (cn, unset) :: ce', ow := σ.ow ++ [.lst []] } h₄ := by
  have s1 : (h.push o).objs.size = h.objs.size + 1 := Heap.size_push ..
  have s2 : ((h.push o).push (lstOf [] 0)).objs.size = h.objs.size + 2 := by rw [Heap.size_push, s1]
  have s3 : (((h.push o).push (lstOf [] 0)).push { cls := .type "dict", data := .dict #[] }).objs.size = h.objs.size + 3 := by rw [Heap.size_push, s2]
  have kp : ∀ b o', h.get? b = some o' → h₄.get? b = some o' := fun b o' e => by
    rw [e₄]
    exact Heap.get?_push_of_some _ (Heap.get?_push_of_some _ (Heap.get?_push_of_some _ (Heap.get?_push_of_some _ e)))
  have hI : h₄.get? h.objs.size = some o := by
    rw [e₄]
    exact Heap.get?_push_of_some _ (Heap.get?_push_of_some _ (Heap.get?_push_of_some _ (Heap.get?_push_size _ hfr)))
  have hA : h₄.get? (h.objs.size + 1) = some (lstOf [] 0) := by
    rw [e₄]
    refine Heap.get?_push_of_some _ (Heap.get?_push_of_some _ ?_)
    rw [← s1]
    exact Heap.get?_push_size _ rfl
  have hns : h₄.Ns (h.objs.size + 2) fun _ => none := by
    have z := Heap.Ns.new ((h.push o).push (lstOf [] 0)) (.type "dict")
    rw [s2] at z
    rw [e₄]
    exact z.push _
  have hcc : h₄.IsCell (h.objs.size + 3) none := by
    rw [e₄, ← s3]
    exact ⟨_, Heap.get?_push_size _ rfl, rfl⟩
  have hC : ∃ oC, h₄.get? (h.objs.size + 2) = some oC := let ⟨oC, _, _, e, _⟩ := hns; ⟨oC, e⟩
  have hD : ∃ oC, h₄.get? (h.objs.size + 3) = some oC := let ⟨oC, e, _⟩ := hcc; ⟨oC, e⟩
  have P := R.keeps kp
  have out : ∀ b, h.objs.size ≤ b → K b = none ∧ b ∉ G.T ∧ h.get? b = none ∧ b ∉ privs B ad := fun b hb => by
    have hn : h.get? b = none := Heap.get?_none_of_le hb
    refine ⟨?_, fun q => ?_, hn, fun q => ?_⟩
    · cases e : K b with
      | none => rfl
      | some o' => rw [R.keep _ _ e] at hn; cases hn
    · obtain ⟨t, ht, e⟩ := List.mem_map.mp q
      obtain ⟨ps, e', _⟩ := R.tabs t ht
      rw [e, hn] at e'; cases e'
    · obtain ⟨o', e⟩ := R.live _ q
      rw [hn] at e; cases e
  have clp : ∀ c ∈ cl.map (·.2), c ∈ privs B ad := fun c hc => List.mem_cons_of_mem _ (List.mem_append_left _ (List.mem_append_left _ (hcl.mem c hc)))
  have adp : ∀ a ∈ ad, a ∈ privs B ad := fun a ha => (R.ownNeL ha).2
  have mem : ∀ b, b ∈ privs ((compBaseC B scope cn cl (h.objs.size + 2) K h ad).withIo [(h.objs.size, o)]) (ad ++ [h.objs.size + 1]) → b = h.objs.size + 2 ∨ b = h.objs.size + 3 ∨ b ∈ cl.map (·.2) ∨ b = h.objs.size ∨ b ∈ ad ∨ b = h.objs.size + 1 := fun b hb => by
    simp only [privs, Base.withIo, compBaseC, compEnvC, List.map_cons, List.map_nil, List.mem_cons, List.mem_append, List.not_mem_nil, or_false] at hb
    rcases hb with q | (((q | q) | q) | (q | q))
    · exact .inl q
    · exact .inr (.inl q)
    · exact .inr (.inr (.inl q))
    · exact .inr (.inr (.inr (.inl q)))
    · exact .inr (.inr (.inr (.inr (.inl q))))
    · exact .inr (.inr (.inr (.inr (.inr q))))
  have le : ∀ k, h.objs.size ≤ h.objs.size + k := fun k => Nat.le_add_right _ _
  refine ⟨R.base, P.keep, R.noT, P.tabs, .of_keeps fun b o' e _ _ => kp b o' e, KLe.refl _, fun b o' e => .inl e, P.ff, fun b hb => ?_, fun b hb => ?_, ?_, (out _ (le 2)).2.2.1, fun a ha => ?_, fun x hx c hc => ?_, ⟨_, hns, fun x v e => (nomatch e)⟩, fun x v e => ?_, by simp [R.ownl], fun i a w e1 e2 => ?_, fun a ha => List.mem_append_left _ ha, fun q hq => ?_, fun env he L hL => .inr (R.frames env he L hL)⟩
  · rcases mem b hb with q | q | q | q | q | q
    · rw [q]; exact ⟨(out _ (le 2)).1, (out _ (le 2)).2.1⟩
    · rw [q]; exact ⟨(out _ (le 3)).1, (out _ (le 3)).2.1⟩
    · exact R.priv b (clp b q)
    · rw [q]; exact ⟨(out _ (Nat.le_refl _)).1, (out _ (Nat.le_refl _)).2.1⟩
    · exact R.priv b (adp b q)
    · rw [q]; exact ⟨(out _ (le 1)).1, (out _ (le 1)).2.1⟩
  · rcases mem b hb with q | q | q | q | q | q
    · rw [q]; exact hC
    · rw [q]; exact hD
    · exact P.live b (clp b q)
    · rw [q]; exact ⟨_, hI⟩
    · exact P.live b (adp b q)
    · rw [q]; exact ⟨_, hA⟩
  · have nd := R.nodup
    unfold privs at nd
    rw [List.nodup_cons, List.nodup_append] at nd
    have lt : ∀ b ∈ privs B ad, ∀ k, b ≠ h.objs.size + k := fun b hb k q => by
      obtain ⟨o', e⟩ := R.live b hb
      exact absurd (Heap.lt_size e) (by rw [q]; exact Nat.not_lt_of_le (le k))
    simp only [privs, Base.withIo, compBaseC, compEnvC, List.map_cons, List.map_nil]
    rw [List.nodup_cons]
    refine ⟨fun q => ?_, List.nodup_append.mpr ⟨List.nodup_append.mpr ⟨List.nodup_cons.mpr ⟨fun q => lt _ (clp _ q) 3 rfl, hcl.nodup⟩, by simp, fun a ha b hb e => ?_⟩, List.nodup_append.mpr ⟨nd.2.2.1, by simp, fun a ha b hb e => ?_⟩, fun a ha b hb e => ?_⟩⟩
    · simp only [List.mem_append, List.mem_cons, List.not_mem_nil, or_false] at q
      rcases q with ((q | q) | q) | (q | q)
      · exact natAbs q (by omega)
      · exact lt _ (clp _ q) 2 rfl
      · exact natAbs q (by omega)
      · exact lt _ (adp _ q) 2 rfl
      · exact natAbs q (by omega)
    · simp only [List.mem_cons, List.not_mem_nil, or_false] at ha hb
      rcases ha with ha | ha
      · rw [ha, hb] at e; exact natAbs e (by omega)
      · exact lt _ (clp _ ha) 0 (by rw [e, hb]; rfl)
    · simp only [List.mem_cons, List.not_mem_nil, or_false] at hb
      exact lt _ (adp _ ha) 1 (by rw [e, hb])
    · simp only [List.mem_append, List.mem_cons, List.not_mem_nil, or_false] at ha hb
      rcases ha with (ha | ha) | ha <;> rcases hb with hb | hb
      · exact lt _ (adp _ hb) 3 (by rw [← e, ha])
      · rw [ha, hb] at e; exact natAbs e (by omega)
      · exact nd.2.2.2 a (List.mem_append_left _ (hcl.mem a ha)) b hb e
      · exact lt _ (clp _ ha) 1 (by rw [e, hb])
      · exact lt _ (adp _ hb) 0 (by rw [← e, ha]; rfl)
      · rw [ha, hb] at e; exact natAbs e (by omega)
  · rcases List.mem_append.mp ha with q | q
    · exact .inl q
    · rw [List.mem_singleton.mp q]; exact .inr (out _ (le 1)).2.2.1
  · have e : x = cn := by simpa [compBaseC, Base.withIo] using hx
    subst e
    have hc' : (((x, h.objs.size + 2 + 1) :: cl : List (Str × Addr))).lookup x = some c := hc
    rw [List.lookup_cons, beq_self_eq_true] at hc'
    cases hc'
    exact (out _ (le 3)).2.2.1
  · dsimp only at e
    rw [List.lookup_cons] at e
    cases q : x == cn with
    | true =>
      rw [q] at e; cases e
      refine ⟨h.objs.size + 3, none, ?_, hcc, rfl⟩
      show (((cn, h.objs.size + 2 + 1) :: cl : List (Str × Addr))).lookup x = _
      rw [List.lookup_cons, q]
    | false =>
      rw [q] at e
      obtain ⟨e1, _, c, e2⟩ := hce x v e
      obtain ⟨c', u, h1, h2, h3⟩ := R.cells x v e1
      have : c' = c := by rw [hcl.look x c e2] at h1; cases h1; rfl
      subst this
      refine ⟨c', u, ?_, h2.keeps kp, h3.mono (KLe.refl _) (List.prefix_append _ _)⟩
      show (((cn, h.objs.size + 2 + 1) :: cl : List (Str × Addr))).lookup x = _
      rw [List.lookup_cons, q]; exact e2
  · dsimp only at e2
    by_cases hi : i < ad.length
    · rw [List.getElem?_append_left hi] at e1
      rw [List.getElem?_append_left (R.ownl ▸ hi)] at e2
      exact (R.own i a w e1 e2).mono (KLe.refl _) (List.prefix_append _ _) fun o' e => kp _ _ e
    · have hl := (List.getElem?_eq_some_iff.mp e1).1
      simp only [List.length_append, List.length_singleton] at hl
      have : i = ad.length := by omega
      subst this
      have ea : a = h.objs.size + 1 := by
        have := e1; rw [List.getElem?_append_right (Nat.le_refl _)] at this; simp at this; exact this.symm
      have ex : w = .lst [] := by
        rw [R.ownl] at e2; rw [List.getElem?_append_right (Nat.le_refl _)] at e2; simp at e2; exact e2.symm
      subst ea; subst ex
      exact ⟨[], 0, hA, Vs.nil⟩
  · have : q = (h.objs.size, o) := by simpa [Base.withIo] using hq
    subst this
    exact ⟨hI, hfl, (out _ (Nat.le_refl _)).2.2.1⟩

abbrev CompOkC (G : Glob) (B : Base) (A : Around) (σ : St) (elt t iter : Expr) (ifs : List Expr) (scope : Scope) (cn : Str) (cl : List (Str × Addr)) (ce' : List (Str × AV)) (Φ : AV → St → Prop) (Ψ : XPost) : Prop :=
  Ev G B A σ iter (fun v σ₁ => ∃ xs, Iterable G B A σ₁ v xs ∧ (∀ x v, ce'.lookup x = some v → σ₁.ce.lookup x = some v ∧ x ≠ cn ∧ ∃ c, cl.lookup x = some c) ∧
      ∀ B', (∃ C K h ad, C + 1 ∉ cl.map (·.2) ∧ B' = compBaseC B scope cn cl C K h ad) → CompL G B' A σ₁.ow.length t ifs elt (fun ys σ' => ShutW σ₁.ow.length (σ'.ow.take σ₁.ow.length) ∧ (∀ y ∈ ys, Shut σ₁.ow.length y) ∧ Φ (.lst ys) { σ₁ with ow := σ'.ow.take σ₁.ow.length }) xs [] { lo := [], ce := (cn, unset) :: ce', ow := σ₁.ow ++ [.lst []] }) Ψ

theorem comp_runC {Φ : AV → St → Prop} {elt t iter : Expr} {ifs : List Expr} {scope : Scope} {pos : Pos} {cn : Str} {cl : List (Str × Addr)} {ce' : List (Str × AV)} {use : Option (Value → Sem Unit)} {K : PH} {ad : List Addr} {s : Shared} {Q : Value → Shared → Prop} {E : Value → Shared → Prop} {p : Pos}
    (hclos : closureFor scope B.env = pure cl) (hcl : ClOk B cl) (hkind : scope.kind = .function) (hc1 : ∀ n acc, cellsFrom n scope.names acc = (cn, n) :: acc) (hc2 : ∀ h, pushCells h scope.names = h.push { cls := .type "cell", data := .cell none }) (hnames : ∀ x ∈ scope.names, x.2 = .local → scope.names.lookup x.1 = some .local)
    (hs : ∀ x, foldedSetIterable iter B.env x = pure x) (hgo : ∀ i v, letOwnedTupleGo t (.ref i) v = pure ())
    (hR : Rel G B K ad σ s.heap)
    (h : CompOkC G B A σ elt t iter ifs scope cn cl ce' Φ Ψ)
    (ex : EC G B K ad s Ψ E)
    (q : ∀ acc C s' K' ad' ys σ', KLe K K' → ad <+: ad' → Rel G B K' ad' σ' s'.heap → V K' ad' (.lst ys) acc → SameRest s s' → Φ (.lst ys) σ' → K' C = none → C ∉ privs B ad' → C ∉ G.T → B.h₀.get? C = none → (∀ env ∈ B.fenv :: B.outer, env.frame ≠ some C) → (∃ m, s'.heap.Ns C m) →
      compPost (model G.prog G.w) A E use Q acc C (.ok .next) s') :
    wpAny (model G.prog G.w) A (comprehension (.ListComp elt [⟨t, iter, ifs, 0⟩] scope pos) scope B.env p (newList []) false (eval iter B.env) use) Q E s := by
  refine wpAny_comprehension_free (g := ⟨t, iter, ifs, 0⟩) (gs := []) rfl hs hclos hkind hnames ?_
  refine h K ad s hR _ _ (fun u s₁ K₁ ad₁ v σ₁ g1 g2 g3 g4 g5 g6 => ?_) ex
  obtain ⟨xs, hi, hce, hL⟩ := g6
  refine hi K₁ ad₁ s₁ u g3 g4 _ _ fun P o I hP hfr => ?_
  refine wpAny_newList ?_ (by decide)
  refine newEnv_cell1 hc1 hc2 ?_
  have s1 : (s₁.heap.push o).objs.size = s₁.heap.objs.size + 1 := Heap.size_push ..
  have s2 : ((s₁.heap.push o).push (lstOf [] 0)).objs.size = s₁.heap.objs.size + 2 := by rw [Heap.size_push, s1]
  have R₄ := comp_enterC (scope := scope) (ce' := ce') g3 hcl hfr (I.fl 0 o hP) hce rfl
  have hnew : s₁.heap.objs.size + 2 + 1 ∉ cl.map (·.2) := fun z => by
    obtain ⟨o', e⟩ := g3.live _ (List.mem_cons_of_mem _ (List.mem_append_left _ (List.mem_append_left _ (hcl.mem _ z))))
    have z2 : s₁.heap.objs.size + 2 + 1 < s₁.heap.objs.size := Heap.lt_size e
    exact absurd z2 (Nat.not_lt.mpr (Nat.le_trans (Nat.le_add_right _ 2) (Nat.le_add_right _ 1)))
  have hjacc : (ad₁ ++ [s₁.heap.objs.size + 1])[σ₁.ow.length]? = some (s₁.heap.objs.size + 1) := by rw [← g3.ownl]; simp
  show codeAny (model G.prog G.w) A (.compStart (.ListComp elt [⟨t, iter, ifs, 0⟩] scope pos) 0 (.ref s₁.heap.objs.size) (.ref (s₁.heap.push o).objs.size) (compEnvC scope ((cn, ((s₁.heap.push o).push (lstOf [] 0)).objs.size + 1) :: cl) ((s₁.heap.push o).push (lstOf [] 0)).objs.size B.env))
      (compPost (model G.prog G.w) A E use Q (.ref (s₁.heap.push o).objs.size) ((s₁.heap.push o).push (lstOf [] 0)).objs.size) { s₁ with heap := (((s₁.heap.push o).push (lstOf [] 0)).push { cls := .type "dict", data := .dict #[] }).push { cls := .type "cell", data := .cell none } }
  rw [s2, s1]
  have main : codeAny (model G.prog G.w) A (.compLoop (.ListComp elt [⟨t, iter, ifs, 0⟩] scope pos) 0 (.ref s₁.heap.objs.size) (.ref (s₁.heap.objs.size + 1)) (compEnvC scope ((cn, s₁.heap.objs.size + 2 + 1) :: cl) (s₁.heap.objs.size + 2) B.env))
      (compPost (model G.prog G.w) A E use Q (.ref (s₁.heap.objs.size + 1)) (s₁.heap.objs.size + 2)) { s₁ with heap := (((s₁.heap.push o).push (lstOf [] 0)).push { cls := .type "dict", data := .dict #[] }).push { cls := .type "cell", data := .cell none } } := by
    refine comp_loop (B := compBaseC B scope cn cl (s₁.heap.objs.size + 2) K₁ s₁.heap ad₁) R₄ hP (I.mono (KLe.refl _) (List.prefix_append _ _)) hjacc (by simp) (hL _ ⟨_, _, _, _, hnew, rfl⟩) (fun s' K' ad' ys σ' f1 f2 f3 f4 f5 f6 => ?_) hgo
    obtain ⟨w1, w2, w3⟩ := f6
    have hpre : ad₁ <+: ad' := (List.prefix_append _ _).trans f2
    rw [← g3.ownl] at w1 w2 w3
    have R' := comp_exit g3 f3 ⟨rfl, rfl, rfl, rfl, rfl⟩ hpre w1
    have hja := pre_get f2 hjacc
    have hV := V_shut hpre f3.keep (by rw [g3.ownl]; exact Nat.le_refl _) hja (f3.own _ _ _ hja f4) w2
    have hCn : s₁.heap.get? (s₁.heap.objs.size + 2) = none := Heap.get?_none_of_le (Nat.le_add_right _ _)
    have hCp := f3.priv _ (List.Mem.head _)
    have hCad : s₁.heap.objs.size + 2 ∉ ad' := fun z => (f3.ownNeL z).1 rfl
    refine q (.ref (s₁.heap.objs.size + 1)) _ s' _ ad₁ ys _ (g1.trans (f1.trans (shutK_le f3.keep))) g2 R' hV (g5.trans (SameRest.trans ⟨rfl, rfl, rfl⟩ f5)) w3 ?_ ?_ hCp.2 ?_ (frames_ne hCn g3.ff) ?_
    · unfold shutK
      rw [if_neg fun z => hCad (List.mem_of_mem_drop z)]
      exact hCp.1
    · intro z
      obtain ⟨o', e⟩ := g3.live _ z
      rw [hCn] at e; cases e
    · exact (g3.beyond (Nat.le_add_right _ _)).2.2.1
    · obtain ⟨m, hm, _⟩ := f3.ns
      exact ⟨m, hm⟩
  exact codeAny_compStart_list main (I.self 0 _ _ o _ _ (R₄.iob _ (List.Mem.head _)).1 hP main)

theorem Ex1.assignCompC {Φ : AF → St → Prop} {x : Str} {p1 pos cpos : Pos} {elt t iter : Expr} {ifs : List Expr} {scope : Scope} {cn : Str} {cl : List (Str × Addr)} {ce' : List (Str × AV)} (hE : EnvOk B.env) (hl : B.env.kindOf x = some .local)
    (hclos : closureFor scope B.env = pure cl) (hcl : ClOk B cl) (h : CompOkC G B A σ elt t iter ifs scope cn cl ce' (fun v σ₁ => Φ .next { σ₁ with lo := setL σ₁.lo x v }) Ψ)
    (hsw : swapsWith (.ListComp elt [⟨t, iter, ifs, 0⟩] scope cpos) (some (.Name x p1)) pos.line B.env = pure true := by rfl)
    (hkind : scope.kind = .function := by rfl) (hc1 : ∀ n acc, cellsFrom n scope.names acc = (cn, n) :: acc := by intro _ _; rfl) (hc2 : ∀ h, pushCells h scope.names = h.push { cls := .type "cell", data := .cell none } := by intro _; rfl) (hnames : ∀ x ∈ scope.names, x.2 = .local → scope.names.lookup x.1 = some .local := by decide)
    (hs : ∀ x, foldedSetIterable iter B.env x = pure x := by intro _; rfl) (hgo : ∀ i v, letOwnedTupleGo t (.ref i) v = pure () := by intro _ _; rfl) :
    Ex1 G B A σ (.Assign [.Name x p1] (.ListComp elt [⟨t, iter, ifs, 0⟩] scope cpos) pos) Φ Ψ := fun K ad s hR Q E q ex => by
  rw [exec_Assign_Name_used (hs := hsw)]
  refine wpAny_bind (wpAny_standAt (wpAny_bind ?_))
  show wpAny _ A (do let _ ← comprehension (.ListComp elt [⟨t, iter, ifs, 0⟩] scope cpos) scope B.env (firstIterPos [⟨t, iter, ifs, 0⟩] cpos) (newList []) (firstAsync [⟨t, iter, ifs, 0⟩]) (firstIter [⟨t, iter, ifs, 0⟩] B.env) (some (PySem.assign (.Name x p1) B.env))) _ _ s
  refine wpAny_bind ?_
  refine comp_runC (Φ := fun v σ₁ => Φ .next { σ₁ with lo := setL σ₁.lo x v }) (use := some (PySem.assign (.Name x p1) B.env)) hclos hcl hkind hc1 hc2 hnames hs hgo hR h ex fun acc C s' K' ad' ys σ' g1 g2 g3 g4 g5 g6 c1 c2 c3 c4 c5 c6 => ?_
  obtain ⟨m, hm⟩ := c6
  obtain ⟨mL, hmL, _⟩ := g3.ns
  have hCL : C ≠ B.env.locals := fun e => c2 (e ▸ .head _)
  refine wpAny_assign_Name (wpAny_storeName_local hl hmL (fun h' hn hsb => ⟨m, hm.sameBut hsb hCL, fun h'' hsb' => ?_⟩) (by rw [hE.kind]; rfl))
  have R' := (g3.setLo g4 hmL hn hsb).aside hsb'.extBut c1 c2 c3 c4 c5
  exact wpAny_pure (wpAny_pure (q .next { s' with heap := h'', toks := s'.toks + 1 } K' ad' .next _ g1 g2 R' rfl (g5.trans ⟨rfl, rfl, rfl⟩) g6))

/-- x, y = [comprehension]: the list is unpacked at once -/
theorem Ex1.assignComp2 {Φ : AF → St → Prop} {x y : Str} {p1 p2 tp pos cpos : Pos} {k : Nat} {elt t iter : Expr} {ifs : List Expr} {scope : Scope} {cl : List (Str × Addr)} {ce' : List (Str × AV)} (hh : A.handled = none) (hE : EnvOk B.env) (hx : B.env.kindOf x = some .local) (hy : B.env.kindOf y = some .local)
    (hclos : closureFor scope B.env = pure cl) (hcl : ClOk B cl) (h : CompOk G B A σ elt t iter ifs scope cl ce' (fun v σ₁ => ∃ a b, v = .lst [a, b] ∧ Φ .next { σ₁ with lo := setL (setL σ₁.lo x a) y b }) Ψ)
    (hsw : swapsWithSole [.Tuple [.Name x p1, .Name y p2] k tp] (.ListComp elt [⟨t, iter, ifs, 0⟩] scope cpos) pos.line B.env = pure false := by rfl)
    (hw : swappedStores [.Tuple [.Name x p1, .Name y p2] k tp] (.ListComp elt [⟨t, iter, ifs, 0⟩] scope cpos) B.env = pure none := by rfl)
    (hkind : scope.kind = .function := by rfl) (hnc : ∀ x ∈ scope.names, x.2 ≠ .cell := by decide) (hnames : ∀ x ∈ scope.names, x.2 = .local → scope.names.lookup x.1 = some .local := by decide)
    (hs : ∀ x, foldedSetIterable iter B.env x = pure x := by intro _; rfl) (hgo : ∀ i v, letOwnedTupleGo t (.ref i) v = pure () := by intro _ _; rfl) :
    Ex1 G B A σ (.Assign [.Tuple [.Name x p1, .Name y p2] k tp] (.ListComp elt [⟨t, iter, ifs, 0⟩] scope cpos) pos) Φ Ψ :=
  Ex1.assign2 hh hE hx hy (Do.mono (Ev.comp (Φ := fun v σ₁ => ∃ a b, v = .lst [a, b] ∧ Φ .next { σ₁ with lo := setL (setL σ₁.lo x a) y b }) hclos hcl h hkind hnc hnames hs hgo) (fun v σ₁ z => by
    obtain ⟨a, b, rfl, k⟩ := z
    exact ⟨a, b, .lst a b, k⟩)) hsw hw
end
end Mine
end

section
open PySem PySem.W PyProof.Rows PySem.Calls
set_option autoImplicit false
set_option linter.unusedVariables false
set_option maxRecDepth 100000
namespace Mine

/-- a function's own block: no cells, no iterators but what is told -/
structure Own (B : Base) (A : Around) : Prop where
  fe : B.fenv = B.env
  fl : B.env.frame = some B.env.locals
  cs : B.env.cells = []
  fr : A.frames = some (B.fenv :: B.outer)

section
variable {G : Glob} {B : Base} {A : Around} {σ : St} {Ψ : XPost} {K : PH} {ad : List Addr} {h h' : Heap}

theorem Rel.frame_ne (R : Rel G B K ad σ h) {b : Addr} {o : Obj} {vs : Array Value} (e : h.get? b = some o) (hd : o.data = .fields vs) : ∀ env ∈ B.fenv :: B.outer, env.frame ≠ some b := fun env he q => by
  obtain ⟨_, _, _, o', es, n, h1, h2⟩ := R.frames env he b q
  rw [e] at h1; cases h1; rw [hd] at h2; cases h2
theorem Rel.T_ne (R : Rel G B K ad σ h) {b : Addr} {o : Obj} {n : String} (e : h.get? b = some o) (hc : o.cls = .type n) : b ∉ G.T := fun q => by
  obtain ⟨t, ht, e'⟩ := List.mem_map.mp q
  obtain ⟨ps, e2, _⟩ := R.tabs t ht
  rw [e', e] at e2; cases e2; cases hc

theorem Rel.slots (R : Rel G B K ad σ h) (hcs : B.env.cells = []) (hs : Heap.SlotsOnly ((B.fenv :: B.outer).filterMap (·.frame)) h h') : Rel G B K ad σ h' := by
  have nf : ∀ b, (∀ env ∈ B.fenv :: B.outer, env.frame ≠ some b) → h'.get? b = h.get? b := fun b hb => hs.2.1 b fun m => by
    obtain ⟨env, he, q⟩ := List.mem_filterMap.mp m
    exact hb env he q
  refine ⟨R.base, fun b o e => ?_, R.noT, fun t ht => ?_, fun b o e hx ht => ?_, R.K0, R.new, Heap.FunFrames.of_slotsOnly hs R.ff, R.priv, fun b hb => ?_, R.nodup, R.lnew, R.anew, R.cnew, ?_, fun x v e => ?_, R.ownl, fun i a w e1 e2 => ?_, R.pon, fun q hq => ?_, R.fok⟩
  · rw [nf b fun env he q => ?_]
    · exact R.keep b o e
    · obtain ⟨_, _, z, _⟩ := R.frames env he b q; rw [z] at e; cases e
  · obtain ⟨ps, e, r⟩ := R.tabs t ht
    refine ⟨ps, ?_, r⟩
    rw [nf t.P fun env he q => (R.frames env he t.P q).1 (List.mem_map_of_mem ht)]
    exact e
  · obtain ⟨sl, e1, q1⟩ := R.step b o e hx ht
    by_cases hb : ∀ env ∈ B.fenv :: B.outer, env.frame ≠ some b
    · exact ⟨sl, (nf b hb).trans e1, q1⟩
    · obtain ⟨sl', e2⟩ := hs.2.2 b _ e1
      refine ⟨sl', e2, fun z => ?_⟩
      exfalso
      apply hb
      intro env he q
      obtain ⟨_, _, _, o', es, n, h1, h2⟩ := R.frames env he b q
      rw [e1] at h1; cases h1
      exact z es n h2
  · obtain ⟨o, e⟩ := R.live b hb
    obtain ⟨sl, e'⟩ := hs.2.2 b o e
    exact ⟨_, e'⟩
  · obtain ⟨m, ⟨o, es, ep, ho, hd, r1⟩, r⟩ := R.ns
    obtain ⟨sl, e'⟩ := hs.2.2 _ o ho
    exact ⟨m, ⟨_, es, ep, e', hd, r1⟩, r⟩
  · obtain ⟨c, u, h1, _⟩ := R.cells x v e
    rw [hcs] at h1; cases h1
  · refine (R.own i a w e1 e2).mono (KLe.refl _) (List.prefix_refl _) fun o e => ?_
    rw [nf a fun env he q => (R.frames env he a q).2.1 (List.mem_of_getElem? e1)]
    exact e
  · obtain ⟨h1, ⟨vs, h2⟩, h3⟩ := R.iob q hq
    exact ⟨(nf _ (R.frame_ne h1 h2)).trans h1, ⟨vs, h2⟩, h3⟩

/-- an exception that was noted here, its flight fl -/
def Noted (B : Base) (K : PH) (ad : List Addr) (h : Heap) (e : Addr) (c : XC) (fl : Value) : Prop :=
  K e = none ∧ e ∉ privs B ad ∧ B.h₀.get? e = none ∧ ∃ ob vs tb, h.get? e = some ob ∧ ob.cls = .type c.cls ∧ ob.data = .fields vs ∧ (c.bare = true → vs[2]? = some .none) ∧ 2 < vs.size ∧ vs[1]? = some (.ref tb) ∧ TbAt B K ad h e tb fl

theorem Noted.exc {e : Addr} {c : XC} {L : Addr} (hL : B.fenv.frame = some L) (x : Noted B K ad h e c (rawInt L)) : Exc B K ad h e c := by
  obtain ⟨h1, h2, h3, ob, vs, tb, k1, k2, k3, k4, k5, k6, k7⟩ := x
  exact ⟨h1, h2, h3, ob, vs, k1, k2, k3, k4, k5, .inr ⟨L, tb, hL, k6, k7⟩⟩

theorem note {s : Shared} {e : Addr} {c : XC} {Q : Unit → Shared → Prop} {E : Value → Shared → Prop} (O : Own B A) (R : Rel G B K ad σ s.heap) (x : Exc B K ad s.heap e c)
    (q : ∀ h', Rel G B K ad σ h' → Noted B K ad h' e c (rawInt B.env.locals) → Q () { s with heap := h' }) : wpAny (model G.prog G.w) A (noteFrame (.ref e) B.env) Q E s := by
  obtain ⟨x1, x2, x3, ob, vs, k1, k2, k3, k4, k5, k6⟩ := x
  unfold noteFrame
  simp only [O.fl]
  rcases k6 with k6 | ⟨L, tb, k6, k7, k8⟩
  · refine wpAny_bind (wpAny_field k1 k3 k6 ?_)
    rw [if_neg (by decide)]
    have hfr : A.frames = some (B.env :: B.outer) := O.fe ▸ O.fr
    have hff : s.heap.FunFrames G.H (B.env :: B.outer) := O.fe ▸ R.ff
    refine wpAny_bind (wpAny_frameOf_fun hfr hff O.fl fun h₁ hs₁ => ?_)
    have hs₁' : Heap.SlotsOnly ((B.fenv :: B.outer).filterMap (·.frame)) s.heap h₁ := by rw [O.fe]; exact hs₁
    have R₁ := R.slots O.cs hs₁'
    have he₁ : h₁.get? e = some ob := by
      rw [hs₁'.2.1 e fun m => by obtain ⟨env, he, z⟩ := List.mem_filterMap.mp m; exact R.frame_ne k1 k3 env he z]
      exact k1
    refine wpAny_bind (wpAny_entryPlaceOf fun pl hpl => ?_)
    unfold EntryCells.newEntry newFields
    refine wpAny_bind (wpAny_newObj_type ?_ (hpl.sizeOk5 _ _ _ _ _))
    have R₂ := R₁.push { cls := .type "traceback", dict := none, data := .fields ([.none, .ref B.env.locals, .none, rawInt B.env.locals, .none] ++ (if pl.isEmpty then List.replicate 6 Value.none else pl)).toArray }
    have he₂ := Heap.get?_push_of_some (h := h₁) { cls := .type "traceback", dict := none, data := .fields ([.none, .ref B.env.locals, .none, rawInt B.env.locals, .none] ++ (if pl.isEmpty then List.replicate 6 Value.none else pl)).toArray } he₁
    refine wpAny_setField he₂ k3 (by omega) ?_
    have hTe : h₁.objs.size ≠ e := Nat.ne_of_gt (Heap.lt_size he₁)
    have hd₃ := Obj.data_mapFields k3 (·.setIfInBounds 1 (Value.ref h₁.objs.size))
    have he₃ := Heap.get?_update_self (Obj.mapFields (·.setIfInBounds 1 (Value.ref h₁.objs.size))) he₂ (Obj.isFreed_of_fields hd₃)
    obtain ⟨b1, b2, b3, b4⟩ := R₁.beyond (Nat.le_refl _)
    have hT₃ := (Heap.get?_update_other (h₁.push { cls := .type "traceback", dict := none, data := .fields ([.none, .ref B.env.locals, .none, rawInt B.env.locals, .none] ++ (if pl.isEmpty then List.replicate 6 Value.none else pl)).toArray })
      (Obj.mapFields (·.setIfInBounds 1 (Value.ref h₁.objs.size))) (Ne.symm hTe)).trans (Heap.get?_push_size h₁ rfl)
    refine q _ (R₂.aside (Heap.SameBut.update ..).extBut x1 x2 (R₂.T_ne he₂ k2) x3 (R₂.frame_ne he₂ k3)) ⟨x1, x2, x3, _, _, h₁.objs.size, he₃, (Obj.cls_mapFields ..).trans k2, hd₃, fun z => ?_, by simpa using k5, ?_, hTe, b1, b4, b3, _, _, hT₃, rfl, rfl, by simp⟩
    · have := k4 z
      rw [Array.getElem?_setIfInBounds_ne (by decide)]; exact this
    · rw [Array.getElem?_setIfInBounds_self_of_lt (by omega)]
  · have hL : L = B.env.locals := by rw [O.fe, O.fl] at k6; cases k6; rfl
    subst hL
    obtain ⟨t1, t2, t3, t4, otb, tvs, t5, t6, t7, t8⟩ := k8
    refine wpAny_bind (wpAny_field k1 k3 k7 ?_)
    rw [if_pos (show (Value.ref tb != Value.none) = true from by simp)]
    refine wpAny_bind (wpAny_field t5 t7 t8 ?_)
    rw [if_pos (beq_self_eq_true _)]
    exact wpAny_pure (q s.heap R ⟨x1, x2, x3, ob, vs, tb, k1, k2, k3, k4, k5, k7, t1, t2, t3, t4, otb, tvs, t5, t6, t7, t8⟩)

/-- the flight is set -/
theorem flight {s : Shared} {e : Addr} {c : XC} {fl : Value} {f : Option Addr} {Q : Unit → Shared → Prop} {E : Value → Shared → Prop} (R : Rel G B K ad σ s.heap) (x : Noted B K ad s.heap e c fl)
    (q : ∀ h', Rel G B K ad σ h' → Noted B K ad h' e c (f.elim .none fun f => rawInt f) → Q () { s with heap := h' }) : wpAny (model G.prog G.w) A (setFlight (.ref e) f) Q E s := by
  obtain ⟨x1, x2, x3, ob, vs, tb, k1, k2, k3, k4, k5, k6, t1, t2, t3, t4, otb, tvs, t5, t6, t7, t8⟩ := x
  unfold setFlight
  refine wpAny_bind (wpAny_field k1 k3 k6 ?_)
  rw [if_pos (show (Value.ref tb != Value.none) = true from by simp)]
  have hlt : 3 < tvs.size := (Array.getElem?_eq_some_iff.mp t8).1
  refine wpAny_setField t5 t7 hlt ?_
  have hd' := Obj.data_mapFields t7 (·.setIfInBounds 3 (f.elim Value.none fun f => rawInt f))
  refine q _ (R.aside (Heap.SameBut.update ..).extBut t2 t3 (R.T_ne t5 t6) t4 (R.frame_ne t5 t7)) ⟨x1, x2, x3, ob, vs, tb, ?_, k2, k3, k4, k5, k6, t1, t2, t3, t4, _, _, Heap.get?_update_self _ t5 (Obj.isFreed_of_fields hd'), (Obj.cls_mapFields ..).trans t6, hd', ?_⟩
  · rw [Heap.get?_update_other _ _ t1]; exact k1
  · rw [Array.getElem?_setIfInBounds_self_of_lt hlt]

theorem cameBack {s : Shared} {e : Addr} {c : XC} {fl : Value} {E : Value → Shared → Prop} (O : Own B A) (R : Rel G B K ad σ s.heap) (x : Noted B K ad s.heap e c fl)
    (q : ∀ h', Rel G B K ad σ h' → Noted B K ad h' e c (rawInt B.env.locals) → E (.ref e) { s with heap := h' }) : cameBackBy (model G.prog G.w) A B.env E (.ref e) s := by
  obtain ⟨x1, x2, x3, ob, vs, tb, k1, k2, k3, k4, k5, k6, k7⟩ := id x
  unfold cameBackBy
  refine wpAny_bind (wpAny_field k1 k3 k6 ?_)
  rw [if_neg (show ¬ ((Value.ref tb == Value.none) = true) from by simp)]
  rw [O.fl]
  exact flight R x fun h' R' x' => q h' R' x'

theorem notedBack {s : Shared} {e : Addr} {c : XC} {E : Value → Shared → Prop} {A' : Around} (O : Own B A) (O' : Own B A') (R : Rel G B K ad σ s.heap) (x : Exc B K ad s.heap e c)
    (q : ∀ h', Rel G B K ad σ h' → Exc B K ad h' e c → E (.ref e) { s with heap := h' }) : notedBy (model G.prog G.w) A' B.env (cameBackBy (model G.prog G.w) A B.env E) (.ref e) s := by
  unfold notedBy
  exact note O' R x fun h₁ R₁ x₁ => cameBack (s := { s with heap := h₁ }) O R₁ x₁ fun h₂ R₂ x₂ => q h₂ R₂ (x₂.exc (by rw [O.fe]; exact O.fl))

-- a while whose turns may raise
theorem Ex1.whileX {Φ : AF → St → Prop} {t : Expr} {body : List Stmt} {pos : Pos} (O : Own B A) (I : Nat → St → Prop) (n : Nat) (h₀ : I n σ)
    (turn : ∀ n σ, I n σ → Tr G B A σ t (fun b σ₁ => if b then Ex G B A σ₁ body (loopK (fun σ₂ => ∃ m, m < n ∧ I m σ₂) Φ) Ψ else Φ .next σ₁) Ψ) : Ex1 G B A σ (.While t body [] pos) Φ Ψ := fun K ad s hR Q E q ex => by
  refine wpAny_While (codeAny_whileLoop (fun m s' => ∃ K' ad' σ', KLe K K' ∧ ad <+: ad' ∧ Rel G B K' ad' σ' s'.heap ∧ SameRest s s' ∧ I m σ') ?_ n ⟨K, ad, σ, KLe.refl _, List.prefix_refl _, hR, SameRest.refl _, h₀⟩)
  rintro m s₁ ⟨K₁, ad₁, σ₁, hK, had, hR₁, hs, hI⟩
  have ex' : ∀ {K₂ ad₂} {s₂ : Shared}, KLe K K₂ → ad <+: ad₂ → SameRest s s₂ → EC G B K₂ ad₂ s₂ Ψ (notedBy (model G.prog G.w) A B.env (cameBackBy (model G.prog G.w) A B.env E)) := fun e1 e2 e3 e s' K' ad' c σ' g1 g2 g3 g4 g5 g6 =>
    notedBack O O g3 g4 fun h' R' x' => ex e { s' with heap := h' } K' ad' c σ' (e1.trans g1) (e2.trans g2) R' x' (e3.trans (g5.trans ⟨rfl, rfl, rfl⟩)) g6
  refine turn m σ₁ hI K₁ ad₁ s₁ hR₁ _ _ (fun b s₂ K₂ ad₂ c σ₂ g1 g2 g3 g4 g5 g6 => ?_) (ex' hK had hs)
  cases g4
  cases b with
  | false =>
    rw [if_neg Bool.false_ne_true] at g6 ⊢
    exact wpAny_execs_nil (q _ s₂ K₂ ad₂ .next σ₂ (hK.trans g1) (had.trans g2) g3 rfl (hs.trans g5) g6)
  | true =>
    rw [if_pos rfl] at g6 ⊢
    refine g6 K₂ ad₂ s₂ g3 _ _ (fun fl s₃ K₃ ad₃ f σ₃ f1 f2 f3 f4 f5 f6 => ?_) (ex' (hK.trans g1) (had.trans g2) (hs.trans g5))
    have e1 := hK.trans (g1.trans f1)
    have e2 := had.trans (g2.trans f2)
    have e3 := hs.trans (g5.trans f5)
    cases f with
    | next =>
      simp only [FlowIs] at f4; subst f4
      obtain ⟨m', hm', hI'⟩ := f6
      exact ⟨m', hm', K₃, ad₃, σ₃, e1, e2, f3, e3, hI'⟩
    | cont =>
      simp only [FlowIs] at f4; subst f4
      obtain ⟨m', hm', hI'⟩ := f6
      exact ⟨m', hm', K₃, ad₃, σ₃, e1, e2, f3, e3, hI'⟩
    | brk =>
      simp only [FlowIs] at f4; subst f4
      exact q .next s₃ K₃ ad₃ .next σ₃ e1 e2 f3 rfl e3 f6
    | ret v =>
      have z := f4
      simp only [FlowIs] at f4; obtain ⟨w, rfl, _⟩ := f4
      exact q _ s₃ K₃ ad₃ (.ret v) σ₃ e1 e2 f3 z e3 f6

theorem Own.mark (O : Own B A) (v : Option Value) : Own B (A.mark v) := ⟨O.fe, O.fl, O.cs, O.fr⟩

/-- a built-in class of exceptions, as except asks for it -/
structure ExcCls (T : String) : Prop where
  exc : isSubtype (.type T) (.type "BaseException") = pure true
  nt : isSubtype (.type ((Manifest.find? T).elim "type" fun x => x.metatype)) (.type "tuple") = pure false
  self : isSubtype (.type T) (.type T) = pure true

theorem Ex1.tryExcept {Φ : AF → St → Prop} {body : List Stmt} {T : String} {n : Str} {np hp pos : Pos} {b₀ : Stmt} {suite : List Stmt} (GO : G.Ok) (O : Own B A) (hE : EnvOk B.env) (hc : ExcCls T) (hl : B.env.kindOf n = some .globalImplicit) (hn : G.mg n = Option.none) (hv : G.mb n = some (.type T))
    (h : Ex G B A σ body Φ (fun c σ₁ => c.cls = T ∧ ∀ e, Ex G B (A.mark (some (.ref e))) σ₁ (b₀ :: suite) Φ noX))
    (hd : (n == ("__debug__" : Str)) = false := by decide) : Ex1 G B A σ (.Try body [.ExceptHandler (some (.Name n np)) none (b₀ :: suite) hp] [] [] pos) Φ Ψ := fun K ad s hR Q E q ex => by
  refine wpAny_Try_except (h K ad s hR _ _ (fun fl s₁ K₁ ad₁ f σ₁ g1 g2 g3 g4 g5 g6 => ?_) (fun e s₁ K₁ ad₁ c σ₁ g1 g2 g3 g4 g5 g6 => ?_))
  · cases f with
    | next => simp only [FlowIs] at g4; subst g4; exact wpAny_execs_nil (q .next s₁ K₁ ad₁ .next σ₁ g1 g2 g3 rfl g5 g6)
    | brk => have z := g4; simp only [FlowIs] at g4; subst g4; exact q _ s₁ K₁ ad₁ _ σ₁ g1 g2 g3 z g5 g6
    | cont => have z := g4; simp only [FlowIs] at g4; subst g4; exact q _ s₁ K₁ ad₁ _ σ₁ g1 g2 g3 z g5 g6
    | ret v => have z := g4; simp only [FlowIs] at g4; obtain ⟨w, rfl, _⟩ := g4; exact q _ s₁ K₁ ad₁ _ σ₁ g1 g2 g3 z g5 g6
  · obtain ⟨hT, hs⟩ := g6
    refine note O g3 g4 fun h₁ R₁ x₁ => ?_
    refine flight (s := { s₁ with heap := h₁ }) (f := none) R₁ x₁ fun h₂ R₂ x₂ => ?_
    refine wpAny_handleBy_builtin (X := T) (b := true) hc.exc hc.nt hc.self ?_
    refine Name_function_global hE.kind hl (loadGlobal_builtin (by rw [hE.glob]; exact GO.g.keeps R₂.H) hn (by rw [hE.blt]; exact GO.b.keeps R₂.H) hv ?_) hd
    refine ⟨rfl, ?_, ?_⟩
    · obtain ⟨_, _, _, ob, vs, tb, k1, k2, _⟩ := x₂
      exact ⟨ob, k1, hT ▸ k2⟩
    · rw [if_pos rfl]
      refine flight (s := { s₁ with heap := h₂ }) (f := none) R₂ x₂ fun h₃ R₃ x₃ => ?_
      refine hs e K₁ ad₁ { s₁ with heap := h₃ } R₃ _ _ (fun fl s₄ K₄ ad₄ f σ₄ f1 f2 f3 f4 f5 f6 => ?_) ec_noX
      exact q fl s₄ K₄ ad₄ f σ₄ (g1.trans f1) (g2.trans f2) f3 f4 (g5.trans (SameRest.trans ⟨rfl, rfl, rfl⟩ f5)) f6

/-- the exception as one of the told objects while a suite runs -/
theorem Rel.holdExc {e : Addr} {o : Obj} {vs : Array Value} (R : Rel G B K ad σ h) (ho : h.get? e = some o) (hd : o.data = .fields vs) {c : String} (hc : o.cls = .type c) (hK : K e = none) (hp : e ∉ privs B ad) (h0 : B.h₀.get? e = none) : Rel G (B.withIo ((e, o) :: B.io)) K ad σ h := by
  have hpm : (privs (B.withIo ((e, o) :: B.io)) ad).Perm (e :: privs B ad) := by
    simp only [privs, Base.withIo, List.map_cons]
    refine List.Perm.trans ?_ (List.Perm.swap _ _ _)
    refine List.Perm.cons _ ?_
    rw [List.append_assoc, List.append_assoc]
    exact List.perm_middle
  refine ⟨R.base, R.keep, R.noT, R.tabs, R.step, R.K0, R.new, R.ff, fun b hb => ?_, fun b hb => ?_, hpm.nodup_iff.mpr (List.nodup_cons.mpr ⟨hp, R.nodup⟩), R.lnew, R.anew, R.cnew, R.ns, R.cells, R.ownl, R.own, R.pon, fun q hq => ?_, R.fok⟩
  · rcases List.mem_cons.mp (hpm.mem_iff.mp hb) with q | q
    · subst q; exact ⟨hK, R.T_ne ho hc⟩
    · exact R.priv b q
  · rcases List.mem_cons.mp (hpm.mem_iff.mp hb) with q | q
    · subst q; exact ⟨_, ho⟩
    · exact R.live b q
  · rcases List.mem_cons.mp hq with q | q
    · subst q; exact ⟨ho, ⟨vs, hd⟩, h0⟩
    · exact R.iob _ q
end
end Mine
end

section
open PySem PySem.W PyProof.Rows PySem.Calls
set_option autoImplicit false
set_option linter.unusedVariables false
set_option maxRecDepth 100000
namespace Mine

theorem plain_unchain : plainId "proto.unchain" = true := by decide +kernel
theorem entry_unchain : entryFor table "proto.unchain" = some Builtin.«proto.unchain» := entryFor_of_tree (by kernel_rfl)

/-- what is being handled: nothing, or a told exception without a context -/
def HOk (A : Around) (B : Base) : Prop := A.handled = none ∨ ∃ e o vs, A.handled = some (.ref e) ∧ (e, o) ∈ B.io ∧ o.data = .fields vs ∧ vs[2]? = some .none

section
variable {G : Glob} {B : Base} {A : Around} {σ : St} {Ψ : XPost} {K : PH} {ad : List Addr} {h h' : Heap}

theorem HOk.in1 (x : HOk A B) : HOk A.in1 B := x

theorem raise_made {α : Type} {cls : String} {args : Value} {s : Shared} {Q : α → Shared → Prop} {E : Value → Shared → Prop} (hk : HOk A B) (R : Rel G B K ad σ s.heap) {n : Nat}
    (ex : ∀ e h' tk, Rel G B K ad σ h' → Exc B K ad h' e ⟨cls, A.handled.isNone⟩ → E (.ref e) { s with heap := h', toks := tk }) :
    wpAny (model G.prog G.w) A (raiseNew (.ref s.heap.objs.size) : Sem α) Q E { s with heap := s.heap.push { cls := .type cls, data := .fields #[args, .none, .none, .none, .bool false, .none] }, toks := n } := by
  obtain ⟨b1, b2, b3, b4⟩ := R.beyond (Nat.le_refl _)
  have R₁ := R.push { cls := .type cls, data := .fields #[args, .none, .none, .none, .bool false, .none] }
  have he := Heap.get?_push_size s.heap (o := { cls := .type cls, data := .fields #[args, .none, .none, .none, .bool false, .none] }) rfl
  unfold raiseNew
  refine wpAny_bind (wpAny_handled ?_)
  rcases hk with hk | ⟨e, o, vs, hk, hio, hd, h2⟩
  · rw [hk] at ex ⊢
    first
      | refine wpAny_throw ?_
      | refine wpAny_bind (wpAny_pure (wpAny_throw ?_))
    exact ex _ _ n R₁ ⟨b1, b4, b3, _, _, he, rfl, rfl, fun _ => rfl, by simp, .inl rfl⟩
  · rw [hk] at ex ⊢
    obtain ⟨i1, _, i3⟩ := R₁.iob _ hio
    have hne : e ≠ s.heap.objs.size := Nat.ne_of_lt (Heap.lt_size (R.iob _ hio).1)
    dsimp only
    rw [if_pos (show (Value.ref e != Value.ref s.heap.objs.size) = true from by simp [hne])]
    refine wpAny_bind (wpAny_holding (wpAny_runValue (codeAny_builtin entry_unchain ?_)))
    unfold Builtin.«proto.unchain»
    refine wpAny_bind (wpAny_field i1 hd h2 ?_)
    rw [if_pos (by rfl)]
    refine wpAny_pure ?_
    refine wpAny_bind ?_
    unfold updateField
    refine wpAny_bind (wpAny_load he ?_)
    dsimp only
    rw [if_pos (by simp)]
    refine wpAny_update he ?_
    refine wpAny_throw ?_
    have hd₃ := Obj.data_mapFields (o := { cls := .type cls, data := .fields #[args, .none, .none, .none, .bool false, .none] }) rfl (·.setIfInBounds 2 (Value.ref e))
    refine ex _ _ n (R₁.aside (Heap.SameBut.update ..).extBut b1 b4 b2 b3 (R₁.frame_ne he rfl)) ⟨b1, b4, b3, _, _, Heap.get?_update_self _ he (Obj.isFreed_of_fields hd₃), Obj.cls_mapFields _ _, hd₃, fun z => (by cases z), by simp, .inl (by simp)⟩

theorem raise_words {α : Type} {cls msg : String} {s : Shared} {Q : α → Shared → Prop} {E : Value → Shared → Prop} (hp : PlainExc cls) (hk : HOk A B) (R : Rel G B K ad σ s.heap)
    (ex : ∀ e h' tk, Rel G B K ad σ h' → Exc B K ad h' e ⟨cls, A.handled.isNone⟩ → E (.ref e) { s with heap := h', toks := tk }) :
    wpAny (model G.prog G.w) A (raiseErrorWords cls msg : Sem α) Q E s := by
  unfold raiseErrorWords
  refine wpAny_bind (wpAny_mkText (wpAny_bind ?_))
  unfold newExc newTuple
  refine wpAny_bind (wpAny_newObj_type ?_)
  refine wpAny_bind (m := firstArgMember _ _) (wpAny_of_eq (a := Value.none) (by simp only [firstArgMember, hp.first]; rfl) ?_)
  rw [hp.own]
  refine wpAny_newObj_type ?_
  exact raise_made (s := { s with heap := s.heap.push _ }) hk (R.push _) fun e h' tk R' x' => ex e h' tk R' x'

theorem Sub.lst_out {value slice : Expr} {xs : List AV} {k : Int} {Φ : AV → St → Prop} (hk : HOk A B) (h0 : 0 ≤ k) (hx : xs.length ≤ k.toNat) (hz : k ≤ 16777216) (h : Ψ ⟨"IndexError", A.handled.isNone⟩ σ) : Sub G B A σ value slice (.lst xs) (.int k) Φ Ψ := fun K ad s u w hR h1 h2 Q E q ex => by
  simp only [V] at h1 h2; obtain ⟨l, us, n, rfl, ha, hv⟩ := h1; obtain ⟨t, rfl⟩ := h2
  have hlen := hv.length
  have ho := hR.keep _ _ ha
  have hl : s.heap.IsList l us.toArray := ⟨_, ho, rfl, n, rfl⟩
  refine tail_any hl.typeIs slot_list_getitem.lookup ?_ sub_ok
  unfold getItem
  try with_reducible refine wpAny_holding ?_
  first | refine wpAny_bind (wpAny_pure ?_) | skip
  refine wpAny_bind (wpAny_sequenceKey hl.typeIs (by decide) ?_)
  refine wpAny_bind (wpAny_callSpecial?_slot (name := Str.ofString "__getitem__") hl.typeIs slot_list_getitem
    (wpAny_call_entry slot_list_getitem hl.typeIs entry_list_getitem ?_ (args_list_getitem _ _)))
  show wpAny _ _ (Builtin.List.listSubscript? (.int k t) >>= _) _ _ s
  refine wpAny_bind (wpAny_listSubscript_int (fitsIndex_both (by omega) (by omega)) ?_)
  have fin : ∀ {α : Type} {msg : String} {Q' : α → Shared → Prop}, wpAny (model G.prog G.w) A.in1 (raiseErrorWords "IndexError" msg : Sem α) Q' E s := fun {α msg Q'} =>
    raise_words plainExc_IndexError hk.in1 hR fun e h' tk R' x' => ex e { s with heap := h', toks := tk } K ad ⟨"IndexError", A.handled.isNone⟩ σ (KLe.refl _) (List.prefix_refl _) R' x' ⟨rfl, rfl, rfl⟩ h
  obtain ⟨j, rfl⟩ := Int.eq_ofNat_of_zero_le h0
  have hx' : us.toArray[j]? = none := by
    rw [List.getElem?_toArray]
    exact List.getElem?_eq_none_iff.mpr (by rw [hlen]; simpa using hx)
  show wpAny _ _ ((seqItemAt l j >>= fun r => pure (r.map (j, ·))) >>= _) _ _ s
  refine wpAny_bind (wpAny_bind (wpAny_seqItemAt ho rfl (wpAny_pure ?_)))
  rw [hx']
  first
    | exact wpAny_bind (wpAny_rule fin)
    | exact wpAny_bind (wpAny_rule (wpAny_bind fin))
    | exact wpAny_bind (wpAny_bind (wpAny_rule fin))
    | exact wpAny_rule fin

/-- try: body finally: final — the body ends plainly or raises -/
theorem Ex1.tryFinally {Φ : AF → St → Prop} {body fs : List Stmt} {f₀ : Stmt} {pos : Pos} (O : Own B A)
    (h : Ex G B A σ body (fun f σ₁ => f = .next ∧ Ex G B A σ₁ (f₀ :: fs) (fun g σ₂ => g = .next ∧ Φ .next σ₂) Ψ)
      (fun c σ₁ => c.bare = true ∧ ∀ e o vs io, o.data = .fields vs → vs[2]? = some .none → Ex G (B.withIo (io :: (e, o) :: B.io)) (A.mark (some (.ref e))) σ₁ (f₀ :: fs) (fun g σ₂ => g = .next ∧ Ψ c σ₂) Ψ)) :
    Ex1 G B A σ (.Try body [] [] (f₀ :: fs) pos) Φ Ψ := fun K ad s hR Q E q ex => by
  have hbp : ∀ a : Addr, Value.ref a ≠ byPass := fun a => by intro x; cases x
  refine wpAny_Try_finally (h K ad s hR _ _ (fun fl s₁ K₁ ad₁ f σ₁ g1 g2 g3 g4 g5 g6 => ?_) (fun e s₁ K₁ ad₁ c σ₁ g1 g2 g3 g4 g5 g6 => ?_))
  · obtain ⟨rfl, hf⟩ := g6
    simp only [FlowIs] at g4; subst g4
    refine wpAny_execs_nil ?_
    refine hf K₁ ad₁ s₁ g3 _ _ (fun fl s₂ K₂ ad₂ g σ₂ f1 f2 f3 f4 f5 f6 => ?_) (fun e s₂ K₂ ad₂ c σ₂ f1 f2 f3 f4 f5 f6 => ?_)
    · obtain ⟨rfl, k⟩ := f6
      simp only [FlowIs] at f4; subst f4
      exact q .next s₂ K₂ ad₂ .next σ₂ (g1.trans f1) (g2.trans f2) f3 rfl (g5.trans f5) k
    · exact notedBack O O f3 f4 fun h' R' x' => ex e { s₂ with heap := h' } K₂ ad₂ c σ₂ (g1.trans f1) (g2.trans f2) R' x' (g5.trans (f5.trans ⟨rfl, rfl, rfl⟩)) f6
  · obtain ⟨hb, hf⟩ := g6
    refine note O g3 g4 fun h₁ R₁ x₁ => ⟨hbp e, ?_⟩
    refine note (s := { s₁ with heap := h₁ }) O R₁ (x₁.exc (by rw [O.fe]; exact O.fl)) fun h₂ R₂ x₂ => ?_
    refine flight (s := { s₁ with heap := h₂ }) (f := none) R₂ x₂ fun h₃ R₃ x₃ => ?_
    obtain ⟨y1, y2, y3, ob, vs, tb, k1, k2, k3, k4, k5, k6, t1, t2, t3, t4, otb, tvs, t5, t6, t7, t8⟩ := x₃
    have R₄ : Rel G (B.withIo ((e, ob) :: B.io)) K₁ ad₁ σ₁ h₃ := R₃.holdExc k1 k3 k2 y1 y2 y3
    have htp : tb ∉ privs (B.withIo ((e, ob) :: B.io)) ad₁ := fun m => by
      simp only [privs, Base.withIo, List.map_cons, List.mem_cons, List.mem_append] at m
      rcases m with m | (m | m | m) | m
      · exact t3 (m ▸ .head _)
      · exact t3 (List.mem_cons_of_mem _ (List.mem_append_left _ (List.mem_append_left _ m)))
      · exact t1 m
      · exact t3 (List.mem_cons_of_mem _ (List.mem_append_left _ (List.mem_append_right _ m)))
      · exact t3 (List.mem_cons_of_mem _ (List.mem_append_right _ m))
    have R₅ : Rel G (B.withIo ((tb, otb) :: (e, ob) :: B.io)) K₁ ad₁ σ₁ h₃ := Rel.holdExc (B := B.withIo ((e, ob) :: B.io)) R₄ t5 t7 t6 t2 htp t4
    have O' : Own (B.withIo ((tb, otb) :: (e, ob) :: B.io)) (A.mark (some (.ref e))) := ⟨O.fe, O.fl, O.cs, O.fr⟩
    have O'' : Own (B.withIo ((tb, otb) :: (e, ob) :: B.io)) A := ⟨O.fe, O.fl, O.cs, O.fr⟩
    refine hf e ob vs (tb, otb) k3 (k4 hb) K₁ ad₁ { s₁ with heap := h₃ } R₅ _ _ (fun fl s₆ K₆ ad₆ g σ₆ f1 f2 f3 f4 f5 f6 => ?_) (fun e' s₆ K₆ ad₆ c' σ₆ f1 f2 f3 f4 f5 f6 => ?_)
    · obtain ⟨rfl, k⟩ := f6
      simp only [FlowIs] at f4; subst f4
      obtain ⟨i1, _, _⟩ := f3.iob _ (List.Mem.head _)
      obtain ⟨j1, _, _⟩ := f3.iob _ (List.Mem.tail _ (List.Mem.head _))
      obtain ⟨n1, n2, n3, _⟩ := f3.ioNe (List.Mem.head _)
      obtain ⟨m1, m2, m3, _⟩ := f3.ioNe (List.Mem.tail _ (List.Mem.head _))
      have R₆ : Rel G (B.withIo ((e, ob) :: B.io)) K₆ ad₆ σ₆ s₆.heap := Rel.dropIo (B := B.withIo ((e, ob) :: B.io)) (it := tb) (o := otb) f3 (Heap.ExtBut.refl _ _)
      have R₇ : Rel G B K₆ ad₆ σ₆ s₆.heap := R₆.dropIo (Heap.ExtBut.refl _ _)
      have np : ∀ {b : Addr}, b ≠ B.env.locals → b ∉ ad₆ → (∀ q ∈ B.io, q.1 ≠ b) → b ∉ privs B ad₆ := fun {b} z1 z2 z3 m => by
        simp only [privs, List.mem_cons, List.mem_append] at m
        rcases m with m | (m | m) | m
        · exact z1 m
        · rw [O.cs] at m; cases m
        · obtain ⟨q', hq', e'⟩ := List.mem_map.mp m
          exact z3 q' hq' e'
        · exact z2 m
      have nd := f3.nodup
      have pio : ∀ b, b = tb ∨ b = e → ∀ q ∈ B.io, q.1 ≠ b := fun b hb q' hq' z => by
        unfold privs at nd
        rw [List.nodup_cons, List.nodup_append, List.nodup_append] at nd
        have nd2 := nd.2.1.2.1
        simp only [Base.withIo, List.map_cons, List.nodup_cons, List.mem_cons, not_or] at nd2
        rcases hb with rfl | rfl
        · exact nd2.1.2 (List.mem_map.mpr ⟨q', hq', z⟩)
        · exact nd2.2.1 (List.mem_map.mpr ⟨q', hq', z⟩)
      have x₆ : Noted B K₆ ad₆ s₆.heap e c .none := ⟨(f3.priv _ m3).1, np m1 m2 (pio e (.inr rfl)), y3, ob, vs, tb, j1, k2, k3, k4, k5, k6, t1, (f3.priv _ n3).1, np n1 n2 (pio tb (.inl rfl)), t4, otb, tvs, i1, t6, t7, t8⟩
      unfold PySem.passOn
      refine wpAny_bind (wpAny_field j1 k3 k6 ?_)
      rw [if_neg (show ¬ ((Value.ref tb == Value.none) = true) from by simp)]
      refine wpAny_bind ?_
      rw [O.fl]
      refine flight R₇ x₆ fun h₈ R₈ x₈ => wpAny_throw ?_
      exact ex e { s₆ with heap := h₈ } K₆ ad₆ c σ₆ (g1.trans f1) (g2.trans f2) R₈ (x₈.exc (by rw [O.fe]; exact O.fl)) (g5.trans (SameRest.trans ⟨rfl, rfl, rfl⟩ (f5.trans ⟨rfl, rfl, rfl⟩))) k
    · refine notedBack (B := B.withIo ((tb, otb) :: (e, ob) :: B.io)) O'' O' f3 f4 fun h' R' x' => ?_
      have R₆ : Rel G (B.withIo ((e, ob) :: B.io)) K₆ ad₆ σ₆ h' := Rel.dropIo (B := B.withIo ((e, ob) :: B.io)) (it := tb) (o := otb) R' (Heap.ExtBut.refl _ _)
      have R₇ : Rel G B K₆ ad₆ σ₆ h' := R₆.dropIo (Heap.ExtBut.refl _ _)
      have sub : ∀ b, b ∈ privs B ad₆ → b ∈ privs (B.withIo ((tb, otb) :: (e, ob) :: B.io)) ad₆ := fun b m => by
        simp only [privs, Base.withIo, List.map_cons, List.mem_cons, List.mem_append] at m ⊢
        rcases m with m | (m | m) | m
        · exact .inl m
        · exact .inr (.inl (.inl m))
        · exact .inr (.inl (.inr (.inr (.inr m))))
        · exact .inr (.inr m)
      have x₇ : Exc B K₆ ad₆ h' e' c' := by
        obtain ⟨z1, z2, z3, ob', vs', w1, w2, w3, w4, w5, w6⟩ := x'
        refine ⟨z1, fun m => z2 (sub _ m), z3, ob', vs', w1, w2, w3, w4, w5, w6.imp id fun ⟨L, tb', v1, v2, v3, v4, v5, v6⟩ => ⟨L, tb', v1, v2, v3, v4, fun m => v5 (sub _ m), v6⟩⟩
      exact ex e' { s₆ with heap := h' } K₆ ad₆ c' σ₆ (g1.trans f1) (g2.trans f2) R₇ x₇ (g5.trans (SameRest.trans ⟨rfl, rfl, rfl⟩ (f5.trans ⟨rfl, rfl, rfl⟩))) f6
end
end Mine
end

section
open PySem PySem.W PyProof.Rows PySem.Calls
set_option autoImplicit false
set_option linter.unusedVariables false
set_option maxRecDepth 100000
namespace Mine

/-- the module of the built-ins stands -/
def Glob.Bm (G : Glob) : Prop := ∃ bm ob, G.mg (Str.ofString "__builtins__") = some (.ref bm) ∧ bm ≠ builtinsNs ∧ G.H.get? bm = some ob ∧ ob.cls = .type "module" ∧ ob.dict = some builtinsNs ∧ ob.data = .plain

section
variable {G : Glob} {B : Base} {A : Around} {σ : St} {Ψ : XPost} {K : PH} {ad : List Addr} {h h' : Heap}

/-- a code table takes one code more -/
theorem Rel.table {t : Tab} {c' : Addr} {oc : Obj} {vs ps' : Array Value} {tk : Tok} (R : Rel G B K ad σ h) (ht : t ∈ G.tabs) (hinj : ∀ t' ∈ G.tabs, t'.P = t.P → t' = t) (hs : Heap.ExtBut t.P h h') (hc : h.objs.size ≤ c') (hoc : h'.get? c' = some oc) (hd : oc.data = .fields vs) (hv : vs[1]? = some (.str t.qual tk))
    (hP : h'.get? t.P = some (tabObj ps')) (htr : TriplesOk ps'.toList) (hca : codeAmong t.pos ps'.toList = some (.ref c')) : Rel G B (put K c' oc) ad σ h' ∧ KLe K (put K c' oc) := by
  obtain ⟨b1, b2, b3, b4⟩ := R.beyond hc
  have hT : t.P ∈ G.T := List.mem_map_of_mem ht
  have kl : KLe K (put K c' oc) := KLe.put b1
  have pr := List.prefix_refl ad
  have ne : ∀ b ∈ privs B ad, b ≠ t.P := fun b hb e => (R.priv b hb).2 (e ▸ hT)
  refine ⟨⟨fun b o e => kl _ _ (R.base b o e), fun b o e => ?_, fun b hb => ?_, fun t' ht' => ?_, fun b o e hx hnt => ?_, R.K0.trans kl, fun b o e => ?_, ff_aside hs R.ff (fun env he q => (R.frames env he _ q).1 hT), fun b hb => ?_, fun b hb => ?_, R.nodup, R.lnew, R.anew, R.cnew, ?_, fun x v e => ?_, R.ownl, fun i a w e1 e2 => ?_, R.pon, fun q hq => ?_, R.fok⟩, kl⟩
  · by_cases hb : b = c'
    · subst hb; rw [put_self] at e; cases e; exact hoc
    · rw [put_ne hb] at e; exact hs b o (fun q => by rw [q, R.noT _ hT] at e; cases e) (R.keep b o e)
  · rw [put_ne (fun q : b = c' => b2 (q ▸ hb))]; exact R.noT b hb
  · by_cases q : t'.P = t.P
    · have := hinj t' ht' q
      subst this
      exact ⟨ps', hP, htr, .inr ⟨c', oc, vs, tk, hca, put_self .., hd, hv⟩⟩
    · obtain ⟨ps, e, r1, r2⟩ := R.tabs t' ht'
      refine ⟨ps, hs _ _ q e, r1, r2.imp id ?_⟩
      rintro ⟨c₂, o₂, vs₂, tk₂, g1, g2, g3⟩
      exact ⟨c₂, o₂, vs₂, tk₂, g1, kl _ _ g2, g3⟩
  · obtain ⟨sl, e1, q⟩ := R.step b o e hx hnt
    exact ⟨sl, hs b _ (fun z => hnt (z ▸ hT)) e1, q⟩
  · by_cases hb : b = c'
    · subst hb; exact .inr b3
    · rw [put_ne hb] at e; exact R.new b o e
  · rw [put_ne (fun q : b = c' => b4 (q ▸ hb))]; exact R.priv b hb
  · obtain ⟨o', e⟩ := R.live b hb; exact ⟨o', hs _ _ (ne b hb) e⟩
  · obtain ⟨m, hm', r⟩ := R.ns
    exact ⟨m, hm'.extBut hs (ne _ (.head _)), fun x v e => let ⟨u, h1, h2⟩ := r x v e; ⟨u, h1, h2.mono kl pr⟩⟩
  · obtain ⟨c, u, h1, ⟨oc, h2, h2'⟩, h3⟩ := R.cells x v e
    exact ⟨c, u, h1, ⟨oc, hs _ _ (ne _ (R.cellNeL h1).2.2) h2, h2'⟩, h3.mono kl pr⟩
  · exact (R.own i a w e1 e2).mono kl pr fun o' e => hs _ _ (ne _ (R.ownNeL (List.mem_of_getElem? e1)).2) e
  · obtain ⟨h1, h2, h3⟩ := R.iob q hq
    exact ⟨hs _ _ (ne _ (R.ioNe hq).2.2.1) h1, h2, h3⟩

/-- a lambda without free names or defaults -/
theorem Ev.lambda {Φ : AV → St → Prop} {params : Arguments} {body : Expr} {scope : Scope} {pos : Pos} {t : Tab} (GO : G.Ok) (hb : G.Bm) (hE : EnvOk B.env) (ht : t ∈ G.tabs) (hinj : ∀ t' ∈ G.tabs, t'.P = t.P → t' = t) (hcode : B.env.code = .ref t.c) (hpos : pos = t.pos) (hq : B.env.qual ++ "<lambda>" = t.qual)
    (hcl : closureFor scope B.env = pure []) (hdef : defaultsOf params B.env = ([], []))
    (h : ∀ c' oc vs tk ctv, oc.data = .fields vs → vs[1]? = some (.str t.qual tk) → Φ (.fn (kla_obj "<lambda>" t.qual params body scope [] ((G.mg "__name__").getD .none) c' ctv) c' oc) σ) : Ev G B A σ (.Lambda params body scope pos) Φ Ψ := fun K ad s hR Q E q ex => by
  subst hpos
  refine kla_eval hdef ?_
  rw [hq]
  obtain ⟨ps, hP, htr, hor⟩ := hR.tabs t ht
  have hT : t.P ∈ G.T := List.mem_map_of_mem ht
  have hg := GO.g.keeps hR.H
  have hgP : mainGlobals ≠ t.P := fun z => by
    obtain ⟨o, es, ep, e, hd, _⟩ := hg
    rw [z, hP] at e; cases e; cases hd
  have hbi : s.heap.BuiltinsAt G.mg t.P := by
    obtain ⟨bm, ob, b1, b2, b3, b4, b5, b6⟩ := hb
    refine ⟨bm, ob, b1, b2, fun z => ?_, fun z => ?_, hR.H _ _ b3, b4, b5, b6⟩
    · obtain ⟨o, es, ep, e, hd, _⟩ := GO.g
      rw [← z, b3] at e; cases e; rw [b6] at hd; cases hd
    · have e := hR.H _ _ b3
      rw [z, hP] at e; cases e; cases b4
  have hC := (GO.hd t ht).keeps hR.H
  rcases hor with hnf | ⟨c', oc, vs, tk, hf, hk, hd, hv⟩
  · refine kla_makeFunction (mg := G.mg) hcl hE.glob hg hcode hC hP htr hnf hgP hbi fun c' ctv h' tk hx hge hlt hrec htb => ?_
    obtain ⟨c₂, oc, vs, t₂, e2, hoc, hd, hv⟩ := hrec
    cases e2
    have htl : (ps ++ #[rawInt t.pos.line, rawInt t.pos.col, .ref c']).toList = ps.toList ++ [rawInt t.pos.line, rawInt t.pos.col, .ref c'] := by simp
    obtain ⟨R', kl⟩ := hR.table ht hinj hx hge hoc hd hv htb (by rw [htl]; exact TriplesOk_snoc _ _ _ _ htr) (by rw [htl]; exact codeAmong_snoc _ htr hnf)
    refine q _ _ _ ad _ σ (kl.trans (KLe.put R'.fresh)) (List.prefix_refl _) (R'.newKept _) ?_ ⟨rfl, rfl, rfl⟩ (h c' oc vs t₂ ctv hd hv)
    simp only [V]
    exact ⟨_, rfl, put_self .., KLe.put R'.fresh _ _ (put_self ..)⟩
  · refine kla_makeFunctionHit (mg := G.mg) hcl hE.glob hg hcode hC hP htr hf hbi fun ctv h' tk' hk' hsz => ?_
    have R' := hR.keeps hk'
    refine q _ _ _ ad _ σ (KLe.put R'.fresh) (List.prefix_refl _) (R'.newKept _) ?_ ⟨rfl, rfl, rfl⟩ (h c' oc vs tk ctv hd hv)
    simp only [V]
    exact ⟨_, rfl, put_self .., KLe.put R'.fresh _ _ hk⟩

/-- x or y, as a value -/
theorem Ev.or2 {Φ : AV → St → Prop} {x y : Expr} {pos : Pos} (h : Ev G B A σ x (fun v σ₁ => Op1 G B A σ₁ truthy v Same (fun b σ₂ => if b then Φ v σ₂ else Ev G B A σ₂ y Φ Ψ) Ψ) Ψ) : Ev G B A σ (.BoolOp .Or [x, y] pos) Φ Ψ := fun K ad s hR Q E q ex => by
  refine wpAny_Or2 (h K ad s hR _ _ (fun u s₁ K₁ ad₁ v σ₁ g1 g2 g3 g4 g5 g6 => ?_) ex)
  refine g6 K₁ ad₁ s₁ u g3 g4 _ _ (fun b s₂ K₂ ad₂ c σ₂ f1 f2 f3 f4 f5 f6 => ?_) (EC.after ex g1 g2 g5)
  cases f4
  cases b with
  | true =>
    rw [if_pos rfl] at f6 ⊢
    exact q u s₂ K₂ ad₂ v σ₂ (g1.trans f1) (g2.trans f2) f3 (g4.mono f1 f2) (g5.trans f5) f6
  | false =>
    rw [if_neg Bool.false_ne_true] at f6 ⊢
    exact f6 K₂ ad₂ s₂ f3 Q E (QC.after q (g1.trans f1) (g2.trans f2) (g5.trans f5)) (EC.after ex (g1.trans f1) (g2.trans f2) (g5.trans f5))
end

/-- the contract of a function object -/
def FunO (G : Glob) (n : Nat) (o : Obj) (c : Addr) (oc : Obj) (xs : List AV) (ws : List OW) (Φ : AV → List OW → Prop) : Prop :=
  ∀ A fr K ad s us f, AOk n A fr → Pub G fr K ad ws s.heap → K f = some o → K c = some oc → Vs K ad xs us → ∀ (Q : Value → Shared → Prop) (E : Value → Shared → Prop),
    (∀ u s' K' r ws', KLe K K' → Pub G fr K' ad ws' s'.heap → Step G.T ad s.heap s'.heap → (∀ b o, K' b = some o → K b = some o ∨ s.heap.get? b = none) → V K' ad r u → SameRest s s' → Φ r ws' → Q u s') →
    wpAny (model G.prog G.w) A (call (.ref f) us) Q E s

end Mine
end

section
open PySem PySem.W PyProof.Rows PySem.Calls
set_option autoImplicit false
set_option linter.unusedVariables false
set_option maxRecDepth 100000
namespace Mine

/-- a lambda by its body -/
theorem FunO.of_lam {G : Glob} (GO : G.Ok) {n : Nat} {name qual : Str} {params : Arguments} {body : Expr} {scope : Scope} {pm ctv : Value} {c : Addr} {oc : Obj} {vs : Array Value} {tk : Tok} {xs : List AV} {ws : List OW} {ns : List Str} {Φ : AV → List OW → Prop} (hod : oc.data = .fields vs) (hov : vs[1]? = some (.str qual tk))
    (hns : ns.Nodup) (hlen : ns.length = xs.length) (hbind : ∀ us : List Value, us.length = ns.length → bindArgs (kla_fn name qual params body scope [] pm (.ref c) ctv) ⟨us, []⟩ = pure (ns.zip us))
    (hcell : ∀ x ∈ scope.names, x.2 ≠ .cell) (hloc : ∀ x ∈ ns, scope.names.lookup x = some .local) (hco : scope.isCoroutine = false) (hgen : scope.isGenerator = false) (hkind : scope.kind = .function)
    (h : ∀ A L f fr K h₀ ad, AOk n A (callEnv (kla_fn name qual params body scope [] pm (.ref c) ctv) L f :: fr) → Ev G (baseOf (callEnv (kla_fn name qual params body scope [] pm (.ref c) ctv) L f) fr K h₀ ad []) A { lo := ns.zip xs, ow := ws } body
      (fun r σ' => ∃ k, Shut ws.length (fz ws.length σ'.ow k r) ∧ ShutW ws.length (σ'.ow.take ws.length) ∧ Φ (fz ws.length σ'.ow k r) (σ'.ow.take ws.length)) noX) :
    FunO G (n + 1) (kla_obj name qual params body scope [] pm c ctv) c oc xs ws Φ := by
  intro A fr K ad s us f hA P hKf hKc hv Q E q
  have keepH : ∀ b o, G.H.get? b = some o → s.heap.get? b = some o := fun b o e => P.keep b o (P.base b o e)
  have hul : us.length = ns.length := hv.length.trans hlen.symm
  refine wpAny_call (kla_callFunE (by have := hA.depth; omega) (P.keep _ _ hKf) rfl hco hgen rfl ⟨c, oc, vs, tk, rfl, P.keep _ _ hKc, hod, hov⟩ ?_)
  rw [hbind us hul]
  refine wpAny_pure (wpAny_newFunctionEnv hcell (fun x hx => hloc _ (List.of_mem_zip hx).1) (fun h₁ hns₁ hsb => ⟨((GO.nolimit).keeps keepH).fresh _ hsb, ?_⟩) hkind)
  show codeAny _ _ (.expr body (callEnv (kla_fn name qual params body scope [] pm (.ref c) ctv) s.heap.objs.size f)) _ _
  have hk₁ : ∀ b o, s.heap.get? b = some o → h₁.get? b = some o := fun b o e => hsb.extBut b o (Nat.ne_of_lt (Heap.lt_size e)) (Heap.get?_push_of_some _ e)
  have hLnone : s.heap.get? s.heap.objs.size = none := Heap.get?_none_of_le (Nat.le_refl _)
  have hL1 : ∃ o, h₁.get? s.heap.objs.size = some o := let ⟨o, _, _, e, _⟩ := hns₁; ⟨o, e⟩
  have fresh : K s.heap.objs.size = none := by
    cases e : K s.heap.objs.size with
    | none => rfl
    | some o => exact absurd (Heap.lt_size (P.keep _ _ e)) (Nat.lt_irrefl _)
  have R : Rel G (baseOf (callEnv (kla_fn name qual params body scope [] pm (.ref c) ctv) s.heap.objs.size f) fr K s.heap ad []) K ad { lo := ns.zip xs, ow := ws } h₁ := {
    base := P.base
    keep := fun b o e => hk₁ b o (P.keep b o e)
    noT := P.noT
    tabs := fun t ht => let ⟨ps, e, r⟩ := P.tabs t ht; ⟨ps, hk₁ _ _ e, r⟩
    step := .of_keeps fun b o e _ _ => hk₁ b o e
    K0 := KLe.refl _
    new := fun b o e => .inl e
    ff := by
      obtain ⟨oL, es, ep, hL, hLd, _⟩ := hns₁
      refine ⟨?_, ⟨s.heap.objs.size, oL, rfl, ?_, hL, fun vs q => by rw [hLd] at q; cases q⟩, P.ff.of_keeps fun b o e _ => ⟨o, hk₁ b o e, rfl⟩⟩
      · show scope.kind ≠ .module
        rw [hkind]; decide
      · cases q' : G.H.get? s.heap.objs.size with
        | none => rfl
        | some o => rw [keepH _ _ q'] at hLnone; cases hLnone
    priv := fun b hb => by
      rcases List.mem_cons.mp hb with e | e
      · rw [e]
        refine ⟨fresh, fun m => ?_⟩
        obtain ⟨t, ht, e'⟩ := List.mem_map.mp m
        obtain ⟨ps, e2, _⟩ := P.tabs t ht
        rw [e'] at e2
        exact absurd (Heap.lt_size e2) (Nat.lt_irrefl _)
      · exact P.priv b (by simpa [baseOf, callEnv, newEnv] using e)
    live := fun b hb => by
      rcases List.mem_cons.mp hb with e | e
      · rw [e]; exact hL1
      · obtain ⟨o, e'⟩ := P.live b (by simpa [baseOf, callEnv, newEnv] using e); exact ⟨o, hk₁ _ _ e'⟩
    nodup := by
      show (s.heap.objs.size :: (([] ++ []) ++ ad)).Nodup
      rw [List.nil_append, List.nil_append, List.nodup_cons]
      exact ⟨fun m => by obtain ⟨o, e⟩ := P.live _ m; exact absurd (Heap.lt_size e) (Nat.lt_irrefl _), P.nodup⟩
    lnew := hLnone
    anew := fun a ha => .inl ha
    cnew := fun x hx => nomatch hx
    ns := ⟨_, hns₁, fun x v e => by
      dsimp only at e
      obtain ⟨u, h1, h2⟩ := lookup_zip_rel hv e
      have hm : ((ns.zip us).map (·.1)).Nodup := by
        rw [List.map_fst_zip (by omega)]; exact hns
      exact ⟨u, (lookup_reverse_nodup hm x).trans h1, h2⟩⟩
    cells := fun x v e => nomatch e
    ownl := P.ownl
    own := fun i a ys e1 e2 => (P.own i a ys e1 e2).mono (KLe.refl _) (List.prefix_refl _) fun o e => hk₁ _ _ e
    pon := fun a ha => ha
    iob := fun q hq => nomatch hq
    fok := fun env he L hL => by
      rcases List.mem_cons.mp he with q | q
      · subst q; cases hL; exact .inl rfl
      · exact .inr (P.fk env q L hL) }
  have hA' : AOk n (A.deeper (callEnv (kla_fn name qual params body scope [] pm (.ref c) ctv) s.heap.objs.size f)) (callEnv (kla_fn name qual params body scope [] pm (.ref c) ctv) s.heap.objs.size f :: fr) := by
    refine ⟨?_, ?_, ?_, hA.handled⟩
    · show A.frames.map _ = _
      rw [hA.frames]; rfl
    · have := hA.depth
      show A.depth + 1 + n < recursionLimit
      omega
    · have := hA.units
      show A.units + 3 + 40 * n < cLine
      omega
  refine kla_codeExpr ?_
  refine h _ _ f fr K s.heap ad hA' K ad { s with heap := h₁, toks := s.toks + (ns.zip us).length } R _ _ (fun u s' K' ad' b σ' g1 g2 g3 g4 g5 g6 => ?_) (fun e s' K' ad' cls σ' _ _ _ _ _ x => x.elim)
  obtain ⟨k, k1, k2, k3⟩ := g6
  rw [← P.ownl] at k1 k2 k3
  obtain ⟨p1, p2, p3⟩ := exit_pub P g3 ⟨rfl, rfl, rfl, rfl⟩ g2 k2
  have z := k1 _ _ _ (fz_ok (p := ad.length) g3.keep g3.own k b _ g4)
  obtain ⟨more, rfl⟩ := g2
  rw [List.take_left] at z
  exact q u s' _ _ _ (g1.trans (shutK_le g3.keep)) p1 p2 p3 z g5 k3
end Mine
end

section
open PySem PySem.W PyProof.Rows PySem.Calls
set_option autoImplicit false
set_option linter.unusedVariables false
set_option maxRecDepth 100000
namespace Mine
section
variable {G : Glob} {B : Base} {A : Around} {σ : St} {Ψ : XPost} {Φ : AV → St → Prop}

theorem Ev.fieldS {e : Expr} {pos : Pos} (h : Ev G B A σ e (fun a σ₁ => ∃ x, a = .str x ∧ x.length ≤ 1000 ∧ Φ (.str x) σ₁) Ψ) : Ev G B A σ (.FormattedValue e 115 Option.none pos) Φ Ψ := fun K ad s hR Q E q ex => by
  have h16 := sz16
  refine wpAny_FormattedValue_s (h K ad s hR _ _ (fun u s₁ K₁ ad₁ v σ₁ g1 g2 g3 g4 g5 g6 => ?_) ex)
  obtain ⟨x, rfl, hx, hΦ⟩ := g6
  simp only [V] at g4
  obtain ⟨t, rfl⟩ := g4
  refine wpAny_habitSame_str ?_ ?_ (by omega)
  · refine wpAny_formatField_str ?_ ?_ (by omega)
    · exact q _ s₁ K₁ ad₁ _ σ₁ g1 g2 g3 V_str g5 hΦ
    · exact q _ { s₁ with toks := s₁.toks + 1 } K₁ ad₁ _ σ₁ g1 g2 g3 V_str (g5.trans ⟨rfl, rfl, rfl⟩) hΦ
  · refine wpAny_formatField_str ?_ ?_ (by omega)
    · exact q _ { s₁ with toks := s₁.toks + 1 } K₁ ad₁ _ σ₁ g1 g2 g3 V_str (g5.trans ⟨rfl, rfl, rfl⟩) hΦ
    · exact q _ { s₁ with toks := s₁.toks + 1 + 1 } K₁ ad₁ _ σ₁ g1 g2 g3 V_str (g5.trans ⟨rfl, rfl, rfl⟩) hΦ

theorem Ev.joined3 {e1 e2 e3 : Expr} {pos : Pos} (h : Ev G B A σ e1 (fun a σ₁ => ∃ x, a = .str x ∧ x.length ≤ 1000 ∧ Ev G B A σ₁ e2 (fun b σ₂ => ∃ y, b = .str y ∧ y.length ≤ 1000 ∧ Ev G B A σ₂ e3 (fun c σ₃ => ∃ z, c = .str z ∧ z.length ≤ 1000 ∧ Φ (.str (x ++ y ++ z)) σ₃) Ψ) Ψ) Ψ) :
    Ev G B A σ (.JoinedStr [e1, e2, e3] pos) Φ Ψ := fun K ad s hR Q E q ex => by
  have h16 := sz16
  refine JoinedStr_many (joinParts_cons (h K ad s hR _ _ (fun u s₁ K₁ ad₁ v σ₁ g1 g2 g3 g4 g5 g6 => ?_) ex))
  obtain ⟨x, rfl, hx, h2⟩ := g6
  simp only [V] at g4
  obtain ⟨t, rfl⟩ := g4
  have e0 : Str.empty ++ x = x := Str.ext' (by rw [Str.cps_append]; simp [Str.empty])
  dsimp only
  rw [e0]
  refine ⟨by omega, joinParts_cons (h2 K₁ ad₁ s₁ g3 _ _ (fun u s₂ K₂ ad₂ v σ₂ f1 f2 f3 f4 f5 f6 => ?_) (EC.after ex g1 g2 g5))⟩
  obtain ⟨y, rfl, hy, h3⟩ := f6
  simp only [V] at f4
  obtain ⟨t', rfl⟩ := f4
  have l2 := strLen_append x y
  refine ⟨by omega, joinParts_cons (h3 K₂ ad₂ s₂ f3 _ _ (fun u s₃ K₃ ad₃ v σ₃ d1 d2 d3 d4 d5 d6 => ?_) (EC.after ex (g1.trans f1) (g2.trans f2) (g5.trans f5)))⟩
  obtain ⟨z, rfl, hz, hΦ⟩ := d6
  simp only [V] at d4
  obtain ⟨t'', rfl⟩ := d4
  have l3 := strLen_append (x ++ y) z
  refine ⟨by omega, joinParts_nil ?_ (by omega)⟩
  exact q _ { s₃ with toks := s₃.toks + 1 } K₃ ad₃ _ σ₃ ((g1.trans f1).trans d1) ((g2.trans f2).trans d2) d3 V_str (((g5.trans f5).trans d5).trans ⟨rfl, rfl, rfl⟩) hΦ
end
end Mine
end

section
open PySem PySem.W PyProof.Rows PySem.Calls
set_option autoImplicit false
set_option linter.unusedVariables false
set_option maxRecDepth 100000
namespace Mine
theorem pa_pat : PlainAttrs "re.Pattern" :=
  ⟨⟨"object.__getattribute__", by rw [typeLookup_type, builtinLookup_eq_fast]; kernel_rfl, by decide +kernel⟩, by rw [typeLookup_type, builtinLookup_eq_fast]; kernel_rfl⟩
theorem pa_mat : PlainAttrs "re.Match" :=
  ⟨⟨"object.__getattribute__", by rw [typeLookup_type, builtinLookup_eq_fast]; kernel_rfl, by decide +kernel⟩, by rw [typeLookup_type, builtinLookup_eq_fast]; kernel_rfl⟩
theorem slot_search : Slot "re.Pattern" "search" "re.Pattern.search" :=
  .of (owner := "re.Pattern") (n := "search") (by rw [typeLookup_type, builtinLookup_eq_fast]; kernel_rfl) (by decide +kernel) (by decide +kernel) (by decide +kernel)
    (by first | exact .inl (by decide +kernel) | exact .inr (by decide +kernel)) (by rw [isSubtype_type]; kernel_rfl)
theorem type_search : typeOf (.builtin "re.Pattern.search") = pure (.type "method_descriptor") := by show builtinType _ = _; rw [builtinType_eq_fast]; kernel_rfl
theorem entry_search : entryFor table "re.Pattern.search" = some Builtin.«re.Pattern.search» := entryFor_of_tree (by kernel_rfl)
theorem args_search (a b : Value) : argsOk "re.Pattern.search" ⟨[a, b], []⟩ := by
  unfold argsOk; kernel_rfl
theorem entry_subloop : entryFor table "re.Pattern.sub.loop" = some Builtin.«re.Pattern.sub.loop» := entryFor_of_tree (by kernel_rfl)
end Mine
end

section
open PySem PySem.W PyProof.Rows PySem.Calls
set_option autoImplicit false
set_option linter.unusedVariables false
set_option maxRecDepth 100000
namespace Mine
open PySem.Sre PySem.Builtin.Re

theorem runFor_done : ∀ (n : Nat) (m : M), m.outcome.isSome = true → m.runFor n = m
  | 0, _, _ => rfl
  | n + 1, m, h => by simp [M.runFor, h]
theorem runFor_add : ∀ (a b : Nat) (m : M), m.runFor (a + b) = (m.runFor a).runFor b
  | 0, b, m => by simp [M.runFor]
  | a + 1, b, m => by
    rw [Nat.add_right_comm]
    by_cases h : m.outcome.isSome = true
    · rw [runFor_done _ m h, runFor_done _ m h, runFor_done _ m h]
    · simp only [M.runFor, h]
      exact runFor_add a b m.step
theorem runFor_ge {N n : Nat} {m : M} (h : (m.runFor N).outcome.isSome = true) (hn : N ≤ n) : m.runFor n = m.runFor N := by
  obtain ⟨k, rfl⟩ := Nat.exists_eq_add_of_le hn
  rw [runFor_add, runFor_done _ _ h]

section
variable {M₀ : Model} {A : Around} {E : Value → Shared → Prop} {s : Shared}
theorem drive_ok : ∀ (turns N : Nat) (m : M) (Q : M → Shared → Prop), (m.runFor N).outcome.isSome = true → N ≤ 4 * turns → 0 < turns → Q (m.runFor N) s → wpAny M₀ A (reDrive turns m) Q E s
  | 0, N, m, Q, h, hN, ht, q => absurd ht (Nat.lt_irrefl _)
  | t + 1, N, m, Q, h, hN, ht, q => by
    unfold reDrive
    show wpAny _ _ (if (m.runFor reTurnSteps).outcome.isSome = true then pure (m.runFor reTurnSteps) else do rule "sre.turn"; reDrive t (m.runFor reTurnSteps)) Q E s
    have e4 : reTurnSteps = 4 := rfl
    rw [e4]
    by_cases h4 : (m.runFor 4).outcome.isSome = true
    · rw [if_pos h4]
      have : m.runFor 4 = m.runFor N := by
        rcases Nat.le_total 4 N with z | z
        · exact (runFor_ge h4 z).symm
        · exact runFor_ge h z
      rw [this]; exact wpAny_pure q
    · rw [if_neg h4]
      have hN4 : 4 < N := by
        rcases Nat.lt_or_ge 4 N with z | z
        · exact z
        · exact absurd (by rw [runFor_ge h z]; exact h) h4
      have e : m.runFor N = (m.runFor 4).runFor (N - 4) := by rw [← runFor_add]; congr 1; omega
      refine wpAny_bind (wpAny_rule (drive_ok t (N - 4) (m.runFor 4) Q (by rw [← e]; exact h) (by omega) (by omega) (by rw [← e]; exact q)))

theorem forIn_quiet {α : Type} {l : List α} {f : α → PUnit → Sem (ForInStep PUnit)} {Q : PUnit → Shared → Prop} (hf : ∀ x u (P : ForInStep PUnit → Shared → Prop), P (.yield u) s → wpAny M₀ A (f x u) P E s) (q : Q ⟨⟩ s) : wpAny M₀ A (forIn l ⟨⟩ f) Q E s := by
  induction l with
  | nil => rw [List.forIn_nil]; exact wpAny_pure q
  | cons x l ih => rw [List.forIn_cons]; exact wpAny_bind (hf x ⟨⟩ _ ih)

theorem runToEnd {N : Nat} {m : M} {Q : Option M → Shared → Prop} (hN : N ≤ 4 * 2 ^ 64) (hm : (m.runFor N).outcome = some .matched) (q : Q (some (m.runFor N)) s) : wpAny M₀ A (reRunToEnd m) Q E s := by
  unfold reRunToEnd
  refine wpAny_bind (drive_ok (2 ^ 64) N m _ (by rw [hm]; rfl) hN (by decide) ?_)
  refine wpAny_bind (forIn_quiet (fun x u P p => ?_) ?_)
  · split
    · exact wpAny_bind (wpAny_rule (wpAny_pure p))
    · exact wpAny_pure p
  · rw [hm]; exact wpAny_pure q
theorem runToEnd_none {N : Nat} {m : M} {Q : Option M → Shared → Prop} (hN : N ≤ 4 * 2 ^ 64) (hm : (m.runFor N).outcome = some .failed) (q : Q none s) : wpAny M₀ A (reRunToEnd m) Q E s := by
  unfold reRunToEnd
  refine wpAny_bind (drive_ok (2 ^ 64) N m _ (by rw [hm]; rfl) hN (by decide) ?_)
  refine wpAny_bind (forIn_quiet (fun x u P p => ?_) ?_)
  · split
    · exact wpAny_bind (wpAny_rule (wpAny_pure p))
    · exact wpAny_pure p
  · rw [hm]; exact wpAny_pure q
end

-- code, text and limit stay
structure Keeps3 (m m' : M) : Prop where
  code : m'.code = m.code
  text : m'.text = m.text
  lim : m'.lim = m.lim
  last : m'.lastStart = m.lastStart
theorem Keeps3.rfl' {m : M} : Keeps3 m m := ⟨rfl, rfl, rfl, rfl⟩
theorem Keeps3.trans {a b c : M} (x : Keeps3 a b) (y : Keeps3 b c) : Keeps3 a c := ⟨y.1.trans x.1, y.2.trans x.2, y.3.trans x.3, y.4.trans x.4⟩
theorem Keeps3.of {a b c : M} (y : Keeps3 b c) (h1 : b.code = a.code) (h2 : b.text = a.text) (h3 : b.lim = a.lim) (h4 : b.lastStart = a.lastStart) : Keeps3 a c := ⟨y.1.trans h1, y.2.trans h2, y.3.trans h3, y.4.trans h4⟩
theorem k_say (m : M) (b : Bool) : Keeps3 m (m.say b) := ⟨rfl, rfl, rfl, rfl⟩
theorem k_stick (m : M) (w : String) : Keeps3 m (m.stick w) := ⟨rfl, rfl, rfl, rfl⟩
theorem k_attempt (m : M) (f : Sre.Frame) (t p : Nat) (o : Bool) : Keeps3 m (m.attempt f t p o) := by unfold M.attempt; split <;> exact ⟨rfl, rfl, rfl, rfl⟩
theorem k_alternative (m : M) (a : Nat) (k : Sre.Kept) : Keeps3 m (m.alternative a k) := by
  unfold M.alternative; split
  · exact k_say ..
  · exact k_attempt ..
theorem k_afterRun (m : M) (w : Wait) (c : Int) (k : Sre.Kept) : Keeps3 m (m.afterRun w c k) := by unfold M.afterRun; exact k_attempt ..
theorem k_afterLoop (m : M) (w : Wait) (i : Nat) (c : Int) (f : Option Nat → Bool) : Keeps3 m (m.afterLoop w i c f) := by
  unfold M.afterLoop
  exact Keeps3.trans (b := { m with inner := (m.loopAt i).outer }) ⟨rfl, rfl, rfl, rfl⟩ (k_attempt ..)
theorem k_round (m : M) (w : Wait) (i : Nat) (c : Int) (g : Bool) (k : Sre.Kept) : Keeps3 m (m.round w i c g k) := by
  unfold M.round
  exact Keeps3.trans (b := m.setLoop i fun l => { l with count := c, began := if g then some m.pos else l.began }) ⟨rfl, rfl, rfl, rfl⟩ (k_attempt ..)
theorem k_until (m : M) (g : Bool) : Keeps3 m (m.until_ g) := by
  unfold M.until_
  split
  · exact k_stick ..
  · dsimp only
    split
    · exact k_round ..
    · split
      · exact k_afterLoop ..
      · split
        · exact k_round ..
        · exact k_afterLoop ..
theorem k_possessive (m : M) (i : Nat) (c : Int) (b : Option Nat) : Keeps3 m (m.possessive i c b) := by
  unfold M.possessive
  dsimp only
  split
  · exact k_attempt ..
  · split
    · exact k_attempt ..
    · exact ⟨rfl, rfl, rfl, rfl⟩
theorem k_attemptAt (m : M) (s : Nat) (f : Bool) : Keeps3 m (m.attemptAt s f) := by
  unfold M.attemptAt
  exact Keeps3.trans (b := { m with start := s, pos := s, lastmark := -1, lastindex := -1 }) ⟨rfl, rfl, rfl, rfl⟩ (k_attempt ..)
theorem k_attemptFrom (m : M) (s : Nat) (f : Bool) : Keeps3 m (m.attemptFrom s f) := by
  unfold M.attemptFrom
  split
  · exact k_attemptAt ..
  · split
    · rename_i s' seen _
      exact Keeps3.trans (b := { m with mustAdvance := false, seen := seen }) ⟨rfl, rfl, rfl, rfl⟩ (k_attemptAt ..)
    · exact ⟨rfl, rfl, rfl, rfl⟩
    · exact k_stick ..

theorem k_putBack (m : M) (k : Sre.Kept) : Keeps3 m (m.putBack k) := ⟨rfl, rfl, rfl, rfl⟩
theorem k_setLoop (m : M) (i : Nat) (f : Loop → Loop) : Keeps3 m (m.setLoop i f) := ⟨rfl, rfl, rfl, rfl⟩
theorem k_mark (m : M) (i : Nat) : Keeps3 m (m.mark i) := ⟨rfl, rfl, rfl, rfl⟩

/-- what the machine does on the roads walked here -/
def allowed (m : M) : Bool := match m.answer, m.frames with
  | some _, [] => true
  | some yes, f :: _ => match f.wait with
    | .nextStart => yes
    | .giveBack => true
    | .closeLoop => true
    | .maxMore => true
    | .maxTail => true
    | _ => false
  | none, _ => match ops[m.word 0]? with
    | some .AT => true
    | some .MARK => true
    | some .LITERAL => true
    | some .IN => true
    | some .ANY => true
    | some .SUCCESS => true
    | some .REPEAT => true
    | some .MAX_UNTIL => true
    | some .REPEAT_ONE => true
    | _ => false

theorem k_exec {m : M} (h : (match ops[m.word 0]? with
    | some .AT => true
    | some .MARK => true
    | some .LITERAL => true
    | some .IN => true
    | some .ANY => true
    | some .SUCCESS => true
    | some .REPEAT => true
    | some .MAX_UNTIL => true
    | some .REPEAT_ONE => true
    | _ => false) = true) : Keeps3 m m.exec := by
  unfold M.exec
  cases hop : ops[m.word 0]? with
  | none => rw [hop] at h; cases h
  | some op =>
    rw [hop] at h
    cases op with
    | AT =>
      dsimp only
      split
      · exact ⟨rfl, rfl, rfl, rfl⟩
      · split <;> exact ⟨rfl, rfl, rfl, rfl⟩
    | MARK => exact ⟨rfl, rfl, rfl, rfl⟩
    | LITERAL =>
      dsimp only
      split
      · exact ⟨rfl, rfl, rfl, rfl⟩
      · split <;> exact ⟨rfl, rfl, rfl, rfl⟩
    | IN =>
      dsimp only
      split
      · exact ⟨rfl, rfl, rfl, rfl⟩
      · split <;> exact ⟨rfl, rfl, rfl, rfl⟩
    | ANY =>
      dsimp only
      split
      · exact ⟨rfl, rfl, rfl, rfl⟩
      · split <;> exact ⟨rfl, rfl, rfl, rfl⟩
    | SUCCESS => dsimp only; split <;> exact ⟨rfl, rfl, rfl, rfl⟩
    | REPEAT => dsimp only; exact Keeps3.of (k_attempt _ _ _ _ _) rfl rfl rfl rfl
    | MAX_UNTIL => dsimp only; exact Keeps3.of (k_until _ _) rfl rfl rfl rfl
    | REPEAT_ONE =>
      dsimp only
      split
      · exact ⟨rfl, rfl, rfl, rfl⟩
      · split
        · exact ⟨rfl, rfl, rfl, rfl⟩
        · split
          · exact ⟨rfl, rfl, rfl, rfl⟩
          · exact Keeps3.of (k_afterRun _ _ _ _) rfl rfl rfl rfl
    | _ => cases h
theorem k_resume {m : M} {f : Sre.Frame} {yes : Bool} (h : (match f.wait with
    | .nextStart => yes
    | .giveBack => true
    | .closeLoop => true
    | .maxMore => true
    | .maxTail => true
    | _ => false) = true) : Keeps3 m (m.resume f yes) := by
  unfold M.resume
  cases hw : f.wait with
  | nextStart => rw [hw] at h; dsimp only at h; subst h; dsimp only; rw [if_pos rfl]; exact ⟨rfl, rfl, rfl, rfl⟩
  | giveBack =>
    dsimp only
    split
    · exact ⟨rfl, rfl, rfl, rfl⟩
    · split
      · exact ⟨rfl, rfl, rfl, rfl⟩
      · exact Keeps3.of (k_afterRun _ _ _ _) rfl rfl rfl rfl
  | closeLoop => dsimp only; exact ⟨rfl, rfl, rfl, rfl⟩
  | maxTail => dsimp only; exact ⟨rfl, rfl, rfl, rfl⟩
  | maxMore =>
    dsimp only
    split
    · exact ⟨rfl, rfl, rfl, rfl⟩
    · exact Keeps3.of (k_afterLoop _ _ _ _ _) rfl rfl rfl rfl
  | _ => rw [hw] at h; cases h
theorem k_step {m : M} (h : allowed m = true) : Keeps3 m m.step := by
  unfold M.step
  split
  · exact Keeps3.rfl'
  · unfold allowed at h
    cases ha : m.answer with
    | none =>
      rw [ha] at h
      dsimp only at h ⊢
      split
      · exact k_exec h
      · exact ⟨rfl, rfl, rfl, rfl⟩
    | some yes =>
      rw [ha] at h
      cases hf : m.frames with
      | nil => dsimp only; exact ⟨rfl, rfl, rfl, rfl⟩
      | cons f r =>
        rw [hf] at h
        dsimp only at h ⊢
        exact Keeps3.of (k_resume h) rfl rfl rfl rfl
end Mine
end

section
open PySem PySem.W PyProof.Rows PySem.Calls
set_option autoImplicit false
set_option linter.unusedVariables false
set_option maxRecDepth 100000
namespace Mine
open PySem.Sre PySem.Builtin.Re

noncomputable def runL (code : Array Nat) (i : Nat) : List Nat → Nat → Sre.Seen → Except String (Nat × Sre.Seen)
  | [], found, seen => .ok (found, seen)
  | c :: cs, found, seen => match accepts code i c seen with
    | .error e => .error e
    | .ok (true, seen) => runL code i cs (found + 1) seen
    | .ok (false, seen) => .ok (found, seen)

theorem run_eq (code text : Array Nat) (i : Nat) : ∀ (n p found : Nat) (seen : Sre.Seen), p + n ≤ text.size → Sre.run code text i n p found seen = runL code i ((text.toList.drop p).take n) found seen
  | 0, p, found, seen, h => by simp [Sre.run, runL]
  | n + 1, p, found, seen, h => by
    have hp : p < text.toList.length := by simp; omega
    have e : (text.toList.drop p).take (n + 1) = text.toList[p] :: (text.toList.drop (p + 1)).take n := by
      rw [List.drop_eq_getElem_cons hp, List.take_succ_cons]
    have e2 : text.getD p 0 = text.toList[p] := by simp [Array.getD, show p < text.size from by simpa using hp]
    rw [e]
    simp only [Sre.run, runL, e2]
    cases accepts code i text.toList[p] seen with
    | error w => rfl
    | ok r =>
      obtain ⟨y, sn⟩ := r
      cases y with
      | true => exact run_eq code text i n (p + 1) (found + 1) sn (by omega)
      | false => rfl

/-- a greedy run of one character -/
noncomputable def repOne (m : M) : M :=
  let m := { m with seen := m.seen.add (m.word 0) }
  let t := m.text.toList.drop m.pos
  if Nat.blt t.length (m.word 2) then m.say false else
  match runL m.code (m.pc + 4) t 0 (m.seen.add (m.word 4)) with
  | .error why => m.stick why
  | .ok (n, seen) =>
    let m := { m with seen }
    if n < m.word 2 then m.say false else
    let m := { m with pos := m.pos + n }
    m.afterRun .giveBack n (m.keep m.inner.isSome)

theorem repOne_eq {m : M} (hop : ops[m.word 0]? = some .REPEAT_ONE) (hl : m.lim = m.text.size) (hs : m.lim ≤ 4294967295) (hp : m.pos ≤ m.text.size) (hm : m.word 3 = 4294967295) : m.exec = repOne m := by
  unfold M.exec repOne
  rw [hop]
  dsimp only
  have hw : ∀ (sn : Sre.Seen) (k : Nat), ({ m with seen := sn } : M).word k = m.word k := fun _ _ => rfl
  have e1 : ((m.lim : Int) - m.pos).toNat = (m.text.toList.drop m.pos).length := by simp [hl]
  have e2 : (((m.word 2 : Nat) : Int) > (m.lim : Int) - m.pos) ↔ (Nat.blt (m.text.toList.drop m.pos).length (m.word 2) = true) := by
    rw [Nat.blt_eq]
    simp [hl]; omega
  have e3 : min (m.word 3) ((m.lim : Int) - m.pos).toNat = (m.text.toList.drop m.pos).length := by
    rw [e1, hm]
    have : (m.text.toList.drop m.pos).length ≤ 4294967295 := by simp; omega
    omega
  have e4 : Sre.run m.code m.text (m.pc + 4) (min (m.word 3) ((m.lim : Int) - m.pos).toNat) m.pos 0 ((m.seen.add (m.word 0)).add (m.word 4)) = runL m.code (m.pc + 4) (m.text.toList.drop m.pos) 0 ((m.seen.add (m.word 0)).add (m.word 4)) := by
    rw [e3, run_eq _ _ _ _ _ _ _ (by simp; omega), List.take_of_length_le (Nat.le_refl _)]
  simp only [hw]
  by_cases c : (((m.word 2 : Nat) : Int) > (m.lim : Int) - m.pos)
  · rw [if_pos c, if_pos (e2.mp c)]
  · rw [if_neg c, if_neg fun z => c (e2.mpr z)]
    simp only [Bool.false_eq_true, if_false]
    rw [e4]
    cases runL m.code (m.pc + 4) (List.drop m.pos m.text.toList) 0 ((m.seen.add (m.word 0)).add (m.word 4)) with
    | error w => rfl
    | ok r => obtain ⟨n, sn⟩ := r; rfl

noncomputable def kstep (m : M) : Option M :=
  match m.answer.isNone && Nat.blt m.pc m.code.size && (match ops[m.word 0]? with | some .REPEAT_ONE => true | _ => false) with
  | true => match Nat.beq (m.word 3) 4294967295 && Nat.ble m.pos m.text.toList.length with
    | true => some (repOne m)
    | false => none
  | false => match allowed m with
    | true => some m.step
    | false => none
noncomputable def kruns : Nat → M → Option M
  | 0, m => some m
  | n + 1, m => match m.outcome.isSome with
    | true => some m
    | false => match kstep m with
      | some m' => kruns n m'
      | none => none

theorem k_repOne {m : M} (hop : ops[m.word 0]? = some .REPEAT_ONE) (e : m.exec = repOne m) : Keeps3 m (repOne m) := by
  rw [← e]
  exact k_exec (by rw [hop])
theorem kstep_ok {m m' : M} (ho : m.outcome.isSome = false) (h : kstep m = some m') (hl : m.lim = m.text.size) (hs : m.lim ≤ 4294967295) : m.step = m' ∧ Keeps3 m m' := by
  unfold kstep at h
  split at h
  · rename_i c
    simp only [Bool.and_eq_true] at c
    obtain ⟨⟨c1, c2⟩, c3⟩ := c
    have hop : ops[m.word 0]? = some .REPEAT_ONE := by
      revert c3
      split
      · intro _; assumption
      · intro z; cases z
    split at h
    · rename_i d
      simp only [Bool.and_eq_true] at d
      have hm : m.word 3 = 4294967295 := Nat.eq_of_beq_eq_true d.1
      have hp : m.pos ≤ m.text.size := by have := Nat.le_of_ble_eq_true d.2; simpa using this
      have e := repOne_eq hop hl hs hp hm
      cases h
      refine ⟨?_, k_repOne hop e⟩
      unfold M.step
      have ha : m.answer = none := Option.isNone_iff_eq_none.mp c1
      rw [ho, ha]
      simp only [Bool.false_eq_true, if_false]
      rw [if_pos (by rw [← Nat.blt_eq]; exact c2)]
      exact e
    · cases h
  · split at h
    · rename_i c
      cases h
      exact ⟨rfl, k_step c⟩
    · cases h
theorem kruns_ok : ∀ (n : Nat) {m m' : M}, kruns n m = some m' → m.lim = m.text.size → m.lim ≤ 4294967295 → m.runFor n = m' ∧ Keeps3 m m'
  | 0, m, m', h, _, _ => by cases h; exact ⟨rfl, Keeps3.rfl'⟩
  | n + 1, m, m', h, hl, hs => by
    unfold kruns at h
    cases ho : m.outcome.isSome with
    | true => rw [ho] at h; cases h; exact ⟨runFor_done _ _ ho, Keeps3.rfl'⟩
    | false =>
      rw [ho] at h
      dsimp only at h
      cases hk : kstep m with
      | none => rw [hk] at h; cases h
      | some m₁ =>
        rw [hk] at h
        obtain ⟨e, k⟩ := kstep_ok ho hk hl hs
        obtain ⟨e', k'⟩ := kruns_ok n h (by rw [k.lim, k.text]; exact hl) (by rw [k.lim]; exact hs)
        refine ⟨?_, k.trans k'⟩
        show (if m.outcome.isSome = true then m else M.runFor n m.step) = m'
        rw [ho, if_neg Bool.false_ne_true, e]
        exact e'

/-- start, end, marks, last mark, last group -/
structure Hit where
  start : Nat
  fin : Nat
  marks : List (Option Nat)
  lastmark : Int
  lastindex : Int
noncomputable def hitOf (m : M) : Option Hit := match m.outcome with
  | some .matched => some ⟨m.start, m.handed, m.marks.toList, m.lastmark, m.lastindex⟩
  | _ => none
noncomputable def ksearch (n : Nat) (code : Array Nat) (groups : Nat) (text : List Nat) : Option Hit := match kruns n (forSearch code text.toArray groups 0 text.length false) with
  | some m => hitOf m
  | none => none
end Mine
end

section
open PySem PySem.W PyProof.Rows PySem.Calls
set_option autoImplicit false
set_option linter.unusedVariables false
set_option maxRecDepth 100000
namespace Mine
open PySem.Sre PySem.Builtin.Re

/-- the try at s has failed; the next starts wait -/
structure Bad (code : Array Nat) (pc0 ls s : Nat) (m : M) : Prop where
  out : m.outcome = none
  ans : m.answer = some false
  cod : m.code = code
  last : m.lastStart = ls
  wt : m.weight ≤ 1000
  fr : ∃ f, m.frames = [f] ∧ f.wait = .nextStart ∧ f.pc = pc0 ∧ f.pos = s

theorem step_AT {m : M} (ho : m.outcome = none) (ha : m.answer = none) (hp : m.pc < m.code.size) (h1 : m.code.getD m.pc 0 = 6) (h2 : m.code.getD (m.pc + 1) 0 = 0) (hpos : (m.pos == 0) = false) : m.step = M.say { m with seen := (m.seen.add 6).add 43 } false := by
  have hw : m.word 0 = 6 := h1
  have hop : ops[m.word 0]? = some .AT := by rw [hw]; rfl
  unfold M.step
  rw [ho, ha]
  simp only [Option.isSome_none, Bool.false_eq_true, if_false]
  rw [if_pos hp]
  unfold M.exec
  rw [hop]
  dsimp only
  have hw1 : ({ m with seen := m.seen.add (m.word 0) } : M).word 1 = 0 := h2
  rw [hw1]
  unfold M.isAt
  simp only [hpos, Bool.false_eq_true, if_false, hw, ha, ho, Nat.add_zero]
theorem resume_next {m : M} {f : Sre.Frame} (hw : f.wait = .nextStart) (hlt : f.pos < m.lastStart) (h4 : m.hasFirstSet = false) : m.resume f false = ({ m with mustAdvance := false } : M).attemptAt (f.pos + 1) false := by
  unfold M.resume
  rw [hw]
  dsimp only
  rw [if_neg Bool.false_ne_true, if_pos hlt]
  unfold M.attemptFrom
  have : ({ m with mustAdvance := false } : M).hasFirstSet = false := h4
  rw [this]
  rfl
theorem resume_last {m : M} {f : Sre.Frame} (hw : f.wait = .nextStart) (hlt : ¬ f.pos < m.lastStart) : m.resume f false = m.say false := by
  unfold M.resume
  rw [hw]
  dsimp only
  rw [if_neg Bool.false_ne_true, if_neg hlt]
theorem step_resume {m : M} {f : Sre.Frame} {yes : Bool} {r : List Sre.Frame} (ho : m.outcome = none) (ha : m.answer = some yes) (hf : m.frames = f :: r) : m.step = M.resume { m with answer := none, frames := r, weight := m.weight - (1 + f.kept.marks.size), pc := f.pc, pos := f.pos, outermost := f.outermost } f yes := by
  unfold M.step
  rw [ho, ha, hf]
  rfl
theorem Bad.next {code : Array Nat} {pc0 ls s : Nat} {m : M} (b : Bad code pc0 ls s m) (hs : s < ls) (h1 : code.getD pc0 0 = 6) (h2 : code.getD (pc0 + 1) 0 = 0) (h3 : pc0 < code.size) (h4 : m.hasFirstSet = false) :
    Bad code pc0 ls (s + 1) (m.step.step) ∧ (m.step.step).hasFirstSet = false := by
  obtain ⟨o1, o2, o3, o4, o5, f, f1, f2, f3, f4⟩ := b
  have e1 : m.step = ({ m with answer := none, frames := [], weight := m.weight - (1 + f.kept.marks.size), pc := f.pc, pos := f.pos, outermost := f.outermost, mustAdvance := false } : M).attemptAt (f.pos + 1) false := by
    rw [step_resume o1 o2 f1]
    exact resume_next f2 (by show f.pos < m.lastStart; rw [f4, o4]; exact hs) h4
  have e2 : m.step = { m with answer := none, frames := [{ wait := .nextStart, pc := pc0, pos := s + 1, outermost := false }], weight := m.weight - (1 + f.kept.marks.size) + 1, pc := pc0, pos := s + 1, handed := s + 1, outermost := false, mustAdvance := false, start := s + 1, lastmark := -1, lastindex := -1 } := by
    rw [e1]
    unfold M.attemptAt M.attempt
    dsimp only
    rw [if_neg (by simp; omega)]
    rw [f3, f4]
    rfl
  have e3 : m.step.step = M.say { m with answer := none, frames := [{ wait := .nextStart, pc := pc0, pos := s + 1, outermost := false }], weight := m.weight - (1 + f.kept.marks.size) + 1, pc := pc0, pos := s + 1, handed := s + 1, outermost := false, mustAdvance := false, start := s + 1, lastmark := -1, lastindex := -1, seen := ((m.seen.add 6).add 43) } false := by
    rw [e2]
    exact step_AT (m := { m with answer := none, frames := [{ wait := .nextStart, pc := pc0, pos := s + 1, outermost := false }], weight := m.weight - (1 + f.kept.marks.size) + 1, pc := pc0, pos := s + 1, handed := s + 1, outermost := false, mustAdvance := false, start := s + 1, lastmark := -1, lastindex := -1 }) o1 rfl (by rw [← o3] at h3; exact h3) (by rw [← o3] at h1; exact h1) (by rw [← o3] at h2; exact h2) (by simp)
  rw [e3]
  refine ⟨⟨o1, rfl, o3, o4, ?_, _, rfl, rfl, rfl, rfl⟩, ?_⟩
  · show m.weight - (1 + f.kept.marks.size) + 1 ≤ 1000
    omega
  · unfold M.hasFirstSet at h4 ⊢
    exact h4

theorem Bad.end {code : Array Nat} {pc0 ls s : Nat} {m : M} (b : Bad code pc0 ls s m) (hs : ls ≤ s) : (m.step.step).outcome = some .failed := by
  obtain ⟨o1, o2, o3, o4, o5, f, f1, f2, f3, f4⟩ := b
  have e1 : m.step = M.say { m with answer := none, frames := [], weight := m.weight - (1 + f.kept.marks.size), pc := f.pc, pos := f.pos, outermost := f.outermost } false := by
    rw [step_resume o1 o2 f1]
    exact resume_last f2 (by show ¬ f.pos < m.lastStart; rw [f4, o4]; omega)
  rw [e1]
  unfold M.step M.say
  simp only [o1, Option.isSome_none, Bool.false_eq_true, if_false]

theorem Bad.fails {code : Array Nat} {pc0 ls : Nat} (h1 : code.getD pc0 0 = 6) (h2 : code.getD (pc0 + 1) 0 = 0) (h3 : pc0 < code.size) : ∀ (k s : Nat) {m : M}, ls - s = k → Bad code pc0 ls s m → m.hasFirstSet = false → (m.runFor (2 * k + 2)).outcome = some .failed
  | 0, s, m, hk, b, h4 => by
    have z := b.end (by omega)
    have o := b.out
    show (if m.outcome.isSome = true then m else M.runFor 1 m.step).outcome = _
    rw [o]
    simp only [Option.isSome_none, Bool.false_eq_true, if_false]
    show (if m.step.outcome.isSome = true then m.step else M.runFor 0 m.step.step).outcome = _
    split
    · rename_i q
      have : m.step.step = m.step := by unfold M.step at q ⊢; rw [if_pos q]
      rw [this] at z; exact z
    · exact z
  | k + 1, s, m, hk, b, h4 => by
    obtain ⟨b', h4'⟩ := b.next (by omega) h1 h2 h3 h4
    have ih := Bad.fails h1 h2 h3 k (s + 1) (by omega) b' h4'
    rw [show 2 * (k + 1) + 2 = 2 + (2 * k + 2) from by omega, runFor_add]
    have e : m.runFor 2 = m.step.step := by
      show (if m.outcome.isSome = true then m else M.runFor 1 m.step) = _
      rw [b.out]
      simp only [Option.isSome_none, Bool.false_eq_true, if_false]
      show (if m.step.outcome.isSome = true then m.step else M.runFor 0 m.step.step) = _
      split
      · rename_i q
        unfold M.step at q ⊢
        rw [if_pos q]
      · rfl
    rw [e]; exact ih

noncomputable def badB (m : M) (pc0 s : Nat) : Bool := m.outcome.isNone && (match m.answer with | some false => true | _ => false) && Nat.ble m.weight 1000 && !m.hasFirstSet &&
  (match m.frames with
  | [f] => (match f.wait with | .nextStart => true | _ => false) && Nat.beq f.pc pc0 && Nat.beq f.pos s
  | _ => false)
/-- the machine comes to a failed try at the first start -/
noncomputable def kfail (n : Nat) (code : Array Nat) (groups s : Nat) (text : List Nat) : Bool := match kruns n (forSearch code text.toArray groups s text.length false) with
  | some m => badB m (header code).2 s && Nat.beq (code.getD (header code).2 0) 6 && Nat.beq (code.getD ((header code).2 + 1) 0) 0 && Nat.blt (header code).2 code.size
  | none => false

theorem forSearch_keeps (code text : Array Nat) (groups pos lim : Nat) (b : Bool) : (forSearch code text groups pos lim b).code = code ∧ (forSearch code text groups pos lim b).text = text ∧ (forSearch code text groups pos lim b).lim = lim ∧ (forSearch code text groups pos lim b).lastStart ≤ max pos lim := by
  unfold forSearch
  dsimp only
  split
  · exact ⟨rfl, rfl, rfl, Nat.zero_le _⟩
  · refine ⟨(k_attemptFrom _ _ _).code, (k_attemptFrom _ _ _).text, (k_attemptFrom _ _ _).lim, ?_⟩
    rw [(k_attemptFrom _ _ _).last]
    dsimp only
    split <;> omega
end Mine
end

section
open PySem PySem.W PyProof.Rows PySem.Calls
set_option autoImplicit false
set_option linter.unusedVariables false
set_option maxRecDepth 100000
namespace Mine
open PySem.Sre PySem.Builtin.Re

theorem search_hit {n : Nat} {code : Array Nat} {groups : Nat} {text : List Nat} {h : Hit} (hk : ksearch n code groups text = some h) (hz : text.length ≤ 4294967295) :
    ∃ m, (forSearch code text.toArray groups 0 text.length false).runFor n = m ∧ m.outcome = some .matched ∧ m.start = h.start ∧ m.handed = h.fin ∧ m.marks.toList = h.marks ∧ m.lastmark = h.lastmark ∧ m.lastindex = h.lastindex := by
  unfold ksearch at hk
  obtain ⟨k1, k2, k3, _⟩ := forSearch_keeps code text.toArray groups 0 text.length false
  cases hr : kruns n (forSearch code text.toArray groups 0 text.length false) with
  | none => rw [hr] at hk; cases hk
  | some m =>
    rw [hr] at hk
    obtain ⟨e, _⟩ := kruns_ok n hr (by rw [k2, k3]; simp) (by rw [k3]; exact hz)
    refine ⟨m, e, ?_⟩
    dsimp only at hk
    unfold hitOf at hk
    split at hk
    · rename_i ho
      cases hk
      exact ⟨ho, rfl, rfl, rfl, rfl, rfl⟩
    · cases hk

theorem search_fail {n : Nat} {code : Array Nat} {groups s : Nat} {text : List Nat} (hk : kfail n code groups s text = true) (hz : text.length ≤ 4294967295) (hn : n ≤ 1000) (hs : s ≤ 1000) :
    ∃ N, N ≤ 4 * 2 ^ 64 ∧ ((forSearch code text.toArray groups s text.length false).runFor N).outcome = some .failed := by
  unfold kfail at hk
  obtain ⟨k1, k2, k3, k4⟩ := forSearch_keeps code text.toArray groups s text.length false
  cases hr : kruns n (forSearch code text.toArray groups s text.length false) with
  | none => rw [hr] at hk; cases hk
  | some m =>
    rw [hr] at hk
    obtain ⟨e, k⟩ := kruns_ok n hr (by rw [k2, k3]; simp) (by rw [k3]; exact hz)
    dsimp only at hk
    simp only [Bool.and_eq_true] at hk
    obtain ⟨⟨⟨hb, h1⟩, h2⟩, h3⟩ := hk
    have h1' := Nat.eq_of_beq_eq_true h1
    have h2' := Nat.eq_of_beq_eq_true h2
    rw [Nat.blt_eq] at h3
    unfold badB at hb
    simp only [Bool.and_eq_true] at hb
    obtain ⟨⟨⟨⟨b1, b2⟩, b3⟩, b4⟩, b5⟩ := hb
    have hB : Bad code (header code).2 m.lastStart s m := by
      refine ⟨Option.isNone_iff_eq_none.mp b1, ?_, k.code.trans k1, rfl, Nat.le_of_ble_eq_true b3, ?_⟩
      · revert b2
        cases m.answer with
        | none => intro z; cases z
        | some b => cases b <;> intro z <;> first | rfl | cases z
      · revert b5
        cases m.frames with
        | nil => intro z; cases z
        | cons f r =>
          cases r with
          | cons _ _ => intro z; cases z
          | nil =>
            intro z
            simp only [Bool.and_eq_true] at z
            obtain ⟨⟨z1, z2⟩, z3⟩ := z
            refine ⟨f, rfl, ?_, Nat.eq_of_beq_eq_true z2, Nat.eq_of_beq_eq_true z3⟩
            revert z1
            cases f.wait <;> intro z <;> first | rfl | cases z
    have hls : m.lastStart ≤ 4294967295 + 1000 := by
      rw [k.last]; omega
    refine ⟨n + (2 * (m.lastStart - s) + 2), by omega, ?_⟩
    rw [runFor_add, e]
    exact Bad.fails h1' h2' h3 _ s rfl hB (by simpa using b4)
end Mine
end

section
open PySem PySem.W PyProof.Rows PySem.Calls
set_option autoImplicit false
set_option linter.unusedVariables false
set_option maxRecDepth 100000
namespace Mine
open PySem.Sre PySem.Builtin.Re

/-- a compiled pattern -/
structure PatAt (G : Glob) (a : Addr) (code : Array Nat) (groups : Nat) : Prop where
  at_ : ∃ o c p0 p1 t2 p3 p4 t6 oc vs n, G.H.get? a = some o ∧ o.cls = .type "re.Pattern" ∧ o.dict = none ∧ o.data = .fields #[p0, p1, .int groups t2, p3, p4, .ref c, .int 0 t6] ∧
    G.H.get? c = some oc ∧ oc.data = .seq vs n ∧ (vs.map reRawOf).map (·.toNat) = code

section
variable {G : Glob} {B : Base} {A : Around} {σ : St} {Ψ : XPost} {Φ : AV → St → Prop}

theorem HasT.pat {a : Addr} {code : Array Nat} {groups : Nat} (h : PatAt G a code groups) : HasT G B σ (.raw (.ref a)) "re.Pattern" := fun K ad s u R hv => by
  simp only [V] at hv; subst hv
  obtain ⟨o, c, p0, p1, t2, p3, p4, t6, oc, vs, n, h1, h2, h3, _⟩ := h.at_
  exact ⟨⟨o, R.H _ _ h1, h2⟩, fun b e => by cases e; exact ⟨o, R.H _ _ h1, h3⟩⟩

theorem target {a : Addr} {code : Array Nat} {groups : Nat} {id f : String} {x : Str} {t : Tok} {s : Shared} {Q : ReTarget → Shared → Prop} {E : Value → Shared → Prop} (h : PatAt G a code groups) (hH : ∀ b o, G.H.get? b = some o → s.heap.get? b = some o) (hz : x.length ≤ sizeLine)
    (q : Q { pattern := .ref a, string := .str x t, code := code, text := x.cps, kind := 0, groups := groups, pos := 0, lim := x.cps.size } s) : wpAny (model G.prog G.w) A (reTarget id f ⟨[.ref a, .str x t], []⟩) Q E s := by
  obtain ⟨o, c, p0, p1, t2, p3, p4, t6, oc, vs, n, h1, h2, h3, h4, h5, h6, h7⟩ := h.at_
  have hs16 := sz16
  have hz' : x.cps.size ≤ 16777216 := by rw [← hs16]; exact hz
  unfold reTarget
  dsimp only
  refine wpAny_bind (wpAny_of_eq (a := [some (.str x t), none, none]) (by rfl) ?_)
  dsimp only
  refine wpAny_bind (wpAny_pure ?_)
  refine wpAny_bind (wpAny_pure ?_)
  refine wpAny_bind (wpAny_fieldsOf (hH _ _ h1) h4 ?_)
  refine wpAny_bind (wpAny_of_eq (a := (x.cps, 0)) (by rfl) ?_)
  dsimp only
  refine wpAny_bind (m := reNoCollectionInside (.str x t) 0) (wpAny_of_eq (a := ()) (by rfl) ?_)
  refine wpAny_bind ?_
  show wpAny _ _ (reRawItems (.ref c)) _ _ s
  unfold reRawItems
  refine wpAny_bind (wpAny_seqItems (hH _ _ h5) h6 ?_)
  refine wpAny_pure (wpAny_pure ?_)
  have e1 : min ((2 ^ 63 - 1 : Int)).toNat x.cps.size = x.cps.size := by omega
  have e2 : min ((0 : Int)).toNat x.cps.size = 0 := by simp
  have q' := q
  show Q { pattern := .ref a, string := .str x t, code := (vs.map reRawOf).map (·.toNat), text := x.cps, kind := 0, groups := reRawNat (.int groups t2), pos := min ((0 : Int)).toNat x.cps.size, lim := min ((2 ^ 63 - 1 : Int)).toNat x.cps.size } s
  rw [h7, e1, e2]
  exact q
theorem wholeTarget {a : Addr} {code : Array Nat} {groups : Nat} {x : Str} {t : Tok} {s : Shared} {Q : ReTarget → Shared → Prop} {E : Value → Shared → Prop} (h : PatAt G a code groups) (hH : ∀ b o, G.H.get? b = some o → s.heap.get? b = some o)
    (q : Q { pattern := .ref a, string := .str x t, code := code, text := x.cps, kind := 0, groups := groups, pos := 0, lim := x.cps.size } s) : wpAny (model G.prog G.w) A (reWholeTarget (.ref a) (.str x t)) Q E s := by
  obtain ⟨o, c, p0, p1, t2, p3, p4, t6, oc, vs, n, h1, h2, h3, h4, h5, h6, h7⟩ := h.at_
  unfold reWholeTarget
  refine wpAny_bind (wpAny_fieldsOf (hH _ _ h1) h4 ?_)
  refine wpAny_bind (wpAny_of_eq (a := (x.cps, 0)) (by rfl) ?_)
  dsimp only
  refine wpAny_bind (m := reNoCollectionInside (.str x t) 0) (wpAny_of_eq (a := ()) (by rfl) ?_)
  refine wpAny_bind ?_
  show wpAny _ _ (reRawItems (.ref c)) _ _ s
  unfold reRawItems
  refine wpAny_bind (wpAny_seqItems (hH _ _ h5) h6 ?_)
  refine wpAny_pure (wpAny_pure ?_)
  show Q { pattern := .ref a, string := .str x t, code := (vs.map reRawOf).map (·.toNat), text := x.cps, kind := 0, groups := reRawNat (.int groups t2), pos := 0, lim := x.cps.size } s
  rw [h7]
  exact q

/-- the spans a match tells -/
def spansOf (groups : Nat) (h : Hit) : List Int := (h.start : Int) :: (h.fin : Int) :: ((List.range groups).flatMap fun g =>
    match if ((2 * g + 1 : Nat) : Int) ≤ h.lastmark then (h.marks.getD (2 * g) none, h.marks.getD (2 * g + 1) none) else (none, none) with
    | (some b, some e) => [(b : Int), (e : Int)]
    | _ => [-1, -1])
def okSpans (groups : Nat) (h : Hit) : Bool := !(List.range groups).any (fun g => match h.marks.getD (2 * g) none, h.marks.getD (2 * g + 1) none with | some b, some e => ((2 * g + 1 : Nat) : Int) ≤ h.lastmark && e < b | _, _ => false)

theorem newMatch {a : Addr} {groups pos lim : Nat} {x : Str} {t : Tok} {m : M} {h : Hit} {K : PH} {ad : List Addr} {s : Shared} {Q : Value → Shared → Prop} {E : Value → Shared → Prop} (hR : Rel G B K ad σ s.heap) (e1 : m.start = h.start) (e2 : m.handed = h.fin) (e3 : m.marks.toList = h.marks) (e4 : m.lastmark = h.lastmark) (hok : okSpans groups h = true) (hg : groups ≤ 1)
    (q : ∀ K' s', KLe K K' → Rel G B K' ad σ s'.heap → V K' ad (.mat x (spansOf groups h)) (.ref (s.heap.objs.size + 1)) → SameRest s s' → (∀ b o, s.heap.get? b = some o → s'.heap.get? b = some o) → (∀ b o, K' b = some o → K b = some o ∨ s.heap.get? b = none) → Q (.ref (s.heap.objs.size + 1)) s') :
    wpAny (model G.prog G.w) A (reNewMatch (.ref a) (.str x t) groups pos lim m) Q E s := by
  have em : m.marks = h.marks.toArray := by rw [← e3]
  have gd : ∀ i, m.marks.getD i none = h.marks.getD i none := fun i => by
    rw [em]
    simp [List.getD, Array.getD]
    by_cases c : i < h.marks.length
    · simp [c]
    · simp [c]
  unfold reNewMatch
  dsimp only
  have hany : ((List.range groups).any fun g => match m.marks.getD (2 * g) none, m.marks.getD (2 * g + 1) none with | some b, some e => ((2 * g + 1 : Nat) : Int) ≤ m.lastmark && e < b | _, _ => false) = false := by
    simp only [gd, e4]
    unfold okSpans at hok
    simpa using hok
  refine wpAny_ite_split (fun hc => absurd (hc.symm.trans (show _ = false from hany)) (by decide)) (fun _ => ?_)
  have hsp : ((rawInt m.start :: rawInt m.handed :: (List.range groups).flatMap fun g =>
      match if ((2 * g + 1 : Nat) : Int) ≤ m.lastmark then (m.marks.getD (2 * g) none, m.marks.getD (2 * g + 1) none) else (none, none) with
      | (some b, some e) => [rawInt b, rawInt e]
      | _ => [rawInt (-1), rawInt (-1)]) : List Value) = (spansOf groups h).map rawInt := by
    simp only [gd, e4, e1, e2]
    unfold spansOf
    simp only [List.map_cons, List.map_flatMap]
    congr 2
    congr 1
    funext g
    split <;> simp_all
  refine wpAny_bind ?_
  refine Eq.mp (congrArg (fun l => wpAny (model G.prog G.w) A (newTuple l) _ E s) hsp.symm) ?_
  have hlen : (spansOf groups h).length ≤ 4 := by
    have : groups = 0 ∨ groups = 1 := by omega
    rcases this with rfl | rfl
    · simp [spansOf]
    · unfold spansOf
      simp only [List.range_one, List.flatMap_cons, List.flatMap_nil, List.append_nil, List.length_cons]
      split <;> simp
  unfold newTuple
  refine wpAny_newObj_type ?_ ?_
  · unfold newFields
    refine wpAny_newObj_type ?_ ?_
    · have R₁ := hR.newKept (tupOf ((spansOf groups h).map rawInt))
      have s1 : (s.heap.push (tupOf ((spansOf groups h).map rawInt))).objs.size = s.heap.objs.size + 1 := Heap.size_push ..
      have R₂ := R₁.newKept (matOf x t (.ref a) pos lim m.lastindex s.heap.objs.size)
      rw [s1] at R₂
      have k1 : KLe K (put K s.heap.objs.size (tupOf ((spansOf groups h).map rawInt))) := KLe.put hR.fresh
      have fr : put K s.heap.objs.size (tupOf ((spansOf groups h).map rawInt)) (s.heap.objs.size + 1) = none := by have := R₁.fresh; rw [s1] at this; exact this
      have k2 : KLe (put K s.heap.objs.size (tupOf ((spansOf groups h).map rawInt))) (put (put K s.heap.objs.size (tupOf ((spansOf groups h).map rawInt))) (s.heap.objs.size + 1) (matOf x t (.ref a) pos lim m.lastindex s.heap.objs.size)) := KLe.put fr
      have z := q _ { s with heap := (s.heap.push (tupOf ((spansOf groups h).map rawInt))).push (matOf x t (.ref a) pos lim m.lastindex s.heap.objs.size) } (k1.trans k2) R₂ (by
        simp only [V]
        exact ⟨_, s.heap.objs.size, t, .ref a, pos, lim, m.lastindex, rfl, put_self .., k2 _ _ (put_self ..)⟩) ⟨rfl, rfl, rfl⟩ (fun b o e => Heap.get?_push_of_some _ (Heap.get?_push_of_some _ e)) (fun b o e => by
          by_cases c1 : b = s.heap.objs.size + 1
          · subst c1; exact .inr (Heap.get?_none_of_le (Nat.le_succ _))
          · rw [put_ne c1] at e
            by_cases c2 : b = s.heap.objs.size
            · subst c2; exact .inr (Heap.get?_none_of_le (Nat.le_refl _))
            · rw [put_ne c2] at e; exact .inl e)
      rw [← s1] at z
      exact z
    · size_fits
  · show sizeOk (.seq ((spansOf groups h).map rawInt).toArray 0)
    have hs16 := sz16
    simp only [sizeOk, List.size_toArray, List.length_map]
    omega
end
end Mine
end

section
open PySem PySem.W PyProof.Rows PySem.Calls
set_option autoImplicit false
set_option linter.unusedVariables false
set_option maxRecDepth 100000
namespace Mine
open PySem.Sre PySem.Builtin.Re
theorem slot_fullmatch : Slot "re.Pattern" "fullmatch" "re.Pattern.fullmatch" :=
  .of (owner := "re.Pattern") (n := "fullmatch") (by rw [typeLookup_type, builtinLookup_eq_fast]; kernel_rfl) (by decide +kernel) (by decide +kernel) (by decide +kernel)
    (by first | exact .inl (by decide +kernel) | exact .inr (by decide +kernel)) (by rw [isSubtype_type]; kernel_rfl)
theorem type_fullmatch : typeOf (.builtin "re.Pattern.fullmatch") = pure (.type "method_descriptor") := by show builtinType _ = _; rw [builtinType_eq_fast]; kernel_rfl
theorem entry_fullmatch : entryFor table "re.Pattern.fullmatch" = some Builtin.«re.Pattern.fullmatch» := entryFor_of_tree (by kernel_rfl)
theorem args_fullmatch (a b : Value) : argsOk "re.Pattern.fullmatch" ⟨[a, b], []⟩ := by
  unfold argsOk; kernel_rfl
theorem slot_sub : Slot "re.Pattern" "sub" "re.Pattern.sub" :=
  .of (owner := "re.Pattern") (n := "sub") (by rw [typeLookup_type, builtinLookup_eq_fast]; kernel_rfl) (by decide +kernel) (by decide +kernel) (by decide +kernel)
    (by first | exact .inl (by decide +kernel) | exact .inr (by decide +kernel)) (by rw [isSubtype_type]; kernel_rfl)
theorem type_sub : typeOf (.builtin "re.Pattern.sub") = pure (.type "method_descriptor") := by show builtinType _ = _; rw [builtinType_eq_fast]; kernel_rfl
theorem entry_sub : entryFor table "re.Pattern.sub" = some Builtin.«re.Pattern.sub» := entryFor_of_tree (by kernel_rfl)
theorem args_sub (a b c : Value) : argsOk "re.Pattern.sub" ⟨[a, b, c], []⟩ := by
  unfold argsOk; kernel_rfl
theorem slot_subn : Slot "re.Pattern" "subn" "re.Pattern.subn" :=
  .of (owner := "re.Pattern") (n := "subn") (by rw [typeLookup_type, builtinLookup_eq_fast]; kernel_rfl) (by decide +kernel) (by decide +kernel) (by decide +kernel)
    (by first | exact .inl (by decide +kernel) | exact .inr (by decide +kernel)) (by rw [isSubtype_type]; kernel_rfl)
theorem type_subn : typeOf (.builtin "re.Pattern.subn") = pure (.type "method_descriptor") := by show builtinType _ = _; rw [builtinType_eq_fast]; kernel_rfl
theorem entry_subn : entryFor table "re.Pattern.subn" = some Builtin.«re.Pattern.subn» := entryFor_of_tree (by kernel_rfl)
theorem args_subn (a b c : Value) : argsOk "re.Pattern.subn" ⟨[a, b, c], []⟩ := by
  unfold argsOk; kernel_rfl
theorem slot_group : Slot "re.Match" "group" "re.Match.group" :=
  .of (owner := "re.Match") (n := "group") (by rw [typeLookup_type, builtinLookup_eq_fast]; kernel_rfl) (by decide +kernel) (by decide +kernel) (by decide +kernel)
    (by first | exact .inl (by decide +kernel) | exact .inr (by decide +kernel)) (by rw [isSubtype_type]; kernel_rfl)
theorem type_group : typeOf (.builtin "re.Match.group") = pure (.type "method_descriptor") := by show builtinType _ = _; rw [builtinType_eq_fast]; kernel_rfl
theorem entry_group : entryFor table "re.Match.group" = some Builtin.«re.Match.group» := entryFor_of_tree (by kernel_rfl)
theorem args_group (a b : Value) : argsOk "re.Match.group" ⟨[a, b], []⟩ := by
  unfold argsOk; kernel_rfl
theorem slot_span : Slot "re.Match" "span" "re.Match.span" :=
  .of (owner := "re.Match") (n := "span") (by rw [typeLookup_type, builtinLookup_eq_fast]; kernel_rfl) (by decide +kernel) (by decide +kernel) (by decide +kernel)
    (by first | exact .inl (by decide +kernel) | exact .inr (by decide +kernel)) (by rw [isSubtype_type]; kernel_rfl)
theorem type_span : typeOf (.builtin "re.Match.span") = pure (.type "method_descriptor") := by show builtinType _ = _; rw [builtinType_eq_fast]; kernel_rfl
theorem entry_span : entryFor table "re.Match.span" = some Builtin.«re.Match.span» := entryFor_of_tree (by kernel_rfl)
theorem args_span (a b : Value) : argsOk "re.Match.span" ⟨[a, b], []⟩ := by
  unfold argsOk; kernel_rfl
end Mine
end

section
open PySem PySem.W PyProof.Rows PySem.Calls
set_option autoImplicit false
set_option linter.unusedVariables false
set_option maxRecDepth 100000
namespace Mine
open PySem.Sre PySem.Builtin.Re

section
variable {G : Glob} {B : Base} {A : Around} {σ : St} {Ψ : XPost} {Φ : AV → St → Prop}

theorem Op.search_hit {a : Addr} {code : Array Nat} {groups n : Nat} {text : List Nat} {h : Hit} (hp : PatAt G a code groups) (hk : ksearch n code groups text = some h) (hn : n ≤ 10000) (hz : text.length ≤ sizeLine) (hok : okSpans groups h = true) (hg : groups ≤ 1) (hΦ : Φ (.mat (S text) (spansOf groups h)) σ) :
    Op G B A σ [.raw (.ref a), .str (S text)] (fun us => PySem.call (.builtin "re.Pattern.search") us) V Φ Ψ := fun K ad s us hR hv Q E q ex => by
  obtain ⟨u, w, rfl, h1, h2⟩ := Vs2 hv
  simp only [V] at h1 h2; subst h1; obtain ⟨t, rfl⟩ := h2
  obtain ⟨o, c, p0, p1, t2, p3, p4, t6, oc, vs, n', g1, g2, g3, _⟩ := hp.at_
  have hs16 := sz16
  obtain ⟨m, e0, e1, e2, e3, e4, e5, e6⟩ := Mine.search_hit hk (by omega)
  refine wpAny_call_entry slot_search ⟨o, hR.H _ _ g1, g2⟩ entry_search ?_ (args_search _ _)
  show wpAny _ _ (do let t ← reTarget "re.Pattern.search" "search" ⟨[.ref a, .str (S text) t], []⟩; reAnswer t (Sre.forSearch t.code t.text t.groups t.pos t.lim false)) _ _ s
  refine wpAny_bind (target hp hR.H hz ?_)
  unfold reAnswer
  refine wpAny_bind (runToEnd (N := n) (by omega) ?_ ?_)
  · show ((forSearch code text.toArray groups 0 text.toArray.size false).runFor n).outcome = _
    rw [List.size_toArray, e0]; exact e1
  · show wpAny _ _ (do ret (← reNewMatch (.ref a) (.str (S text) t) groups 0 (text.toArray.size) ((forSearch code text.toArray groups 0 text.toArray.size false).runFor n))) _ _ s
    rw [List.size_toArray, e0]
    refine wpAny_bind (newMatch hR e2 e3 e4 e5 hok hg fun K' s' k1 R' v' sr _ _ => wpAny_pure ⟨_, rfl, ?_⟩)
    exact q _ s' K' ad _ σ k1 (List.prefix_refl _) R' v' sr hΦ

theorem search_none {a : Addr} {code : Array Nat} {groups N : Nat} {text : List Nat} (hp : PatAt G a code groups) (hN : N ≤ 4 * 2 ^ 64) (hf : ((forSearch code text.toArray groups 0 text.length false).runFor N).outcome = some .failed) (hz : text.length ≤ sizeLine) (hΦ : Φ .none σ) :
    Op G B A σ [.raw (.ref a), .str (S text)] (fun us => PySem.call (.builtin "re.Pattern.search") us) V Φ Ψ := fun K ad s us hR hv Q E q ex => by
  obtain ⟨u, w, rfl, h1, h2⟩ := Vs2 hv
  simp only [V] at h1 h2; subst h1; obtain ⟨t, rfl⟩ := h2
  obtain ⟨o, c, p0, p1, t2, p3, p4, t6, oc, vs, n', g1, g2, g3, _⟩ := hp.at_
  refine wpAny_call_entry slot_search ⟨o, hR.H _ _ g1, g2⟩ entry_search ?_ (args_search _ _)
  show wpAny _ _ (do let t ← reTarget "re.Pattern.search" "search" ⟨[.ref a, .str (S text) t], []⟩; reAnswer t (Sre.forSearch t.code t.text t.groups t.pos t.lim false)) _ _ s
  refine wpAny_bind (target hp hR.H hz ?_)
  unfold reAnswer
  refine wpAny_bind (runToEnd_none (N := N) hN ?_ ?_)
  · show ((forSearch code text.toArray groups 0 text.toArray.size false).runFor N).outcome = _
    rw [List.size_toArray]; exact hf
  · exact wpAny_pure ⟨.none, rfl, q .none s K ad .none σ (KLe.refl _) (List.prefix_refl _) hR V_none (SameRest.refl _) hΦ⟩
theorem Op.search_miss {a : Addr} {code : Array Nat} {groups n : Nat} {text : List Nat} (hp : PatAt G a code groups) (hk : kfail n code groups 0 text = true) (hn : n ≤ 1000) (hz : text.length ≤ sizeLine) (hΦ : Φ .none σ) :
    Op G B A σ [.raw (.ref a), .str (S text)] (fun us => PySem.call (.builtin "re.Pattern.search") us) V Φ Ψ := by
  have hs16 := sz16
  obtain ⟨N, hN, hf⟩ := search_fail hk (by omega) hn (by omega)
  exact search_none hp hN hf hz hΦ
theorem Op.search_nil {a : Addr} {code : Array Nat} {groups : Nat} (hp : PatAt G a code groups) (hl : Nat.blt 0 (header code).1 = true) (hΦ : Φ .none σ) :
    Op G B A σ [.raw (.ref a), .str (S [])] (fun us => PySem.call (.builtin "re.Pattern.search") us) V Φ Ψ := by
  refine search_none (N := 1) hp (by omega) ?_ (by simp) hΦ
  unfold forSearch
  dsimp only
  rw [if_pos (by rw [Nat.blt_eq] at hl; simp; omega)]
  rfl

/-- fullmatch, by running the machine -/
theorem Op.fullmatch_hit {a : Addr} {code : Array Nat} {groups n : Nat} {x : Str} {h : Hit} (hp : PatAt G a code groups) (hk : hitOf ((forMatch code x.cps groups 0 x.cps.size true false).runFor n) = some h) (hn : n ≤ 10000) (hz : x.length ≤ sizeLine) (hok : okSpans groups h = true) (hg : groups ≤ 1) (hΦ : Φ (.mat x (spansOf groups h)) σ) :
    Op G B A σ [.raw (.ref a), .str x] (fun us => PySem.call (.builtin "re.Pattern.fullmatch") us) V Φ Ψ := fun K ad s us hR hv Q E q ex => by
  obtain ⟨u, w, rfl, h1, h2⟩ := Vs2 hv
  simp only [V] at h1 h2; subst h1; obtain ⟨t, rfl⟩ := h2
  obtain ⟨o, c, p0, p1, t2, p3, p4, t6, oc, vs, n', g1, g2, g3, _⟩ := hp.at_
  refine wpAny_call_entry slot_fullmatch ⟨o, hR.H _ _ g1, g2⟩ entry_fullmatch ?_ (args_fullmatch _ _)
  show wpAny _ _ (do let t ← reTarget "re.Pattern.fullmatch" "fullmatch" ⟨[.ref a, .str x t], []⟩; reAnswer t (Sre.forMatch t.code t.text t.groups t.pos t.lim true false)) _ _ s
  refine wpAny_bind (target hp hR.H hz ?_)
  unfold reAnswer
  unfold hitOf at hk
  split at hk
  · rename_i ho
    cases hk
    refine wpAny_bind (runToEnd (N := n) (by omega) ho ?_)
    refine wpAny_bind (newMatch hR rfl rfl rfl rfl hok hg fun K' s' k1 R' v' sr _ _ => wpAny_pure ⟨_, rfl, ?_⟩)
    exact q _ s' K' ad _ σ k1 (List.prefix_refl _) R' v' sr hΦ
  · cases hk
def failedB (m : M) : Bool := match m.outcome with | some .failed => true | _ => false
theorem failedB_eq {m : M} (h : failedB m = true) : m.outcome = some .failed := by
  unfold failedB at h
  split at h
  · assumption
  · cases h
theorem Op.fullmatch_miss {a : Addr} {code : Array Nat} {groups n : Nat} {x : Str} (hp : PatAt G a code groups) (hk : failedB ((forMatch code x.cps groups 0 x.cps.size true false).runFor n) = true) (hn : n ≤ 10000) (hz : x.length ≤ sizeLine) (hΦ : Φ .none σ) :
    Op G B A σ [.raw (.ref a), .str x] (fun us => PySem.call (.builtin "re.Pattern.fullmatch") us) V Φ Ψ := fun K ad s us hR hv Q E q ex => by
  obtain ⟨u, w, rfl, h1, h2⟩ := Vs2 hv
  simp only [V] at h1 h2; subst h1; obtain ⟨t, rfl⟩ := h2
  obtain ⟨o, c, p0, p1, t2, p3, p4, t6, oc, vs, n', g1, g2, g3, _⟩ := hp.at_
  refine wpAny_call_entry slot_fullmatch ⟨o, hR.H _ _ g1, g2⟩ entry_fullmatch ?_ (args_fullmatch _ _)
  show wpAny _ _ (do let t ← reTarget "re.Pattern.fullmatch" "fullmatch" ⟨[.ref a, .str x t], []⟩; reAnswer t (Sre.forMatch t.code t.text t.groups t.pos t.lim true false)) _ _ s
  refine wpAny_bind (target hp hR.H hz ?_)
  unfold reAnswer
  refine wpAny_bind (runToEnd_none (N := n) (by omega) (failedB_eq hk) ?_)
  exact wpAny_pure ⟨.none, rfl, q .none s K ad .none σ (KLe.refl _) (List.prefix_refl _) hR V_none (SameRest.refl _) hΦ⟩

theorem rawItems {b : Addr} {sp : List Int} {s : Shared} {Q : Array Int → Shared → Prop} {E : Value → Shared → Prop} (hb : s.heap.get? b = some (tupOf (sp.map rawInt))) (q : Q sp.toArray s) : wpAny (model G.prog G.w) A (reRawItems (.ref b)) Q E s := by
  unfold reRawItems
  refine wpAny_bind (wpAny_seqItems hb rfl ?_)
  refine wpAny_pure ?_
  have : (sp.map rawInt).toArray.map reRawOf = sp.toArray := by
    simp [reRawOf, rawInt, Function.comp_def]
  show Q ((sp.map rawInt).toArray.map reRawOf) s
  rw [this]; exact q

/-- m.group(1) -/
theorem Op.group {x : Str} {sp : List Int} {b e : Nat} (hb : sp[2]? = some (b : Int)) (he : sp[3]? = some (e : Int)) (hl : sp.length = 4) (hz : x.length ≤ sizeLine) (hΦ : Φ (.str (S ((x.cps.toList.drop b).take (e - b)))) σ) :
    Op G B A σ [.mat x sp, .int 1] (fun us => PySem.call (.builtin "re.Match.group") us) V Φ Ψ := fun K ad s us hR hv Q E q ex => by
  obtain ⟨u, w, rfl, h1, h2⟩ := Vs2 hv
  simp only [V] at h1 h2; obtain ⟨a, c, t, pat, p, qq, li, rfl, ha, hc⟩ := h1; obtain ⟨t1, rfl⟩ := h2
  refine wpAny_call_entry slot_group ⟨_, hR.keep _ _ ha, rfl⟩ entry_group ?_ (args_group _ _)
  show wpAny _ _ (do
    noKeywords "Match.group" ⟨[.ref a, .int 1 t1], []⟩
    let x ← reFound (.ref a)
    ret (← reGroupText x (← reGroupNumber x (.int 1 t1)) .none)) _ _ s
  refine wpAny_bind (wpAny_of_eq (a := ()) (by rfl) ?_)
  refine wpAny_bind ?_
  unfold reFound
  refine wpAny_bind (wpAny_fieldsOf (hR.keep _ _ ha) rfl ?_)
  refine wpAny_bind (rawItems (hR.keep _ _ hc) ?_)
  refine wpAny_pure ?_
  refine wpAny_bind ?_
  unfold reGroupNumber
  refine wpAny_bind (wpAny_of_eq (a := some 1) (by rfl) ?_)
  dsimp only
  rw [if_pos (by rfl)]
  refine wpAny_bind (wpAny_of_eq (a := (1 : Int)) (by rfl) ?_)
  refine wpAny_ite_split (fun hc => absurd hc (by simp [hl])) (fun _ => ?_)
  refine wpAny_pure ?_
  refine wpAny_bind ?_
  unfold reGroupText
  dsimp only
  have eb : sp.toArray.getD (2 * (1 : Int).toNat) (-1) = (b : Int) := by
    show sp.toArray.getD 2 (-1) = _
    simp [Array.getD, hl]
    exact (List.getElem?_eq_some_iff.mp hb).2
  have ee : sp.toArray.getD (2 * (1 : Int).toNat + 1) (-1) = (e : Int) := by
    show sp.toArray.getD 3 (-1) = _
    simp [Array.getD, hl]
    exact (List.getElem?_eq_some_iff.mp he).2
  rw [eb, ee]
  refine wpAny_ite_split (fun hc => absurd hc (by simp)) (fun _ => ?_)
  refine wpAny_bind (wpAny_of_eq (a := (x.cps, 0)) (by rfl) ?_)
  dsimp only
  unfold reSlice
  rw [if_pos (by rfl)]
  have ex : x.cps.extract (b : Int).toNat (e : Int).toNat = ((x.cps.toList.drop b).take (e - b)).toArray := by
    apply Array.toList_inj.mp
    simp
  rw [ex]
  refine wpAny_mkStr (wpAny_pure ⟨_, rfl, qc_toks hR q V_str hΦ⟩) ?_
  show ((x.cps.toList.drop b).take (e - b)).toArray.size ≤ sizeLine
  have hz' : x.cps.size ≤ sizeLine := hz
  simp
  omega
end
end Mine
end

section
open PySem PySem.W PyProof.Rows PySem.Calls
set_option autoImplicit false
set_option linter.unusedVariables false
set_option maxRecDepth 100000
namespace Mine

theorem slot_md_get : Slot "member_descriptor" "__get__" "member_descriptor.__get__" :=
  .of (owner := "member_descriptor") (n := "__get__") (by rw [typeLookup_type, builtinLookup_eq_fast]; kernel_rfl) (by decide +kernel) (by decide +kernel) (by decide +kernel)
    (by first | exact .inl (by decide +kernel) | exact .inr (by decide +kernel)) (by rw [isSubtype_type]; kernel_rfl)
theorem slot_md_set : Slot "member_descriptor" "__set__" "member_descriptor.__set__" :=
  .of (owner := "member_descriptor") (n := "__set__") (by rw [typeLookup_type, builtinLookup_eq_fast]; kernel_rfl) (by decide +kernel) (by decide +kernel) (by decide +kernel)
    (by first | exact .inl (by decide +kernel) | exact .inr (by decide +kernel)) (by rw [isSubtype_type]; kernel_rfl)
theorem entry_md_get : entryFor table "member_descriptor.__get__" = some Builtin.«member_descriptor.__get__» := entryFor_of_tree (by kernel_rfl)
theorem args_md_get (a b c : Value) : argsOk "member_descriptor.__get__" ⟨[a, b, c], []⟩ := by unfold argsOk; kernel_rfl
theorem typeOf_mstring : typeOf (.builtin "re.Match.string") = pure (.type "member_descriptor") := by show builtinType _ = _; rw [builtinType_eq_fast]; kernel_rfl
theorem entry_mstring : entryFor table "re.Match.string" = some Builtin.«re.Match.string» := entryFor_of_tree (by kernel_rfl)
theorem sub_mm : isSubtype (.type "re.Match") (.type "re.Match") = pure true := by rw [isSubtype_type]; kernel_rfl
theorem owner_mstring : (".".intercalate ("re.Match.string".cutAt '.').dropLast) = "re.Match" := by
  have e0 : "re.Match.string".cutAt '.' = ["re", "Match", "string"] := by first | rfl | decide +kernel
  rw [e0]; decide +kernel
theorem lk_mstring : typeLookup (.type "re.Match") "string" = pure (some (.builtin "re.Match.string")) := by rw [typeLookup_type, builtinLookup_eq_fast]; kernel_rfl
theorem slot_mga : Slot "re.Match" "__getattribute__" "object.__getattribute__" :=
  .of (owner := "object") (n := "__getattribute__") (by rw [typeLookup_type, builtinLookup_eq_fast]; kernel_rfl) (by decide +kernel) (by decide +kernel) (by decide +kernel)
    (by first | exact .inl (by decide +kernel) | exact .inr (by decide +kernel)) (by rw [isSubtype_type]; kernel_rfl)
theorem entry_oga : entryFor table "object.__getattribute__" = some Builtin.«object.__getattribute__» := entryFor_of_tree (by kernel_rfl)
theorem args_oga (a b : Value) : argsOk "object.__getattribute__" ⟨[a, b], []⟩ := by unfold argsOk; kernel_rfl

section
variable {prog : Program} {w : World} {A : Around} {E : Value → Shared → Prop} {h : Heap} {g : Array GenState} {d : Drawn} {t : Nat} {os : OsState} {a : Addr} {o : Obj} {vs : Array Value} {a0 : Value}

theorem string_get {R : Result → Shared → Prop} (hx : h.get? a = some o) (hc : o.cls = .type "re.Match") (hd : o.data = .fields vs) (h0 : vs[0]? = some a0) (hq : R (.ok (.ret a0)) ⟨h, g, d, t, os⟩) :
    codeAny (model prog w) A (.call (.builtin "member_descriptor.__get__") ⟨[.builtin "re.Match.string", .ref a, .type "re.Match"], []⟩) R ⟨h, g, d, t, os⟩ := by
  have hT : (⟨h, g, d, t, os⟩ : Shared).TypeIs (.ref a) "re.Match" := ⟨_, hx, hc⟩
  have hT5 : (⟨h, g, d, t, os⟩ : Shared).TypeIs (.builtin "re.Match.string") "member_descriptor" := typeOf_mstring
  have f8 : isSubtype (.type "re.Match") (.type (".".intercalate ("re.Match.string".cutAt '.').dropLast)) = pure true := by rw [owner_mstring]; exact sub_mm
  refine codeAny_call_builtin slot_md_get.plain entry_md_get (slot_md_get.check _ _ _ _ _ _ _ _ hT5 (args_md_get _ _ _) ?_)
  repeat (any_goals (first | assumption | wp_step))
  refine ⟨Code.quiet_builtin _ (by decide +kernel), codeAny_builtin entry_mstring ?_⟩
  unfold Builtin.«re.Match.string»
  exact wpAny_bind (wpAny_field hx hd h0 (wpAny_pure hq))
theorem string_entry {tk : Tok} {Q : Fin → Shared → Prop} (hx : h.get? a = some o) (hc : o.cls = .type "re.Match") (hd : o.data = .fields vs) (h0 : vs[0]? = some a0) (hq : Q (.done (.ret a0)) ⟨h, g, d, t, os⟩) :
    wpAny (model prog w) A (Builtin.«object.__getattribute__» ⟨[.ref a, .str "string" tk], []⟩) Q E ⟨h, g, d, t, os⟩ := by
  have hT : (⟨h, g, d, t, os⟩ : Shared).TypeIs (.ref a) "re.Match" := ⟨_, hx, hc⟩
  have hT5 : (⟨h, g, d, t, os⟩ : Shared).TypeIs (.builtin "re.Match.string") "member_descriptor" := typeOf_mstring
  have f4 := lk_mstring
  have f5 := typeOf_mstring
  have f6 := slot_md_get.lookup
  have f7 := slot_md_set.lookup
  repeat (any_goals (first | assumption | wp_step))
  refine string_get hx hc hd h0 ?_
  repeat (any_goals (first | assumption | wp_step))
theorem string_call {tk : Tok} {R : Result → Shared → Prop} (hx : h.get? a = some o) (hc : o.cls = .type "re.Match") (hd : o.data = .fields vs) (h0 : vs[0]? = some a0) (hq : R (.ok (.ret a0)) ⟨h, g, d, t, os⟩) :
    codeAny (model prog w) A (.call (.builtin "object.__getattribute__") ⟨[.ref a, .str "string" tk], []⟩) R ⟨h, g, d, t, os⟩ :=
  codeAny_call_builtin slot_mga.plain entry_oga (slot_mga.check _ _ _ _ _ _ _ _ (show (⟨h, g, d, t, os⟩ : Shared).TypeIs (.ref a) "re.Match" from ⟨_, hx, hc⟩) (args_oga _ _) (string_entry hx hc hd h0 hq))
theorem string_by {tk : Tok} {fill expr : Bool} {Q : Value → Shared → Prop} {x : Str} {t0 : Tok} (hx : h.get? a = some o) (hc : o.cls = .type "re.Match") (hd : o.data = .fields vs) (h0 : vs[0]? = some (.str x t0))
    (hq : Q (.str x t0) ⟨h, g, d, t, os⟩) : wpAny (model prog w) A (getAttrBy (.ref a) (.str "string" tk) fill expr) Q E ⟨h, g, d, t, os⟩ := by
  have hT : (⟨h, g, d, t, os⟩ : Shared).TypeIs (.ref a) "re.Match" := ⟨_, hx, hc⟩
  have f2 := slot_mga.lookup
  have f3 := slot_mga.bind (.ref a)
  have hx0 : (expr && onTheHeap (Value.builtin "object.__getattribute__")) = false := by cases expr <;> rfl
  repeat (any_goals (first | assumption | wp_step))
  refine string_call hx hc hd h0 ?_
  repeat (any_goals (first | assumption | wp_step))
theorem string_attr {expr : Bool} {Q : Value → Shared → Prop} {x : Str} {t0 : Tok} (hx : h.get? a = some o) (hc : o.cls = .type "re.Match") (hd : o.data = .fields vs) (h0 : vs[0]? = some (.str x t0))
    (hq : Q (.str x t0) ⟨h, g, d, t + 1, os⟩) : wpAny (model prog w) A (getAttr (.ref a) "string" expr) Q E ⟨h, g, d, t, os⟩ := by
  unfold getAttr
  repeat (any_goals (first | assumption | with_reducible apply string_by hx hc hd h0 | wp_step))
end
end Mine
end

section
open PySem PySem.W PyProof.Rows PySem.Calls
set_option autoImplicit false
set_option linter.unusedVariables false
set_option maxRecDepth 100000
namespace Mine
open PySem.Sre PySem.Builtin.Re

theorem mat_nobool : typeLookup (.type "re.Match") "__bool__" = pure none := by rw [typeLookup_type, builtinLookup_eq_fast]; kernel_rfl
theorem mat_nolen : typeLookup (.type "re.Match") "__len__" = pure none := by rw [typeLookup_type, builtinLookup_eq_fast]; kernel_rfl

section
variable {G : Glob} {B : Base} {A : Around} {σ : St} {Ψ : XPost} {Φ : AV → St → Prop}

/-- m.string -/
theorem Ev.string {x : Str} {xp pos : Pos} (h : Ev G B A σ (.Name x xp) (fun v σ₁ => ∃ y sp, v = .mat y sp ∧ Φ (.str y) σ₁) Ψ) : Ev G B A σ (.Attribute (.Name x xp) (Str.ofString "string") pos) Φ Ψ := fun K ad s hR Q E q ex => by
  refine Attribute_Name_ (h K ad s hR _ _ (fun u s₁ K₁ ad₁ v σ₁ g1 g2 g3 g4 g5 g6 => ?_) ex)
  obtain ⟨y, sp, rfl, k⟩ := g6
  simp only [V] at g4; obtain ⟨a, c, t, pat, p, qq, li, rfl, ha, hc⟩ := g4
  obtain ⟨hp, gg, d, tk, os⟩ := s₁
  exact string_attr (g3.keep _ _ ha) rfl rfl rfl (q _ ⟨hp, gg, d, tk + 1, os⟩ K₁ ad₁ (.str y) σ₁ g1 g2 g3 V_strs (g5.trans ⟨rfl, rfl, rfl⟩) k)

/-- m.span(0) -/
theorem Op.span {x : Str} {sp : List Int} {b e : Int} (hb : sp[0]? = some b) (he : sp[1]? = some e) (hl : 2 ≤ sp.length) (hΦ : Φ (.tup [.int b, .int e]) σ) :
    Op G B A σ [.mat x sp, .int 0] (fun us => PySem.call (.builtin "re.Match.span") us) V Φ Ψ := fun K ad s us hR hv Q E q ex => by
  obtain ⟨u, w, rfl, h1, h2⟩ := Vs2 hv
  simp only [V] at h1 h2; obtain ⟨a, c, t, pat, p, qq, li, rfl, ha, hc⟩ := h1; obtain ⟨t1, rfl⟩ := h2
  refine wpAny_call_entry slot_span ⟨_, hR.keep _ _ ha, rfl⟩ entry_span ?_ (args_span _ _)
  unfold Builtin.«re.Match.span» reOneGroup
  refine wpAny_bind ?_
  refine wpAny_bind (wpAny_of_eq (a := (.ref a, [.int 0 t1])) (by rfl) ?_)
  dsimp only
  unfold reFound
  refine wpAny_bind (wpAny_bind (wpAny_fieldsOf (hR.keep _ _ ha) rfl ?_))
  refine wpAny_bind (rawItems (hR.keep _ _ hc) ?_)
  refine wpAny_pure ?_
  refine wpAny_bind ?_
  unfold reGroupNumber
  refine wpAny_bind (wpAny_of_eq (a := some 0) (by rfl) ?_)
  dsimp only
  rw [if_pos (by rfl)]
  refine wpAny_bind (wpAny_of_eq (a := (0 : Int)) (by rfl) ?_)
  refine wpAny_ite_split (fun hc => absurd hc (by simp; intro z; subst z; simp at hl)) (fun _ => ?_)
  refine wpAny_pure (wpAny_pure ?_)
  have eb : sp.toArray.getD (2 * (0 : Int).toNat) (-1) = b := by
    show sp.toArray.getD 0 (-1) = _
    simp [Array.getD, show 0 < sp.length by omega]
    exact (List.getElem?_eq_some_iff.mp hb).2
  have ee : sp.toArray.getD (2 * (0 : Int).toNat + 1) (-1) = e := by
    show sp.toArray.getD 1 (-1) = _
    simp [Array.getD, show 1 < sp.length by omega]
    exact (List.getElem?_eq_some_iff.mp he).2
  dsimp only
  rw [eb, ee]
  refine wpAny_bind (wpAny_mkInt ?_)
  refine wpAny_bind (wpAny_mkInt ?_)
  refine wpAny_bind ?_
  unfold newTuple
  refine wpAny_newObj_type ?_ (by size_fits)
  refine wpAny_pure ⟨_, rfl, ?_⟩
  have R' := hR.newKept (tupOf [.int b s.toks, .int e (s.toks + 1)])
  refine q _ { s with heap := s.heap.push (tupOf [.int b s.toks, .int e (s.toks + 1)]), toks := s.toks + 1 + 1 } _ ad _ σ (KLe.put hR.fresh) (List.prefix_refl _) R' ?_ ⟨rfl, rfl, rfl⟩ hΦ
  simp only [V]
  exact ⟨_, _, rfl, put_self .., Vs.cons (by simp only [V]; exact ⟨_, rfl⟩) (Vs.one (by simp only [V]; exact ⟨_, rfl⟩))⟩

/-- a match is true -/
theorem Op1.true_mat {x : Str} {sp : List Int} {Φ : Bool → St → Prop} (h : Φ true σ) : Op1 G B A σ truthy (.mat x sp) Same Φ Ψ := fun K ad s u hR h1 Q E q ex => by
  simp only [V] at h1; obtain ⟨a, c, t, pat, p, qq, li, rfl, ha, hc⟩ := h1
  have hT : s.TypeIs (.ref a) "re.Match" := ⟨_, hR.keep _ _ ha, rfl⟩
  unfold truthy
  refine wpAny_bind (wpAny_callSpecial?_none hT mat_nobool ?_)
  dsimp only
  refine wpAny_bind (wpAny_specialOf hT mat_nolen ?_)
  rw [if_pos (by rfl)]
  exact wpAny_pure (qc_bool (tk := s.toks) hR q h)
end
end Mine
end

section
open PySem PySem.W PyProof.Rows PySem.Calls
set_option autoImplicit false
set_option linter.unusedVariables false
set_option maxRecDepth 100000
namespace Mine
open PySem.Sre PySem.Builtin.Re

theorem plain_subloop : plainId "re.Pattern.sub.loop" = true := by decide +kernel
theorem str_nocall : typeLookup (.type "str") "__call__" = pure none := by rw [typeLookup_type, builtinLookup_eq_fast]; kernel_rfl

section
variable {G : Glob} {B : Base} {A : Around} {σ : St} {Ψ : XPost} {Φ : AV → St → Prop}

/-- pat.subn('', text) up to the loop -/
theorem subn_start {a : Addr} {code : Array Nat} {groups : Nat} {text : List Nat} {tr t : Tok} {s : Shared} {Q : Value → Shared → Prop} {E : Value → Shared → Prop} (hp : PatAt G a code groups) (hH : ∀ b o, G.H.get? b = some o → s.heap.get? b = some o)
    (h : codeAny (model G.prog G.w) A (.builtin "re.Pattern.sub.loop" ⟨[.ref a, .str (S text) t, .str (S []) tr, rawInt 0, rawInt 0, rawInt 0, rawInt 0, rawInt 0, .bool false, .ref s.heap.objs.size, .bool true], []⟩) (wants Q E) { s with heap := s.heap.push (lstOf [] 0) }) :
    wpAny (model G.prog G.w) A (PySem.call (.builtin "re.Pattern.subn") [.ref a, .str (S []) tr, .str (S text) t]) Q E s := by
  obtain ⟨o, c, p0, p1, t2, p3, p4, t6, oc, vs, n', g1, g2, g3, _⟩ := hp.at_
  refine wpAny_call (codeAny_call_builtin slot_subn.plain entry_subn (slot_subn.check _ _ _ _ _ _ _ _ ⟨o, hH _ _ g1, g2⟩ (args_subn _ _ _) ?_))
  unfold Builtin.«re.Pattern.subn» reSubstitute
  dsimp only
  refine wpAny_bind (wpAny_of_eq (a := [some (.str (S []) tr), some (.str (S text) t), none]) (by rfl) ?_)
  dsimp only
  refine wpAny_bind (wpAny_pure ?_)
  refine wpAny_bind (wpAny_specialOf (typeIs_str _ _ _) str_nocall ?_)
  refine wpAny_ite_split (fun hc => absurd hc (by simp)) (fun _ => ?_)
  refine wpAny_bind (wpAny_of_eq (a := some (S [])) (by rfl) ?_)
  refine wpAny_bind (wpAny_pure ?_)
  refine wpAny_ite_split (fun hc => absurd hc (by simp)) (fun _ => ?_)
  refine wpAny_ite_split (fun _ => ?_) (fun hc => absurd (by simp) hc)
  refine wpAny_bind (wpAny_pure ?_)
  refine wpAny_bind (wpAny_holding (wholeTarget hp hH ?_))
  refine wpAny_ite_split (fun hc => absurd hc (by simp)) (fun _ => ?_)
  refine wpAny_bind (wpAny_newList ?_ (by decide))
  refine wpAny_pure ⟨plainId_quiet plain_subloop _, h⟩
end
end Mine
end

section
open PySem PySem.W PyProof.Rows PySem.Calls
set_option autoImplicit false
set_option linter.unusedVariables false
set_option maxRecDepth 100000
namespace Mine
open PySem.Sre PySem.Builtin.Re

/-- a list that is nobody's, at D -/
structure Aside (G : Glob) (B : Base) (K : PH) (ad : List Addr) (h : Heap) (D : Addr) (us : List Value) (n : Nat) : Prop where
  k : K D = none
  p : D ∉ privs B ad
  t : D ∉ G.T
  z : B.h₀.get? D = none
  f : ∀ env ∈ B.fenv :: B.outer, env.frame ≠ some D
  o : h.get? D = some (lstOf us n)

section
variable {G : Glob} {B : Base} {A : Around} {σ : St} {Ψ : XPost} {Φ : AV → St → Prop} {K : PH} {ad : List Addr}

theorem aside_new {h : Heap} (R : Rel G B K ad σ h) : Rel G B K ad σ (h.push (lstOf [] 0)) ∧ Aside G B K ad (h.push (lstOf [] 0)) h.objs.size [] 0 := by
  obtain ⟨h1, h2, h3, h4⟩ := R.beyond (Nat.le_refl _)
  refine ⟨R.push _, h1, h4, h2, h3, ?_, Heap.get?_push_size _ rfl⟩
  exact frames_ne (Heap.get?_none_of_le (Nat.le_refl _)) R.ff

/-- one more piece -/
theorem aside_push {s : Shared} {D : Addr} {us : List Value} {n : Nat} {x : Value} {Q : Unit → Shared → Prop} {E : Value → Shared → Prop} (R : Rel G B K ad σ s.heap) (a : Aside G B K ad s.heap D us n) (hz : us.length ≤ 1000)
    (q : ∀ h', Rel G B K ad σ h' → Aside G B K ad h' D (us ++ [x]) (n + 1) → Q () { s with heap := h' }) : wpAny (model G.prog G.w) A (updateSeq D (·.push x)) Q E s := by
  have hs16 := sz16
  refine wpAny_updateSeq a.o rfl (q _ (R.aside (Heap.SameBut.update ..).extBut a.k a.p a.t a.z a.f) ⟨a.k, a.p, a.t, a.z, a.f, ?_⟩) (by simp; omega) (by simp; omega)
  rw [Heap.get?_update_self _ a.o (by simp [Obj.mapSeq, Obj.isFreed])]
  simp [Obj.mapSeq]
end
end Mine
end

section
open PySem PySem.W PyProof.Rows PySem.Calls
set_option autoImplicit false
set_option linter.unusedVariables false
set_option maxRecDepth 100000
namespace Mine
open PySem.Sre PySem.Builtin.Re
section
variable {G : Glob} {B : Base} {A : Around} {σ : St} {Ψ : XPost} {Φ : AV → St → Prop} {K : PH} {ad : List Addr}

theorem sumE : ∀ ys : List (List Nat), ((ys.map S).map (·.length)).sum = ys.flatten.length
  | [] => rfl
  | y :: ys => by
    have := sumE ys
    simp only [List.map_cons, List.sum_cons, List.flatten_cons, List.length_append, this]
    simp [Str.length]
theorem joinE0 : ∀ ys : List (List Nat), Str.join (S []) (ys.map S) = S ys.flatten
  | [] => by decide
  | [y] => by simp [Str.join]
  | y :: z :: ys => by
    have ih := joinE0 (z :: ys)
    have app : ∀ a b : List Nat, S a ++ S b = S (a ++ b) := fun a b => Str.ext' (by rw [Str.cps_append]; simp)
    simp only [List.map_cons] at ih ⊢
    rw [Str.join, ih, app, app]
    · simp
    · intro z; cases z
theorem joinE (ys : List (List Nat)) : Txt.join (S []) (ys.map S) = S ys.flatten := by
  rw [eq_of_beq (join_plain_closes (S []) (ys.map S))]
  exact joinE0 ys
theorem slice0 {text : List Nat} {b e : Nat} {s : Shared} {Q : Value → Shared → Prop} {E : Value → Shared → Prop} (hz : text.length ≤ 10000) (q : ∀ t k, Q (.str (S ((text.drop b).take (e - b))) t) { s with toks := k }) : wpAny (model G.prog G.w) A (reSlice text.toArray 0 b e) Q E s := by
  unfold reSlice
  rw [if_pos (by rfl)]
  have ex : text.toArray.extract b e = ((text.drop b).take (e - b)).toArray := by
    apply Array.toList_inj.mp
    simp
  rw [ex]
  have hs16 := sz16
  refine wpAny_mkStr (q _ _) ?_
  show ((text.drop b).take (e - b)).toArray.size ≤ sizeLine
  simp
  omega

/-- the pieces are joined and handed out -/
theorem loop_tail {text : List Nat} {n : Nat} {cnt : Bool} {D : Addr} {us : List Value} {k : Nat} {ss : List (List Nat)} {s : Shared} {R : Result → Shared → Prop} (hR : Rel G B K ad σ s.heap) (hD : Aside G B K ad s.heap D us k) (hus : StrsAre us (ss.map S)) (hz : text.length ≤ 10000) (hss : ss.flatten.length ≤ 200000)
    (q : ∀ s' K', KLe K K' → Rel G B K' ad σ s'.heap → SameRest s s' → ∀ u, V K' ad (if cnt then .tup [.str (S ss.flatten), .int n] else .str (S ss.flatten)) u → R (.ok (.ret u)) s') :
    wpAny (model G.prog G.w) A.in1 (do
      let joiner ← reSlice text.toArray 0 0 0
      let x ← seqItems? (.ref D)
      if (x.getD #[]).isEmpty = true then do
        let text ← pure joiner
        if cnt = true then do
          let y ← holding [text] do
            let z ← mkInt n
            newTuple [text, z]
          ret y
        else ret text
      else do
        let text ← PySem.call (.builtin (if (0 == 0) = true then "str.join" else "bytes.join")) [joiner, .ref D]
        if cnt = true then do
          let y ← holding [text] do
            let z ← mkInt n
            newTuple [text, z]
          ret y
        else ret text) (fun fin s' => match fin with
      | .done f => R (.ok f) s'
      | .again c' => c'.quiet = true ∧ codeAny (model G.prog G.w) A c' R s') (fun e s' => R (.error e) s') s := by
  refine wpAny_bind (slice0 hz fun tj kj => ?_)
  refine wpAny_bind (wpAny_seqItems hD.o rfl ?_)
  have fin : ∀ (x : List Nat) (t : Tok) (k : Nat), x = ss.flatten → wpAny (model G.prog G.w) A.in1 (if cnt = true then do
          let y ← holding [.str (S x) t] do
            let z ← mkInt n
            newTuple [.str (S x) t, z]
          ret y
        else ret (.str (S x) t)) (fun fin s' => match fin with
      | .done f => R (.ok f) s'
      | .again c' => c'.quiet = true ∧ codeAny (model G.prog G.w) A c' R s') (fun e s' => R (.error e) s') { s with toks := k } := by
    rintro x t k rfl
    cases cnt with
    | false =>
      rw [if_neg Bool.false_ne_true]
      exact wpAny_pure (q { s with toks := k } K (KLe.refl _) hR ⟨rfl, rfl, rfl⟩ _ V_str)
    | true =>
      rw [if_pos rfl]
      refine wpAny_bind (wpAny_holding (wpAny_bind (wpAny_mkInt ?_)))
      unfold newTuple
      refine wpAny_newObj_type ?_ (by size_fits)
      refine wpAny_pure (q { s with heap := s.heap.push (tupOf [.str (S ss.flatten) t, .int n k]), toks := k + 1 } _ (KLe.put hR.fresh) (hR.newKept (tupOf [.str (S ss.flatten) t, .int n k])) ⟨rfl, rfl, rfl⟩ _ ?_)
      simp only [if_true, V]
      exact ⟨_, _, rfl, put_self .., Vs.cons V_str (Vs.one (by simp only [V]; exact ⟨_, rfl⟩))⟩
  refine wpAny_ite_split (fun he => ?_) (fun _ => ?_)
  · have hus0 : us = [] := by simpa using he
    subst hus0
    have hs0 : ss = [] := by cases ss with | nil => rfl | cons _ _ => cases hus
    subst hs0
    exact wpAny_bind (wpAny_pure (fin [] tj kj rfl))
  · refine wpAny_bind ?_
    refine PyProof.Rows.join_list (x := S []) (items := us.toArray) ⟨_, hD.o, rfl, k, rfl⟩ hus (by rw [sumE, show (S []).length = 0 from rfl, Nat.mul_zero]; omega) fun t' k' => ?_
    rw [joinE]
    exact fin _ t' k' rfl

theorem strs_append : ∀ {us vs : List Value} {ss ts : List Str}, StrsAre us ss → StrsAre vs ts → StrsAre (us ++ vs) (ss ++ ts)
  | _, _, _, _, .nil, h => h
  | _, _, _, _, .cons x t h, h' => .cons x t (strs_append h h')
/-- the loop of sub ends: no more match; the rest of the text is the last piece -/
theorem loop_end {a : Addr} {code : Array Nat} {groups : Nat} {text : List Nat} {t : Tok} {repl : Value} {way n done start : Nat} {must cnt : Bool} {D : Addr} {us : List Value} {k N : Nat} {ss : List (List Nat)} {s : Shared} {R : Result → Shared → Prop} (hp : PatAt G a code groups) (hR : Rel G B K ad σ s.heap) (hD : Aside G B K ad s.heap D us k)
    (hw : way = 0 → ∃ x tr, repl = .str x tr) (hN : N ≤ 4 * 2 ^ 64) (hf : ((forSearch code text.toArray groups start text.length must).runFor N).outcome = some .failed) (hus : StrsAre us (ss.map S)) (hlen : us.length ≤ 1000) (hz : text.length ≤ 10000) (hss : ss.flatten.length ≤ 100000) (hd : done ≤ text.length)
    (q : ∀ s' K', KLe K K' → Rel G B K' ad σ s'.heap → SameRest s s' → ∀ u, V K' ad (if cnt then .tup [.str (S (ss.flatten ++ text.drop done)), .int n] else .str (S (ss.flatten ++ text.drop done))) u → R (.ok (.ret u)) s') :
    codeAny (model G.prog G.w) A (.builtin "re.Pattern.sub.loop" ⟨[.ref a, .str (S text) t, repl, rawInt way, rawInt 0, rawInt n, rawInt done, rawInt start, .bool must, .ref D, .bool cnt], []⟩) R s := by
  refine codeAny_builtin entry_subloop ?_
  rw [Around.under_plainId plain_subloop _]
  unfold Builtin.«re.Pattern.sub.loop»
  dsimp only [rawInt]
  refine wpAny_bind (wholeTarget hp hR.H ?_)
  dsimp only
  have hsz : text.toArray.size = text.length := List.size_toArray ..
  have rest : ∀ {α : Type} (f : Option M → Sem α) (Q' : α → Shared → Prop) (E' : Value → Shared → Prop), wpAny (model G.prog G.w) A.in1 (f none) Q' E' s → wpAny (model G.prog G.w) A.in1 ((if ((0 : Int) != 0 && decide ((n : Int) ≥ 0)) = true then pure none else reNextFound { pattern := .ref a, string := .str (S text) t, code := code, text := text.toArray, kind := 0, groups := groups, pos := 0, lim := text.toArray.size } ((start : Nat) : Int).toNat must) >>= f) Q' E' s := fun f Q' E' h => by
    refine wpAny_bind ?_
    refine wpAny_ite_split (fun hc => absurd hc (by simp)) (fun _ => ?_)
    unfold reNextFound
    dsimp only
    rw [Int.toNat_natCast, hsz]
    exact runToEnd_none hN hf h
  have tail : wpAny (model G.prog G.w) A.in1 (if ((done : Nat) : Int).toNat < text.toArray.size then do
            let x ← reSlice text.toArray 0 ((done : Nat) : Int).toNat text.toArray.size
            updateSeq D fun xs => xs.push x
            let joiner ← reSlice text.toArray 0 0 0
            let x ← seqItems? (.ref D)
            if (x.getD #[]).isEmpty = true then do
              let text ← pure joiner
              if cnt = true then do
                let y ← holding [text] do
                  let z ← mkInt n
                  newTuple [text, z]
                ret y
              else ret text
            else do
              let text ← PySem.call (.builtin (if (0 == 0) = true then "str.join" else "bytes.join")) [joiner, .ref D]
              if cnt = true then do
                let y ← holding [text] do
                  let z ← mkInt n
                  newTuple [text, z]
                ret y
              else ret text
          else do
            let joiner ← reSlice text.toArray 0 0 0
            let x ← seqItems? (.ref D)
            if (x.getD #[]).isEmpty = true then do
              let text ← pure joiner
              if cnt = true then do
                let y ← holding [text] do
                  let z ← mkInt n
                  newTuple [text, z]
                ret y
              else ret text
            else do
              let text ← PySem.call (.builtin (if (0 == 0) = true then "str.join" else "bytes.join")) [joiner, .ref D]
              if cnt = true then do
                let y ← holding [text] do
                  let z ← mkInt n
                  newTuple [text, z]
                ret y
              else ret text) (fun fin s' => match fin with
      | .done f => R (.ok f) s'
      | .again c' => c'.quiet = true ∧ codeAny (model G.prog G.w) A c' R s') (fun e s' => R (.error e) s') s := by
    rw [Int.toNat_natCast, hsz]
    refine wpAny_ite_split (fun hlt => ?_) (fun hge => ?_)
    · refine wpAny_bind (slice0 hz fun tx kx => ?_)
      have et : (text.drop done).take (text.length - done) = text.drop done := List.take_of_length_le (by simp)
      rw [et]
      refine wpAny_bind (aside_push (s := { s with toks := kx }) hR hD hlen fun h' R' D' => ?_)
      refine loop_tail (s := { s with heap := h', toks := kx }) (ss := ss ++ [text.drop done]) R' D' (by rw [List.map_append]; exact strs_append hus (.cons _ _ .nil)) hz (by rw [List.flatten_append, List.length_append]; simp only [List.flatten_cons, List.flatten_nil, List.append_nil, List.length_drop]; omega) fun s' K' k1 R₂ sr u hv => q s' K' k1 R₂ (SameRest.trans ⟨rfl, rfl, rfl⟩ sr) u (by simpa using hv)
    · have e0 : text.drop done = [] := List.drop_eq_nil_of_le (by omega)
      refine loop_tail hR hD hus hz (by omega) fun s' K' k1 R₂ sr u hv => q s' K' k1 R₂ sr u (by rw [e0, List.append_nil]; exact hv)
  refine wpAny_ite_split (fun hc => ?_) (fun _ => rest _ _ _ tail)
  refine wpAny_bind ?_
  obtain ⟨x, tr, rfl⟩ := hw (by simpa using hc)
  refine wpAny_of_eq (a := ()) (by rfl) (rest _ _ _ tail)
end
end Mine
end

section
open PySem PySem.W PyProof.Rows PySem.Calls
set_option autoImplicit false
set_option linter.unusedVariables false
set_option maxRecDepth 100000
namespace Mine
open PySem.Sre PySem.Builtin.Re
section
variable {G : Glob} {B : Base} {A : Around} {σ : St} {Ψ : XPost} {Φ : AV → St → Prop} {K : PH} {ad : List Addr}

/-- one match at the place reached, a literal text put in its stead -/
theorem loop_lit {a : Addr} {code : Array Nat} {groups : Nat} {text : List Nat} {t tr : Tok} {x : Str} {n done start : Nat} {must cnt : Bool} {D : Addr} {us : List Value} {k N : Nat} {m : M} {s : Shared} {R : Result → Shared → Prop} (hp : PatAt G a code groups) (hR : Rel G B K ad σ s.heap) (hD : Aside G B K ad s.heap D us k)
    (hN : N ≤ 4 * 2 ^ 64) (hm : (forSearch code text.toArray groups start text.length must).runFor N = m) (ho : m.outcome = some .matched) (hst : m.start = done) (hlen : us.length ≤ 1000)
    (q : ∀ h', Rel G B K ad σ h' → Aside G B K ad h' D (us ++ [.str x tr]) (k + 1) → codeAny (model G.prog G.w) A (.builtin "re.Pattern.sub.loop" ⟨[.ref a, .str (S text) t, .str x tr, rawInt 0, rawInt 0, rawInt (n + 1), rawInt m.handed, rawInt m.handed, .bool (m.handed == m.start), .ref D, .bool cnt], []⟩) R { s with heap := h' }) :
    codeAny (model G.prog G.w) A (.builtin "re.Pattern.sub.loop" ⟨[.ref a, .str (S text) t, .str x tr, rawInt 0, rawInt 0, rawInt n, rawInt done, rawInt start, .bool must, .ref D, .bool cnt], []⟩) R s := by
  refine codeAny_builtin entry_subloop ?_
  rw [Around.under_plainId plain_subloop _]
  unfold Builtin.«re.Pattern.sub.loop»
  dsimp only [rawInt]
  refine wpAny_bind (wholeTarget hp hR.H ?_)
  dsimp only
  refine wpAny_ite_split (fun _ => ?_) (fun hc => absurd (by rfl) hc)
  refine wpAny_bind (wpAny_of_eq (a := ()) (by rfl) ?_)
  refine wpAny_bind ?_
  refine wpAny_ite_split (fun hc => absurd hc (by simp)) (fun _ => ?_)
  unfold reNextFound
  dsimp only
  rw [Int.toNat_natCast, List.size_toArray]
  refine runToEnd (N := N) hN (by rw [hm]; exact ho) ?_
  rw [hm]
  dsimp only
  refine wpAny_ite_split (fun hc => absurd hc (by rw [hst]; simp)) (fun _ => ?_)
  refine wpAny_ite_split (fun _ => ?_) (fun hc => absurd (by rfl) hc)
  refine wpAny_bind (wpAny_pure ?_)
  refine wpAny_ite_split (fun _ => ?_) (fun hc => absurd (by rfl) hc)
  refine wpAny_bind (aside_push hR hD hlen fun h' R' D' => ?_)
  exact wpAny_pure ⟨plainId_quiet plain_subloop _, q h' R' D'⟩
end
end Mine
end

section
open PySem PySem.W PyProof.Rows PySem.Calls
set_option autoImplicit false
set_option linter.unusedVariables false
set_option maxRecDepth 100000
namespace Mine
open PySem.Sre PySem.Builtin.Re

theorem AOk.in1 {n : Nat} {A : Around} {fr : List Env} (h : AOk (n + 1) A fr) : AOk n A.in1 fr := by
  obtain ⟨h1, h2, h3, h4⟩ := h
  refine ⟨h1, ?_, ?_, h4⟩
  · show A.depth + n < recursionLimit; omega
  · show A.units + 1 + 40 * n < cLine; omega
section
variable {G : Glob} {B : Base} {A : Around} {σ : St} {Ψ : XPost} {Φ : AV → St → Prop} {K : PH} {ad : List Addr}

theorem Aside.next {K' : PH} {h h' : Heap} {D : Addr} {us : List Value} {n : Nat} (a : Aside G B K ad h D us n) (hn : ∀ b o, K' b = some o → K b = some o ∨ h.get? b = none) (ho : h'.get? D = some (lstOf us n)) : Aside G B K' ad h' D us n := by
  refine ⟨?_, a.p, a.t, a.z, a.f, ho⟩
  cases q : K' D with
  | none => rfl
  | some o =>
    rcases hn D o q with z | z
    · rw [a.k] at z; cases z
    · rw [a.o] at z; cases z

/-- one match, a function's text put in its stead -/
theorem loop_fun {a : Addr} {code : Array Nat} {groups : Nat} {text : List Nat} {t : Tok} {f : Addr} {o : Obj} {c : Addr} {oc : Obj} {nA n done start : Nat} {must cnt : Bool} {D : Addr} {us : List Value} {k N : Nat} {m : M} {h : Hit} {ss : List (List Nat)} {y : List Nat} {s : Shared} {R : Result → Shared → Prop}
    (hp : PatAt G a code groups) (hR : Rel G B K ad σ s.heap) (hD : Aside G B K ad s.heap D us k) (hA : AOk (nA + 1) A (B.fenv :: B.outer)) (hKf : K f = some o) (hKc : K c = some oc)
    (hN : N ≤ 4 * 2 ^ 64) (hm : (forSearch code text.toArray groups start text.length must).runFor N = m) (hh : hitOf m = some h) (hok : okSpans groups h = true) (hg : groups ≤ 1) (hds : done ≤ h.start) (hz : text.length ≤ 10000) (hlen : us.length ≤ 900) (hus : StrsAre us (ss.map S))
    (hF : FunO G nA o c oc [.mat (S text) (spansOf groups h)] [] (fun r ws => r = .str (S y) ∧ ws = []))
    (q : ∀ s' K' us' k' (ss' : List (List Nat)), KLe K K' → Rel G B K' ad σ s'.heap → SameRest s s' → Aside G B K' ad s'.heap D us' k' → ss'.flatten = ss.flatten ++ (text.drop done).take (h.start - done) ++ y → StrsAre us' (ss'.map S) → us'.length ≤ us.length + 2 →
      codeAny (model G.prog G.w) A (.builtin "re.Pattern.sub.loop" ⟨[.ref a, .str (S text) t, .ref f, rawInt 1, rawInt 0, rawInt ((n + 1 : Nat) : Int), rawInt h.fin, rawInt h.fin, .bool (h.fin == h.start), .ref D, .bool cnt], []⟩) R s') :
    codeAny (model G.prog G.w) A (.builtin "re.Pattern.sub.loop" ⟨[.ref a, .str (S text) t, .ref f, rawInt 1, rawInt 0, rawInt n, rawInt done, rawInt start, .bool must, .ref D, .bool cnt], []⟩) R s := by
  obtain ⟨ho, hst, hfi, hma, hla⟩ : m.outcome = some .matched ∧ m.start = h.start ∧ m.handed = h.fin ∧ m.marks.toList = h.marks ∧ m.lastmark = h.lastmark := by
    unfold hitOf at hh
    split at hh
    · rename_i e; cases hh; exact ⟨e, rfl, rfl, rfl, rfl⟩
    · cases hh
  refine codeAny_builtin entry_subloop ?_
  rw [Around.under_plainId plain_subloop _]
  unfold Builtin.«re.Pattern.sub.loop»
  dsimp only [rawInt]
  refine wpAny_bind (wholeTarget hp hR.H ?_)
  dsimp only
  have tail : ∀ (K₁ : PH) (s₁ : Shared) (us₁ : List Value) (k₁ : Nat) (ss₁ : List (List Nat)), KLe K K₁ → Rel G B K₁ ad σ s₁.heap → SameRest s s₁ → Aside G B K₁ ad s₁.heap D us₁ k₁ → ss₁.flatten = ss.flatten ++ (text.drop done).take (h.start - done) → StrsAre us₁ (ss₁.map S) → us₁.length ≤ us.length + 1 →
      wpAny (model G.prog G.w) A.in1 (do
        let item ← if ((1 : Int) == 0) = true then pure (.ref f) else do
          let found ← reNewMatch (.ref a) (.str (S text) t) groups 0 text.toArray.size m
          holding [found] (if ((1 : Int) == 1) = true then PySem.call (.ref f) [found] else do reExpand (.ref f) (← reFound found))
        if (item != .none) = true then do
          updateSeq D (·.push item)
          again (.builtin "re.Pattern.sub.loop" ⟨[.ref a, .str (S text) t, .ref f, rawInt 1, rawInt 0, rawInt (n + 1), rawInt m.handed, rawInt m.handed, .bool (m.handed == m.start), .ref D, .bool cnt], []⟩)
        else again (.builtin "re.Pattern.sub.loop" ⟨[.ref a, .str (S text) t, .ref f, rawInt 1, rawInt 0, rawInt (n + 1), rawInt m.handed, rawInt m.handed, .bool (m.handed == m.start), .ref D, .bool cnt], []⟩))
       (fun fin s' => match fin with
      | .done f => R (.ok f) s'
      | .again c' => c'.quiet = true ∧ codeAny (model G.prog G.w) A c' R s') (fun e s' => R (.error e) s') s₁ := by
    intro K₁ s₁ us₁ k₁ ss₁ kl R₁ sr D₁ hss hu1 hl1
    refine wpAny_ite_split (fun hc => absurd hc (by decide)) (fun _ => ?_)
    refine wpAny_bind (newMatch R₁ hst hfi hma hla hok hg fun K₂ s₂ k2 R₂ v2 sr2 keep2 new2 => ?_)
    refine wpAny_bind (wpAny_holding ?_)
    refine wpAny_ite_split (fun _ => ?_) (fun hc => absurd (by decide) hc)
    have D₂ := D₁.next new2 (keep2 _ _ D₁.o)
    refine hF A.in1 _ K₂ (ad.take 0) s₂ _ f hA.in1 (R₂.pub 0 shutW_nil) (k2 _ _ (kl _ _ hKf)) (k2 _ _ (kl _ _ hKc)) (Vs.one (Shut.mat _ _ _ v2)) _ _ (fun u s' K' r ws' f1 f2 f3 f4 f5 f6 f7 => ?_)
    obtain ⟨rfl, rfl⟩ := f7
    simp only [V] at f5
    obtain ⟨ty, rfl⟩ := f5
    have R₃ := R₂.called f1 f2 f3 f4 (Nat.zero_le _)
    have eo : ({ σ with ow := [] ++ σ.ow.drop 0 } : St) = σ := rfl
    rw [eo] at R₃
    have D₃ := D₂.next f4 (f3.get D₂.o (by simp) D₂.t (by intro es n; simp))
    refine wpAny_ite_split (fun _ => ?_) (fun hc => absurd (by rfl) hc)
    refine wpAny_bind (aside_push R₃ D₃ (by omega) fun h' R' D' => ?_)
    refine wpAny_pure ⟨plainId_quiet plain_subloop _, ?_⟩
    rw [hfi, hst]
    exact q { s' with heap := h' } K' _ _ (ss₁ ++ [y]) (kl.trans (k2.trans f1)) R' (sr.trans (sr2.trans (f6.trans ⟨rfl, rfl, rfl⟩))) D' (by rw [List.flatten_append, hss]; simp) (by rw [List.map_append]; exact strs_append hu1 (.cons _ _ .nil)) (by simp; omega)
  refine wpAny_ite_split (fun hc => absurd hc (by decide)) (fun _ => ?_)
  refine wpAny_bind ?_
  refine wpAny_ite_split (fun hc => absurd hc (by simp)) (fun _ => ?_)
  unfold reNextFound
  dsimp only
  rw [Int.toNat_natCast, List.size_toArray]
  refine runToEnd (N := N) hN (by rw [hm]; exact ho) ?_
  rw [hm]
  dsimp only
  rw [Int.toNat_natCast]
  refine wpAny_ite_split (fun hlt => ?_) (fun hge => ?_)
  · refine wpAny_bind (slice0 hz fun tx kx => ?_)
    refine wpAny_bind (aside_push (s := { s with toks := kx }) hR hD (by omega) fun h' R' D' => ?_)
    have := tail K { s with heap := h', toks := kx } _ _ (ss ++ [(text.drop done).take (m.start - done)]) (KLe.refl _) R' ⟨rfl, rfl, rfl⟩ D' (by rw [List.flatten_append, hst]; simp) (by rw [List.map_append]; exact strs_append hus (.cons _ _ .nil)) (by simp)
    rw [List.size_toArray] at this
    exact this
  · have e0 : (text.drop done).take (h.start - done) = [] := by
      have : h.start - done = 0 := by rw [← hst]; omega
      rw [this]; rfl
    have := tail K s us k ss (KLe.refl _) hR (SameRest.refl _) hD (by rw [e0, List.append_nil]) hus (by omega)
    rw [List.size_toArray] at this
    exact this
end
end Mine
end

section
open PySem PySem.W PyProof.Rows PySem.Calls
set_option autoImplicit false
set_option linter.unusedVariables false
set_option maxRecDepth 100000
namespace Mine
open PySem.Sre PySem.Builtin.Re

theorem fun_call : typeLookup (.type "function") "__call__" = pure (some (.builtin "function.__call__")) := by rw [typeLookup_type, builtinLookup_eq_fast]; kernel_rfl
theorem str_noba : isSubtype (.type "str") (.type "bytearray") = pure false := by kernel_rfl

def grpOf (h : Hit) : Option (Nat × Nat) := match h.marks.getD 0 none, h.marks.getD 1 none with
  | some b, some e => match decide ((1 : Int) ≤ h.lastmark) with
    | true => some (b, e)
    | false => none
  | _, _ => none
theorem spans_grp {h : Hit} {b e : Nat} (hg : grpOf h = some (b, e)) : spansOf 1 h = [(h.start : Int), (h.fin : Int), (b : Int), (e : Int)] := by
  unfold grpOf at hg
  split at hg
  · rename_i b' e' h1 h2
    split at hg
    · rename_i h3
      cases hg
      have := of_decide_eq_true h3
      unfold spansOf
      simp only [List.range_one, List.flatMap_cons, List.flatMap_nil, List.append_nil]
      simp only [Nat.mul_zero, Nat.zero_add, Int.natCast_one, this, if_true, h1, h2]
    · cases hg
  · cases hg

/-- what sub makes of a text, g told of each group -/
noncomputable def ksub (code : Array Nat) (text : List Nat) (g : List Nat → List Nat) : Nat → Nat → Nat → Bool → Option (List Nat)
  | 0, _, _, _ => none
  | fuel + 1, done, start, must => match Nat.ble done text.length, (forSearch code text.toArray 1 start text.length must).runFor 100 with
    | false, _ => none
    | true, m => match failedB m with
      | true => some (text.drop done)
      | false => match hitOf m with
        | none => none
        | some h => match Nat.ble done h.start && okSpans 1 h, grpOf h with
          | true, some (b, e) => match ksub code text g fuel h.fin h.fin (h.fin == h.start) with
            | some r => some ((text.drop done).take (h.start - done) ++ (g ((text.drop b).take (e - b)) ++ r))
            | none => none
          | _, _ => none

section
variable {G : Glob} {B : Base} {A : Around} {σ : St} {Ψ : XPost} {Φ : AV → St → Prop} {ad : List Addr}

theorem ksub_ok {a : Addr} {code : Array Nat} {text : List Nat} {t : Tok} {f : Addr} {o : Obj} {c : Addr} {oc : Obj} {nA : Nat} {D : Addr} {g : List Nat → List Nat} (hp : PatAt G a code 1) (hA : AOk (nA + 1) A (B.fenv :: B.outer)) (hz : text.length ≤ 100) (hgl : ∀ x, x.length ≤ 100 → (g x).length ≤ 101)
    (hF : ∀ (sp : List Int) (b e : Nat), sp[2]? = some (b : Int) → sp[3]? = some (e : Int) → sp.length = 4 → FunO G nA o c oc [.mat (S text) sp] [] (fun r ws => r = .str (S (g ((text.drop b).take (e - b)))) ∧ ws = [])) :
    ∀ (fuel done start : Nat) (must : Bool) (r : List Nat), ksub code text g fuel done start must = some r → ∀ (K : PH) (s : Shared) (us : List Value) (k n : Nat) (ss : List (List Nat)) (R : Result → Shared → Prop), Rel G B K ad σ s.heap → Aside G B K ad s.heap D us k → K f = some o → K c = some oc → StrsAre us (ss.map S) → us.length + 2 * fuel ≤ 900 → ss.flatten.length + 300 * fuel ≤ 100000 →
      (∀ s' K', KLe K K' → Rel G B K' ad σ s'.heap → SameRest s s' → ∀ u, V K' ad (.str (S (ss.flatten ++ r))) u → R (.ok (.ret u)) s') →
      codeAny (model G.prog G.w) A (.builtin "re.Pattern.sub.loop" ⟨[.ref a, .str (S text) t, .ref f, rawInt 1, rawInt 0, rawInt n, rawInt done, rawInt start, .bool must, .ref D, .bool false], []⟩) R s
  | 0, done, start, must, r, hk => by cases hk
  | fuel + 1, done, start, must, r, hk => by
    intro K s us k n ss R hR hD hKf hKc hus hl1 hl2 q
    unfold ksub at hk
    split at hk
    · cases hk
    · rename_i hb
      have hdl : done ≤ text.length := Nat.le_of_ble_eq_true hb
      split at hk
      · rename_i hfail
        cases hk
        refine loop_end (N := 100) (way := 1) (ss := ss) hp hR hD (by intro z; cases z) (by decide) (failedB_eq hfail) hus (by omega) (by omega) (by omega) hdl (fun s' K' k1 R' sr u hv => q s' K' k1 R' sr u ?_)
        rw [if_neg Bool.false_ne_true] at hv
        exact hv
      · split at hk
        · cases hk
        · rename_i h hh
          split at hk
          · rename_i b e hc hgr
            rw [Bool.and_eq_true] at hc
            have hds := Nat.le_of_ble_eq_true hc.1
            split at hk
            · rename_i r' hr'
              cases hk
              have hsp := spans_grp hgr
              refine loop_fun (N := 100) (y := g ((text.drop b).take (e - b))) (ss := ss) hp hR hD hA hKf hKc (by decide) rfl hh hc.2 (Nat.le_refl _) hds (by omega) (by omega) hus ?_ ?_
              · rw [hsp]
                exact hF _ b e rfl rfl rfl
              · intro s' K' us' k' ss' kl R' sr D' hss hus' hl'
                have hy := hgl ((text.drop b).take (e - b)) (by simp; omega)
                have hlen : ss'.flatten.length ≤ ss.flatten.length + 201 := by
                  rw [hss]
                  simp only [List.length_append, List.length_take, List.length_drop]
                  omega
                refine ksub_ok hp hA hz hgl hF fuel h.fin h.fin _ r' hr' K' s' us' k' (n + 1) ss' R R' D' (kl _ _ hKf) (kl _ _ hKc) hus' (by omega) (by omega) (fun s'' K'' k1 R'' sr' u hv => q s'' K'' (kl.trans k1) R'' (sr.trans sr') u ?_)
                rw [hss] at hv
                simpa [List.append_assoc] using hv
            · cases hk
          · cases hk

/-- pat.sub(function, text) -/
theorem Op.sub_fn {a : Addr} {code : Array Nat} {text : List Nat} {o : Obj} {c : Addr} {oc : Obj} {nA fuel : Nat} {g : List Nat → List Nat} {r : List Nat} (hp : PatAt G a code 1) (hA : AOk (nA + 1) A (B.fenv :: B.outer)) (hz : text.length ≤ 100) (hgl : ∀ x, x.length ≤ 100 → (g x).length ≤ 101) (ho : o.cls = .type "function")
    (hF : ∀ (sp : List Int) (b e : Nat), sp[2]? = some (b : Int) → sp[3]? = some (e : Int) → sp.length = 4 → FunO G nA o c oc [.mat (S text) sp] [] (fun r ws => r = .str (S (g ((text.drop b).take (e - b)))) ∧ ws = []))
    (hk : ksub code text g fuel 0 0 false = some r) (hfu : fuel ≤ 100) (hΦ : Φ (.str (S r)) σ) : Op G B A σ [.raw (.ref a), .fn o c oc, .str (S text)] (fun us => PySem.call (.builtin "re.Pattern.sub") us) V Φ Ψ := fun K ad s us hR hv Q E q ex => by
  simp only [Vs, V] at hv
  obtain ⟨u1, r1, rfl, rfl, u2, r2, rfl, ⟨f, rfl, hKf, hKc⟩, u3, r3, rfl, ⟨t, rfl⟩, rfl⟩ := hv
  obtain ⟨o', c', p0, p1, t2, p3, p4, t6, oc', vs, n', g1, g2, g3, _⟩ := hp.at_
  refine wpAny_call (codeAny_call_builtin slot_sub.plain entry_sub (slot_sub.check _ _ _ _ _ _ _ _ ⟨o', hR.H _ _ g1, g2⟩ (args_sub _ _ _) ?_))
  unfold Builtin.«re.Pattern.sub» reSubstitute
  dsimp only
  refine wpAny_bind (wpAny_of_eq (a := [some (.ref f), some (.str (S text) t), none]) (by rfl) ?_)
  dsimp only
  refine wpAny_bind (wpAny_pure ?_)
  refine wpAny_bind (wpAny_specialOf (T := "function") ⟨o, hR.keep _ _ hKf, ho⟩ fun_call ?_)
  refine wpAny_ite_split (fun _ => ?_) (fun hc => absurd (by rfl) hc)
  refine wpAny_bind (wpAny_pure ?_)
  refine wpAny_ite_split (fun _ => ?_) (fun hc => absurd (by rfl) hc)
  refine wpAny_bind (wpAny_pure ?_)
  refine wpAny_bind (wpAny_holding (wholeTarget hp hR.H ?_))
  refine wpAny_ite_split (fun _ => ?_) (fun hc => absurd (by rfl) hc)
  refine wpAny_bind ?_
  · unfold reNotHeld
    refine wpAny_bind (wpAny_isInstance (typeIs_str _ _ _) str_noba ?_)
    refine wpAny_ite_split (fun hc => absurd hc (by simp)) (fun _ => ?_)
    refine wpAny_pure ?_
    refine wpAny_bind (wpAny_newList ?_ (by decide))
    obtain ⟨R', D'⟩ := aside_new hR
    refine wpAny_pure ⟨plainId_quiet plain_subloop _, ?_⟩
    refine ksub_ok hp hA hz hgl hF fuel 0 0 false r hk K { s with heap := s.heap.push (lstOf [] 0) } [] 0 0 [] _ R' D' hKf hKc .nil (by simp; omega) (by simp; omega) (fun s' K' k1 R'' sr u hv => ?_)
    exact q u s' K' ad _ σ k1 (List.prefix_refl _) R'' hv (SameRest.trans ⟨rfl, rfl, rfl⟩ sr) hΦ

/-- pat.subn('', text): one match at the head, none behind -/
theorem Op.subn {a : Addr} {code : Array Nat} {text : List Nat} {h : Hit} {n n2 : Nat} (hp : PatAt G a code 0) (hk : ksearch n code 0 text = some h) (hn : n ≤ 1000) (hn2 : n2 ≤ 1000) (h0 : h.start = 0) (hne : (h.fin == 0) = false) (hf1 : h.fin ≤ 1000) (hfl : h.fin ≤ text.length) (hf : kfail n2 code 0 h.fin text = true) (hz : text.length ≤ 10000) (hΦ : Φ (.tup [.str (S (text.drop h.fin)), .int 1]) σ) :
    Op G B A σ [.raw (.ref a), .str (S []), .str (S text)] (fun us => PySem.call (.builtin "re.Pattern.subn") us) V Φ Ψ := fun K ad s us hR hv Q E q ex => by
  simp only [Vs, V] at hv
  obtain ⟨u1, r1, rfl, rfl, u2, r2, rfl, ⟨tr, rfl⟩, u3, r3, rfl, ⟨t, rfl⟩, rfl⟩ := hv
  refine subn_start hp hR.H ?_
  obtain ⟨R', D'⟩ := aside_new hR
  obtain ⟨m, e1, e2, e3, e4, _⟩ := Mine.search_hit hk (by omega)
  refine loop_lit (done := 0) (start := 0) (n := 0) (k := 0) (us := []) (s := { s with heap := s.heap.push (lstOf [] 0) }) (N := n) hp R' D' (by omega) e1 e2 (by rw [e3, h0]) (by simp) (fun h' R₂ D₂ => ?_)
  obtain ⟨N, hN, hfl'⟩ := Mine.search_fail hf (by omega) hn2 hf1
  rw [e4, e3, h0, hne]
  refine loop_end (N := N) (way := 0) (n := 1) (ss := [[]]) (s := { s with heap := h' }) hp R₂ D₂ (fun _ => ⟨_, _, rfl⟩) hN hfl' (.cons _ _ .nil) (by simp) hz (by simp) hfl (fun s' K' k1 R₃ sr u hv => ?_)
  refine q u s' K' ad _ σ k1 (List.prefix_refl _) R₃ ?_ (SameRest.trans ⟨rfl, rfl, rfl⟩ sr) hΦ
  simpa using hv
end
end Mine
end

section
open PySem PySem.W PyProof.Rows PySem.Calls
set_option autoImplicit false
set_option linter.unusedVariables false
set_option maxRecDepth 100000
namespace Mine
open PySem.Sre PySem.Builtin.Re

def cTwin : Array Nat := #[14, 4, 0, 0, 4294967295, 6, 0, 24, 13, 0, 4294967295, 13, 8, 16, 61, 8, 12, 16, 59, 0, 1, 1]
def cTok : Array Nat := #[14, 4, 0, 1, 4294967295, 6, 0, 24, 9, 0, 4294967295, 13, 4, 8, 12, 0, 1, 17, 0, 24, 19, 1, 4294967295, 13, 14, 21, 9, 0, 671092736, 0, 0, 0, 0, 0, 0, 8, 12, 0, 1, 17, 1, 1]
def cQuo : Array Nat := #[14, 4, 0, 3, 4294967295, 6, 0, 24, 9, 0, 4294967295, 13, 4, 8, 12, 0, 1, 16, 61, 24, 9, 0, 4294967295, 13, 4, 8, 12, 0, 1, 16, 34, 17, 0, 24, 12, 0, 4294967295, 13, 7, 21, 16, 34, 16, 92, 0, 1, 23, 19, 0, 4294967295, 16, 92, 2, 24, 12, 0, 4294967295, 13, 7, 21, 16, 34, 16, 92, 0, 1, 18, 17, 1, 16, 34, 1]
def cVal : Array Nat := #[14, 4, 0, 1, 4294967295, 6, 0, 24, 9, 0, 4294967295, 13, 4, 8, 12, 0, 1, 16, 61, 24, 9, 0, 4294967295, 13, 4, 8, 12, 0, 1, 17, 0, 24, 14, 0, 4294967295, 13, 9, 21, 8, 12, 16, 59, 16, 44, 0, 1, 17, 1, 1]
def cEsc : Array Nat := #[14, 8, 1, 2, 2, 1, 1, 92, 0, 16, 92, 17, 0, 2, 17, 1, 1]
def cJTok : Array Nat := #[14, 4, 0, 1, 4294967295, 24, 16, 1, 4294967295, 13, 11, 9, 0, 67071226, 3355443198, 1476395007, 0, 0, 0, 0, 0, 1, 1]
def cJEsc : Array Nat := #[14, 9, 4, 1, 1, 16, 34, 16, 92, 0, 17, 0, 13, 6, 16, 34, 16, 92, 0, 17, 1, 1]

def qesc1 (c : Nat) : List Nat := match Nat.beq c 34 || Nat.beq c 92 with | true => [92, c] | false => [c]
def qesc (l : List Nat) : List Nat := l.flatMap qesc1
/-- the values that want quotes -/
def qv0 : List (List Nat) := [[], [97, 32], [97, 34], [97, 92], [97, 59], [97, 44], [97, 61]]
def qvOf (a : Nat) : List (List Nat) := [[a], [a, 97], [a, 32], [a, 34], [a, 92], [a, 59], [a, 44], [a, 61]]

noncomputable def kmiss (code : Array Nat) (groups s : Nat) (text : List Nat) : Bool := (List.range 60).any fun n => kfail n code groups s text
theorem kmiss_ok {code : Array Nat} {groups s : Nat} {text : List Nat} (h : kmiss code groups s text = true) : ∃ n, n ≤ 1000 ∧ kfail n code groups s text = true := by
  obtain ⟨n, hn, hk⟩ := List.any_eq_true.mp h
  exact ⟨n, by have := List.mem_range.mp hn; omega, hk⟩

theorem quo0 (rest : List Nat) : qv0.map (fun v => ksearch 100 cQuo 1 (61 :: 34 :: (qesc v ++ 34 :: rest))) = qv0.map (fun v => some ⟨0, 3 + (qesc v).length, [some 2, some (2 + (qesc v).length)], 1, 1⟩) := by kernel_rfl
theorem jt0 : qv0.map (fun v => failedB ((forMatch cJTok v.toArray 0 0 v.length true false).runFor 50)) = qv0.map (fun _ => true) := by kernel_rfl
theorem je0 : qv0.map (fun v => ksub cJEsc v (fun x => 92 :: x) 5 0 0 false) = qv0.map (fun v => some (qesc v)) := by kernel_rfl
theorem es0 : qv0.map (fun v => ksub cEsc (qesc v) (fun x => x) 5 0 0 false) = qv0.map (fun v => some v) := by kernel_rfl
theorem quo32 (rest : List Nat) : (qvOf 32).map (fun v => ksearch 100 cQuo 1 (61 :: 34 :: (qesc v ++ 34 :: rest))) = (qvOf 32).map (fun v => some ⟨0, 3 + (qesc v).length, [some 2, some (2 + (qesc v).length)], 1, 1⟩) := by kernel_rfl
theorem jt32 : (qvOf 32).map (fun v => failedB ((forMatch cJTok v.toArray 0 0 v.length true false).runFor 50)) = (qvOf 32).map (fun _ => true) := by kernel_rfl
theorem je32 : (qvOf 32).map (fun v => ksub cJEsc v (fun x => 92 :: x) 5 0 0 false) = (qvOf 32).map (fun v => some (qesc v)) := by kernel_rfl
theorem es32 : (qvOf 32).map (fun v => ksub cEsc (qesc v) (fun x => x) 5 0 0 false) = (qvOf 32).map (fun v => some v) := by kernel_rfl
theorem quo34 (rest : List Nat) : (qvOf 34).map (fun v => ksearch 100 cQuo 1 (61 :: 34 :: (qesc v ++ 34 :: rest))) = (qvOf 34).map (fun v => some ⟨0, 3 + (qesc v).length, [some 2, some (2 + (qesc v).length)], 1, 1⟩) := by kernel_rfl
theorem jt34 : (qvOf 34).map (fun v => failedB ((forMatch cJTok v.toArray 0 0 v.length true false).runFor 50)) = (qvOf 34).map (fun _ => true) := by kernel_rfl
theorem je34 : (qvOf 34).map (fun v => ksub cJEsc v (fun x => 92 :: x) 5 0 0 false) = (qvOf 34).map (fun v => some (qesc v)) := by kernel_rfl
theorem es34 : (qvOf 34).map (fun v => ksub cEsc (qesc v) (fun x => x) 5 0 0 false) = (qvOf 34).map (fun v => some v) := by kernel_rfl
theorem quo92 (rest : List Nat) : (qvOf 92).map (fun v => ksearch 100 cQuo 1 (61 :: 34 :: (qesc v ++ 34 :: rest))) = (qvOf 92).map (fun v => some ⟨0, 3 + (qesc v).length, [some 2, some (2 + (qesc v).length)], 1, 1⟩) := by kernel_rfl
theorem jt92 : (qvOf 92).map (fun v => failedB ((forMatch cJTok v.toArray 0 0 v.length true false).runFor 50)) = (qvOf 92).map (fun _ => true) := by kernel_rfl
theorem je92 : (qvOf 92).map (fun v => ksub cJEsc v (fun x => 92 :: x) 5 0 0 false) = (qvOf 92).map (fun v => some (qesc v)) := by kernel_rfl
theorem es92 : (qvOf 92).map (fun v => ksub cEsc (qesc v) (fun x => x) 5 0 0 false) = (qvOf 92).map (fun v => some v) := by kernel_rfl
theorem quo59 (rest : List Nat) : (qvOf 59).map (fun v => ksearch 100 cQuo 1 (61 :: 34 :: (qesc v ++ 34 :: rest))) = (qvOf 59).map (fun v => some ⟨0, 3 + (qesc v).length, [some 2, some (2 + (qesc v).length)], 1, 1⟩) := by kernel_rfl
theorem jt59 : (qvOf 59).map (fun v => failedB ((forMatch cJTok v.toArray 0 0 v.length true false).runFor 50)) = (qvOf 59).map (fun _ => true) := by kernel_rfl
theorem je59 : (qvOf 59).map (fun v => ksub cJEsc v (fun x => 92 :: x) 5 0 0 false) = (qvOf 59).map (fun v => some (qesc v)) := by kernel_rfl
theorem es59 : (qvOf 59).map (fun v => ksub cEsc (qesc v) (fun x => x) 5 0 0 false) = (qvOf 59).map (fun v => some v) := by kernel_rfl
theorem quo44 (rest : List Nat) : (qvOf 44).map (fun v => ksearch 100 cQuo 1 (61 :: 34 :: (qesc v ++ 34 :: rest))) = (qvOf 44).map (fun v => some ⟨0, 3 + (qesc v).length, [some 2, some (2 + (qesc v).length)], 1, 1⟩) := by kernel_rfl
theorem jt44 : (qvOf 44).map (fun v => failedB ((forMatch cJTok v.toArray 0 0 v.length true false).runFor 50)) = (qvOf 44).map (fun _ => true) := by kernel_rfl
theorem je44 : (qvOf 44).map (fun v => ksub cJEsc v (fun x => 92 :: x) 5 0 0 false) = (qvOf 44).map (fun v => some (qesc v)) := by kernel_rfl
theorem es44 : (qvOf 44).map (fun v => ksub cEsc (qesc v) (fun x => x) 5 0 0 false) = (qvOf 44).map (fun v => some v) := by kernel_rfl
theorem quo61 (rest : List Nat) : (qvOf 61).map (fun v => ksearch 100 cQuo 1 (61 :: 34 :: (qesc v ++ 34 :: rest))) = (qvOf 61).map (fun v => some ⟨0, 3 + (qesc v).length, [some 2, some (2 + (qesc v).length)], 1, 1⟩) := by kernel_rfl
theorem jt61 : (qvOf 61).map (fun v => failedB ((forMatch cJTok v.toArray 0 0 v.length true false).runFor 50)) = (qvOf 61).map (fun _ => true) := by kernel_rfl
theorem je61 : (qvOf 61).map (fun v => ksub cJEsc v (fun x => 92 :: x) 5 0 0 false) = (qvOf 61).map (fun v => some (qesc v)) := by kernel_rfl
theorem es61 : (qvOf 61).map (fun v => ksub cEsc (qesc v) (fun x => x) 5 0 0 false) = (qvOf 61).map (fun v => some v) := by kernel_rfl
theorem jtt : [[97], [97, 97]].map (fun v => (hitOf ((forMatch cJTok v.toArray 0 0 v.length true false).runFor 50)).isSome) = [[97], [97, 97]].map (fun _ => true) := by kernel_rfl
theorem quoA0 : failedB ((forSearch cQuo [61, 97].toArray 1 0 2 false).runFor 5) = true := by kernel_rfl
theorem quoA1 (c : Nat) (rest : List Nat) : kmiss cQuo 1 0 (61 :: 97 :: c :: rest) = true := by kernel_rfl
theorem quoS (k : Nat) (rest : List Nat) : kmiss cQuo 1 0 (59 :: 32 :: k :: rest) = true := by kernel_rfl
theorem quoN : Nat.blt 0 (header cQuo).1 = true := by kernel_rfl
theorem valN : Nat.blt 0 (header cVal).1 = true := by kernel_rfl
theorem valS (rest : List Nat) : kmiss cVal 1 0 (59 :: rest) = true := by kernel_rfl
theorem val1 : ksearch 100 cVal 1 [61, 97] = some ⟨0, 2, [some 1, some 2], 1, 1⟩ := by kernel_rfl
theorem val1s (rest : List Nat) : ksearch 100 cVal 1 (61 :: 97 :: 59 :: rest) = some ⟨0, 2, [some 1, some 2], 1, 1⟩ := by kernel_rfl
theorem val2 : ksearch 100 cVal 1 [61, 97, 97] = some ⟨0, 3, [some 1, some 3], 1, 1⟩ := by kernel_rfl
theorem val2s (rest : List Nat) : ksearch 100 cVal 1 (61 :: 97 :: 97 :: 59 :: rest) = some ⟨0, 3, [some 1, some 3], 1, 1⟩ := by kernel_rfl
theorem tok0 : [97, 98, 67].map (fun k => ksearch 100 cTok 1 [k]) = [97, 98, 67].map (fun _ => some ⟨0, 1, [some 0, some 1], 1, 1⟩) := by kernel_rfl
theorem tokE (rest : List Nat) : [97, 98, 67].map (fun k => ksearch 100 cTok 1 (k :: 61 :: rest)) = [97, 98, 67].map (fun _ => some ⟨0, 1, [some 0, some 1], 1, 1⟩) := by kernel_rfl
theorem tokS (rest : List Nat) : [97, 98, 67].map (fun k => ksearch 100 cTok 1 (k :: 59 :: rest)) = [97, 98, 67].map (fun _ => some ⟨0, 1, [some 0, some 1], 1, 1⟩) := by kernel_rfl
theorem tokM (rest : List Nat) : kmiss cTok 1 0 (59 :: rest) = true := by kernel_rfl
theorem twin1 (rest : List Nat) : [97, 98, 67].map (fun k => ksearch 100 cTwin 0 (59 :: 32 :: k :: rest)) = [97, 98, 67].map (fun _ => some ⟨0, 2, [], -1, -1⟩) := by kernel_rfl
theorem twin2 (k : Nat) (rest : List Nat) : kmiss cTwin 0 2 (59 :: 32 :: k :: rest) = true := by kernel_rfl
end Mine
end

section
open PySem PySem.W PyProof.Rows
set_option maxRecDepth 100000
set_option maxHeartbeats 8000000
open_top Mine.hd for PySem.Challenge.rw_oc0154_01
end

section
open PySem PySem.W PyProof.Rows PySem.Calls
set_option autoImplicit false
set_option linter.unusedVariables false
set_option maxRecDepth 100000
namespace Mine

/-- the names of the text and where they stand -/
def gl : List (Str × Value) := [(Str.ofString "_twin_re_7", .ref 36), (Str.ofString "unmatched", .ref 43), (Str.ofString "HEADER_TOKEN_RE", .ref 48), (Str.ofString "HEADER_QUOTED_VALUE_RE", .ref 53), (Str.ofString "HEADER_VALUE_RE", .ref 58), (Str.ofString "HEADER_ESCAPE_RE", .ref 63),
  (Str.ofString "split_header_words", .ref 70), (Str.ofString "HEADER_JOIN_TOKEN_RE", .ref 75), (Str.ofString "HEADER_JOIN_ESCAPE_RE", .ref 80), (Str.ofString "join_header_words", .ref 87), (Str.ofString "heappush", .ref 94), (Str.ofString "heappop", .ref 101), (Str.ofString "_siftdown", .ref 108), (Str.ofString "_siftup", .ref 115),
  (Str.ofString "sorted_list_difference", .ref 122), (Str.ofString "unorderable_list_difference", .ref 129), (Str.ofString "_law_pair", .ref 136), (Str.ofString "_law_lists", .ref 143), (Str.ofString "_law_written", .ref 148), (Str.ofString "_law_emptied", .ref 153)]
def bl : List (Str × Value) := [(Str.ofString "len", .builtin "len"), (Str.ofString "list", .type "list"), (Str.ofString "sorted", .builtin "sorted"), (Str.ofString "range", .type "range"), (Str.ofString "isinstance", .builtin "isinstance"), (Str.ofString "str", .type "str"), (Str.ofString "IndexError", .type "IndexError"), (Str.ofString "ValueError", .type "ValueError")]

def tabS : Tab := ⟨69, 65, ⟨26, 49, 26, 84⟩, Str.ofString "split_header_words.<locals>.<lambda>"⟩
def tabJ : Tab := ⟨86, 82, ⟨57, 50, 57, 87⟩, Str.ofString "join_header_words.<locals>.<lambda>"⟩

structure Ctx (G : Glob) (P : Params) : Prop where
  ok : G.Ok
  frag : ∀ a o, (hd.heap_39 P).lookup a = some o → G.H.get? a = some o
  g : ∀ x v, gl.lookup x = some v → G.mg x = some v
  b : ∀ x v, bl.lookup x = some v → G.mg x = none ∧ G.mb x = some v
  bm : G.Bm
  tabs : G.tabs = [tabS, tabJ]

theorem Ctx.fn {G : Glob} {P : Params} (C : Ctx G P) {a : Addr} {o : Obj} {fd : FuncData} {c : Addr} {oc : Obj} {vs : Array Value} {t : Tok} (h : (hd.heap_39 P).lookup a = some o) (hd' : o.data = .func fd) (hcode : fd.code = .ref c) (hc : (hd.heap_39 P).lookup c = some oc) (hcd : oc.data = .fields vs) (hq : vs[1]? = some (.str fd.qualname t))
    {body : List Stmt} (hb : fd.body = .stmts body) (h1 : fd.scope.isCoroutine = false) (h2 : fd.scope.isGenerator = false) (h3 : fd.scope.kind = .function) (h4 : fd.closure = []) (h5 : fd.globals = mainGlobals) (h6 : fd.builtins = builtinsNs) : FnAt G a fd body :=
  ⟨⟨o, C.frag a o h, hd'⟩, ⟨c, oc, vs, t, hcode, C.frag c oc hc, hcd, hq⟩, hb, h1, h2, h3, h4, h5, h6⟩

theorem FnAt.env {G : Glob} {a : Addr} {fd : FuncData} {body : List Stmt} (h : FnAt G a fd body) (L : Addr) : EnvOk (callEnv fd L a) := ⟨h.kind, h.glob, h.blt⟩
theorem FnAt.envC {G : Glob} {a : Addr} {fd : FuncData} {body : List Stmt} (h : FnAt G a fd body) (L : Addr) : EnvOk (callEnvC fd L a) := ⟨h.kind, h.glob, h.blt⟩
theorem FnAt.some {G : Glob} {a : Addr} {fd : FuncData} {body : List Stmt} (h : FnAt G a fd body) : ∃ o fd, G.H.get? a = some o ∧ o.data = .func fd := let ⟨o, h1, h2⟩ := h.obj; ⟨o, fd, h1, h2⟩
theorem Ctx.tS {G : Glob} {P : Params} (C : Ctx G P) : tabS ∈ G.tabs ∧ ∀ t' ∈ G.tabs, t'.P = tabS.P → t' = tabS := by
  rw [C.tabs]
  refine ⟨.head _, fun t' ht e => ?_⟩
  rcases List.mem_cons.mp ht with rfl | ht
  · rfl
  · rw [List.mem_singleton.mp ht] at e; exact absurd e (by decide)
theorem Ctx.tJ {G : Glob} {P : Params} (C : Ctx G P) : tabJ ∈ G.tabs ∧ ∀ t' ∈ G.tabs, t'.P = tabJ.P → t' = tabJ := by
  rw [C.tabs]
  refine ⟨.tail _ (.head _), fun t' ht e => ?_⟩
  rcases List.mem_cons.mp ht with rfl | ht
  · exact absurd e (by decide)
  · exact List.mem_singleton.mp ht
theorem one_of {us : List Value} (h : us.length = 1) : ∃ u, us = [u] := List.length_eq_one_iff.mp h
theorem two_of {us : List Value} (h : us.length = 2) : ∃ u v, us = [u, v] := by
  cases us with
  | nil => cases h
  | cons u r =>
    obtain ⟨v, rfl⟩ := one_of (Nat.succ.inj h)
    exact ⟨u, v, rfl⟩
theorem three_of {us : List Value} (h : us.length = 3) : ∃ u v w, us = [u, v, w] := by
  cases us with
  | nil => cases h
  | cons u r =>
    obtain ⟨v, w, rfl⟩ := two_of (Nat.succ.inj h)
    exact ⟨u, v, w, rfl⟩
end Mine
end

section
open PySem PySem.W PyProof.Rows PySem.Calls
set_option autoImplicit false
set_option linter.unusedVariables false
set_option maxRecDepth 100000
namespace Mine

def signs : List Nat := [97, 32, 34, 92, 59, 44, 61]
/-- the pair that a number stands for -/
def prKey (x : Int) : Nat := [97, 98, 67].getD ((x.fdiv 3).fmod 3).toNat 0
def prVal (x : Int) : Option (List Nat) :=
  if (x.fdiv 9).fmod 9 = 0 then none else if (x.fdiv 9).fmod 9 = 1 then some [] else
  some (signs.getD ((x.fdiv 9).fmod 9 - 2).toNat 0 :: (if 0 < (x.fdiv 81).fmod 8 then [signs.getD ((x.fdiv 81).fmod 8 - 1).toNat 0] else []))
def optAV : Option (List Nat) → AV
  | none => .none
  | some l => .str (S l)
def pairAV (k : Nat) (v : Option (List Nat)) : AV := .tup [.str (S [k]), optAV v]
theorem Ev.pin {G : Glob} {B : Base} {A : Around} {σ : St} {Ψ : XPost} {Φ : AV → St → Prop} {e : Expr} {w : AV} (h : Ev G B A σ e (fun v σ₁ => v = w ∧ σ₁ = σ) Ψ) (k : Φ w σ) : Ev G B A σ e Φ Ψ :=
  Do.mono h (by rintro _ _ ⟨rfl, rfl⟩; exact k)
theorem len2 {a b : AV} : [a, b].length ≤ sizeLine := by show 2 ≤ sizeLine; decide
theorem fm_lo (a : Int) {b : Int} (h : 0 < b) : 0 ≤ a.fmod b := Int.fmod_nonneg_of_pos a h
theorem fm_hi (a : Int) {b : Int} (h : 0 < b) : a.fmod b < b := Int.fmod_lt_of_pos a h

theorem fn_pair {G : Glob} {P : Params} (C : Ctx G P) (n : Nat) (x : Int) : Fun G (n + 1) 136 [.int x] [] (fun r ws => r = pairAV (prKey x) (prVal x) ∧ ws = []) := by
  have hf := C.fn (a := 136) rfl rfl rfl rfl rfl rfl rfl rfl rfl rfl rfl rfl rfl
  refine Fun.of_body C.ok hf (ns := [Str.ofString "x"]) (by decide) rfl (fun us hu => ?_) (by decide) (by decide) (fun A L fr K h₀ ad hA => ?_)
  · obtain ⟨u, rfl⟩ := one_of hu
    rfl
  · have hE := hf.env L
    have k1 := fm_lo (x.fdiv 9) (b := 9) (by decide)
    have k2 := fm_hi (x.fdiv 9) (b := 9) (by decide)
    have m1 := fm_lo (x.fdiv 81) (b := 8) (by decide)
    have m2 := fm_hi (x.fdiv 81) (b := 8) (by decide)
    have y1 := fm_lo (x.fdiv 3) (b := 3) (by decide)
    have y2 := fm_hi (x.fdiv 3) (b := 3) (by decide)
    clear hf
    refine Ex.cons (Ex1.assign hE rfl (Ev.str ?_))
    refine Ex.cons (Ex1.assign2s hA.handled hE rfl rfl (Ev.tuple (Evs.cons (Ev.binop (Ev.binop (Ev.loc hE rfl rfl (Ev.int (Op2.div_int (by decide) (PyProof.noPylong_small (by decide)) (Ev.int (Op2.mod_int (by decide) ?_)))))))))) 
    refine Evs.cons (Ev.binop (Ev.binop (Ev.loc hE rfl rfl (Ev.int (Op2.div_int (by decide) (PyProof.noPylong_small (by decide)) (Ev.int (Op2.mod_int (by decide) (Evs.nil ?_))))))))
    refine ⟨len2, _, _, .tup _ _, ?_⟩
    refine Ex.cons (Ex1.assign (x := Str.ofString "value") hE rfl (Ev.pin (w := optAV (prVal x)) ?_ ?_))
    · refine Ev.ifexp (Tr.compare (Ev.loc hE rfl rfl (Ev.int (Op2.eq_int ⟨_, rfl, ?_⟩))))
      by_cases c0 : (x.fdiv 9).fmod 9 = 0
      · rw [if_pos (beq_iff_eq.mpr c0)]
        exact Ev.none ⟨by simp [prVal, c0, optAV], rfl⟩
      · rw [if_neg (by simpa using c0)]
        refine Ev.ifexp (Tr.compare (Ev.loc hE rfl rfl (Ev.int (Op2.eq_int ⟨_, rfl, ?_⟩))))
        by_cases c1 : (x.fdiv 9).fmod 9 = 1
        · rw [if_pos (beq_iff_eq.mpr c1)]
          exact Ev.str ⟨by simp [prVal, c0, c1, optAV]; rfl, rfl⟩
        · rw [if_neg (by simpa using c1)]
          refine Ev.binop (Ev.subscript (Ev.loc hE rfl rfl (Ev.binop (Ev.loc hE rfl rfl (Ev.int (Op2.sub_int ?_))))))
          have hk : ((x.fdiv 9).fmod 9 - 2).toNat < 7 := by omega
          refine Sub.str (c := signs.getD ((x.fdiv 9).fmod 9 - 2).toNat 0) (by omega) ?_ (by decide) ?_
          · generalize ((x.fdiv 9).fmod 9 - 2).toNat = j at hk
            revert hk; revert j; decide
          refine Ev.ifexp (Tr.compare (Ev.loc hE rfl rfl (Ev.int (Op2.gt_int ⟨_, rfl, ?_⟩))))
          by_cases c2 : 0 < (x.fdiv 81).fmod 8
          · rw [if_pos (by simpa using c2)]
            refine Ev.subscript (Ev.loc hE rfl rfl (Ev.binop (Ev.loc hE rfl rfl (Ev.int (Op2.sub_int ?_)))))
            have hm : ((x.fdiv 81).fmod 8 - 1).toNat < 7 := by omega
            refine Sub.str (c := signs.getD ((x.fdiv 81).fmod 8 - 1).toNat 0) (by omega) ?_ (by decide) ?_
            · generalize ((x.fdiv 81).fmod 8 - 1).toNat = j at hm
              revert hm; revert j; decide
            refine Op2.add_str (by show 1 + 1 ≤ sizeLine; decide) ⟨?_, rfl⟩
            simp [prVal, c0, c1, c2, optAV]
            rfl
          · rw [if_neg (by simpa using c2)]
            refine Ev.str (Op2.add_str (by show 1 + 0 ≤ sizeLine; decide) ⟨?_, rfl⟩)
            simp [prVal, c0, c1, c2, optAV]
            rfl
    refine Ex.cons (Ex1.ret (Ev.tuple (Evs.cons (Ev.subscript (Ev.str (Ev.binop (Ev.binop (Ev.loc hE rfl rfl (Ev.int (Op2.div_int (by decide) (PyProof.noPylong_small (by decide)) (Ev.int (Op2.mod_int (by decide) ?_))))))))))))
    refine Sub.str (c := prKey x) (by omega) ?_ (by decide) ?_
    · unfold prKey
      have hj : ((x.fdiv 3).fmod 3).toNat < 3 := by omega
      generalize ((x.fdiv 3).fmod 3).toNat = j at hj
      revert hj; revert j; decide
    refine Evs.cons (Ev.loc hE rfl rfl (Evs.nil ⟨len2, 0, ?_, shutW_nil, rfl, rfl⟩))
    refine Shut.tup (Shut.cons Shut.str (Shut.cons ?_ Shut.nil))
    cases prVal x with
    | none => exact Shut.none
    | some l => exact Shut.str
end Mine
end

section
open PySem PySem.W PyProof.Rows PySem.Calls
set_option autoImplicit false
set_option linter.unusedVariables false
set_option maxRecDepth 100000
namespace Mine

theorem look_eq {l : List (Str × AV)} {x : Str} {v : AV} : (setL l x v).lookup x = some v := by rw [setL_look, if_pos rfl]
theorem look_ne {l : List (Str × AV)} {x y : Str} {v : AV} {w : Option AV} (h : l.lookup y = w) (hn : decide (y = x) = false) : (setL l x v).lookup y = w := by
  rw [setL_look, if_neg (of_decide_eq_false hn)]; exact h

abbrev Pr := Nat × Option (List Nat)
def prOf (x : Int) : Pr := (prKey x, prVal x)
def pv (p : Pr) : AV := pairAV p.1 p.2
def optD : Option (List Nat) → PyData
  | none => .none
  | some l => .str (S l)
def pd (p : Pr) : PyData := .tuple [.str (S [p.1]), optD p.2]
theorem emb_pd (p : Pr) : emb (pd p) = pv p := by
  obtain ⟨k, v⟩ := p
  cases v <;> simp [pd, pv, pairAV, emb, embs, optD, optAV]
theorem emb_pds (l : List Pr) : (l.map pd).map emb = l.map pv := by
  rw [List.map_map]
  exact List.map_congr_left fun p _ => emb_pd p
theorem S_inj {a b : List Nat} : S a = S b ↔ a = b := by
  constructor
  · intro h
    have := congrArg (fun s : Str => s.cps.toList) h
    simpa using this
  · intro h; rw [h]
theorem S_beq (a b : List Nat) : (S a == S b) = decide (a = b) := by
  by_cases h : a = b
  · subst h; simp
  · have : S a ≠ S b := fun e => h (S_inj.mp e)
    rw [beq_eq_false_iff_ne.mpr this]; simp [h]
theorem eqv_pd (p q : Pr) : PyData.eqv (pd p) (pd q) = decide (p = q) := by
  obtain ⟨k, v⟩ := p
  obtain ⟨k', v'⟩ := q
  cases v <;> cases v' <;> simp [pd, optD, PyData.eqv, PyData.eqvAll, S_beq]
/-- all signs are plain -/
def okPr (p : Pr) : Prop := p.1 < 128 ∧ ∀ l, p.2 = some l → ∀ c ∈ l, c < 128
theorem lay_S {l : List Nat} (h : ∀ c ∈ l, c < 128) : PyData.canLay0 (.str (S l)) = true := by
  show (S l).cps.all (· < 0x110000) = true
  rw [List.all_toArray, List.all_eq_true]
  intro c hc
  have := h c hc
  simp; omega
theorem lay_pd (p : Pr) (h : okPr p) : (pd p).canLay0 = true := by
  obtain ⟨k, v⟩ := p
  have h1 : PyData.canLay0 (.str (S [k])) = true := lay_S (by intro c hc; rw [List.mem_singleton.mp hc]; exact h.1)
  cases v with
  | none => simp [pd, optD, PyData.canLay0, PyData.canLayAll0] at h1 ⊢; exact h1
  | some l =>
    have h2 := lay_S (h.2 l rfl)
    simp only [pd, optD, PyData.canLay0, PyData.canLayAll0, Bool.and_true, Bool.and_eq_true] at h1 h2 ⊢
    exact ⟨h1, h2⟩
theorem depth_pd (p : Pr) : (pd p).depth = 1 := by
  obtain ⟨k, v⟩ := p
  cases v <;> simp [pd, optD, PyData.depth, PyData.depthAll]
theorem any_pd (l : List Pr) (p : Pr) : (l.map pd).any (PyData.eqv · (pd p)) = decide (p ∈ l) := by
  rw [List.any_map]
  by_cases h : p ∈ l
  · rw [decide_eq_true h, List.any_eq_true]
    exact ⟨p, h, by simp [eqv_pd]⟩
  · rw [decide_eq_false h, List.any_eq_false]
    intro q hq
    simp only [Function.comp, eqv_pd, decide_eq_true_eq]
    exact fun e => h (e ▸ hq)
theorem signs_lt : ∀ i, signs.getD i 0 < 128 := by
  intro i
  by_cases h : i < 7
  · revert h; revert i; decide
  · simp [signs, List.getD, show ¬ i < 7 from h]
theorem ok_prOf (x : Int) : okPr (prOf x) := by
  refine ⟨?_, fun l hl c hc => ?_⟩
  · show prKey x < 128
    unfold prKey
    generalize ((x.fdiv 3).fmod 3).toNat = j
    by_cases h : j < 3
    · revert h; revert j; decide
    · simp [List.getD, show ¬ j < 3 from h]
  · have hl' : prVal x = some l := hl
    unfold prVal at hl'
    split at hl'
    · cases hl'
    · split at hl'
      · cases hl'; cases hc
      · cases hl'
        rcases List.mem_cons.mp hc with e | e
        · rw [e]; exact signs_lt _
        · split at e
          · rw [List.mem_singleton.mp e]; exact signs_lt _
          · cases e

def addIf (c : Bool) (l : List Pr) (p : Pr) : List Pr := if c = true ∧ p ∉ l then l ++ [p] else l
def step1 (l : List Pr) (x : Int) : List Pr := addIf (x.fmod 3 != 1) l (prOf x)
def step2 (l : List Pr) (x : Int) : List Pr := addIf (x.fmod 3 != 0) l (prOf x)

theorem addIf_len (c : Bool) (l : List Pr) (p : Pr) : (addIf c l p).length ≤ l.length + 1 := by
  unfold addIf; split <;> simp
theorem addIf_ok {c : Bool} {l : List Pr} {p : Pr} (h : ∀ q ∈ l, okPr q) (hp : okPr p) : ∀ q ∈ addIf c l p, okPr q := by
  unfold addIf
  split
  · intro q hq
    rcases List.mem_append.mp hq with z | z
    · exact h q z
    · rw [List.mem_singleton.mp z]; exact hp
  · exact h

theorem ForL.inv {G : Glob} {B : Base} {A : Around} {t : Expr} {body : List Stmt} {Φ : AF → St → Prop} (I : List AV → St → Prop) (fin : ∀ σ, I [] σ → Φ .next σ)
    (turn : ∀ x xs σ io, I (x :: xs) σ → Asg G (B.withIo io) A σ t x (fun σ₁ => Ex G (B.withIo io) A σ₁ body (loopK (I xs) Φ) noX) noX) : ∀ (xs : List AV) (σ : St), I xs σ → ForL G B A t body Φ xs σ
  | [], σ, h => fin σ h
  | x :: xs, σ, h => fun io => by
    intro K ad s u hR hv Q E q ex
    refine turn x xs σ io h K ad s u hR hv Q E (fun a s' K' ad' b σ' g1 g2 g3 g4 g5 g6 => q a s' K' ad' b σ' g1 g2 g3 g4 g5 ?_) ex
    refine Do.mono g6 fun f σ₂ z => ?_
    cases f with
    | next => exact ForL.inv I fin turn xs σ₂ z
    | cont => exact ForL.inv I fin turn xs σ₂ z
    | brk => exact z
    | ret v => exact z
/-- a test told by one value, the state as it was -/
theorem Tr.pin {G : Glob} {B : Base} {A : Around} {σ : St} {Ψ : XPost} {Φ : Bool → St → Prop} {e : Expr} {w : Bool} (h : Tr G B A σ e (fun v σ₁ => v = w ∧ σ₁ = σ) Ψ) (k : Φ w σ) : Tr G B A σ e Φ Ψ :=
  Do.mono h (by rintro _ _ ⟨rfl, rfl⟩; exact k)
theorem Ex1.pin {G : Glob} {B : Base} {A : Around} {σ : St} {Ψ : XPost} {Φ : AF → St → Prop} {e : Stmt} {τ : St} (h : Ex1 G B A σ e (fun f σ₁ => f = .next ∧ σ₁ = τ) Ψ) (k : Φ .next τ) : Ex1 G B A σ e Φ Ψ :=
  Do.mono h (by rintro _ _ ⟨rfl, rfl⟩; exact k)
theorem addIf_yes {c : Bool} {l : List Pr} {p : Pr} (h : (c && !decide (p ∈ l)) = true) : addIf c l p = l ++ [p] := by
  simp at h; unfold addIf; rw [if_pos ⟨h.1, h.2⟩]
theorem addIf_no {c : Bool} {l : List Pr} {p : Pr} (h : (c && !decide (p ∈ l)) = false) : addIf c l p = l := by
  unfold addIf; rw [if_neg]; rintro ⟨h1, h2⟩; rw [h1] at h; simp [h2] at h

theorem noPr : ∀ q ∈ ([] : List Pr), okPr q := fun _ h => nomatch h
theorem map_fz0 (p : Nat) (ow : List OW) (l : List AV) : l.map (fz p ow 0) = l := by
  have : fz p ow 0 = id := by funext v; simp [fz]
  rw [this, List.map_id]
theorem shut_pv (m : Nat) (p : Pr) : Shut m (pv p) := by
  obtain ⟨k, v⟩ := p
  refine Shut.tup (Shut.cons Shut.str (Shut.cons ?_ Shut.nil))
  cases v with
  | none => exact Shut.none
  | some l => exact Shut.str
theorem shut_pvs (m : Nat) (l : List Pr) : ∀ x ∈ l.map pv, Shut m x := fun x hx => by
  obtain ⟨p, _, rfl⟩ := List.mem_map.mp hx
  exact shut_pv m p
theorem Fun.mono {G : Glob} {n : Nat} {f : Addr} {xs : List AV} {ws : List OW} {Φ Φ' : AV → List OW → Prop} (h : Fun G n f xs ws Φ) (k : ∀ r ws', Φ r ws' → Φ' r ws') : Fun G n f xs ws Φ' :=
  fun A fr K ad s us hA P hv Q E q => h A fr K ad s us hA P hv Q E fun u s' K' r ws' h1 h2 h3 h4 h5 h6 h7 => q u s' K' r ws' h1 h2 h3 h4 h5 h6 (k r ws' h7)

theorem fz_two (a b : List AV) : fz 0 [.lst a, .lst b] 2 (.tup [.own 0, .own 1]) = .tup [.lst a, .lst b] := by
  show AV.tup [.lst (a.map (fz 0 [.lst a, .lst b] 0)), .lst (b.map (fz 0 [.lst a, .lst b] 0))] = _
  rw [map_fz0, map_fz0]
theorem pairAt {G : Glob} {P : Params} (C : Ctx G P) : ∃ o fd, G.H.get? 136 = some o ∧ o.data = .func fd := ⟨_, _, C.frag 136 _ rfl, rfl⟩
theorem notIn_pv {G : Glob} {B : Base} {A : Around} {σ : St} {Ψ : XPost} {Φ : AV → St → Prop} {i : Nat} {l : List Pr} {p : Pr} (hl : ∀ q ∈ l, okPr q) (hp : okPr p) (hi : σ.ow[i]? = some (.lst (l.map pv))) (hu : A.units + 2 < cLine) (h : Φ (.bool (!decide (p ∈ l))) σ) : Op2 G B A σ (compareOp .NotIn) (pv p) (.own i) Φ Ψ := by
  rw [← emb_pd p]
  refine Op2.notIn_own (ds := l.map pd) (by rw [emb_pds]; exact hi) (fun d hd => ?_) (lay_pd p hp) (by rw [depth_pd]; exact hu) (by rw [any_pd]; exact h)
  obtain ⟨q, hq, rfl⟩ := List.mem_map.mp hd
  exact lay_pd q (hl q hq)
theorem fn_lists {G : Glob} {P : Params} (C : Ctx G P) (n : Nat) (xs : List Int) (hx : xs.length ≤ 1000) : Fun G (n + 2) 143 [.lst (xs.map .int)] [] (fun r ws => r = .tup [.lst ((xs.foldl step1 []).map pv), .lst ((xs.foldl step2 []).map pv)] ∧ ws = []) := by
  have hf := C.fn (a := 143) rfl rfl rfl rfl rfl rfl rfl rfl rfl rfl rfl rfl rfl
  refine Fun.of_body C.ok hf (ns := [Str.ofString "numbers"]) (by decide) rfl (fun us hu => ?_) (by decide) (by decide) (fun A L fr K h₀ ad hA => ?_)
  · obtain ⟨u, rfl⟩ := one_of hu
    rfl
  · have hE := hf.env L
    have hu : A.units + 5 < cLine := by have := hA.units; omega
    clear hf
    refine Ex.hide fun Φ₀ hΦ₀ => ?_
    refine Ex.cons (Ex1.assign2s hA.handled hE rfl rfl (Ev.tuple (Evs.cons (Ev.listOwn (Evs.cons (Ev.listOwn (Evs.nil ⟨len2, _, _, .tup _ _, ?_⟩)))))))
    refine Ex.cons (Ex1.for (Ev.loc hE rfl rfl ⟨_, Iterable.lst hA.handled, ?_⟩))
    refine ForL.inv (I := fun l σ => ∃ (ys : List Int) (f g : List Pr), l = ys.map .int ∧ f.length + ys.length ≤ 1000 ∧ g.length + ys.length ≤ 1000 ∧ (∀ q ∈ f, okPr q) ∧ (∀ q ∈ g, okPr q) ∧
        σ.lo.lookup (Str.ofString "first") = some (.own 0) ∧ σ.lo.lookup (Str.ofString "second") = some (.own 1) ∧ σ.ow = [.lst (f.map pv), .lst (g.map pv)] ∧ ys.foldl step1 f = xs.foldl step1 [] ∧ ys.foldl step2 g = xs.foldl step2 []) ?_ ?_ _ _ ?_
    · rintro σ ⟨ys, f, g, e1, e2, e3, e4, e5, e6, e7, e8, e9, e10⟩
      have : ys = [] := by cases ys with | nil => rfl | cons _ _ => cases e1
      subst this
      simp only [List.foldl_nil] at e9 e10
      refine Ex.cons (Ex1.ret (Ev.tuple (Evs.cons (Ev.loc hE rfl e6 (Evs.cons (Ev.loc hE rfl e7 (Evs.nil ⟨len2, hΦ₀ _ _ ⟨2, ?_⟩⟩)))))))
      have z : fz 0 σ.ow 2 (.tup [.own 0, .own 1]) = .tup [.lst ((xs.foldl step1 []).map pv), .lst ((xs.foldl step2 []).map pv)] := by rw [e8, fz_two, e9, e10]
      exact ⟨z ▸ Shut.tup (Shut.cons (Shut.lst (shut_pvs _ _)) (Shut.cons (Shut.lst (shut_pvs _ _)) Shut.nil)), shutW_nil, z, rfl⟩
    · rintro v vs σ io ⟨ys, f, g, e1, e2, e3, e4, e5, e6, e7, e8, e9, e10⟩
      cases ys with
      | nil => cases e1
      | cons y ys =>
        cases e1
        refine Asg.name hE rfl ?_
        refine Ex.hide fun Φ₁ hΦ₁ => ?_
        refine Ex.cons (Ex1.assign hE rfl (Ev.call (p := 0) C.ok hE hA rfl (C.g _ _ rfl) (pairAt C) (Evs.cons (Ev.loc hE rfl look_eq (Evs.nil ⟨Nat.zero_le _, shutW_nil, Shut.cons Shut.int Shut.nil, Fun.mono (fn_pair C n y) ?_⟩)))))
        rintro r ws ⟨rfl, rfl⟩
        have f1 : ∀ (v w : AV), (setL (setL σ.lo (Str.ofString "x") v) (Str.ofString "pair") w).lookup (Str.ofString "first") = some (.own 0) := fun v w => look_ne (look_ne e6 (by decide)) (by decide)
        have s1 : ∀ (v w : AV), (setL (setL σ.lo (Str.ofString "x") v) (Str.ofString "pair") w).lookup (Str.ofString "second") = some (.own 1) := fun v w => look_ne (look_ne e7 (by decide)) (by decide)
        refine Ex.cons (Ex1.pin (τ := { lo := setL (setL σ.lo (Str.ofString "x") (.int y)) (Str.ofString "pair") (pv (prOf y)), ce := σ.ce, ow := [.lst ((step1 f y).map pv), .lst (g.map pv)] }) ?_ ?_)
        · refine Ex1.if (Tr.pin (w := (y.fmod 3 != 1) && !decide (prOf y ∈ f)) ?_ ?_)
          · refine Tr.boolop (TrL.and (Tr.compare (Ev.binop (Ev.loc hE rfl (look_ne look_eq (by decide)) (Ev.int (Op2.mod_int (by decide) (Ev.int (Op2.ne_int ⟨_, rfl, ?_⟩))))))))
            cases hc : (y.fmod 3 != 1) with
            | false => rw [if_neg Bool.false_ne_true]; exact ⟨rfl, rfl⟩
            | true =>
              rw [if_pos rfl]
              refine TrL.and (Tr.compare (Ev.loc hE rfl look_eq (Ev.loc hE rfl (f1 _ _) (notIn_pv e4 (ok_prOf y) (by rw [e8]; rfl) (by omega) ⟨_, rfl, ?_⟩))))
              cases hm : decide (prOf y ∈ f) with
              | true => exact ⟨rfl, rfl⟩
              | false => exact TrL.andNil ⟨rfl, rfl⟩
          · cases hc : ((y.fmod 3 != 1) && !decide (prOf y ∈ f)) with
            | false =>
              rw [if_neg Bool.false_ne_true]
              refine Ex.nil ⟨rfl, ?_⟩
              unfold step1; rw [addIf_no hc]
              dsimp only
              rw [List.nil_append, List.drop_zero, e8]; rfl
            | true =>
              rw [if_pos rfl]
              refine Ex.cons (Ex1.expr (Ev.meth (Ev.loc hE rfl (f1 _ _) ⟨"list", "list.append", PySem.F.plainAttrs_list, slot_list_append, PySem.F.type_list_append, HasT.own (xs := f.map pv) (by rw [e8]; rfl), Evs.cons (Ev.loc hE rfl look_eq (Evs.nil (Op.append (xs := f.map pv) (by rw [e8]; rfl) (by rw [sz16, List.length_map]; simp at e2; omega) ⟨rfl, ?_⟩)))⟩)))
              refine Ex.nil ⟨rfl, ?_⟩
              unfold step1; rw [addIf_yes hc]
              dsimp only
              rw [List.nil_append, List.drop_zero, e8, List.map_append]; rfl
        · have f2 : ∀ (v w : AV), (setL (setL σ.lo (Str.ofString "x") v) (Str.ofString "pair") w).lookup (Str.ofString "first") = some (.own 0) := f1
          refine Ex.cons (Ex1.pin (τ := { lo := setL (setL σ.lo (Str.ofString "x") (.int y)) (Str.ofString "pair") (pv (prOf y)), ce := σ.ce, ow := [.lst ((step1 f y).map pv), .lst ((step2 g y).map pv)] }) ?_ ?_)
          · refine Ex1.if (Tr.pin (w := (y.fmod 3 != 0) && !decide (prOf y ∈ g)) ?_ ?_)
            · refine Tr.boolop (TrL.and (Tr.compare (Ev.binop (Ev.loc hE rfl (look_ne look_eq (by decide)) (Ev.int (Op2.mod_int (by decide) (Ev.int (Op2.ne_int ⟨_, rfl, ?_⟩))))))))
              cases hc : (y.fmod 3 != 0) with
              | false => rw [if_neg Bool.false_ne_true]; exact ⟨rfl, rfl⟩
              | true =>
                rw [if_pos rfl]
                refine TrL.and (Tr.compare (Ev.loc hE rfl look_eq (Ev.loc hE rfl (s1 _ _) (notIn_pv e5 (ok_prOf y) rfl (by omega) ⟨_, rfl, ?_⟩))))
                cases hm : decide (prOf y ∈ g) with
                | true => exact ⟨rfl, rfl⟩
                | false => exact TrL.andNil ⟨rfl, rfl⟩
            · cases hc : ((y.fmod 3 != 0) && !decide (prOf y ∈ g)) with
              | false =>
                rw [if_neg Bool.false_ne_true]
                refine Ex.nil ⟨rfl, ?_⟩
                unfold step2; rw [addIf_no hc]
              | true =>
                rw [if_pos rfl]
                refine Ex.cons (Ex1.expr (Ev.meth (Ev.loc hE rfl (s1 _ _) ⟨"list", "list.append", PySem.F.plainAttrs_list, slot_list_append, PySem.F.type_list_append, HasT.own (xs := g.map pv) rfl, Evs.cons (Ev.loc hE rfl look_eq (Evs.nil (Op.append (xs := g.map pv) rfl (by rw [sz16, List.length_map]; simp at e3; omega) ⟨rfl, ?_⟩)))⟩)))
                refine Ex.nil ⟨rfl, ?_⟩
                unfold step2; rw [addIf_yes hc, List.map_append]; rfl
          · refine Ex.nil (hΦ₁ _ _ ⟨ys, step1 f y, step2 g y, rfl, ?_, ?_, addIf_ok e4 (ok_prOf y), addIf_ok e5 (ok_prOf y), f1 _ _, s1 _ _, rfl, e9, e10⟩)
            · have := addIf_len (y.fmod 3 != 1) f (prOf y)
              unfold step1; simp at e2; omega
            · have := addIf_len (y.fmod 3 != 0) g (prOf y)
              unfold step2; simp at e3; omega
    · exact ⟨xs, [], [], rfl, by simpa using hx, by simpa using hx, noPr, noPr, rfl, rfl, rfl, rfl, rfl⟩
end Mine
end

section
open PySem PySem.W PyProof.Rows PySem.Calls
set_option autoImplicit false
set_option linter.unusedVariables false
set_option maxRecDepth 100000
namespace Mine

abbrev T := List Nat
def sv (l : T) : AV := .str (S l)
theorem sv_get {ts : List T} {i : Nat} {t : T} (h : ts[i]? = some t) : (ts.map sv)[i]? = some (sv t) := by rw [List.getElem?_map, h]; rfl
theorem S_list (l : T) : (S l).cps.toList = l := rfl
theorem shut_svs (m : Nat) (l : List T) : ∀ x ∈ l.map sv, Shut m x := fun x hx => by
  obtain ⟨p, _, rfl⟩ := List.mem_map.mp hx
  exact Shut.str

/-- the walk up: the hole at pos takes new in the end -/
def sd (new : T) : Nat → List T → Nat → List T
  | 0, a, pos => a.set pos new
  | fuel + 1, a, pos => if 0 < pos then
      (if new < a.getD ((pos - 1) / 2) [] then sd new fuel (a.set pos (a.getD ((pos - 1) / 2) [])) ((pos - 1) / 2) else a.set pos new)
    else a.set pos new

theorem sd_fuel (new : T) : ∀ (f g pos : Nat) (a : List T), pos ≤ f → pos ≤ g → sd new f a pos = sd new g a pos
  | 0, 0, _, _, _, _ => rfl
  | 0, g + 1, pos, a, h, _ => by
    have : pos = 0 := by omega
    subst this
    simp [sd]
  | f + 1, 0, pos, a, _, h => by
    have : pos = 0 := by omega
    subst this
    simp [sd]
  | f + 1, g + 1, pos, a, h1, h2 => by
    simp only [sd]
    split
    · split
      · exact sd_fuel new f g _ _ (by omega) (by omega)
      · rfl
    · rfl
theorem getD_of {α : Type} {l : List α} {i : Nat} {d : α} (h : i < l.length) : l[i]? = some (l.getD i d) := by
  rw [List.getElem?_eq_getElem h]; simp [List.getD, h]
theorem half_int (pos : Nat) (h : 0 < pos) : ((pos : Int) - 1).fdiv (2 ^ (1 : Int).toNat) = (((pos - 1) / 2 : Nat) : Int) := by
  have e : ((pos : Int) - 1) = ((pos - 1 : Nat) : Int) := by omega
  rw [e]
  show Int.fdiv ((pos - 1 : Nat) : Int) 2 = _
  rw [Int.fdiv_eq_ediv_of_nonneg _ (by decide)]
  omega

theorem fn_siftdown {G : Glob} {P : Params} (C : Ctx G P) (n : Nat) (ts : List T) (pos : Nat) (new : T) (hp : ts[pos]? = some new) (hl : ts.length ≤ 1000) :
    Fun G (n + 1) 108 [.own 0, .int 0, .int pos] [.lst (ts.map sv)] (fun r ws => r = .none ∧ ws = [.lst ((sd new pos ts pos).map sv)]) := by
  have hf := C.fn (a := 108) rfl rfl rfl rfl rfl rfl rfl rfl rfl rfl rfl rfl rfl
  refine Fun.of_body C.ok hf (ns := [Str.ofString "heap", Str.ofString "startpos", Str.ofString "pos"]) (by decide) rfl (fun us hu => ?_) (by decide) (by decide) (fun A L fr K h₀ ad hA => ?_)
  · obtain ⟨u, v, w, rfl⟩ := three_of hu
    rfl
  · have hE := hf.env L
    clear hf
    have hps : pos < ts.length := (List.getElem?_eq_some_iff.mp hp).1
    refine Ex.hide fun Φ₀ hΦ₀ => ?_
    refine Ex.cons (Ex1.assign hE rfl (Ev.subscript (Ev.loc hE rfl rfl (Ev.loc hE rfl rfl (Sub.own (xs := ts.map sv) rfl (by omega) (by simpa using sv_get hp) (by rw [sz16, List.length_map]; omega) ?_)))))
    refine Ex.cons (Do.mono (Φ := fun f σ => f = .next ∧ ∃ (m : Nat) (a : List T), a.length = ts.length ∧ m < ts.length ∧ σ.lo.lookup (Str.ofString "heap") = some (.own 0) ∧ σ.lo.lookup (Str.ofString "pos") = some (.int m) ∧ σ.lo.lookup (Str.ofString "newitem") = some (sv new) ∧ σ.ow = [.lst (a.map sv)] ∧ a.set m new = sd new pos ts pos) (Ex1.while (I := fun m σ => ∃ a : List T, a.length = ts.length ∧ m < ts.length ∧ σ.lo.lookup (Str.ofString "heap") = some (.own 0) ∧ σ.lo.lookup (Str.ofString "startpos") = some (.int 0) ∧ σ.lo.lookup (Str.ofString "pos") = some (.int (m : Nat)) ∧ σ.lo.lookup (Str.ofString "newitem") = some (sv new) ∧ σ.ow = [.lst (a.map sv)] ∧ sd new m a m = sd new pos ts pos) pos ⟨ts, rfl, hps, rfl, rfl, rfl, rfl, rfl, rfl⟩ ?_) ?_)
    · rintro m σ ⟨a, i2, i3, l1, l2, l3, l4, l5, l6⟩
      refine Tr.compare (Ev.loc hE rfl l3 (Ev.loc hE rfl l2 (Op2.gt_int ⟨_, rfl, ?_⟩)))
      by_cases hm : 0 < m
      · rw [if_pos (by simpa using hm)]
        refine Ex.hide fun Φ₁ hΦ₁ => ?_
        refine Ex.cons (Ex1.assign hE rfl (Ev.binop (Ev.binop (Ev.loc hE rfl l3 (Ev.int (Op2.sub_int (Ev.int (Op2.rshift_int (by decide) ?_))))))))
        rw [half_int m hm]
        have hpl : (m - 1) / 2 < a.length := by omega
        have hget := getD_of (d := ([] : T)) hpl
        refine Ex.cons (Ex1.assign hE rfl (Ev.subscript (Ev.loc hE rfl (look_ne l1 (by decide)) (Ev.loc hE rfl look_eq (Sub.own (xs := a.map sv) (by rw [l5]; rfl) (by omega) (by rw [Int.toNat_natCast]; exact sv_get hget) (by rw [sz16, List.length_map]; omega) ?_)))))
        refine Ex.cons (Ex1.if (Tr.compare (Ev.loc hE rfl (look_ne (look_ne l4 (by decide)) (by decide)) (Ev.loc hE rfl look_eq (Op2.lt_str ⟨_, rfl, ?_⟩)))))
        cases m with
        | zero => omega
        | succ m =>
          simp only [sd, Nat.succ_pos, if_true] at l6
          by_cases hc : new < a.getD ((m + 1 - 1) / 2) []
          · rw [if_pos (by simpa [S_list] using hc)]
            rw [if_pos hc] at l6
            refine Ex.cons (Ex1.setitem (Ev.loc hE rfl look_eq (Ev.loc hE rfl (look_ne (look_ne l1 (by decide)) (by decide)) (Ev.loc hE rfl (look_ne (look_ne l3 (by decide)) (by decide)) ⟨0, a.map sv, ((m + 1 : Nat) : Int), rfl, rfl, by rw [l5]; rfl, by omega, by rw [Int.toNat_natCast]; simp; omega, by rw [sz16, List.length_map]; omega, ?_⟩))))
            refine Ex.cons (Ex1.assign hE rfl (Ev.loc hE rfl (look_ne look_eq (by decide)) ?_))
            refine Ex.cons (Ex1.cont (hΦ₁ _ _ ?_))
            refine ⟨(m + 1 - 1) / 2, by omega, a.set (m + 1) (a.getD ((m + 1 - 1) / 2) []), by rw [List.length_set]; exact i2, by omega, look_ne (look_ne (look_ne l1 (by decide)) (by decide)) (by decide), look_ne (look_ne (look_ne l2 (by decide)) (by decide)) (by decide), look_eq, look_ne (look_ne (look_ne l4 (by decide)) (by decide)) (by decide), ?_, ?_⟩
            · show σ.ow.set 0 _ = _
              rw [l5, Int.toNat_natCast, List.map_set]; rfl
            · rw [← l6]; exact sd_fuel _ _ _ _ _ (by omega) (by omega)
          · rw [if_neg (by simpa [S_list] using hc)]
            rw [if_neg hc] at l6
            refine Ex.nil (Ex.cons (Ex1.brk (hΦ₁ _ _ ?_)))
            exact ⟨rfl, m + 1, a, i2, i3, look_ne (look_ne l1 (by decide)) (by decide), look_ne (look_ne l3 (by decide)) (by decide), look_ne (look_ne l4 (by decide)) (by decide), l5, l6⟩
      · rw [if_neg (by simpa using hm)]
        have : m = 0 := by omega
        subst this
        exact ⟨rfl, 0, a, i2, i3, l1, l3, l4, l5, l6⟩
    · rintro f σ ⟨rfl, m, a, i1, i2, l1, l2, l3, l4, l5⟩
      refine Ex.cons (Ex1.setitem (Ev.loc hE rfl l3 (Ev.loc hE rfl l1 (Ev.loc hE rfl l2 ⟨0, a.map sv, m, rfl, rfl, by rw [l4]; rfl, by omega, by simp; omega, by rw [sz16, List.length_map]; omega, ?_⟩))))
      refine Ex.nil (hΦ₀ _ _ ⟨0, Shut.none, ?_, rfl, ?_⟩)
      · show ShutW 1 ((σ.ow.set 0 _).take 1)
        rw [l4]
        intro w hw xs e x hx
        have : w = .lst ((a.map sv).set ((m : Nat) : Int).toNat (sv new)) := by simpa using hw
        rw [this] at e; cases e
        rw [← List.map_set] at hx
        exact shut_svs _ _ x hx
      · show (σ.ow.set 0 _).take 1 = _
        rw [l4, Int.toNat_natCast, ← List.map_set, l5]; rfl
end Mine
end

section
open PySem PySem.W PyProof.Rows PySem.Calls
set_option autoImplicit false
set_option linter.unusedVariables false
set_option maxRecDepth 100000
namespace Mine

theorem shutW_svs (m : Nat) (l : List T) : ShutW m [.lst (l.map sv)] := fun w hw xs e x hx => by
  rw [List.mem_singleton.mp hw] at e; cases e
  exact shut_svs m l x hx
def push (ts : List T) (x : T) : List T := sd x ts.length (ts ++ [x]) ts.length

theorem fn_heappush {G : Glob} {P : Params} (C : Ctx G P) (n : Nat) (ts : List T) (x : T) (hl : ts.length < 1000) :
    Fun G (n + 2) 94 [.own 0, sv x] [.lst (ts.map sv)] (fun r ws => r = .none ∧ ws = [.lst ((push ts x).map sv)]) := by
  have hf := C.fn (a := 94) rfl rfl rfl rfl rfl rfl rfl rfl rfl rfl rfl rfl rfl
  refine Fun.of_body C.ok hf (ns := [Str.ofString "heap", Str.ofString "item"]) (by decide) rfl (fun us hu => ?_) (by decide) (by decide) (fun A L fr K h₀ ad hA => ?_)
  · obtain ⟨u, v, rfl⟩ := two_of hu
    rfl
  · have hE := hf.env L
    clear hf
    have e1 : ts.map sv ++ [sv x] = (ts ++ [x]).map sv := by simp
    refine Ex.cons (Ex1.expr (Ev.meth (Ev.loc hE rfl rfl ⟨"list", "list.append", PySem.F.plainAttrs_list, slot_list_append, PySem.F.type_list_append, HasT.own (xs := ts.map sv) rfl, Evs.cons (Ev.loc hE rfl rfl (Evs.nil (Op.append (xs := ts.map sv) rfl (by rw [sz16, List.length_map]; omega) ⟨rfl, ?_⟩)))⟩)))
    rw [e1]
    have e2 : (((ts ++ [x]).map sv).length : Int) - 1 = (ts.length : Nat) := by simp
    refine Ex.cons (Ex1.expr (Ev.call (p := 1) C.ok hE hA rfl (C.g _ _ rfl) ⟨_, _, C.frag 108 _ rfl, rfl⟩ (Evs.cons (Ev.loc hE rfl rfl ?_))))
    refine Evs.cons (Ev.int ?_)
    refine Evs.cons (Ev.binop (Ev.callB C.ok hE rfl (C.b _ _ rfl).1 (C.b _ _ rfl).2 (.inl ⟨_, rfl⟩) ?_))
    refine Evs.cons (Ev.loc hE rfl rfl (Evs.nil (Op.len_own (xs := (ts ++ [x]).map sv) rfl (by rw [sz16]; simp; omega) ?_)))
    refine Ev.int (Op2.sub_int (Evs.nil ⟨by simp, shutW_svs _ _, Shut.cons (Shut.own (by decide)) (Shut.cons Shut.int (Shut.cons Shut.int Shut.nil)), ?_⟩))
    rw [e2]
    refine Fun.mono (fn_siftdown C n (ts ++ [x]) ts.length x (by simp) (by simp; omega)) ?_
    rintro r ws ⟨rfl, rfl⟩
    refine ⟨rfl, Ex.nil ⟨0, Shut.none, ?_, rfl, rfl⟩⟩
    exact shutW_svs _ _
end Mine
end

section
open PySem PySem.W PyProof.Rows PySem.Calls
set_option autoImplicit false
set_option linter.unusedVariables false
set_option maxRecDepth 100000
namespace Mine

/-- the smaller child -/
def kid (a : List T) (pos : Nat) : Nat := if 2 * pos + 2 < a.length ∧ ¬ a.getD (2 * pos + 1) [] < a.getD (2 * pos + 2) [] then 2 * pos + 2 else 2 * pos + 1
/-- the hole goes down -/
def sb : Nat → List T → Nat → List T × Nat
  | 0, a, pos => (a, pos)
  | k + 1, a, pos => if 2 * pos + 1 < a.length then sb k (a.set pos (a.getD (kid a pos) [])) (kid a pos) else (a, pos)
theorem sb_fuel : ∀ (f g : Nat) (a : List T) (pos : Nat), a.length ≤ pos + f → a.length ≤ pos + g → sb f a pos = sb g a pos := by
  intro f
  induction f with
  | zero =>
    intro g a pos h1 h2
    cases g with
    | zero => rfl
    | succ g => simp only [sb]; rw [if_neg (by omega)]
  | succ f ih =>
    intro g a pos h1 h2
    cases g with
    | zero => simp only [sb]; rw [if_neg (by omega)]
    | succ g =>
      simp only [sb]
      split
      · have hk : pos < kid a pos := by unfold kid; split <;> omega
        exact ih g _ _ (by rw [List.length_set]; omega) (by rw [List.length_set]; omega)
      · rfl
def up (ts : List T) : List T := sd (ts.getD 0 []) (sb ts.length ts 0).2 ((sb ts.length ts 0).1.set (sb ts.length ts 0).2 (ts.getD 0 [])) (sb ts.length ts 0).2

theorem setL_same {x : Str} {v : AV} : ∀ {l : List (Str × AV)}, l.lookup x = some v → setL l x v = l
  | [], h => by cases h
  | (y, w) :: r, h => by
    rw [List.lookup_cons] at h
    unfold setL
    cases q : x == y with
    | true => rw [q] at h; cases h; rw [beq_iff_eq.mp q]
    | false => rw [q] at h; dsimp only; rw [setL_same h]
theorem fn_siftup {G : Glob} {P : Params} (C : Ctx G P) (n : Nat) (ts : List T) (hl : ts.length ≤ 1000) (h0 : 0 < ts.length) :
    Fun G (n + 2) 115 [.own 0, .int 0] [.lst (ts.map sv)] (fun r ws => r = .none ∧ ws = [.lst ((up ts).map sv)]) := by
  have hf := C.fn (a := 115) rfl rfl rfl rfl rfl rfl rfl rfl rfl rfl rfl rfl rfl
  refine Fun.of_body C.ok hf (ns := [Str.ofString "heap", Str.ofString "pos"]) (by decide) rfl (fun us hu => ?_) (by decide) (by decide) (fun A L fr K h₀ ad hA => ?_)
  · obtain ⟨u, v, rfl⟩ := two_of hu
    rfl
  · have hE := hf.env L
    clear hf
    have g0 := getD_of (d := ([] : T)) h0
    refine Ex.hide fun Φ₀ hΦ₀ => ?_
    refine Ex.cons (Ex1.assign hE rfl (Ev.callB C.ok hE rfl (C.b _ _ rfl).1 (C.b _ _ rfl).2 (.inl ⟨_, rfl⟩) (Evs.cons (Ev.loc hE rfl rfl (Evs.nil (Op.len_own (xs := ts.map sv) rfl (by rw [sz16, List.length_map]; omega) ?_))))))
    rw [List.length_map]
    refine Ex.cons (Ex1.assign hE rfl (Ev.loc hE rfl rfl ?_))
    refine Ex.cons (Ex1.assign hE rfl (Ev.subscript (Ev.loc hE rfl rfl (Ev.loc hE rfl rfl (Sub.own (xs := ts.map sv) rfl (by omega) (sv_get g0) (by rw [sz16, List.length_map]; omega) ?_)))))
    refine Ex.cons (Ex1.assign hE rfl (Ev.binop (Ev.binop (Ev.int (Ev.loc hE rfl rfl (Op2.mul_int (IntMulOk.of_left (by decide +kernel)) (Ev.int (Op2.add_int ?_))))))))
    refine Ex.cons (Do.mono (Φ := fun f σ => f = .next ∧ ∃ (m : Nat) (a : List T), a.length = ts.length ∧ m < ts.length ∧ σ.lo.lookup (Str.ofString "heap") = some (.own 0) ∧ σ.lo.lookup (Str.ofString "startpos") = some (.int 0) ∧ σ.lo.lookup (Str.ofString "pos") = some (.int m) ∧ σ.lo.lookup (Str.ofString "newitem") = some (sv (ts.getD 0 [])) ∧ σ.ow = [.lst (a.map sv)] ∧ (a, m) = sb ts.length ts 0) (Ex1.while (I := fun k σ => ∃ (m : Nat) (a : List T), k + m = ts.length ∧ a.length = ts.length ∧ m < ts.length ∧ σ.lo.lookup (Str.ofString "heap") = some (.own 0) ∧ σ.lo.lookup (Str.ofString "endpos") = some (.int ts.length) ∧ σ.lo.lookup (Str.ofString "startpos") = some (.int 0) ∧ σ.lo.lookup (Str.ofString "pos") = some (.int m) ∧ σ.lo.lookup (Str.ofString "childpos") = some (.int (2 * m + 1)) ∧ σ.lo.lookup (Str.ofString "newitem") = some (sv (ts.getD 0 [])) ∧ σ.ow = [.lst (a.map sv)] ∧ sb k a m = sb ts.length ts 0) ts.length ⟨0, ts, rfl, rfl, h0, rfl, rfl, rfl, rfl, rfl, rfl, rfl, rfl⟩ ?_) ?_)
    · rintro k σ ⟨m, a, i1, i2, i3, l1, l2, l3, l4, l5, l6, l7, l8⟩
      refine Tr.compare (Ev.loc hE rfl l5 (Ev.loc hE rfl l2 (Op2.lt_int ⟨_, rfl, ?_⟩)))
      by_cases hc : 2 * m + 1 < ts.length
      · rw [if_pos (by simpa using (by omega : (2 * (m : Int) + 1) < ts.length))]
        refine Ex.hide fun Φ₁ hΦ₁ => ?_
        have k2 : 2 * (m : Int) + 1 + 1 = ((2 * m + 2 : Nat) : Int) := by omega
        have k1 : 2 * (m : Int) + 1 = ((2 * m + 1 : Nat) : Int) := by omega
        refine Ex.cons (Ex1.assign hE rfl (Ev.binop (Ev.loc hE rfl l5 (Ev.int (Op2.add_int ?_)))))
        rw [k2]
        refine Ex.cons (Ex1.pin (τ := { lo := setL (setL σ.lo (Str.ofString "rightpos") (.int ((2 * m + 2 : Nat) : Int))) (Str.ofString "childpos") (.int (kid a m : Nat)), ce := σ.ce, ow := σ.ow }) ?_ ?_)
        · refine Ex1.if (Tr.pin (w := decide (2 * m + 2 < a.length) && !decide (a.getD (2 * m + 1) [] < a.getD (2 * m + 2) [])) ?_ ?_)
          · refine Tr.boolop (TrL.and (Tr.compare (Ev.loc hE rfl look_eq (Ev.loc hE rfl (look_ne l2 (by decide)) (Op2.lt_int ⟨_, rfl, ?_⟩)))))
            by_cases hr : 2 * m + 2 < a.length
            · rw [if_pos (by rw [← i2]; simp; omega)]
              rw [decide_eq_true hr, Bool.true_and]
              refine TrL.and (Tr.not (Tr.compare (Ev.subscript (Ev.loc hE rfl (look_ne l1 (by decide)) (Ev.loc hE rfl (look_ne l5 (by decide)) (Sub.own (xs := a.map sv) (by rw [l7]; rfl) (by omega) (by rw [k1, Int.toNat_natCast]; exact sv_get (getD_of (d := ([] : T)) (by omega))) (by rw [sz16, List.length_map]; omega) ?_))))))
              refine Ev.subscript (Ev.loc hE rfl (look_ne l1 (by decide)) (Ev.loc hE rfl look_eq (Sub.own (xs := a.map sv) (by rw [l7]; rfl) (by omega) (by rw [Int.toNat_natCast]; exact sv_get (getD_of (d := ([] : T)) hr)) (by rw [sz16, List.length_map]; omega) ?_)))
              refine Op2.lt_str ⟨_, rfl, ?_⟩
              rw [S_list, S_list]
              cases decide (a.getD (2 * m + 1) [] < a.getD (2 * m + 2) []) with
              | true => exact ⟨rfl, rfl⟩
              | false => exact TrL.andNil ⟨rfl, rfl⟩
            · rw [if_neg (by rw [← i2]; simp; omega)]
              rw [decide_eq_false hr, Bool.false_and]
              exact ⟨rfl, rfl⟩
          · cases hb : (decide (2 * m + 2 < a.length) && !decide (a.getD (2 * m + 1) [] < a.getD (2 * m + 2) [])) with
            | true =>
              rw [if_pos rfl]
              simp only [Bool.and_eq_true, decide_eq_true_eq, Bool.not_eq_true', decide_eq_false_iff_not] at hb
              have ek : kid a m = 2 * m + 2 := by unfold kid; rw [if_pos hb]
              refine Ex.cons (Ex1.assign hE rfl (Ev.loc hE rfl look_eq (Ex.nil ⟨rfl, ?_⟩)))
              rw [ek]
            | false =>
              rw [if_neg Bool.false_ne_true]
              have ek : kid a m = 2 * m + 1 := by
                unfold kid; rw [if_neg]
                rintro ⟨z1, z2⟩
                rw [decide_eq_true z1, decide_eq_false z2] at hb
                cases hb
              refine Ex.nil ⟨rfl, ?_⟩
              rw [ek, setL_same (look_ne (by rw [← k1]; exact l5) (by decide))]
        · have hk : kid a m < a.length := by unfold kid; split <;> omega
          have gk := getD_of (d := ([] : T)) hk
          refine Ex.cons (Ex1.setitem (Ev.subscript (Ev.loc hE rfl (look_ne (look_ne l1 (by decide)) (by decide)) (Ev.loc hE rfl look_eq (Sub.own (xs := a.map sv) (by rw [l7]; rfl) (by omega) (by rw [Int.toNat_natCast]; exact sv_get gk) (by rw [sz16, List.length_map]; omega) ?_)))))
          refine Ev.loc hE rfl (look_ne (look_ne l1 (by decide)) (by decide)) (Ev.loc hE rfl (look_ne (look_ne l4 (by decide)) (by decide)) ⟨0, a.map sv, (m : Nat), rfl, rfl, by rw [l7]; rfl, by omega, by rw [Int.toNat_natCast]; simp; omega, by rw [sz16, List.length_map]; omega, ?_⟩)
          refine Ex.cons (Ex1.assign hE rfl (Ev.loc hE rfl look_eq ?_))
          refine Ex.cons (Ex1.assign hE rfl (Ev.binop (Ev.binop (Ev.int (Ev.loc hE rfl look_eq (Op2.mul_int (IntMulOk.of_left (by decide +kernel)) (Ev.int (Op2.add_int ?_))))))))
          have hkm : m < kid a m := by unfold kid; split <;> omega
          refine Ex.nil (hΦ₁ _ _ ⟨ts.length - kid a m, by omega, kid a m, a.set m (a.getD (kid a m) []), by omega, by rw [List.length_set]; exact i2, by omega, look_ne (look_ne (look_ne (look_ne l1 (by decide)) (by decide)) (by decide)) (by decide), look_ne (look_ne (look_ne (look_ne l2 (by decide)) (by decide)) (by decide)) (by decide), look_ne (look_ne (look_ne (look_ne l3 (by decide)) (by decide)) (by decide)) (by decide), look_ne look_eq (by decide), look_eq, look_ne (look_ne (look_ne (look_ne l6 (by decide)) (by decide)) (by decide)) (by decide), ?_, ?_⟩)
          · show σ.ow.set 0 _ = _
            rw [l7, Int.toNat_natCast, List.map_set]; rfl
          · rw [← l8]
            cases k with
            | zero => omega
            | succ k =>
              simp only [sb]
              rw [if_pos (by omega)]
              exact sb_fuel _ _ _ _ (by rw [List.length_set]; omega) (by rw [List.length_set]; omega)
      · rw [if_neg (by simpa using (by omega : ¬ (2 * (m : Int) + 1) < ts.length))]
        refine ⟨rfl, m, a, i2, i3, l1, l3, l4, l6, l7, ?_⟩
        rw [← l8]
        cases k with
        | zero => rfl
        | succ k => simp only [sb]; rw [if_neg (by omega)]
    · rintro f σ ⟨rfl, m, a, i1, i2, l1, l2, l3, l4, l5, l6⟩
      refine Ex.cons (Ex1.setitem (Ev.loc hE rfl l4 (Ev.loc hE rfl l1 (Ev.loc hE rfl l3 ⟨0, a.map sv, m, rfl, rfl, by rw [l5]; rfl, by omega, by rw [Int.toNat_natCast]; simp; omega, by rw [sz16, List.length_map]; omega, ?_⟩))))
      have hs : (a.map sv).set ((m : Nat) : Int).toNat (sv (ts.getD 0 [])) = (a.set m (ts.getD 0 [])).map sv := by rw [Int.toNat_natCast, List.map_set]
      have ho : σ.ow.set 0 (.lst ((a.map sv).set ((m : Nat) : Int).toNat (sv (ts.getD 0 [])))) = [.lst ((a.set m (ts.getD 0 [])).map sv)] := by rw [l5, hs]; rfl
      rw [ho]
      refine Ex.cons (Ex1.expr (Ev.call (p := 1) C.ok hE hA rfl (C.g _ _ rfl) ⟨_, _, C.frag 108 _ rfl, rfl⟩ (Evs.cons (Ev.loc hE rfl l1 (Evs.cons (Ev.loc hE rfl l2 (Evs.cons (Ev.loc hE rfl l3 ?_))))))))
      refine Evs.nil ⟨by simp, shutW_svs _ _, Shut.cons (Shut.own (by decide)) (Shut.cons Shut.int (Shut.cons Shut.int Shut.nil)), ?_⟩
      refine Fun.mono (fn_siftdown C n (a.set m (ts.getD 0 [])) m (ts.getD 0 []) (by rw [List.getElem?_set_self (by omega)]) (by rw [List.length_set]; omega)) ?_
      rintro r ws ⟨rfl, rfl⟩
      refine ⟨rfl, Ex.nil (hΦ₀ _ _ ⟨0, Shut.none, shutW_svs _ _, rfl, ?_⟩)⟩
      unfold up
      rw [← l6]
      rfl
end Mine
end

section
open PySem PySem.W PyProof.Rows PySem.Calls
set_option autoImplicit false
set_option linter.unusedVariables false
set_option maxRecDepth 100000
namespace Mine

def pop (ys : List T) (z : T) : T × List T := match ys with
  | [] => (z, [])
  | y :: r => (y, up (z :: r))

theorem fn_heappop {G : Glob} {P : Params} (C : Ctx G P) (n : Nat) (ys : List T) (z : T) (hl : ys.length < 1000) :
    Fun G (n + 3) 101 [.own 0] [.lst ((ys ++ [z]).map sv)] (fun r ws => r = sv (pop ys z).1 ∧ ws = [.lst ((pop ys z).2.map sv)]) := by
  have hf := C.fn (a := 101) rfl rfl rfl rfl rfl rfl rfl rfl rfl rfl rfl rfl rfl
  refine Fun.of_body C.ok hf (ns := [Str.ofString "heap"]) (by decide) rfl (fun us hu => ?_) (by decide) (by decide) (fun A L fr K h₀ ad hA => ?_)
  · obtain ⟨u, rfl⟩ := one_of hu
    rfl
  · have hE := hf.env L
    clear hf
    have e1 : (ys ++ [z]).map sv = ys.map sv ++ [sv z] := by simp
    rw [e1]
    refine Ex.cons (Ex1.assign hE rfl (Ev.meth (Ev.loc hE rfl rfl ⟨"list", "list.pop", PySem.F.plainAttrs_list, PySem.F.slot_list_pop, PySem.F.type_list_pop, HasT.own (xs := ys.map sv ++ [sv z]) rfl, Evs.nil (Op.pop (xs := ys.map sv) (x := sv z) rfl (by rw [sz16, List.length_map]; omega) ?_)⟩)))
    refine Ex.cons (Ex1.if (Tr.value (Ev.loc hE rfl rfl (Op1.true_own (xs := ys.map sv) rfl (by rw [sz16, List.length_map]; omega) ?_))))
    cases ys with
    | nil =>
      rw [if_neg (by simp)]
      refine Ex.nil (Ex.cons (Ex1.ret (Ev.loc hE rfl rfl ⟨0, Shut.str, shutW_svs _ [], rfl, rfl⟩)))
    | cons y r =>
      rw [if_pos (by simp)]
      refine Ex.cons (Ex1.assign hE rfl (Ev.subscript (Ev.loc hE rfl rfl (Ev.int (Sub.own (xs := (y :: r).map sv) (x := sv y) rfl (by decide) rfl (by rw [sz16, List.length_map]; omega) ?_)))))
      refine Ex.cons (Ex1.setitem (Ev.loc hE rfl rfl (Ev.loc hE rfl rfl (Ev.int ⟨0, (y :: r).map sv, 0, rfl, rfl, rfl, by decide, by simp, by rw [sz16, List.length_map]; omega, ?_⟩))))
      refine Ex.cons (Ex1.expr (Ev.call (p := 1) C.ok hE hA rfl (C.g _ _ rfl) ⟨_, _, C.frag 115 _ rfl, rfl⟩ (Evs.cons (Ev.loc hE rfl rfl (Evs.cons (Ev.int ?_))))))
      refine Evs.nil ⟨by simp, shutW_svs _ (z :: r), Shut.cons (Shut.own (by decide)) (Shut.cons Shut.int Shut.nil), ?_⟩
      refine Fun.mono (fn_siftup C n (z :: r) (by simp at hl ⊢; omega) (by simp)) ?_
      rintro q ws ⟨rfl, rfl⟩
      refine ⟨rfl, Ex.cons (Ex1.ret (Ev.loc hE rfl rfl ⟨0, Shut.str, shutW_svs _ _, rfl, rfl⟩))⟩
end Mine
end

section
open PySem PySem.W PyProof.Rows PySem.Calls
set_option autoImplicit false
set_option linter.unusedVariables false
set_option maxRecDepth 100000
namespace Mine

theorem sd_length (new : T) : ∀ (f : Nat) (a : List T) (pos : Nat), (sd new f a pos).length = a.length
  | 0, a, pos => by simp [sd]
  | f + 1, a, pos => by
    simp only [sd]
    split
    · split
      · rw [sd_length new f, List.length_set]
      · rw [List.length_set]
    · rw [List.length_set]
theorem sb_length : ∀ (f : Nat) (a : List T) (pos : Nat), (sb f a pos).1.length = a.length
  | 0, a, pos => rfl
  | f + 1, a, pos => by
    simp only [sb]
    split
    · rw [sb_length f, List.length_set]
    · rfl
theorem push_length (ts : List T) (x : T) : (push ts x).length = ts.length + 1 := by unfold push; rw [sd_length]; simp
theorem up_length (ts : List T) : (up ts).length = ts.length := by unfold up; rw [sd_length, List.length_set, sb_length]
theorem pop_length (ys : List T) (z : T) : (pop ys z).2.length = ys.length := by
  cases ys with
  | nil => rfl
  | cons y r => simp [pop, up_length]

def popL (h : List T) : T × List T := pop h.dropLast (h.getLastD [])
def drain : Nat → List T → List T
  | 0, _ => []
  | k + 1, h => (popL h).1 :: drain k (popL h).2
def emptied (ts : List T) : List T := drain ts.length (ts.foldl push [])

theorem compEnvOk {env : Env} {scope : Scope} {cl : List (Str × Addr)} {c : Addr} (hE : EnvOk env) (hk : scope.kind = .function) : EnvOk (compEnvC scope cl c env) := ⟨hk, hE.glob, hE.blt⟩
theorem fold_push_length : ∀ (ts h : List T), (ts.foldl push h).length = h.length + ts.length
  | [], h => by simp
  | t :: ts, h => by rw [List.foldl_cons, fold_push_length ts, push_length]; simp; omega
theorem CompL.inv {G : Glob} {B : Base} {A : Around} {j : Nat} {t elt : Expr} {ifs : List Expr} {Φ : List AV → St → Prop} (I : List AV → List AV → St → Prop) (fin : ∀ ys σ, I [] ys σ → Φ ys σ)
    (turn : ∀ x xs ys σ io, I (x :: xs) ys σ → Asg G (B.withIo io) A σ t x (fun σ₁ => Tst G (B.withIo io) A σ₁ ifs (fun ok σ₂ => match ok with
      | false => σ₂.ow[j]? = some (.lst ys) ∧ I xs ys σ₂
      | true => Ev G (B.withIo io) A σ₂ elt (fun y σ₃ => σ₃.ow[j]? = some (.lst ys) ∧ ys.length ≤ sizeLine ∧ I xs (ys ++ [y]) { σ₃ with ow := σ₃.ow.set j (.lst (ys ++ [y])) }) noX)) noX) : ∀ (xs ys : List AV) (σ : St), I xs ys σ → CompL G B A j t ifs elt Φ xs ys σ
  | [], ys, σ, h => fin ys σ h
  | x :: xs, ys, σ, h => fun io => by
    intro K ad s u hR hv Q E q ex
    refine turn x xs ys σ io h K ad s u hR hv Q E (fun a s' K' ad' b σ' g1 g2 g3 g4 g5 g6 => q a s' K' ad' b σ' g1 g2 g3 g4 g5 ?_) ex
    have key : ∀ (Ψ₁ Ψ₂ : Bool → St → Prop), (∀ ok σ₂, Ψ₁ ok σ₂ → Ψ₂ ok σ₂) → Tst G (B.withIo io) A σ' ifs Ψ₁ → Tst G (B.withIo io) A σ' ifs Ψ₂ := fun Ψ₁ Ψ₂ hi hT => by
      match ifs, hT with
      | [], hT => exact hi _ _ hT
      | [c], hT => exact Do.mono hT hi
    refine key _ _ (fun ok σ₂ z => ?_) g6
    cases ok with
    | false => exact ⟨z.1, CompL.inv I fin turn xs ys σ₂ z.2⟩
    | true => exact Do.mono z fun y σ₃ w => ⟨w.1, w.2.1, CompL.inv I fin turn xs (ys ++ [y]) _ w.2.2⟩

theorem fn_emptied {G : Glob} {P : Params} (C : Ctx G P) (n : Nat) (ts : List T) (hl : ts.length < 1000) :
    Fun G (n + 4) 153 [.lst (ts.map sv)] [] (fun r ws => r = .lst ((emptied ts).map sv) ∧ ws = []) := by
  have hf := C.fn (a := 153) rfl rfl rfl rfl rfl rfl rfl rfl rfl rfl rfl rfl rfl
  refine Fun.of_bodyC (cn := Str.ofString "heap") (p := Str.ofString "texts") C.ok hf (fun u => rfl) (fun k => rfl) (by decide) (fun A L fr K h₀ ad hA => ?_)
  have hE := hf.envC L
  clear hf
  have inj : ∀ (B : Base), B.env.cells = [(Str.ofString "heap", L + 1)] → ∀ y d c, B.env.cells.lookup (Str.ofString "heap") = some c → B.env.cells.lookup y = some d → y ≠ Str.ofString "heap" → d ≠ c := fun B hB y d c h1 h2 hn => by
    rw [hB, List.lookup_cons, beq_eq_false_iff_ne.mpr hn] at h2; cases h2
  refine Ex.cons (Ex1.assignCell hE rfl (.head _) (inj _ rfl) (Ev.listOwn ⟨⟨_, rfl⟩, ?_⟩))
  refine Ex.cons (Do.mono (Φ := fun f σ => f = .next ∧ σ.lo.lookup (Str.ofString "texts") = some (.lst (ts.map sv)) ∧ σ.ce = [(Str.ofString "heap", .own 0)] ∧ σ.ow = [.lst ((ts.foldl push []).map sv)]) (Ex1.for (Ev.loc hE rfl rfl ⟨_, Iterable.lst hA.handled, ?_⟩)) ?_)
  · refine ForL.inv (I := fun l σ => ∃ (ys : List T) (h : List T), l = ys.map sv ∧ h.length + ys.length ≤ 1000 ∧ σ.lo.lookup (Str.ofString "texts") = some (.lst (ts.map sv)) ∧ σ.ce = [(Str.ofString "heap", .own 0)] ∧ σ.ow = [.lst (h.map sv)] ∧ ys.foldl push h = ts.foldl push []) ?_ ?_ _ _ ⟨ts, [], rfl, by simp; omega, rfl, rfl, rfl, rfl⟩
    · rintro σ ⟨ys, h, e1, e2, e3, e4, e5, e6⟩
      have : ys = [] := by cases ys with | nil => rfl | cons _ _ => cases e1
      subst this
      exact ⟨rfl, e3, e4, by rw [e5, ← e6]; rfl⟩
    · rintro v vs σ io ⟨ys, h, e1, e2, e3, e4, e5, e6⟩
      cases ys with
      | nil => cases e1
      | cons y ys =>
        cases e1
        refine Asg.name hE rfl ?_
        refine Ex.hide fun Φ₁ hΦ₁ => ?_
        refine Ex.cons (Ex1.expr (Ev.call (p := 1) C.ok hE hA rfl (C.g _ _ rfl) ⟨_, _, C.frag 94 _ rfl, rfl⟩ (Evs.cons (Ev.cell (v := .own 0) hE rfl (by rw [e4]; rfl) (by intro z; cases z) (Evs.cons (Ev.loc hE rfl look_eq ?_))))))
        refine Evs.nil ⟨by rw [e5]; simp, by rw [e5]; exact shutW_svs _ _, Shut.cons (Shut.own (by decide)) (Shut.cons Shut.str Shut.nil), ?_⟩
        rw [e5]
        refine Fun.mono (fn_heappush C (n + 1) h y (by simp at e2; omega)) ?_
        rintro r ws ⟨rfl, rfl⟩
        exact ⟨rfl, Ex.nil (hΦ₁ _ _ ⟨ys, push h y, rfl, by rw [push_length]; simp at e2; omega, look_ne e3 (by decide), e4, rfl, e6⟩)⟩
  · rintro f σ ⟨rfl, e1, e2, e3⟩
    refine Ex.cons (Ex1.ret (Ev.comp (cl := [(Str.ofString "heap", L + 1)]) (ce' := [(Str.ofString "heap", .own 0)]) rfl ⟨by simp, fun c hc => hc, fun x c hc => hc⟩ (Ev.loc hE rfl e1 ⟨_, Iterable.lst hA.handled, ?_, ?_⟩)))
    · intro x v hx
      rw [e2]
      refine ⟨hx, ?_⟩
      simp only [List.lookup_cons, List.lookup_nil] at hx ⊢
      cases q : x == Str.ofString "heap" with
      | true => exact ⟨_, rfl⟩
      | false => rw [q] at hx; cases hx
    · rintro B' ⟨c, K', h', ad', rfl⟩
      rw [e3]
      refine CompL.inv (I := fun l ys σ' => ∃ (k : List T) (h acc : List T), l = k.map sv ∧ ys = acc.map sv ∧ h.length = k.length ∧ acc.length + k.length ≤ 1000 ∧ σ'.ce = [(Str.ofString "heap", .own 0)] ∧ σ'.ow = [.lst (h.map sv), .lst (acc.map sv)] ∧ acc ++ drain k.length h = emptied ts) ?_ ?_ _ _ _ ⟨ts, ts.foldl push [], [], rfl, rfl, by rw [fold_push_length]; simp, by simp; omega, rfl, rfl, rfl⟩
      · rintro ys σ' ⟨k, h, acc, i1, rfl, i3, i4, i5, i6, i7⟩
        have : k = [] := by cases k with | nil => rfl | cons _ _ => cases i1
        subst this
        simp only [List.length_nil, drain, List.append_nil] at i7
        subst i7
        refine ⟨by rw [i6]; exact shutW_svs _ _, shut_svs _ _, 0, Shut.lst (shut_svs _ _), shutW_nil, rfl, rfl⟩
      · rintro v vs ys σ' io ⟨k, h, acc, i1, rfl, i3, i4, i5, i6, i7⟩
        cases k with
        | nil => cases i1
        | cons y k =>
          cases i1
          refine Asg.name (compEnvOk hE rfl) rfl ?_
          show Ev _ _ _ _ _ _ _
          have hne : h ≠ [] := by intro z; rw [z] at i3; cases i3
          have hh : h = h.dropLast ++ [h.getLastD []] := by
            rw [List.getLastD_eq_getLast?, List.getLast?_eq_getLast hne]
            exact (List.dropLast_concat_getLast hne).symm
          refine Ev.call (p := 1) (n := n + 3) C.ok (compEnvOk hE rfl) hA rfl (C.g _ _ rfl) ⟨_, _, C.frag 101 _ rfl, rfl⟩ (Evs.cons (Ev.cell (v := .own 0) (compEnvOk hE rfl) rfl (by rw [i5]; rfl) (by intro z; cases z) ?_))
          refine Evs.nil ⟨by rw [i6]; simp, by rw [i6]; exact shutW_svs _ _, Shut.cons (Shut.own (by decide)) Shut.nil, ?_⟩
          rw [i6]
          show Fun G (n + 3) 101 [.own 0] [.lst (h.map sv)] _
          have hfn := fn_heappop C n h.dropLast (h.getLastD []) (by simp at i4 i3 ⊢; omega)
          rw [← hh] at hfn
          refine Fun.mono hfn ?_
          rintro r ws ⟨rfl, rfl⟩
          refine ⟨rfl, by rw [sz16, List.length_map]; omega, k, (popL h).2, acc ++ [(popL h).1], rfl, by rw [List.map_append]; rfl, ?_, by simp at i4 ⊢; omega, i5, ?_, ?_⟩
          · unfold popL; rw [pop_length]; simp at i3 ⊢; omega
          · rw [List.map_append]; rfl
          · rw [List.append_assoc]; exact i7
end Mine
end

section
open PySem PySem.W PyProof.Rows PySem.Calls
set_option autoImplicit false
set_option linter.unusedVariables false
set_option maxRecDepth 100000
namespace Mine

theorem exc_value : ExcCls "ValueError" := ⟨by rw [isSubtype_type]; kernel_rfl, by rw [isSubtype_type]; kernel_rfl, by rw [isSubtype_type]; kernel_rfl⟩
theorem exc_index : ExcCls "IndexError" := ⟨by rw [isSubtype_type]; kernel_rfl, by rw [isSubtype_type]; kernel_rfl, by rw [isSubtype_type]; kernel_rfl⟩

/-- what is left over: walked from the end -/
def left : List Pr → List Pr → List Pr → List Pr × List Pr
  | [], m, a => (m, a)
  | x :: r, m, a => if x ∈ a then left r m (a.erase x) else left r (m ++ [x]) a

theorem Op.remove_pv_hit {G : Glob} {B : Base} {A : Around} {σ : St} {Ψ : XPost} {Φ : AV → St → Prop} {i : Nat} {l : List Pr} {p : Pr} (hl : ∀ q ∈ l, okPr q) (hp : okPr p) (hi : σ.ow[i]? = some (.lst (l.map pv))) (hu : A.units + 2 < cLine) (hz : l.length ≤ 1000) (hm : p ∈ l) (h : Φ .none { σ with ow := σ.ow.set i (.lst ((l.erase p).map pv)) }) :
    Op G B A σ [.own i, pv p] (fun us => PySem.call (.builtin "list.remove") us) V Φ Ψ := by
  rw [← emb_pd p]
  have hj : l.idxOf p < l.length := List.idxOf_lt_length_of_mem hm
  refine Op.remove_hit (ds := l.map pd) (j := l.idxOf p) (by rw [emb_pds]; exact hi) (fun d hd => ?_) (lay_pd p hp) (by rw [depth_pd]; exact hu) (by rw [sz16, List.length_map]; omega) (by rw [List.length_map]; exact hj) ?_ (fun m hm' hlt => ?_) ?_
  · obtain ⟨q, hq, rfl⟩ := List.mem_map.mp hd
    exact lay_pd q (hl q hq)
  · rw [List.getElem_map, List.getElem_idxOf hj, eqv_pd]; simp
  · rw [List.getElem_map, eqv_pd]
    refine decide_eq_false fun e => ?_
    have := List.not_of_lt_findIdx (p := (· == p)) (xs := l) (i := m) hlt
    simp [e] at this
  · rw [← map_erase, emb_pds, map_erase, ← List.erase_eq_eraseIdx_of_idxOf (by rfl)]
    exact h
theorem Op.remove_pv_miss {G : Glob} {B : Base} {A : Around} {σ : St} {Ψ : XPost} {Φ : AV → St → Prop} {i : Nat} {l : List Pr} {p : Pr} (hh : A.handled = none) (hl : ∀ q ∈ l, okPr q) (hp : okPr p) (hi : σ.ow[i]? = some (.lst (l.map pv))) (hu : A.units + 2 < cLine) (hm : p ∉ l) (h : Ψ ⟨"ValueError", true⟩ σ) :
    Op G B A σ [.own i, pv p] (fun us => PySem.call (.builtin "list.remove") us) V Φ Ψ := by
  rw [← emb_pd p]
  refine Op.remove_miss (ds := l.map pd) hh (by rw [emb_pds]; exact hi) (fun d hd => ?_) (lay_pd p hp) (by rw [depth_pd]; exact hu) (fun m hm' => ?_) h
  · obtain ⟨q, hq, rfl⟩ := List.mem_map.mp hd
    exact lay_pd q (hl q hq)
  · rw [List.getElem_map, eqv_pd]
    exact decide_eq_false fun e => hm (e ▸ List.getElem_mem _)

theorem FnAt.own {G : Glob} {a : Addr} {fd : FuncData} {body : List Stmt} {L : Addr} {A : Around} {fr : List Env} {K : PH} {h₀ : Heap} {ad : List Addr} (h : FnAt G a fd body) (hA : A.frames = Option.some (callEnv fd L a :: fr)) : Own (baseOf (callEnv fd L a) fr K h₀ ad []) A := ⟨rfl, rfl, h.clos, hA⟩
theorem fn_unorderable {G : Glob} {P : Params} (C : Ctx G P) (n : Nat) (xs ys : List Pr) (hx : ∀ q ∈ xs, okPr q) (hy : ∀ q ∈ ys, okPr q) (lx : xs.length ≤ 1000) (ly : ys.length ≤ 1000) :
    Fun G (n + 2) 129 [.own 0, .own 1] [.lst (xs.map pv), .lst (ys.map pv)] (fun r ws => r = .tup [.lst ((left xs.reverse [] ys).1.map pv), .own 1] ∧ ws = [.lst [], .lst ((left xs.reverse [] ys).2.map pv)]) := by
  have hf := C.fn (a := 129) rfl rfl rfl rfl rfl rfl rfl rfl rfl rfl rfl rfl rfl
  refine Fun.of_body C.ok hf (ns := [Str.ofString "expected", Str.ofString "actual"]) (by decide) rfl (fun us hu => ?_) (by decide) (by decide) (fun A L fr K h₀ ad hA => ?_)
  · obtain ⟨u, v, rfl⟩ := two_of hu
    rfl
  · have hE := hf.env L
    have hu : A.units + 5 < cLine := by have := hA.units; omega
    have O := hf.own (K := K) (h₀ := h₀) (ad := ad) hA.frames
    clear hf
    refine Ex.hide fun Φ₀ hΦ₀ => ?_
    refine Ex.cons (Ex1.assign hE rfl (Ev.listOwn ?_))
    refine Ex.cons (Do.mono (Φ := fun f σ => f = .next ∧ σ.lo.lookup (Str.ofString "missing") = some (.own 2) ∧ σ.lo.lookup (Str.ofString "actual") = some (.own 1) ∧ σ.ow = [.lst [], .lst ((left xs.reverse [] ys).2.map pv), .lst ((left xs.reverse [] ys).1.map pv)]) (Ex1.while (I := fun k σ => ∃ (e a m : List Pr), e.length = k ∧ (∀ q ∈ e, okPr q) ∧ (∀ q ∈ a, okPr q) ∧ e.length ≤ 1000 ∧ a.length ≤ 1000 ∧ m.length + e.length ≤ 1000 ∧ σ.lo.lookup (Str.ofString "missing") = some (.own 2) ∧ σ.lo.lookup (Str.ofString "expected") = some (.own 0) ∧ σ.lo.lookup (Str.ofString "actual") = some (.own 1) ∧ σ.ow = [.lst (e.map pv), .lst (a.map pv), .lst (m.map pv)] ∧ left e.reverse m a = left xs.reverse [] ys) xs.length ⟨xs, ys, [], rfl, hx, hy, lx, ly, by simpa using lx, rfl, rfl, rfl, rfl, rfl⟩ ?_) ?_)
    · rintro k σ ⟨e, a, m, i1, i2, i3, i4, i5, i6, l1, l2, l3, l4, l5⟩
      refine Tr.value (Ev.loc hE rfl l2 (Op1.true_own (xs := e.map pv) (by rw [l4]; rfl) (by rw [sz16, List.length_map]; omega) ?_))
      rcases List.eq_nil_or_concat e with rfl | ⟨e', x, rfl⟩
      · rw [if_neg (by simp)]
        simp only [List.reverse_nil, left] at l5
        exact ⟨rfl, l1, l3, by rw [l4, ← l5]; rfl⟩
      · rw [if_pos (by simp)]
        refine Ex.hide fun Φ₁ hΦ₁ => ?_
        have em : (e' ++ [x]).map pv = e'.map pv ++ [pv x] := by simp
        have hxo : okPr x := i2 x (by simp)
        rw [List.concat_eq_append] at l5 i1 i2 i4 i6 l4
        refine Ex.cons (Ex1.assign hE rfl (Ev.meth (Ev.loc hE rfl l2 ⟨"list", "list.pop", PySem.F.plainAttrs_list, PySem.F.slot_list_pop, PySem.F.type_list_pop, HasT.own (xs := e'.map pv ++ [pv x]) (by rw [l4, em]; rfl), Evs.nil (Op.pop (xs := e'.map pv) (x := pv x) (by rw [l4, em]; rfl) (by rw [sz16, List.length_map]; simp at i4; omega) ?_)⟩)))
        rw [List.reverse_append] at l5
        simp only [List.reverse_cons, List.reverse_nil, List.nil_append, List.cons_append, left] at l5
        have ho : σ.ow.set 0 (.lst (e'.map pv)) = [.lst (e'.map pv), .lst (a.map pv), .lst (m.map pv)] := by rw [l4]; rfl
        rw [ho]
        refine Ex.cons (Ex1.tryExcept C.ok O hE exc_value rfl (C.b _ _ rfl).1 (C.b _ _ rfl).2 ?_)
        by_cases hm : x ∈ a
        · rw [if_pos hm] at l5
          refine Ex.cons (Ex1.expr (Ev.meth (Ev.loc hE rfl (look_ne l3 (by decide)) ⟨"list", "list.remove", PySem.F.plainAttrs_list, PySem.F.slot_list_remove, PySem.F.type_list_remove, HasT.own (xs := a.map pv) rfl, Evs.cons (Ev.loc hE rfl look_eq (Evs.nil (Op.remove_pv_hit i3 hxo rfl (by omega) i5 hm ⟨rfl, ?_⟩)))⟩)))
          refine Ex.nil (Ex.nil (hΦ₁ _ _ ⟨e'.length, by simp at i1; omega, e', a.erase x, m, rfl, fun q hq => i2 q (by simp [hq]), fun q hq => i3 q (List.mem_of_mem_erase hq), by simp at i4; omega, Nat.le_trans (List.length_erase_le ..) i5, by simp at i6; omega, look_ne l1 (by decide), look_ne l2 (by decide), look_ne l3 (by decide), rfl, l5⟩))
        · rw [if_neg hm] at l5
          refine Ex.cons (Ex1.expr (Ev.meth (Ev.loc hE rfl (look_ne l3 (by decide)) ⟨"list", "list.remove", PySem.F.plainAttrs_list, PySem.F.slot_list_remove, PySem.F.type_list_remove, HasT.own (xs := a.map pv) rfl, Evs.cons (Ev.loc hE rfl look_eq (Evs.nil (Op.remove_pv_miss hA.handled i3 hxo rfl (by omega) hm ⟨rfl, fun ea => ?_⟩)))⟩)))
          refine Ex.cons (Ex1.expr (Ev.meth (Ev.loc hE rfl (look_ne l1 (by decide)) ⟨"list", "list.append", PySem.F.plainAttrs_list, slot_list_append, PySem.F.type_list_append, HasT.own (xs := m.map pv) rfl, Evs.cons (Ev.loc hE rfl look_eq (Evs.nil (Op.append (xs := m.map pv) rfl (by rw [sz16, List.length_map]; simp at i6; omega) ⟨rfl, ?_⟩)))⟩)))
          refine Ex.nil (Ex.nil (hΦ₁ _ _ ⟨e'.length, by simp at i1; omega, e', a, m ++ [x], rfl, fun q hq => i2 q (by simp [hq]), i3, by simp at i4; omega, i5, by simp at i6 ⊢; omega, look_ne l1 (by decide), look_ne l2 (by decide), look_ne l3 (by decide), by rw [List.map_append]; rfl, l5⟩))
    · rintro f σ ⟨rfl, l1, l2, l3⟩
      refine Ex.cons (Ex1.ret (Ev.tuple (Evs.cons (Ev.loc hE rfl l1 (Evs.cons (Ev.loc hE rfl l2 (Evs.nil ⟨len2, hΦ₀ _ _ ⟨2, ?_⟩⟩)))))))
      have z : fz 2 σ.ow 2 (.tup [.own 2, .own 1]) = .tup [.lst ((left xs.reverse [] ys).1.map pv), .own 1] := by
        rw [l3]
        show AV.tup [.lst (((left xs.reverse [] ys).1.map pv).map (fz 2 _ 0)), .own 1] = _
        rw [map_fz0]
      refine ⟨z ▸ Shut.tup (Shut.cons (Shut.lst (shut_pvs _ _)) (Shut.cons (Shut.own (Nat.lt_succ_self _)) Shut.nil)), ?_, z, by rw [l3]; rfl⟩
      rw [l3]
      intro w hw xs' e x hx'
      rcases List.mem_cons.mp hw with q | q
      · rw [q] at e; cases e; cases hx'
      · rw [List.mem_singleton.mp q] at e; cases e
        exact shut_pvs _ _ x hx'
end Mine
end

section
open PySem PySem.W PyProof.Rows PySem.Calls
set_option autoImplicit false
set_option linter.unusedVariables false
set_option maxRecDepth 100000
namespace Mine

def esc1 (c : Nat) : T := if c = 34 ∨ c = 92 then [92, c] else [c]
def esc (l : T) : T := l.flatMap esc1
def written (p : Pr) : T := match p.2 with
  | none => [p.1]
  | some v => if v = [97] ∨ v = [97, 97] then p.1 :: 61 :: v else p.1 :: 61 :: 34 :: (esc v ++ [34])

theorem S_app (a b : T) : S a ++ S b = S (a ++ b) := Str.ext' (by rw [Str.cps_append]; simp)
theorem in_special : ∀ c < 128, (!(Builtin.Str.occurrences (Str.ofString "\"\\") (S [c]) 0 (Str.ofString "\"\\").length 1).isEmpty) = decide (c = 34 ∨ c = 92) := by decide +kernel
theorem sum_len : ∀ ys : List T, ((ys.map S).map (·.length)).sum = ys.flatten.length
  | [] => rfl
  | y :: ys => by
    have := sum_len ys
    simp only [List.map_cons, List.sum_cons, List.flatten_cons, List.length_append, this]
    simp [Str.length]
theorem joinS_nil : ∀ ys : List T, Str.join (Str.ofString "") (ys.map S) = S ys.flatten
  | [] => by decide
  | [y] => by simp [Str.join]
  | y :: z :: ys => by
    have ih := joinS_nil (z :: ys)
    have e : Str.ofString "" = S [] := by decide
    simp only [List.map_cons] at ih ⊢
    rw [Str.join, ih, e, S_app, S_app]
    · simp
    · intro z; cases z
theorem join_nil (ys : List T) : Txt.join (Str.ofString "") (ys.map S) = S ys.flatten := by
  rw [eq_of_beq (join_plain_closes (Str.ofString "") (ys.map S))]
  exact joinS_nil ys

theorem esc_length : ∀ v : T, (esc v).length ≤ 2 * v.length
  | [] => by simp [esc]
  | c :: v => by
    have := esc_length v
    have h1 : (esc1 c).length ≤ 2 := by unfold esc1; split <;> simp
    show ((c :: v).flatMap esc1).length ≤ _
    rw [List.flatMap_cons, List.length_append]
    show (esc1 c).length + (esc v).length ≤ _
    simp only [List.length_cons]; omega
theorem fn_written {G : Glob} {P : Params} (C : Ctx G P) (n : Nat) (p : Pr) (hp : okPr p) (hl : ∀ v, p.2 = some v → v.length ≤ 1000) :
    Fun G (n + 2) 148 [pv p] [] (fun r ws => r = sv (written p) ∧ ws = []) := by
  have hf := C.fn (a := 148) rfl rfl rfl rfl rfl rfl rfl rfl rfl rfl rfl rfl rfl
  refine Fun.of_body C.ok hf (ns := [Str.ofString "pair"]) (by decide) rfl (fun us hu => ?_) (by decide) (by decide) (fun A L fr K h₀ ad hA => ?_)
  · obtain ⟨u, rfl⟩ := one_of hu
    rfl
  · have hE := hf.env L
    have hu : A.units + 5 < cLine := by have := hA.units; omega
    clear hf
    obtain ⟨k, v⟩ := p
    refine Ex.hide fun Φ₀ hΦ₀ => ?_
    refine Ex.cons (Ex1.assign2 hA.handled hE rfl rfl (Ev.loc hE rfl rfl ⟨_, _, .tup _ _, ?_⟩))
    refine Ex.cons (Ex1.if (Tr.compare (Ev.loc hE rfl rfl (Ev.none (Op2.is_none ⟨_, rfl, ?_⟩)))))
    cases v with
    | none =>
      rw [if_pos (by rfl)]
      exact Ex.cons (Ex1.ret (Ev.loc hE rfl rfl (hΦ₀ _ _ ⟨0, Shut.str, shutW_nil, rfl, rfl⟩)))
    | some v =>
      rw [if_neg (by exact Bool.false_ne_true)]
      have hv := hl v rfl
      have hv128 := hp.2 v rfl
      refine Ex.nil (Ex.cons (Ex1.if (Tr.compare (Ev.loc hE rfl rfl (Ev.list (Evs.cons (Ev.str (Evs.cons (Ev.str (Evs.nil ⟨len2, ?_⟩))))))))))
      have e1 : ([AV.str (Str.ofString "a"), AV.str (Str.ofString "aa")] : List AV) = ([.str (S [97]), .str (S [97, 97])] : List PyData).map emb := by
        have a1 : Str.ofString "a" = S [97] := by decide
        have a2 : Str.ofString "aa" = S [97, 97] := by decide
        simp [emb, a1, a2]
      rw [e1]
      have e2 : optAV (some v) = emb (.str (S v)) := by simp [optAV, emb]
      rw [e2]
      refine Op2.in_lst (by intro d hd; simp at hd; rcases hd with rfl | rfl <;> exact lay_S (by decide)) (lay_S hv128) (by simp [PyData.depth]; omega) ⟨_, rfl, ?_⟩
      have e3 : (([.str (S [97]), .str (S [97, 97])] : List PyData).any (PyData.eqv · (.str (S v)))) = decide (v = [97] ∨ v = [97, 97]) := by
        simp only [List.any_cons, List.any_nil, PyData.eqv, S_beq, Bool.or_false]
        by_cases c1 : v = [97]
        · subst c1; decide
        · by_cases c2 : v = [97, 97]
          · subst c2; decide
          · simp [c1, c2, Ne.symm c1, Ne.symm c2, eq_comm]
      rw [e3]
      have q1 : Str.ofString "=" = S [61] := by decide
      have q2 : Str.ofString "=\"" = S [61, 34] := by decide
      have q3 : Str.ofString "\"" = S [34] := by decide
      by_cases hc : v = [97] ∨ v = [97, 97]
      · rw [if_pos (decide_eq_true hc)]
        refine Ex.cons (Ex1.ret (Ev.binop (Ev.binop (Ev.loc hE rfl rfl (Ev.str (Op2.add_str (by rw [sz16]; simp [Str.length, q1]) ?_))))))
        refine Ev.loc hE rfl rfl ?_
        rw [q1, S_app]
        refine Op2.add_str (by rw [sz16]; simp [Str.length]; omega) (hΦ₀ _ _ ⟨0, Shut.str, shutW_nil, ?_, rfl⟩)
        rw [S_app]
        simp [written, hc, sv, retOf, fz]
      · rw [if_neg (by simpa using hc)]
        refine Ex.nil (Ex.cons (Ex1.ret (Ev.binop (Ev.binop (Ev.binop (Ev.loc hE rfl rfl (Ev.str (Op2.add_str (by rw [sz16]; simp [Str.length, q2]) ?_))))))))
        refine Ev.meth (Ev.str ⟨"str", "str.join", PySem.F.plainAttrs_str, PySem.F.slot_str_join, PySem.F.type_str_join, HasT.str, Evs.cons (Ev.comp (cl := []) (ce' := []) rfl ⟨by simp, fun c hc => (nomatch hc), fun x c hc => (nomatch hc)⟩ (Ev.loc hE rfl rfl ⟨_, Iterable.str hA.handled ?_, fun x v hx => (nomatch hx), ?_⟩))⟩)
        · show (S v).cps.all (· < 128) = true
          rw [List.all_toArray, List.all_eq_true]
          intro c hc'
          simpa using hv128 c hc'
        · rintro B' ⟨c, K', h', ad', rfl⟩
          refine CompL.inv (I := fun l ys σ' => ∃ (r : T) (acc : List T), l = r.map (fun c => .str ⟨#[c]⟩) ∧ ys = acc.map sv ∧ (∀ c ∈ r, c < 128) ∧ acc.length + r.length ≤ 1000 ∧ σ'.ow = [.lst (acc.map sv)] ∧ acc.flatten ++ esc r = esc v) ?_ ?_ _ _ _ ⟨v, [], rfl, rfl, hv128, by simpa using hv, rfl, rfl⟩
          · rintro ys σ' ⟨r, acc, i1, rfl, i3, i4, i5, i6⟩
            have : r = [] := by cases r with | nil => rfl | cons _ _ => cases i1
            subst this
            have i6' : acc.flatten = esc v := by simpa [esc] using i6
            refine ⟨shutW_nil, shut_svs _ _, Evs.nil ?_⟩
            have em : acc.map sv = (acc.map S).map .str := by rw [List.map_map]; rfl
            rw [em]
            have hlen : (esc v).length ≤ 2000 := Nat.le_trans (esc_length v) (by omega)
            refine Op.join_lst ?_ ?_
            · have z : (Str.ofString "").length = 0 := by decide
              rw [z, Nat.mul_zero, Nat.add_zero, sum_len, i6']
              omega
            rw [join_nil, i6', q2, S_app]
            refine Op2.add_str (by rw [sz16]; simp [Str.length]; omega) ?_
            rw [S_app]
            refine Ev.str ?_
            rw [q3]
            refine Op2.add_str (by rw [sz16]; simp [Str.length]; omega) (hΦ₀ _ _ ⟨0, Shut.str, shutW_nil, ?_, rfl⟩)
            rw [S_app]
            simp [written, hc, sv, retOf, fz]
          · rintro x xs ys σ' io ⟨r, acc, i1, rfl, i3, i4, i5, i6⟩
            cases r with
            | nil => cases i1
            | cons c r =>
              cases i1
              refine Asg.name (compEnvOk hE rfl) rfl ?_
              show Ev _ _ _ _ _ _ _
              refine Ev.pin (w := sv (esc1 c)) ?_ ?_
              · refine Ev.ifexp (Tr.compare (Ev.loc (compEnvOk hE rfl) rfl look_eq (Ev.str (Op2.in_str ⟨_, rfl, ?_⟩))))
                rw [in_special c (i3 c (.head _))]
                by_cases hs : c = 34 ∨ c = 92
                · rw [if_pos (decide_eq_true hs)]
                  have q4 : Str.ofString "\\" = S [92] := by decide
                  refine Ev.binop (Ev.str (Ev.loc (compEnvOk hE rfl) rfl look_eq (Op2.add_str (by rw [sz16, q4]; simp [Str.length]) ⟨?_, rfl⟩)))
                  rw [q4, S_app]
                  simp [sv, esc1, hs]
                · rw [if_neg (by simpa using hs)]
                  refine Ev.loc (compEnvOk hE rfl) rfl look_eq ⟨?_, rfl⟩
                  simp [sv, esc1, hs]
              · refine ⟨by show σ'.ow[0]? = _; rw [i5]; rfl, by rw [sz16, List.length_map]; simp at i4; omega, r, acc ++ [esc1 c], rfl, by simp, fun d hd => i3 d (.tail _ hd), by simp at i4 ⊢; omega, ?_, ?_⟩
                · show σ'.ow.set 0 _ = _
                  rw [i5, List.map_append]; rfl
                · rw [← i6]; simp [esc]
end Mine
end

section
open PySem PySem.W PyProof.Rows PySem.Calls
set_option autoImplicit false
set_option linter.unusedVariables false
set_option maxRecDepth 100000
namespace Mine

theorem fn_unmatched {G : Glob} {P : Params} (C : Ctx G P) (n : Nat) (text : T) (sp : List Int) (b e : Nat) (hb : sp[0]? = some (b : Int)) (he : sp[1]? = some (e : Int)) (hl : 2 ≤ sp.length) (hz : text.length ≤ 1000000) (h1 : b ≤ text.length) (h2 : e ≤ text.length) :
    Fun G (n + 1) 43 [.mat (S text) sp] [] (fun r ws => r = sv (text.take b ++ text.drop e) ∧ ws = []) := by
  have hf := C.fn (a := 43) rfl rfl rfl rfl rfl rfl rfl rfl rfl rfl rfl rfl rfl
  refine Fun.of_body C.ok hf (ns := [Str.ofString "match"]) (by decide) rfl (fun us hu => ?_) (by decide) (by decide) (fun A L fr K h₀ ad hA => ?_)
  · obtain ⟨u, rfl⟩ := one_of hu
    rfl
  · have hE := hf.env L
    clear hf
    have hlen : (S text).length = text.length := by simp [Str.length]
    refine Ex.cons (Ex1.assign2 hA.handled hE rfl rfl (Ev.meth (Ev.loc hE rfl rfl ⟨"re.Match", "re.Match.span", pa_mat, slot_span, type_span, HasT.mat, Evs.cons (Ev.int (Evs.nil (Op.span hb he hl ⟨_, _, .tup _ _, ?_⟩)))⟩)))
    refine Ex.cons (Ex1.ret (Ev.binop (Ev.subscript (Ev.string (Ev.loc hE rfl rfl ⟨_, _, rfl, ?_⟩)))))
    refine Ev.slice (EvP.none (EvP.some (Ev.loc hE rfl rfl ⟨_, rfl, EvP.none ?_⟩)))
    intro vl vu vs pl pu ps
    refine Sub.str_upto pl pu ps (by rw [hlen]; exact h1) (by rw [sz16, hlen]; omega) ?_
    refine Ev.subscript (Ev.string (Ev.loc hE rfl rfl ⟨_, _, rfl, ?_⟩))
    refine Ev.slice (EvP.some (Ev.loc hE rfl rfl ⟨_, rfl, EvP.none (EvP.none ?_)⟩))
    intro vl' vu' vs' pl' pu' ps'
    refine Sub.str_from pl' pu' ps' (by rw [hlen]; exact h2) (by rw [sz16, hlen]; omega) ?_
    refine Op2.add_str (by rw [sz16]; simp [Str.length]; omega) ⟨0, Shut.str, shutW_nil, ?_, rfl⟩
    rw [S_app]
    rfl
end Mine
end

section
open PySem PySem.W PyProof.Rows PySem.Calls
set_option autoImplicit false
set_option linter.unusedVariables false
set_option maxRecDepth 100000
namespace Mine

/-- what the one list has beyond the other, both rising -/
def sdiff : List T → List T → List T × List T
  | [], ys => ([], ys)
  | xs, [] => (xs, [])
  | x :: xs, y :: ys =>
    if x < y then (x :: (sdiff xs (y :: ys)).1, (sdiff xs (y :: ys)).2)
    else if y < x then ((sdiff (x :: xs) ys).1, y :: (sdiff (x :: xs) ys).2)
    else sdiff xs ys
termination_by xs ys => xs.length + ys.length

structure SdSt (xs ys : List T) (i j : Nat) (m u : List T) (σ : St) : Prop where
  ex : σ.lo.lookup (Str.ofString "expected") = some (.lst (xs.map sv))
  ac : σ.lo.lookup (Str.ofString "actual") = some (.lst (ys.map sv))
  hi : σ.lo.lookup (Str.ofString "i") = some (.int (i : Nat))
  hj : σ.lo.lookup (Str.ofString "j") = some (.int (j : Nat))
  hm : σ.lo.lookup (Str.ofString "missing") = some (.own 0)
  hu : σ.lo.lookup (Str.ofString "unexpected") = some (.own 1)
  ow : σ.ow = [.lst (m.map sv), .lst (u.map sv)]
  li : i ≤ xs.length
  lj : j ≤ ys.length
  lm : m.length ≤ i
  lu : u.length ≤ j

theorem SdSt.set {xs ys : List T} {i j : Nat} {m u : List T} {σ : St} (h : SdSt xs ys i j m u σ) {x : Str} {v : AV} (hx : ([Str.ofString "expected", Str.ofString "actual", Str.ofString "i", Str.ofString "j", Str.ofString "missing", Str.ofString "unexpected"].all fun y => !decide (y = x)) = true) : SdSt xs ys i j m u { σ with lo := setL σ.lo x v } := by
  simp only [List.all_cons, List.all_nil, Bool.and_true, Bool.and_eq_true, Bool.not_eq_true'] at hx
  obtain ⟨h1, h2, h3, h4, h5, h6⟩ := hx
  exact ⟨look_ne h.ex h1, look_ne h.ac h2, look_ne h.hi h3, look_ne h.hj h4, look_ne h.hm h5, look_ne h.hu h6, h.ow, h.li, h.lj, h.lm, h.lu⟩
theorem SdSt.next_i {xs ys : List T} {i j : Nat} {m u : List T} {σ : St} (h : SdSt xs ys i j m u σ) (hi : i < xs.length) (lo' : St) (e1 : lo' = { σ with lo := setL σ.lo (Str.ofString "i") (.int ((i : Nat) + 1)) }) : SdSt xs ys (i + 1) j m u lo' := by
  subst e1
  exact ⟨look_ne h.ex (by decide), look_ne h.ac (by decide), look_eq, look_ne h.hj (by decide), look_ne h.hm (by decide), look_ne h.hu (by decide), h.ow, hi, h.lj, Nat.le_succ_of_le h.lm, h.lu⟩
theorem SdSt.next_j {xs ys : List T} {i j : Nat} {m u : List T} {σ : St} (h : SdSt xs ys i j m u σ) (hj : j < ys.length) (lo' : St) (e1 : lo' = { σ with lo := setL σ.lo (Str.ofString "j") (.int ((j : Nat) + 1)) }) : SdSt xs ys i (j + 1) m u lo' := by
  subst e1
  exact ⟨look_ne h.ex (by decide), look_ne h.ac (by decide), look_ne h.hi (by decide), look_eq, look_ne h.hm (by decide), look_ne h.hu (by decide), h.ow, h.li, hj, h.lm, Nat.le_succ_of_le h.lu⟩
theorem drop_cons {xs : List T} {i : Nat} {e : T} {r : List T} (h : xs.drop i = e :: r) : xs[i]? = some e ∧ xs.drop (i + 1) = r ∧ i < xs.length := by
  have hi : i < xs.length := by
    rcases Nat.lt_or_ge i xs.length with z | z
    · exact z
    · rw [List.drop_eq_nil_of_le z] at h; cases h
  rw [List.drop_eq_getElem_cons hi] at h
  injection h with h1 h2
  exact ⟨by rw [List.getElem?_eq_getElem hi, h1], h2, hi⟩
theorem drop_nil {xs : List T} {i : Nat} (h : xs.drop i = []) : xs.length ≤ i := by
  have := congrArg List.length h
  simp at this; omega

theorem Ex.hideX {G : Glob} {B : Base} {A : Around} {σ : St} {ss : List Stmt} {Φ : AF → St → Prop} {Ψ : XPost} (h : ∀ (Φ' : AF → St → Prop) (Ψ' : XPost), (∀ f σ', Φ f σ' → Φ' f σ') → (∀ c σ', Ψ c σ' → Ψ' c σ') → Ex G B A σ ss Φ' Ψ') : Ex G B A σ ss Φ Ψ := h Φ Ψ (fun _ _ z => z) (fun _ _ z => z)

theorem fn_sorted_diff {G : Glob} {P : Params} (C : Ctx G P) (n : Nat) (xs ys : List T) (lx : xs.length ≤ 1000) (ly : ys.length ≤ 1000) (px : xs.Pairwise (· < ·)) (py : ys.Pairwise (· < ·)) :
    Fun G (n + 2) 122 [.lst (xs.map sv), .lst (ys.map sv)] [] (fun r ws => r = .tup [.lst ((sdiff xs ys).1.map sv), .lst ((sdiff xs ys).2.map sv)] ∧ ws = []) := by
  have hf := C.fn (a := 122) rfl rfl rfl rfl rfl rfl rfl rfl rfl rfl rfl rfl rfl
  refine Fun.of_body C.ok hf (ns := [Str.ofString "expected", Str.ofString "actual"]) (by decide) rfl (fun us hu => ?_) (by decide) (by decide) (fun A L fr K h₀ ad hA => ?_)
  · obtain ⟨u, v, rfl⟩ := two_of hu
    rfl
  · have hE := hf.env L
    have O := hf.own (K := K) (h₀ := h₀) (ad := ad) hA.frames
    clear hf
    have b16 : ∀ l : List T, l.length ≤ 1000 → (l.map sv).length ≤ sizeLine := fun l hl => by rw [sz16, List.length_map]; omega
    refine Ex.hide fun Φ₀ hΦ₀ => ?_
    refine Ex.cons (Ex1.assignBoth hE rfl rfl (Ev.int ?_))
    refine Ex.cons (Ex1.assign hE rfl (Ev.listOwn ?_))
    refine Ex.cons (Ex1.assign hE rfl (Ev.listOwn ?_))
    refine Ex.cons (Do.mono (Φ := fun f σ => f = .next ∧ σ.lo.lookup (Str.ofString "missing") = some (.own 0) ∧ σ.lo.lookup (Str.ofString "unexpected") = some (.own 1) ∧ σ.ow = [.lst ((sdiff xs ys).1.map sv), .lst ((sdiff xs ys).2.map sv)]) (Ex1.while (I := fun k σ => ∃ i j m u, SdSt xs ys i j m u σ ∧ k = (xs.length - i) + (ys.length - j) ∧ (m ++ (sdiff (xs.drop i) (ys.drop j)).1, u ++ (sdiff (xs.drop i) (ys.drop j)).2) = sdiff xs ys) (xs.length + ys.length) ⟨0, 0, [], [], ⟨rfl, rfl, rfl, rfl, rfl, rfl, rfl, by omega, by omega, by simp, by simp⟩, by omega, by simp⟩ ?_) ?_)
    · rintro k σ ⟨i, j, m, u, S₁, hk, hr⟩
      refine Tr.value (Ev.bool (Op1.true_bool ?_))
      rw [if_pos rfl]
      refine Ex.cons (Ex1.tryExcept C.ok O hE exc_index rfl (C.b _ _ rfl).1 (C.b _ _ rfl).2 ?_)
      refine Do.monoX (Ψ := fun c σ₁ => c.cls = "IndexError" ∧ ∃ i j m u, SdSt xs ys i j m u σ₁ ∧ (m ++ xs.drop i, u ++ ys.drop j) = sdiff xs ys) ?_ ?_
      · refine Ex.hideX fun Φ₁ Ψ₁ hΦ₁ hΨ₁ => ?_
        cases hX : xs.drop i with
        | nil =>
          have hxi := drop_nil hX
          refine Ex.cons (Ex1.assign hE rfl (Ev.subscript (Ev.loc hE rfl S₁.ex (Ev.loc hE rfl S₁.hi (Sub.lst_out (.inl hA.handled) (Int.natCast_nonneg _) (by rw [Int.toNat_natCast, List.length_map]; exact hxi) (by have := S₁.li; omega) (hΨ₁ _ _ ⟨rfl, i, j, m, u, S₁, ?_⟩))))))
          rw [← hr, hX]
          simp [sdiff]
        | cons e X' =>
          obtain ⟨ge, dX, hix⟩ := drop_cons hX
          refine Ex.cons (Ex1.assign hE rfl (Ev.subscript (Ev.loc hE rfl S₁.ex (Ev.loc hE rfl S₁.hi (Sub.lst (Int.natCast_nonneg _) (by rw [Int.toNat_natCast]; exact sv_get ge) (by first | exact b16 _ lx | exact b16 _ ly) ?_)))))
          have S₂ := S₁.set (x := Str.ofString "e") (v := sv e) (by decide)
          cases hY : ys.drop j with
          | nil =>
            have hyj := drop_nil hY
            refine Ex.cons (Ex1.assign hE rfl (Ev.subscript (Ev.loc hE rfl S₂.ac (Ev.loc hE rfl S₂.hj (Sub.lst_out (.inl hA.handled) (Int.natCast_nonneg _) (by rw [Int.toNat_natCast, List.length_map]; exact hyj) (by have := S₁.lj; omega) (hΨ₁ _ _ ⟨rfl, i, j, m, u, S₂, ?_⟩))))))
            rw [← hr, hX, hY]
            simp [sdiff]
          | cons a Y' =>
            obtain ⟨ga, dY, hjy⟩ := drop_cons hY
            refine Ex.cons (Ex1.assign hE rfl (Ev.subscript (Ev.loc hE rfl S₂.ac (Ev.loc hE rfl S₂.hj (Sub.lst (Int.natCast_nonneg _) (by rw [Int.toNat_natCast]; exact sv_get ga) (by first | exact b16 _ lx | exact b16 _ ly) ?_)))))
            have S₃ := S₂.set (x := Str.ofString "a") (v := sv a) (by decide)
            have hpX : (e :: X').Pairwise (· < ·) := hX ▸ px.sublist (List.drop_sublist ..)
            have hpY : (a :: Y').Pairwise (· < ·) := hY ▸ py.sublist (List.drop_sublist ..)
            rw [hX, hY] at hr
            refine Ex.cons (Ex1.if (Tr.compare (Ev.loc hE rfl (look_ne look_eq (by decide)) (Ev.loc hE rfl look_eq (Op2.lt_str ⟨_, rfl, ?_⟩)))))
            rw [S_list, S_list]
            by_cases hea : e < a
            · rw [if_pos (decide_eq_true hea)]
              rw [sdiff, if_pos hea] at hr
              refine Ex.cons (Ex1.expr (Ev.meth (Ev.loc hE rfl S₃.hm ⟨"list", "list.append", PySem.F.plainAttrs_list, slot_list_append, PySem.F.type_list_append, HasT.own (xs := m.map sv) (by rw [S₃.ow]; rfl), Evs.cons (Ev.loc hE rfl (look_ne look_eq (by decide)) (Evs.nil (Op.append (xs := m.map sv) (by rw [S₃.ow]; rfl) (by rw [sz16, List.length_map]; have := S₃.lm; omega) ⟨rfl, ?_⟩)))⟩)))
              refine Ex.cons (Ex1.aug hE rfl S₃.hi (Ev.int (Op2.iadd_int ?_)))
              have S₄ : SdSt xs ys (i + 1) j (m ++ [e]) u { lo := setL (setL (setL σ.lo (Str.ofString "e") (sv e)) (Str.ofString "a") (sv a)) (Str.ofString "i") (.int ((i : Nat) + 1)), ce := σ.ce, ow := σ.ow.set 0 (.lst (m.map sv ++ [sv e])) } :=
                ⟨look_ne S₃.ex (by decide), look_ne S₃.ac (by decide), look_eq, look_ne S₃.hj (by decide), look_ne S₃.hm (by decide), look_ne S₃.hu (by decide), by show σ.ow.set 0 _ = _; rw [S₁.ow, List.map_append]; rfl, hix, S₁.lj, by simp; exact S₁.lm, S₁.lu⟩
              refine Ex.cons (Ex1.whileX O (I := fun _ σ' => σ' = _) 0 rfl ?_)
              rintro _ _ rfl
              refine Tr.compare (Ev.subscript (Ev.loc hE rfl S₄.ex (Ev.loc hE rfl S₄.hi ?_)))
              cases X' with
              | nil =>
                refine Sub.lst_out (.inl hA.handled) (Int.natCast_nonneg _) (by rw [Int.toNat_natCast, List.length_map]; exact drop_nil dX) (by omega) (hΨ₁ _ _ ⟨rfl, i + 1, j, m ++ [e], u, S₄, ?_⟩)
                rw [← hr, dX, hY]
                simp [sdiff]
              | cons x X'' =>
                obtain ⟨gx, _, hix'⟩ := drop_cons dX
                have hne : x ≠ e := fun q => by
                  have := (List.pairwise_cons.mp hpX).1 x (.head _)
                  rw [q] at this; exact absurd this (List.lt_irrefl _)
                refine Sub.lst (Int.natCast_nonneg _) (by rw [Int.toNat_natCast]; exact sv_get gx) (by first | exact b16 _ lx | exact b16 _ ly) ?_
                refine Ev.loc hE rfl (look_ne (look_ne look_eq (by decide)) (by decide)) (Op2.eq_str ⟨_, rfl, ?_⟩)
                rw [S_beq, decide_eq_false hne, if_neg Bool.false_ne_true]
                refine Ex.nil (Ex.nil (hΦ₁ _ _ (Ex.nil ⟨(xs.length - (i + 1)) + (ys.length - j), by omega, i + 1, j, m ++ [e], u, S₄, rfl, ?_⟩)))
                rw [dX, hY, ← hr]
                simp
            · rw [if_neg (by simpa using hea)]
              refine Ex.cons (Ex1.if (Tr.compare (Ev.loc hE rfl (look_ne look_eq (by decide)) (Ev.loc hE rfl look_eq (Op2.gt_str ⟨_, rfl, ?_⟩)))))
              rw [S_list, S_list]
              by_cases hae : a < e
              · rw [if_pos (decide_eq_true hae)]
                rw [sdiff, if_neg hea, if_pos hae] at hr
                refine Ex.cons (Ex1.expr (Ev.meth (Ev.loc hE rfl S₃.hu ⟨"list", "list.append", PySem.F.plainAttrs_list, slot_list_append, PySem.F.type_list_append, HasT.own (xs := u.map sv) (by rw [S₃.ow]; rfl), Evs.cons (Ev.loc hE rfl look_eq (Evs.nil (Op.append (xs := u.map sv) (by rw [S₃.ow]; rfl) (by rw [sz16, List.length_map]; have := S₃.lu; omega) ⟨rfl, ?_⟩)))⟩)))
                refine Ex.cons (Ex1.aug hE rfl S₃.hj (Ev.int (Op2.iadd_int ?_)))
                have S₄ : SdSt xs ys i (j + 1) m (u ++ [a]) { lo := setL (setL (setL σ.lo (Str.ofString "e") (sv e)) (Str.ofString "a") (sv a)) (Str.ofString "j") (.int ((j : Nat) + 1)), ce := σ.ce, ow := σ.ow.set 1 (.lst (u.map sv ++ [sv a])) } :=
                  ⟨look_ne S₃.ex (by decide), look_ne S₃.ac (by decide), look_ne S₃.hi (by decide), look_eq, look_ne S₃.hm (by decide), look_ne S₃.hu (by decide), by show σ.ow.set 1 _ = _; rw [S₁.ow, List.map_append]; rfl, S₁.li, hjy, S₁.lm, by simp; exact S₁.lu⟩
                refine Ex.cons (Ex1.whileX O (I := fun _ σ' => σ' = _) 0 rfl ?_)
                rintro _ _ rfl
                refine Tr.compare (Ev.subscript (Ev.loc hE rfl S₄.ac (Ev.loc hE rfl S₄.hj ?_)))
                cases Y' with
                | nil =>
                  refine Sub.lst_out (.inl hA.handled) (Int.natCast_nonneg _) (by rw [Int.toNat_natCast, List.length_map]; exact drop_nil dY) (by omega) (hΨ₁ _ _ ⟨rfl, i, j + 1, m, u ++ [a], S₄, ?_⟩)
                  rw [← hr, dY, hX]
                  simp [sdiff]
                | cons y Y'' =>
                  obtain ⟨gy, _, hjy'⟩ := drop_cons dY
                  have hne : y ≠ a := fun q => by
                    have := (List.pairwise_cons.mp hpY).1 y (.head _)
                    rw [q] at this; exact absurd this (List.lt_irrefl _)
                  refine Sub.lst (Int.natCast_nonneg _) (by rw [Int.toNat_natCast]; exact sv_get gy) (by first | exact b16 _ lx | exact b16 _ ly) ?_
                  refine Ev.loc hE rfl (look_ne look_eq (by decide)) (Op2.eq_str ⟨_, rfl, ?_⟩)
                  rw [S_beq, decide_eq_false hne, if_neg Bool.false_ne_true]
                  refine Ex.nil (Ex.nil (Ex.nil (hΦ₁ _ _ (Ex.nil ⟨(xs.length - i) + (ys.length - (j + 1)), by omega, i, j + 1, m, u ++ [a], S₄, rfl, ?_⟩))))
                  rw [dY, hX, ← hr]
                  simp
              · rw [if_neg (by simpa using hae)]
                rw [sdiff, if_neg hea, if_neg hae] at hr
                refine Ex.cons (Ex1.aug hE rfl S₃.hi (Ev.int (Op2.iadd_int ?_)))
                have S₄ := S₃.next_i hix _ rfl
                refine Ex.cons (Ex1.tryFinally O ?_)
                refine Ex.cons (Ex1.whileX O (I := fun _ σ' => σ' = _) 0 rfl ?_)
                rintro _ _ rfl
                refine Tr.compare (Ev.subscript (Ev.loc hE rfl S₄.ex (Ev.loc hE rfl S₄.hi ?_)))
                have S₅ := S₄.next_j hjy _ rfl
                have hya : ∀ y Y'', Y' = y :: Y'' → y ≠ a := fun y Y'' q z => by
                  subst q
                  have := (List.pairwise_cons.mp hpY).1 y (.head _)
                  rw [z] at this; exact absurd this (List.lt_irrefl _)
                cases X' with
                | nil =>
                  refine Sub.lst_out (.inl hA.handled) (Int.natCast_nonneg _) (by rw [Int.toNat_natCast, List.length_map]; exact drop_nil dX) (by omega) ⟨by rw [hA.handled]; rfl, fun ea o vs io hd h2 => ?_⟩
                  refine Ex.cons (Ex1.aug hE rfl S₄.hj (Ev.int (Op2.iadd_int ?_)))
                  refine Ex.cons (Ex1.whileX ⟨O.fe, O.fl, O.cs, O.fr⟩ (I := fun _ σ' => σ' = _) 0 rfl ?_)
                  rintro _ _ rfl
                  refine Tr.compare (Ev.subscript (Ev.loc hE rfl S₅.ac (Ev.loc hE rfl S₅.hj ?_)))
                  cases Y' with
                  | nil =>
                    refine Sub.lst_out (.inr ⟨ea, o, vs, rfl, .tail _ (.head _), hd, h2⟩) (Int.natCast_nonneg _) (by rw [Int.toNat_natCast, List.length_map]; exact drop_nil dY) (by omega) (hΨ₁ _ _ ⟨rfl, i + 1, j + 1, m, u, S₅, ?_⟩)
                    rw [← hr, dX, dY]
                    simp [sdiff]
                  | cons y Y'' =>
                    obtain ⟨gy, _, _⟩ := drop_cons dY
                    refine Sub.lst (Int.natCast_nonneg _) (by rw [Int.toNat_natCast]; exact sv_get gy) (by first | exact b16 _ lx | exact b16 _ ly) ?_
                    refine Ev.loc hE rfl (look_ne (look_ne look_eq (by decide)) (by decide)) (Op2.eq_str ⟨_, rfl, ?_⟩)
                    rw [S_beq, decide_eq_false (hya y Y'' rfl), if_neg Bool.false_ne_true]
                    refine Ex.nil ⟨rfl, hΨ₁ _ _ ⟨rfl, i + 1, j + 1, m, u, S₅, ?_⟩⟩
                    rw [← hr, dX, dY]
                    simp [sdiff]
                | cons x X'' =>
                  obtain ⟨gx, _, hix'⟩ := drop_cons dX
                  have hne : x ≠ e := fun q => by
                    have := (List.pairwise_cons.mp hpX).1 x (.head _)
                    rw [q] at this; exact absurd this (List.lt_irrefl _)
                  refine Sub.lst (Int.natCast_nonneg _) (by rw [Int.toNat_natCast]; exact sv_get gx) (by first | exact b16 _ lx | exact b16 _ ly) ?_
                  refine Ev.loc hE rfl (look_ne (look_ne look_eq (by decide)) (by decide)) (Op2.eq_str ⟨_, rfl, ?_⟩)
                  rw [S_beq, decide_eq_false hne, if_neg Bool.false_ne_true]
                  refine Ex.nil ⟨rfl, ?_⟩
                  refine Ex.cons (Ex1.aug hE rfl S₄.hj (Ev.int (Op2.iadd_int ?_)))
                  refine Ex.cons (Ex1.whileX O (I := fun _ σ' => σ' = _) 0 rfl ?_)
                  rintro _ _ rfl
                  refine Tr.compare (Ev.subscript (Ev.loc hE rfl S₅.ac (Ev.loc hE rfl S₅.hj ?_)))
                  cases Y' with
                  | nil =>
                    refine Sub.lst_out (.inl hA.handled) (Int.natCast_nonneg _) (by rw [Int.toNat_natCast, List.length_map]; exact drop_nil dY) (by omega) (hΨ₁ _ _ ⟨rfl, i + 1, j + 1, m, u, S₅, ?_⟩)
                    rw [← hr, dX, dY]
                    simp [sdiff]
                  | cons y Y'' =>
                    obtain ⟨gy, _, _⟩ := drop_cons dY
                    refine Sub.lst (Int.natCast_nonneg _) (by rw [Int.toNat_natCast]; exact sv_get gy) (by first | exact b16 _ lx | exact b16 _ ly) ?_
                    refine Ev.loc hE rfl (look_ne (look_ne look_eq (by decide)) (by decide)) (Op2.eq_str ⟨_, rfl, ?_⟩)
                    rw [S_beq, decide_eq_false (hya y Y'' rfl), if_neg Bool.false_ne_true]
                    refine Ex.nil ⟨rfl, Ex.nil (Ex.nil (Ex.nil (hΦ₁ _ _ (Ex.nil ⟨(xs.length - (i + 1)) + (ys.length - (j + 1)), by omega, i + 1, j + 1, m, u, S₅, rfl, ?_⟩))))⟩
                    rw [dX, dY, ← hr]
      · rintro c σ₁ ⟨hc, i, j, m, u, S₂, hr₂⟩
        refine ⟨hc, fun e => ?_⟩
        have hm : m.length + (xs.drop i).length ≤ sizeLine := by rw [sz16, List.length_drop]; have := S₂.lm; have := S₂.li; omega
        have hu' : u.length + (ys.drop j).length ≤ sizeLine := by rw [sz16, List.length_drop]; have := S₂.lu; have := S₂.lj; omega
        refine Ex.cons (Ex1.expr (Ev.meth (Ev.loc hE rfl S₂.hm ⟨"list", "list.extend", PySem.F.plainAttrs_list, PySem.F.slot_list_extend, PySem.F.type_list_extend, HasT.own (xs := m.map sv) (by rw [S₂.ow]; rfl), Evs.cons (Ev.subscript (Ev.loc hE rfl S₂.ex (Ev.slice (EvP.some (Ev.loc hE rfl S₂.hi ⟨_, rfl, EvP.none (EvP.none ?_)⟩)))))⟩)))
        intro vl vu vs pl pu ps
        refine Sub.lst_from pl pu ps (by omega) (by first | exact b16 _ lx | exact b16 _ ly) (Evs.nil (Op.extend (xs := m.map sv) (by rw [S₂.ow]; rfl) (by rw [Int.toNat_natCast, ← List.map_drop, List.length_map, List.length_map]; exact hm) ⟨rfl, ?_⟩))
        refine Ex.cons (Ex1.expr (Ev.meth (Ev.loc hE rfl S₂.hu ⟨"list", "list.extend", PySem.F.plainAttrs_list, PySem.F.slot_list_extend, PySem.F.type_list_extend, HasT.own (xs := u.map sv) (by rw [S₂.ow]; rfl), Evs.cons (Ev.subscript (Ev.loc hE rfl S₂.ac (Ev.slice (EvP.some (Ev.loc hE rfl S₂.hj ⟨_, rfl, EvP.none (EvP.none ?_)⟩)))))⟩)))
        intro vl' vu' vs' pl' pu' ps'
        refine Sub.lst_from pl' pu' ps' (by omega) (by first | exact b16 _ lx | exact b16 _ ly) (Evs.nil (Op.extend (xs := u.map sv) (by rw [S₂.ow]; rfl) (by rw [Int.toNat_natCast, ← List.map_drop, List.length_map, List.length_map]; exact hu') ⟨rfl, ?_⟩))
        refine Ex.cons (Ex1.brk ⟨rfl, S₂.hm, S₂.hu, ?_⟩)
        show (σ₁.ow.set 0 _).set 1 _ = _
        rw [S₂.ow, ← hr₂, Int.toNat_natCast, Int.toNat_natCast, List.map_append, List.map_append, List.map_drop, List.map_drop]
        rfl
    · rintro f σ ⟨rfl, l1, l2, l3⟩
      refine Ex.cons (Ex1.ret (Ev.tuple (Evs.cons (Ev.loc hE rfl l1 (Evs.cons (Ev.loc hE rfl l2 (Evs.nil ⟨len2, hΦ₀ _ _ ⟨2, ?_⟩⟩)))))))
      have z : fz 0 σ.ow 2 (.tup [.own 0, .own 1]) = .tup [.lst ((sdiff xs ys).1.map sv), .lst ((sdiff xs ys).2.map sv)] := by rw [l3, fz_two]
      exact ⟨z ▸ Shut.tup (Shut.cons (Shut.lst (shut_svs _ _)) (Shut.cons (Shut.lst (shut_svs _ _)) Shut.nil)), shutW_nil, z, rfl⟩
end Mine
end

section
open PySem PySem.W PyProof.Rows PySem.Calls
set_option autoImplicit false
set_option linter.unusedVariables false
set_option maxRecDepth 100000
namespace Mine
open PySem.Sre PySem.Builtin.Re

theorem Ctx.pTwin {G : Glob} {P : Params} (C : Ctx G P) : PatAt G 36 cTwin 0 := ⟨_, _, _, _, _, _, _, _, _, _, _, C.frag 36 _ rfl, rfl, rfl, rfl, C.frag _ _ rfl, rfl, by kernel_rfl⟩
theorem Ctx.pTok {G : Glob} {P : Params} (C : Ctx G P) : PatAt G 48 cTok 1 := ⟨_, _, _, _, _, _, _, _, _, _, _, C.frag 48 _ rfl, rfl, rfl, rfl, C.frag _ _ rfl, rfl, by kernel_rfl⟩
theorem Ctx.pQuo {G : Glob} {P : Params} (C : Ctx G P) : PatAt G 53 cQuo 1 := ⟨_, _, _, _, _, _, _, _, _, _, _, C.frag 53 _ rfl, rfl, rfl, rfl, C.frag _ _ rfl, rfl, by kernel_rfl⟩
theorem Ctx.pVal {G : Glob} {P : Params} (C : Ctx G P) : PatAt G 58 cVal 1 := ⟨_, _, _, _, _, _, _, _, _, _, _, C.frag 58 _ rfl, rfl, rfl, rfl, C.frag _ _ rfl, rfl, by kernel_rfl⟩
theorem Ctx.pEsc {G : Glob} {P : Params} (C : Ctx G P) : PatAt G 63 cEsc 1 := ⟨_, _, _, _, _, _, _, _, _, _, _, C.frag 63 _ rfl, rfl, rfl, rfl, C.frag _ _ rfl, rfl, by kernel_rfl⟩
theorem Ctx.pJTok {G : Glob} {P : Params} (C : Ctx G P) : PatAt G 75 cJTok 0 := ⟨_, _, _, _, _, _, _, _, _, _, _, C.frag 75 _ rfl, rfl, rfl, rfl, C.frag _ _ rfl, rfl, by kernel_rfl⟩
theorem Ctx.pJEsc {G : Glob} {P : Params} (C : Ctx G P) : PatAt G 80 cJEsc 1 := ⟨_, _, _, _, _, _, _, _, _, _, _, C.frag 80 _ rfl, rfl, rfl, rfl, C.frag _ _ rfl, rfl, by kernel_rfl⟩

theorem qesc_eq (l : T) : qesc l = esc l := by
  unfold qesc esc
  congr 1
  funext c
  unfold qesc1 esc1
  by_cases h : c = 34 ∨ c = 92
  · rw [if_pos h]
    rcases h with rfl | rfl <;> rfl
  · rw [if_neg h]
    have h1 : c.beq 34 = false := by
      cases q : c.beq 34 with
      | false => rfl
      | true => exact absurd (.inl (Nat.eq_of_beq_eq_true q)) h
    have h2 : c.beq 92 = false := by
      cases q : c.beq 92 with
      | false => rfl
      | true => exact absurd (.inr (Nat.eq_of_beq_eq_true q)) h
    rw [h1, h2]; rfl

/-- the values that want quotes -/
def qvals : List T := qv0 ++ (qvOf 32 ++ (qvOf 34 ++ (qvOf 92 ++ (qvOf 59 ++ (qvOf 44 ++ qvOf 61)))))
theorem in_q {p : T → Prop} (h0 : ∀ v ∈ qv0, p v) (h1 : ∀ v ∈ qvOf 32, p v) (h2 : ∀ v ∈ qvOf 34, p v) (h3 : ∀ v ∈ qvOf 92, p v) (h4 : ∀ v ∈ qvOf 59, p v) (h5 : ∀ v ∈ qvOf 44, p v) (h6 : ∀ v ∈ qvOf 61, p v) : ∀ v ∈ qvals, p v := fun v hv => by
  unfold qvals at hv
  simp only [List.mem_append] at hv
  rcases hv with h | h | h | h | h | h | h
  · exact h0 v h
  · exact h1 v h
  · exact h2 v h
  · exact h3 v h
  · exact h4 v h
  · exact h5 v h
  · exact h6 v h
theorem q_quo (rest : List Nat) : ∀ v ∈ qvals, ksearch 100 cQuo 1 (61 :: 34 :: (esc v ++ 34 :: rest)) = some ⟨0, 3 + (esc v).length, [some 2, some (2 + (esc v).length)], 1, 1⟩ := by
  have := in_q (List.map_inj_left.mp (quo0 rest)) (List.map_inj_left.mp (quo32 rest)) (List.map_inj_left.mp (quo34 rest)) (List.map_inj_left.mp (quo92 rest)) (List.map_inj_left.mp (quo59 rest)) (List.map_inj_left.mp (quo44 rest)) (List.map_inj_left.mp (quo61 rest))
  intro v hv
  have := this v hv
  rw [qesc_eq] at this
  exact this
theorem q_jt : ∀ v ∈ qvals, failedB ((forMatch cJTok v.toArray 0 0 v.length true false).runFor 50) = true := in_q (List.map_inj_left.mp jt0) (List.map_inj_left.mp jt32) (List.map_inj_left.mp jt34) (List.map_inj_left.mp jt92) (List.map_inj_left.mp jt59) (List.map_inj_left.mp jt44) (List.map_inj_left.mp jt61)
theorem q_je : ∀ v ∈ qvals, ksub cJEsc v (fun x => 92 :: x) 5 0 0 false = some (esc v) := by
  have := in_q (List.map_inj_left.mp je0) (List.map_inj_left.mp je32) (List.map_inj_left.mp je34) (List.map_inj_left.mp je92) (List.map_inj_left.mp je59) (List.map_inj_left.mp je44) (List.map_inj_left.mp je61)
  intro v hv
  have := this v hv
  rw [qesc_eq] at this
  exact this
theorem q_es : ∀ v ∈ qvals, ksub cEsc (esc v) (fun x => x) 5 0 0 false = some v := by
  have := in_q (List.map_inj_left.mp es0) (List.map_inj_left.mp es32) (List.map_inj_left.mp es34) (List.map_inj_left.mp es92) (List.map_inj_left.mp es59) (List.map_inj_left.mp es44) (List.map_inj_left.mp es61)
  intro v hv
  have := this v hv
  rw [qesc_eq] at this
  exact this

/-- the pairs that come up -/
structure Good (p : Pr) : Prop where
  key : p.1 ∈ [97, 98, 67]
  val : p.2 = none ∨ p.2 = some [97] ∨ p.2 = some [97, 97] ∨ ∃ v ∈ qvals, p.2 = some v

theorem q_len : ∀ v ∈ qvals, v.length ≤ 2 ∧ v ≠ [97] ∧ v ≠ [97, 97] := by decide +kernel
theorem Good.ok {p : Pr} (h : Good p) : okPr p := by
  refine ⟨?_, fun l hl c hc => ?_⟩
  · have := h.key
    simp only [List.mem_cons, List.not_mem_nil, or_false] at this
    omega
  · have hq : ∀ v ∈ qvals, ∀ c ∈ v, c < 128 := by decide +kernel
    rcases h.val with q | q | q | ⟨v, hv, q⟩
    · rw [q] at hl; cases hl
    · rw [q] at hl; cases hl; revert hc; revert c; decide
    · rw [q] at hl; cases hl; revert hc; revert c; decide
    · rw [q] at hl; cases hl; exact hq _ hv c hc
theorem Good.len {p : Pr} (h : Good p) : ∀ v, p.2 = some v → v.length ≤ 2 := fun v hv => by
  rcases h.val with q | q | q | ⟨w, hw, q⟩
  · rw [q] at hv; cases hv
  · rw [q] at hv; cases hv; decide
  · rw [q] at hv; cases hv; decide
  · rw [q] at hv; cases hv; exact (q_len _ hw).1
theorem written_len {p : Pr} (h : Good p) : (written p).length ≤ 8 := by
  have := h.len
  unfold written
  split
  · simp
  · rename_i v hv
    have := this v hv
    have := esc_length v
    split
    · simp; omega
    · simp; omega
theorem good_prOf (x : Int) : Good (prOf x) := by
  refine ⟨?_, ?_⟩
  · have y1 := fm_lo (x.fdiv 3) (b := 3) (by decide)
    have y2 := fm_hi (x.fdiv 3) (b := 3) (by decide)
    show [97, 98, 67].getD ((x.fdiv 3).fmod 3).toNat 0 ∈ _
    have hj : ((x.fdiv 3).fmod 3).toNat < 3 := by omega
    generalize ((x.fdiv 3).fmod 3).toNat = j at hj
    revert hj; revert j; decide
  · have k1 := fm_lo (x.fdiv 9) (b := 9) (by decide)
    have k2 := fm_hi (x.fdiv 9) (b := 9) (by decide)
    have m1 := fm_lo (x.fdiv 81) (b := 8) (by decide)
    have m2 := fm_hi (x.fdiv 81) (b := 8) (by decide)
    show prVal x = none ∨ prVal x = some [97] ∨ prVal x = some [97, 97] ∨ ∃ v ∈ qvals, prVal x = some v
    unfold prVal
    by_cases c0 : (x.fdiv 9).fmod 9 = 0
    · rw [if_pos c0]; exact .inl rfl
    · rw [if_neg c0]
      by_cases c1 : (x.fdiv 9).fmod 9 = 1
      · rw [if_pos c1]; exact .inr (.inr (.inr ⟨[], by decide, rfl⟩))
      · rw [if_neg c1]
        have key : ∀ a < 7, (∀ b < 7, (signs.getD a 0 :: [signs.getD b 0]) = [97, 97] ∨ (signs.getD a 0 :: [signs.getD b 0]) ∈ qvals) ∧ (signs.getD a 0 :: [] = [97] ∨ signs.getD a 0 :: [] ∈ qvals) := by decide +kernel
        have ha : ((x.fdiv 9).fmod 9 - 2).toNat < 7 := by omega
        by_cases c2 : 0 < (x.fdiv 81).fmod 8
        · rw [if_pos c2]
          have hb : ((x.fdiv 81).fmod 8 - 1).toNat < 7 := by omega
          rcases (key _ ha).1 _ hb with q | q
          · rw [q]; exact .inr (.inr (.inl rfl))
          · exact .inr (.inr (.inr ⟨_, q, rfl⟩))
        · rw [if_neg c2]
          rcases (key _ ha).2 with q | q
          · rw [q]; exact .inr (.inl rfl)
          · exact .inr (.inr (.inr ⟨_, q, rfl⟩))

theorem key_tok0 {k : Nat} (h : k ∈ [97, 98, 67]) : ksearch 100 cTok 1 [k] = some ⟨0, 1, [some 0, some 1], 1, 1⟩ := List.map_inj_left.mp tok0 k h
theorem key_tokE {k : Nat} (h : k ∈ [97, 98, 67]) (rest : T) : ksearch 100 cTok 1 (k :: 61 :: rest) = some ⟨0, 1, [some 0, some 1], 1, 1⟩ := List.map_inj_left.mp (tokE rest) k h
theorem key_tokS {k : Nat} (h : k ∈ [97, 98, 67]) (rest : T) : ksearch 100 cTok 1 (k :: 59 :: rest) = some ⟨0, 1, [some 0, some 1], 1, 1⟩ := List.map_inj_left.mp (tokS rest) k h
theorem key_twin {k : Nat} (h : k ∈ [97, 98, 67]) (rest : T) : ksearch 100 cTwin 0 (59 :: 32 :: k :: rest) = some ⟨0, 2, [], -1, -1⟩ := List.map_inj_left.mp (twin1 rest) k h
theorem tokHit {v : T} (h : v = [97] ∨ v = [97, 97]) : ∃ h, hitOf ((forMatch cJTok v.toArray 0 0 v.length true false).runFor 50) = some h := by
  have := List.map_inj_left.mp jtt v (by rcases h with rfl | rfl <;> simp)
  exact Option.isSome_iff_exists.mp this
end Mine
end

section
open PySem PySem.W PyProof.Rows PySem.Calls
set_option autoImplicit false
set_option linter.unusedVariables false
set_option maxRecDepth 100000
namespace Mine
open PySem.Sre PySem.Builtin.Re

/-- a statement's end told by a word of its state -/
theorem Ex1.post {G : Glob} {B : Base} {A : Around} {σ : St} {Ψ : XPost} {Φ : AF → St → Prop} {st : Stmt} (W : St → Prop) (h : ∀ W' : St → Prop, (∀ σ₁, W σ₁ → W' σ₁) → Ex1 G B A σ st (fun f σ₁ => f = .next ∧ W' σ₁) Ψ) (k : ∀ σ₁, W σ₁ → Φ .next σ₁) : Ex1 G B A σ st Φ Ψ :=
  Do.mono (h W (fun _ z => z)) (by rintro _ _ ⟨rfl, h⟩; exact k _ h)

/-- texts with a semicolon and a blank between -/
def joinW : List T → T
  | [] => []
  | [x] => x
  | x :: y :: r => x ++ 59 :: 32 :: joinW (y :: r)
theorem joinW_S : ∀ ys : List T, Str.join (Str.ofString "; ") (ys.map S) = S (joinW ys)
  | [] => by decide
  | [y] => by simp [Str.join, joinW]
  | y :: z :: ys => by
    have ih := joinW_S (z :: ys)
    have e : Str.ofString "; " = S [59, 32] := by decide
    simp only [List.map_cons] at ih ⊢
    rw [Str.join, ih, e, S_app, S_app]
    · simp [joinW]
    · intro z; cases z
theorem joinW_T (ys : List T) : Txt.join (Str.ofString "; ") (ys.map S) = S (joinW ys) := by
  rw [eq_of_beq (join_plain_closes (Str.ofString "; ") (ys.map S))]
  exact joinW_S ys
theorem join1 (sep : Str) (x : Str) : Txt.join sep [x] = x := by
  rw [eq_of_beq (join_plain_closes sep [x])]
  rfl
theorem join0 (sep : Str) : Txt.join sep [] = S [] := by
  rw [eq_of_beq (join_plain_closes sep [])]
  rfl
theorem joinW_len {m : Nat} : ∀ ys : List T, (∀ y ∈ ys, y.length ≤ m) → (joinW ys).length ≤ ys.length * (m + 2)
  | [], _ => by simp [joinW]
  | [y], h => by have := h y (.head _); simp [joinW]; omega
  | y :: z :: ys, h => by
    have h1 := h y (.head _)
    have h2 := joinW_len (z :: ys) (fun x hx => h x (.tail _ hx))
    simp only [joinW, List.length_append, List.length_cons] at h2 ⊢
    rw [Nat.add_mul]
    omega

/-- a lambda that puts pre ahead of the group -/
theorem lam_ok {G : Glob} (GO : G.Ok) {n : Nat} {qual : Str} {pre text : T} {pm ctv : Value} {c : Addr} {oc : Obj} {vs : Array Value} {tk : Tok} {p0 p1 p2 p3 p4 p5 p6 p7 p8 : Pos} {sp : List Int} {b e : Nat} (hod : oc.data = .fields vs) (hov : vs[1]? = some (.str qual tk)) (hline : (p3.endLine == p5.line) = true)
    (hb : sp[2]? = some (b : Int)) (he : sp[3]? = some (e : Int)) (hl : sp.length = 4) (hz : text.length ≤ 100) (hpre : pre.length ≤ 100) :
    FunO G (n + 1) (kla_obj "<lambda>" qual { posonlyargs := [], args := [{ arg := Str.ofString "_m", annotation := none, pos := p0 }], vararg := none, kwonlyargs := [], kw_defaults := [], kwarg := none, defaults := [] }
      (.BinOp (.Constant (.str (S pre)) 0 p1) .Add (.BoolOp .Or [.Call (.Attribute (.Name (Str.ofString "_m") p2) (Str.ofString "group") p3) [.Constant (.int 1) 0 p4] [] p5, .Constant (.str (Str.ofString "")) 0 p6] p7) p8)
      { kind := .function, names := [(Str.ofString "_m", .local)], isGenerator := false, isCoroutine := false } [] pm c ctv) c oc [.mat (S text) sp] [] (fun r ws => r = .str (S (pre ++ (text.drop b).take (e - b))) ∧ ws = []) := by
  refine FunO.of_lam GO (ns := [Str.ofString "_m"]) hod hov (by decide) rfl (fun us hu => ?_) (by decide) (by decide) rfl rfl rfl (fun A L f fr K h₀ ad hA => ?_)
  · obtain ⟨u, rfl⟩ := one_of hu
    rfl
  · have hE : EnvOk (callEnv (kla_fn "<lambda>" qual { posonlyargs := [], args := [{ arg := Str.ofString "_m", annotation := none, pos := p0 }], vararg := none, kwonlyargs := [], kw_defaults := [], kwarg := none, defaults := [] }
      (.BinOp (.Constant (.str (S pre)) 0 p1) .Add (.BoolOp .Or [.Call (.Attribute (.Name (Str.ofString "_m") p2) (Str.ofString "group") p3) [.Constant (.int 1) 0 p4] [] p5, .Constant (.str (Str.ofString "")) 0 p6] p7) p8)
      { kind := .function, names := [(Str.ofString "_m", .local)], isGenerator := false, isCoroutine := false } [] pm (.ref c) ctv) L f) := ⟨rfl, rfl, rfl⟩
    have h16 := sz16
    have hlen : (S text).length = text.length := by simp [Str.length]
    refine Ev.binop (Ev.str (Ev.pin (w := .str (S ((text.drop b).take (e - b)))) ?_ ?_))
    · refine Ev.or2 (Ev.meth (hline := hline) (Ev.loc hE rfl rfl ⟨"re.Match", "re.Match.group", pa_mat, slot_group, type_group, HasT.mat, Evs.cons (Ev.int (Evs.nil (Op.group hb he hl (by omega) ?_)))⟩))
      refine Op1.true_str (by simp [Str.length]; omega) ?_
      have el : (((S ((text.drop b).take (e - b))).length : Int) != 0) = !((text.drop b).take (e - b)).isEmpty := by
        cases (text.drop b).take (e - b) with
        | nil => rfl
        | cons x r => simp [Str.length]; omega
      have eS : (S text).cps.toList = text := rfl
      rw [eS, el]
      cases hh : ((text.drop b).take (e - b)).isEmpty with
      | false => exact ⟨rfl, rfl⟩
      | true =>
        refine Ev.str ⟨?_, rfl⟩
        rw [List.isEmpty_iff.mp hh]
        rfl
    · refine Op2.add_str (by simp [Str.length]; omega) ⟨0, Shut.str, shutW_nil, ?_, rfl⟩
      rw [S_app]
      rfl
end Mine
end

section
open PySem PySem.W PyProof.Rows PySem.Calls
set_option autoImplicit false
set_option linter.unusedVariables false
set_option maxRecDepth 100000
set_option maxHeartbeats 4000000
namespace Mine
open PySem.Sre PySem.Builtin.Re

def wval (v : T) : T := if v = [97] ∨ v = [97, 97] then v else 34 :: (esc v ++ [34])
theorem written_some {k : Nat} {v : T} : written (k, some v) = k :: 61 :: wval v := by
  unfold written wval
  dsimp only
  split <;> rfl
theorem S_len (l : T) : (S l).length = l.length := by simp [Str.length]
theorem svs (l : List T) : l.map sv = (l.map S).map .str := by simp [sv]

theorem fn_join {G : Glob} {P : Params} (C : Ctx G P) (n : Nat) (ps : List Pr) (hg : ∀ p ∈ ps, Good p) (hl : ps.length ≤ 100) :
    Fun G (n + 3) 87 [.lst [.lst (ps.map pv)]] [] (fun r ws => r = sv (joinW (ps.map written)) ∧ ws = []) := by
  have hf := C.fn (a := 87) rfl rfl rfl rfl rfl rfl rfl rfl rfl rfl rfl rfl rfl
  refine Fun.of_body C.ok hf (ns := [Str.ofString "lists"]) (by decide) rfl (fun us hu => ?_) (by decide) (by decide) (fun A L fr K h₀ ad hA => ?_)
  · obtain ⟨u, rfl⟩ := one_of hu
    rfl
  · have hE := hf.env L
    clear hf
    have h16 := sz16
    refine Ex.hide fun Φ₀ hΦ₀ => ?_
    refine Ex.cons (Ex1.assign hE rfl (Ev.listOwn ?_))
    refine Ex.cons (Ex1.for (Ev.loc hE rfl rfl ⟨_, Iterable.lst hA.handled, ?_⟩))
    intro io
    refine Asg.name hE rfl ?_
    refine Ex.cons (Ex1.assign hE rfl (Ev.listOwn ?_))
    refine Ex.cons (Ex1.for (Ev.loc hE rfl rfl ⟨_, Iterable.lst hA.handled, ?_⟩))
    refine ForL.inv (I := fun l σ => ∃ (done rest : List Pr), l = rest.map pv ∧ done ++ rest = ps ∧
        σ.lo.lookup (Str.ofString "attr") = some (.own 1) ∧ σ.lo.lookup (Str.ofString "headers") = some (.own 0) ∧ σ.ow = [.lst [], .lst ((done.map written).map sv)]) ?_ ?_ _ _ ?_
    · rintro σ ⟨done, rest, e1, e2, e3, e4, e5⟩
      have : rest = [] := by cases rest with | nil => rfl | cons _ _ => cases e1
      subst this
      rw [List.append_nil] at e2
      subst e2
      have hwl : ∀ y ∈ done.map written, y.length ≤ 8 := fun y hy => by
        obtain ⟨p, hp, rfl⟩ := List.mem_map.mp hy
        exact written_len (hg p hp)
      have hsum : (((done.map written).map S).map (·.length)).sum ≤ 800 := by
        rw [sum_len]
        have : ∀ l : List T, (∀ y ∈ l, y.length ≤ 8) → l.flatten.length ≤ 8 * l.length := by
          intro l
          induction l with
          | nil => intro _; simp
          | cons x l ih =>
            intro h
            have h1 := h x (.head _)
            have h2 := ih (fun y hy => h y (.tail _ hy))
            simp only [List.flatten_cons, List.length_append, List.length_cons]
            omega
        have := this _ hwl
        simp only [List.length_map] at this
        omega
      refine Ex.cons (Ex1.post (fun σ' => σ'.lo.lookup (Str.ofString "headers") = some (.own 0) ∧ σ'.ow = [.lst ((if done = [] then [] else [S (joinW (done.map written))]).map .str), .lst ((done.map written).map sv)]) ?_ ?_)
      · intro W' hW'
        refine Ex1.if (Tr.value (Ev.loc hE rfl e3 (Op1.true_own (xs := (done.map written).map sv) (by rw [e5]; rfl) (by simp; omega) ?_)))
        cases done with
        | nil =>
          rw [if_neg (by simp)]
          exact Ex.nil ⟨rfl, hW' _ ⟨e4, by rw [e5]; rfl⟩⟩
        | cons d done =>
          rw [if_pos (by simp)]
          refine Ex.cons (Ex1.expr (Ev.meth (Ev.loc hE rfl e4 ⟨"list", "list.append", PySem.F.plainAttrs_list, slot_list_append, PySem.F.type_list_append, HasT.own (xs := []) (by rw [e5]; rfl), Evs.cons (Ev.meth (Ev.str ⟨"str", "str.join", PySem.F.plainAttrs_str, PySem.F.slot_str_join, PySem.F.type_str_join, HasT.str, Evs.cons (Ev.loc hE rfl e3 (Evs.nil (Op.join_own (ys := ((d :: done).map written).map S) (by rw [e5, svs]; rfl) ?_ ?_)))⟩))⟩)))
          · have e : (Str.ofString "; ").length = 2 := by decide
            rw [e]
            simp only [List.length_map]
            omega
          · rw [joinW_T]
            refine Evs.nil (Op.append (xs := []) (by rw [e5]; rfl) (by simp) ⟨rfl, ?_⟩)
            refine Ex.nil ⟨rfl, hW' _ ⟨e4, ?_⟩⟩
            rw [if_neg (by simp), e5]
            rfl
      · rintro σ' ⟨d1, d2⟩
        refine Ex.nil ?_
        show ForL G _ A _ _ _ [] σ'
        refine Ex.cons (Ex1.ret (Ev.meth (Ev.str ⟨"str", "str.join", PySem.F.plainAttrs_str, PySem.F.slot_str_join, PySem.F.type_str_join, HasT.str, Evs.cons (Ev.loc hE rfl d1 (Evs.nil (Op.join_own (ys := if done = [] then [] else [S (joinW (done.map written))]) (by rw [d2]; rfl) ?_ ?_)))⟩)))
        · have e : (Str.ofString ", ").length = 2 := by decide
          have := joinW_len _ hwl
          simp only [List.length_map] at this
          rw [e]
          split
          · simp
          · simp [S_len]; omega
        · refine hΦ₀ _ _ ⟨0, Shut.str, shutW_nil, ?_, rfl⟩
          split
          · rename_i hd; subst hd; exact congrArg AV.str (join0 _)
          · exact congrArg AV.str (join1 _ _)
    · rintro x xs σ io' ⟨done, rest, e1, e2, e3, e4, e5⟩
      cases rest with
      | nil => cases e1
      | cons p rest =>
        cases e1
        have hp : Good p := hg p (by rw [← e2]; simp)
        have hlen : done.length + rest.length + 1 ≤ 100 := by rw [← e2] at hl; simp at hl; omega
        obtain ⟨k, ov⟩ := p
        refine Asg.tup2 hA.handled (Asg.name hE rfl (Asg.name hE rfl ?_))
        refine Ex.hide fun Φ₁ hΦ₁ => ?_
        have a1 : (setL (setL σ.lo (Str.ofString "k") (.str (S [k]))) (Str.ofString "v") (optAV ov)).lookup (Str.ofString "attr") = some (.own 1) := look_ne (look_ne e3 (by decide)) (by decide)
        have a2 : (setL (setL σ.lo (Str.ofString "k") (.str (S [k]))) (Str.ofString "v") (optAV ov)).lookup (Str.ofString "headers") = some (.own 0) := look_ne (look_ne e4 (by decide)) (by decide)
        have a3 : (setL (setL σ.lo (Str.ofString "k") (.str (S [k]))) (Str.ofString "v") (optAV ov)).lookup (Str.ofString "k") = some (.str (S [k])) := look_ne look_eq (by decide)
        refine Ex.cons (Ex1.post (fun σ' => σ'.lo.lookup (Str.ofString "k") = some (sv (written (k, ov))) ∧ σ'.lo.lookup (Str.ofString "attr") = some (.own 1) ∧ σ'.lo.lookup (Str.ofString "headers") = some (.own 0) ∧ σ'.ow = σ.ow) ?_ ?_)
        · intro W' hW'
          refine Ex1.if (Tr.compare (Ev.loc hE rfl look_eq (Ev.none (Op2.isNot_none ⟨_, rfl, ?_⟩))))
          cases ov with
          | none => exact Ex.nil ⟨rfl, hW' _ ⟨a3, a1, a2, rfl⟩⟩
          | some v =>
            have hvl : v.length ≤ 2 := hp.len v rfl
            have hel := esc_length v
            show Ex _ _ _ _ _ _ _
            refine Ex.cons (Ex1.post (fun σ' => σ'.lo.lookup (Str.ofString "v") = some (.str (S (wval v))) ∧ σ'.lo.lookup (Str.ofString "k") = some (.str (S [k])) ∧ σ'.lo.lookup (Str.ofString "attr") = some (.own 1) ∧ σ'.lo.lookup (Str.ofString "headers") = some (.own 0) ∧ σ'.ow = σ.ow) ?_ ?_)
            · intro W₂ hW₂
              by_cases htok : v = [97] ∨ v = [97, 97]
              · obtain ⟨h, hh⟩ := tokHit htok
                refine Ex1.if (Tr.not (Tr.value (Ev.meth (Ev.glob C.ok hE rfl (C.g _ _ rfl) ⟨"re.Pattern", "re.Pattern.fullmatch", pa_pat, slot_fullmatch, type_fullmatch, HasT.pat C.pJTok, Evs.cons (Ev.loc hE rfl look_eq (Evs.nil (Op.fullmatch_hit (x := S v) (n := 50) C.pJTok hh (by decide) (by rw [S_len]; omega) rfl (by decide) (Op1.true_mat ?_))))⟩))))
                refine Ex.nil ⟨rfl, hW₂ _ ⟨?_, a3, a1, a2, rfl⟩⟩
                rw [look_eq]
                unfold wval
                rw [if_pos htok]
                rfl
              · have hq : v ∈ qvals := by
                  rcases hp.val with q | q | q | ⟨w, hw, q⟩
                  · cases q
                  · cases q; exact absurd (.inl rfl) htok
                  · cases q; exact absurd (.inr rfl) htok
                  · cases q; exact hw
                refine Ex1.if (Tr.not (Tr.value (Ev.meth (Ev.glob C.ok hE rfl (C.g _ _ rfl) ⟨"re.Pattern", "re.Pattern.fullmatch", pa_pat, slot_fullmatch, type_fullmatch, HasT.pat C.pJTok, Evs.cons (Ev.loc hE rfl look_eq (Evs.nil (Op.fullmatch_miss (x := S v) (n := 50) C.pJTok (q_jt v hq) (by decide) (by rw [S_len]; omega) (Op1.true_none ?_))))⟩))))
                show Ex _ _ _ _ _ _ _
                refine Ex.cons (Ex1.assign hE rfl (Ev.meth (Ev.glob C.ok hE rfl (C.g _ _ rfl) ⟨"re.Pattern", "re.Pattern.sub", pa_pat, slot_sub, type_sub, HasT.pat C.pJEsc, Evs.cons (Ev.lambda C.ok C.bm hE C.tJ.1 C.tJ.2 rfl rfl rfl rfl rfl fun c' oc vs tk ctv hod hov => ?_)⟩)))
                refine Evs.cons (Ev.loc hE rfl look_eq (Evs.nil (Op.sub_fn (nA := n + 1) (text := v) (g := fun x => 92 :: x) C.pJEsc hA (by omega) (fun x hx => by simp; omega) rfl (fun sp b e hb he hl => ?_) (q_je v hq) (by decide) ?_)))
                · exact lam_ok (pre := [92]) C.ok hod hov rfl hb he hl (by omega) (by decide)
                · refine Ex.cons (Ex1.assign hE rfl (Ev.binop (Ev.str (Ev.loc hE rfl look_eq (Op2.mod_q (by rw [S_len]; omega) ?_)))))
                  refine Ex.nil ⟨rfl, hW₂ _ ⟨?_, look_ne (look_ne a3 (by decide)) (by decide), look_ne (look_ne a1 (by decide)) (by decide), look_ne (look_ne a2 (by decide)) (by decide), rfl⟩⟩
                  rw [look_eq]
                  have e : Str.ofString "\"" = S [34] := by decide
                  unfold wval
                  rw [if_neg htok, e, S_app, S_app]
                  rfl
            · rintro σ' ⟨b1, b2, b3, b4, b5⟩
              have hwv : (wval v).length ≤ 10 := by
                unfold wval
                split
                · omega
                · simp; omega
              refine Ex.cons (Ex1.assign hE rfl (Ev.joined3 (Ev.fieldS (Ev.loc hE rfl b2 ⟨_, rfl, by rw [S_len]; simp, ⟨_, rfl, by rw [S_len]; simp, Ev.str ⟨_, rfl, by decide, Ev.fieldS (Ev.loc hE rfl b1 ⟨_, rfl, by rw [S_len]; omega, ⟨_, rfl, by rw [S_len]; omega, ?_⟩⟩)⟩⟩⟩))))
              refine Ex.nil ⟨rfl, hW' _ ⟨?_, look_ne b3 (by decide), look_ne b4 (by decide), b5⟩⟩
              rw [look_eq]
              have e : Str.ofString "=" = S [61] := by decide
              rw [e, S_app, S_app, written_some]
              rfl
        · rintro σ' ⟨b1, b2, b3, b4⟩
          refine Ex.cons (Ex1.expr (Ev.meth (Ev.loc hE rfl b2 ⟨"list", "list.append", PySem.F.plainAttrs_list, slot_list_append, PySem.F.type_list_append, HasT.own (xs := (done.map written).map sv) (by rw [b4, e5]; rfl), Evs.cons (Ev.loc hE rfl b1 (Evs.nil (Op.append (xs := (done.map written).map sv) (by rw [b4, e5]; rfl) (by simp; omega) ⟨rfl, ?_⟩)))⟩)))
          refine Ex.nil (hΦ₁ _ _ ?_)
          refine ⟨done ++ [(k, ov)], rest, rfl, by rw [List.append_assoc]; exact e2, b2, b3, ?_⟩
          rw [b4, e5]
          simp
    · exact ⟨[], ps, rfl, rfl, rfl, rfl, rfl⟩
end Mine
end

section
open PySem PySem.W PyProof.Rows PySem.Calls
set_option autoImplicit false
set_option linter.unusedVariables false
set_option maxRecDepth 100000
namespace Mine
open PySem.Sre PySem.Builtin.Re

theorem ls59 (r : T) : Txt.lstrip (S (59 :: r)) = S (59 :: r) := by
  unfold Txt.lstrip Txt.stripBy
  rw [if_pos]
  unfold stripSame
  rw [Bool.and_eq_true]
  have h0 : stripLo Unicode.isSpace true (S (59 :: r)) = 0 := by
    unfold stripLo
    have h59 : Unicode.isSpace 59 = false := by decide +kernel
    simp [h59]
  rw [h0]
  refine ⟨rfl, ?_⟩
  unfold stripHi
  simp
theorem rs1 : Txt.rstrip (S [97]) = S [97] := by decide +kernel
theorem rs2 : Txt.rstrip (S [97, 97]) = S [97, 97] := by decide +kernel
theorem sw59 (r : T) : (0 + (Str.ofString ",").length ≤ (S (59 :: r)).length && Builtin.Str.subAt (S (59 :: r)) (Str.ofString ",") 0) = false := by
  have e : Str.ofString "," = S [44] := by decide
  rw [e]
  unfold Builtin.Str.subAt
  have : (S (59 :: r)).cps.extract 0 (0 + (S [44]).length) = #[59] := by
    apply Array.toList_inj.mp
    simp [Str.length]
  rw [this]
  have : ((#[59] : Array Nat) == (S [44]).cps) = false := by decide
  rw [this, Bool.and_false]

/-- what follows a pair in a header -/
def tl : List Pr → T
  | [] => []
  | p :: r => 59 :: 32 :: joinW ((p :: r).map written)
/-- what follows the key -/
def sfx (ov : Option T) (r : List Pr) : T := match ov with
  | none => tl r
  | some v => 61 :: (wval v ++ tl r)
theorem joinW_step (x : T) : ∀ r : List Pr, joinW (x :: r.map written) = x ++ tl r
  | [] => by simp [joinW, tl]
  | p :: r => by simp [joinW, tl]
theorem joinW_key (k : Nat) (ov : Option T) (r : List Pr) : joinW (((k, ov) :: r).map written) = k :: sfx ov r := by
  rw [List.map_cons, joinW_step]
  cases ov with
  | none => rfl
  | some v => rw [written_some]; rfl
theorem tl_cons (k : Nat) (ov : Option T) (r : List Pr) : tl ((k, ov) :: r) = 59 :: 32 :: k :: sfx ov r := by
  show 59 :: 32 :: joinW (((k, ov) :: r).map written) = _
  rw [joinW_key]
theorem tl_len (r : List Pr) (hg : ∀ p ∈ r, Good p) (hl : r.length ≤ 100) : (tl r).length ≤ 1002 := by
  cases r with
  | nil => simp [tl]
  | cons p r =>
    have := joinW_len (m := 8) ((p :: r).map written) (fun y hy => by obtain ⟨q, hq, rfl⟩ := List.mem_map.mp hy; exact written_len (hg q hq))
    simp only [List.length_map] at this
    simp only [tl, List.length_cons]
    simp only [List.length_cons] at this hl
    omega
theorem wval_len {v : T} (h : v.length ≤ 2) : (wval v).length ≤ 6 := by
  have := esc_length v
  unfold wval
  split
  · omega
  · simp; omega
theorem tok_hit {k : Nat} (ov : Option T) (r : List Pr) (hk : k ∈ [97, 98, 67]) : ksearch 100 cTok 1 (k :: sfx ov r) = some ⟨0, 1, [some 0, some 1], 1, 1⟩ := by
  cases ov with
  | some v => exact key_tokE hk _
  | none =>
    cases r with
    | nil => exact key_tok0 hk
    | cons p r => exact key_tokS hk _
theorem val_hit {v : T} (r : List Pr) (hv : v = [97] ∨ v = [97, 97]) : ksearch 100 cVal 1 (61 :: (v ++ tl r)) = some ⟨0, 1 + v.length, [some 1, some (1 + v.length)], 1, 1⟩ := by
  rcases hv with rfl | rfl
  · cases r with
    | nil => exact val1
    | cons p r => exact val1s _
  · cases r with
    | nil => exact val2
    | cons p r => exact val2s _

section
variable {G : Glob} {P : Params} {B : Base} {A : Around} {σ : St} {Ψ : XPost} {Φ : AV → St → Prop}
theorem quo_none (C : Ctx G P) (r : List Pr) (hz : (tl r).length ≤ 10000) (h : Φ .none σ) : Op G B A σ [.raw (.ref 53), .str (S (tl r))] (fun us => PySem.call (.builtin "re.Pattern.search") us) V Φ Ψ := by
  have h16 := sz16
  cases r with
  | nil => exact Op.search_nil C.pQuo quoN h
  | cons p r =>
    obtain ⟨k, ov⟩ := p
    rw [tl_cons] at hz ⊢
    obtain ⟨n, hn, hk⟩ := kmiss_ok (quoS k (sfx ov r))
    exact Op.search_miss C.pQuo hk hn (by omega) h
theorem val_none (C : Ctx G P) (r : List Pr) (hz : (tl r).length ≤ 10000) (h : Φ .none σ) : Op G B A σ [.raw (.ref 58), .str (S (tl r))] (fun us => PySem.call (.builtin "re.Pattern.search") us) V Φ Ψ := by
  have h16 := sz16
  cases r with
  | nil => exact Op.search_nil C.pVal valN h
  | cons p r =>
    obtain ⟨k, ov⟩ := p
    rw [tl_cons] at hz ⊢
    obtain ⟨n, hn, hk⟩ := kmiss_ok (valS (32 :: k :: sfx ov r))
    exact Op.search_miss C.pVal hk hn (by omega) h
theorem quo_tok (C : Ctx G P) {v : T} (hv : v = [97] ∨ v = [97, 97]) (r : List Pr) (hz : (tl r).length ≤ 10000) (h : Φ .none σ) : Op G B A σ [.raw (.ref 53), .str (S (61 :: (v ++ tl r)))] (fun us => PySem.call (.builtin "re.Pattern.search") us) V Φ Ψ := by
  have h16 := sz16
  rcases hv with rfl | rfl
  · cases r with
    | nil => exact search_none C.pQuo (N := 5) (by decide) (failedB_eq quoA0) (by decide) h
    | cons p r =>
      obtain ⟨n, hn, hk⟩ := kmiss_ok (quoA1 59 (32 :: joinW ((p :: r).map written)))
      refine Op.search_miss C.pQuo hk hn ?_ h
      simp only [tl, List.length_cons, List.length_append, List.length_nil] at hz ⊢
      omega
  · obtain ⟨n, hn, hk⟩ := kmiss_ok (quoA1 97 (tl r))
    refine Op.search_miss C.pQuo hk hn ?_ h
    simp only [List.length_cons, List.length_append, List.length_nil]
    omega
theorem unmatchedAt (C : Ctx G P) : ∃ o fd, G.H.get? 43 = some o ∧ o.data = .func fd := (C.fn (a := 43) rfl rfl rfl rfl rfl rfl rfl rfl rfl rfl rfl rfl rfl).some
end

def OWs (done : List (List Pr)) : List OW := .lst ((List.range done.length).map fun i => .own (i + 1)) :: done.map (fun ps => .lst (ps.map pv))
theorem OWs_len (done : List (List Pr)) : (OWs done).length = done.length + 1 := by simp [OWs]
theorem ow_last {l : List OW} {x : OW} {j : Nat} (h : l.length = j) : (l ++ [x])[j]? = some x := by
  subst h; simp
theorem ow_set {l : List OW} {x y : OW} {j : Nat} (h : l.length = j) : (l ++ [x]).set j y = l ++ [y] := by
  subst h; simp
theorem OWs_next (done : List (List Pr)) (ps : List Pr) : (OWs done ++ [OW.lst (ps.map pv)]).set 0 (OW.lst (((List.range done.length).map fun i => AV.own (i + 1)) ++ [AV.own (done.length + 1)])) = OWs (done ++ [ps]) := by
  simp [OWs, List.range_succ]
theorem fz_OWs (pss : List (List Pr)) : fz 0 (OWs pss) 2 (.own 0) = .lst (pss.map fun ps => .lst (ps.map pv)) := by
  have h1 : ∀ i ps, pss[i]? = some ps → fz 0 (OWs pss) 1 (.own (i + 1)) = .lst (ps.map pv) := by
    intro i ps h
    have : (OWs pss)[i + 1]? = some (.lst (ps.map pv)) := by simp [OWs, h]
    unfold fz
    simp only [this]
    rw [map_fz0]
    rfl
  show AV.lst (((List.range pss.length).map fun i => AV.own (i + 1)).map (fz 0 (OWs pss) 1)) = _
  congr 1
  apply List.ext_getElem?
  intro i
  simp only [List.map_map, List.getElem?_map]
  by_cases hi : i < pss.length
  · have e : pss[i]? = some pss[i] := List.getElem?_eq_getElem hi
    rw [e, List.getElem?_range hi]
    simp only [Option.map_some, Function.comp]
    rw [h1 i _ e]
  · rw [List.getElem?_eq_none (by simp; omega), List.getElem?_eq_none (by omega)]
    rfl
end Mine
end

section
open PySem PySem.W PyProof.Rows PySem.Calls
set_option autoImplicit false
set_option linter.unusedVariables false
set_option maxRecDepth 100000
set_option maxHeartbeats 4000000
namespace Mine
open PySem.Sre PySem.Builtin.Re

theorem Ex.gen {G : Glob} {B : Base} {A : Around} {σ : St} {ss : List Stmt} {Φ : AF → St → Prop} {Ψ : XPost} (W : St → Prop) (h : W σ) (k : ∀ τ, W τ → Ex G B A τ ss Φ Ψ) : Ex G B A σ ss Φ Ψ := k σ h
theorem Ex.two {G : Glob} {B : Base} {A : Around} {σ : St} {s1 s2 : Stmt} {ss : List Stmt} {Φ : AF → St → Prop} {Ψ : XPost} (W : St → Prop) (h : ∀ W' : St → Prop, (∀ σ₂, W σ₂ → W' σ₂) → Ex1 G B A σ s1 (fun f σ₁ => f = .next ∧ Ex1 G B A σ₁ s2 (fun f σ₂ => f = .next ∧ W' σ₂) Ψ) Ψ) (k : ∀ τ, W τ → Ex G B A τ ss Φ Ψ) : Ex G B A σ (s1 :: s2 :: ss) Φ Ψ :=
  Ex.cons (Do.mono (h W (fun _ z => z)) (by rintro _ σ₁ ⟨rfl, h1⟩; exact Ex.cons (Do.mono h1 (by rintro _ σ₂ ⟨rfl, h2⟩; exact k _ h2))))

theorem fn_split {G : Glob} {P : Params} (C : Ctx G P) (n : Nat) (pss : List (List Pr)) (hg : ∀ ps ∈ pss, ps ≠ [] ∧ ps.length ≤ 100 ∧ ∀ p ∈ ps, Good p) (hl : pss.length ≤ 100) :
    Fun G (n + 3) 70 [.lst (pss.map fun ps => sv (joinW (ps.map written)))] [] (fun r ws => r = .lst (pss.map fun ps => .lst (ps.map pv)) ∧ ws = []) := by
  have hf := C.fn (a := 70) rfl rfl rfl rfl rfl rfl rfl rfl rfl rfl rfl rfl rfl
  refine Fun.of_body C.ok hf (ns := [Str.ofString "header_values"]) (by decide) rfl (fun us hu => ?_) (by decide) (by decide) (fun A L fr K h₀ ad hA => ?_)
  · obtain ⟨u, rfl⟩ := one_of hu
    rfl
  · have hE := hf.env L
    clear hf
    have h16 := sz16
    refine Ex.hide fun Φ₀ hΦ₀ => ?_
    refine Ex.cons (Ex1.assert (Tr.not (Tr.value (Ev.callB C.ok hE rfl (C.b _ _ rfl).1 (C.b _ _ rfl).2 (.inl ⟨_, rfl⟩) (Evs.cons (Ev.loc hE rfl rfl (Evs.cons (Ev.blt C.ok hE rfl (C.b _ _ rfl).1 (C.b _ _ rfl).2 (Evs.nil (Op.isinst (Op1.true_bool ⟨rfl, ?_⟩)))))))))))
    refine Ex.cons (Ex1.assign hE rfl (Ev.listOwn ?_))
    refine Ex.cons (Ex1.for (Ev.loc hE rfl rfl ⟨_, Iterable.lst hA.handled, ?_⟩))
    refine ForL.inv (I := fun l σ => ∃ (done rest : List (List Pr)), l = rest.map (fun ps => sv (joinW (ps.map written))) ∧ done ++ rest = pss ∧ σ.lo.lookup (Str.ofString "result") = some (.own 0) ∧ σ.ow = OWs done) ?_ ?_ _ _ ?_
    · rintro σ ⟨done, rest, e1, e2, e3, e4⟩
      have : rest = [] := by cases rest with | nil => rfl | cons _ _ => cases e1
      subst this
      rw [List.append_nil] at e2
      subst e2
      have z : fz 0 σ.ow 2 (.own 0) = .lst (done.map fun ps => .lst (ps.map pv)) := by rw [e4, fz_OWs]
      refine Ex.cons (Ex1.ret (Ev.loc hE rfl e3 (hΦ₀ _ _ ⟨2, ?_, shutW_nil, z, rfl⟩)))
      show Shut 0 (fz 0 σ.ow 2 (.own 0))
      rw [z]
      refine Shut.lst fun x hx => ?_
      obtain ⟨ps, _, rfl⟩ := List.mem_map.mp hx
      exact Shut.lst (shut_pvs _ _)
    · rintro x xs σ io ⟨done, rest, e1, e2, e3, e4⟩
      cases rest with
      | nil => cases e1
      | cons ps rest =>
        cases e1
        obtain ⟨hne, hpl, hgd⟩ := hg ps (by rw [← e2]; simp)
        refine Asg.name hE rfl ?_
        refine Ex.hide fun Φ₁ hΦ₁ => ?_
        refine Ex.cons (Ex1.assign hE rfl (Ev.loc hE rfl look_eq ?_))
        refine Ex.cons (Ex1.assign hE rfl (Ev.listOwn ?_))
        have hj : σ.ow.length = done.length + 1 := by rw [e4, OWs_len]
        refine Ex.cons (Ex1.while (I := fun m σ' => ∃ (dn rs : List Pr) (b : Bool), dn ++ rs = ps ∧ σ'.lo.lookup (Str.ofString "result") = some (.own 0) ∧ σ'.lo.lookup (Str.ofString "pairs") = some (.own (done.length + 1)) ∧ σ'.ow = OWs done ++ [.lst (dn.map pv)] ∧
          σ'.lo.lookup (Str.ofString "text") = some (sv (if b then tl rs else joinW (rs.map written))) ∧ (b = false → rs ≠ []) ∧ m = 2 * rs.length + (if b then 1 else 0)) (2 * ps.length) ?_ ?_)
        · refine ⟨[], ps, false, rfl, look_ne (look_ne (look_ne e3 (by decide)) (by decide)) (by decide), ?_, by dsimp only; rw [e4]; rfl, ?_, fun _ => hne, rfl⟩
          · rw [look_eq, hj]
          · exact look_ne (look_ne look_eq (by decide)) (by decide)
        · clear hj
          rintro m σ ⟨dn, rs, b, f1, f2, f3, f4, f5, f6, f7⟩
          have hgr : ∀ p ∈ rs, Good p := fun p hp => hgd p (by rw [← f1]; exact List.mem_append_right _ hp)
          have hlr : dn.length + rs.length ≤ 100 := by rw [← f1, List.length_append] at hpl; exact hpl
          cases b with
          | true =>
            rw [if_pos rfl] at f5
            cases rs with
            | nil =>
              refine Tr.value (Ev.loc hE rfl f5 (Op1.true_str (by rw [S_len]; simp [tl]) ?_))
              rw [if_neg (by decide)]
              rw [List.append_nil] at f1
              subst f1
              have hpe : (!((dn.map pv).isEmpty)) = true := by cases dn with | nil => exact absurd rfl hne | cons _ _ => rfl
              refine Ex.cons (Ex1.if (Tr.value (Ev.loc hE rfl f3 (Op1.true_own (xs := dn.map pv) (by rw [f4]; exact ow_last (OWs_len _)) (by simp; omega) ?_))))
              rw [if_pos hpe]
              refine Ex.cons (Ex1.expr (Ev.meth (Ev.loc hE rfl f2 ⟨"list", "list.append", PySem.F.plainAttrs_list, slot_list_append, PySem.F.type_list_append, HasT.own (xs := (List.range done.length).map fun i => AV.own (i + 1)) (by rw [f4]; rfl), Evs.cons (Ev.loc hE rfl f3 (Evs.nil (Op.append (xs := (List.range done.length).map fun i => AV.own (i + 1)) (by rw [f4]; rfl) (by rw [← e2] at hl; simp at hl ⊢; omega) ⟨rfl, ?_⟩)))⟩)))
              refine Ex.nil (Ex.nil (hΦ₁ _ _ ?_))
              refine ⟨done ++ [dn], rest, rfl, by rw [List.append_assoc]; exact e2, f2, ?_⟩
              dsimp only
              rw [f4]
              exact OWs_next done dn
            | cons p r =>
              obtain ⟨k, ov⟩ := p
              have hk := (hgr _ (.head _)).key
              have htl := tl_len _ hgr (by omega)
              rw [tl_cons] at f5 htl
              refine Tr.value (Ev.loc hE rfl f5 (Op1.true_str (by rw [S_len]; omega) ?_))
              rw [if_pos (by rw [S_len]; simp; omega)]
              refine Ex.hide fun Φ₂ hΦ₂ => ?_
              obtain ⟨nn, hnn, hkf⟩ := kmiss_ok (tokM (32 :: k :: sfx ov r))
              refine Ex.cons (Ex1.assign hE rfl (Ev.meth (Ev.glob C.ok hE rfl (C.g _ _ rfl) ⟨"re.Pattern", "re.Pattern.search", pa_pat, slot_search, type_search, HasT.pat C.pTok, Evs.cons (Ev.loc hE rfl f5 (Evs.nil (Op.search_miss C.pTok hkf hnn (by omega) ?_)))⟩)))
              have g1 : (setL σ.lo (Str.ofString "m") .none).lookup (Str.ofString "text") = some (sv (59 :: 32 :: k :: sfx ov r)) := look_ne f5 (by decide)
              refine Ex.cons (Ex1.if (Tr.value (Ev.loc hE rfl look_eq (Op1.true_none ?_))))
              rw [if_neg Bool.false_ne_true]
              refine Ex.cons (Ex1.if (Tr.value (Ev.meth (Ev.meth (Ev.loc hE rfl g1 ⟨"str", "str.lstrip", PySem.F.plainAttrs_str, PySem.F.slot_str_lstrip, PySem.F.type_str_lstrip, HasT.str, Evs.nil (Op.lstrip (by rw [S_len]; omega) ?_)⟩)))))
              refine ⟨"str", "str.startswith", PySem.F.plainAttrs_str, PySem.F.slot_str_startswith, PySem.F.type_str_startswith, HasT.str, Evs.cons (Ev.str (Evs.nil (Op.startswith ?_)))⟩
              rw [ls59, sw59]
              refine Op1.true_bool ?_
              rw [if_neg Bool.false_ne_true]
              obtain ⟨n2, hn2, hkf2⟩ := kmiss_ok (twin2 k (sfx ov r))
              refine Ex.cons (Ex1.assign2 hA.handled hE rfl rfl (Ev.meth (Ev.glob C.ok hE rfl (C.g _ _ rfl) ⟨"re.Pattern", "re.Pattern.subn", pa_pat, slot_subn, type_subn, HasT.pat C.pTwin, Evs.cons (Ev.str (Evs.cons (Ev.loc hE rfl g1 (Evs.nil (Op.subn (n := 100) (n2 := n2) (text := 59 :: 32 :: k :: sfx ov r) C.pTwin (key_twin hk _) (by decide) hn2 rfl rfl (by decide) (by simp) hkf2 (by omega) ⟨_, _, .tup _ _, ?_⟩)))))⟩)))
              refine Ex.cons (Ex1.assert (Tr.compare (Ev.loc hE rfl look_eq (Ev.int (Op2.gt_int ⟨_, rfl, rfl, ?_⟩)))))
              refine Ex.cons (Ex1.assign hE rfl (Ev.loc hE rfl (look_ne look_eq (by decide)) ?_))
              refine Ex.nil (Ex.nil (Ex.nil (hΦ₂ _ _ ?_)))
              refine ⟨2 * (r.length + 1), ?_, dn, (k, ov) :: r, false, f1, ?_, ?_, f4, ?_, (fun _ h => by cases h), rfl⟩
              · rw [f7]; simp
              · exact look_ne (look_ne (look_ne (look_ne f2 (by decide)) (by decide)) (by decide)) (by decide)
              · exact look_ne (look_ne (look_ne (look_ne f3 (by decide)) (by decide)) (by decide)) (by decide)
              · rw [look_eq, if_neg Bool.false_ne_true, joinW_key]
                rfl
          | false =>
            rw [if_neg Bool.false_ne_true] at f5
            cases rs with
            | nil => exact absurd rfl (f6 rfl)
            | cons p r =>
              obtain ⟨k, ov⟩ := p
              rw [joinW_key] at f5
              have hk := (hgr _ (.head _)).key
              have hgp := hgr _ (.head _)
              have htl := tl_len r (fun p hp => hgr p (.tail _ hp)) (by simp at hlr; omega)
              have hsf : (sfx ov r).length ≤ 1010 := by
                cases ov with
                | none => show (tl r).length ≤ 1010; omega
                | some v =>
                  have := wval_len (hgp.len v rfl)
                  show (61 :: (wval v ++ tl r)).length ≤ 1010
                  simp; omega
              refine Tr.value (Ev.loc hE rfl f5 (Op1.true_str (by rw [S_len]; simp; omega) ?_))
              rw [if_pos (by rw [S_len]; simp; omega)]
              refine Ex.hide fun Φ₂ hΦ₂ => ?_
              refine Ex.cons (Ex1.assign hE rfl (Ev.meth (Ev.glob C.ok hE rfl (C.g _ _ rfl) ⟨"re.Pattern", "re.Pattern.search", pa_pat, slot_search, type_search, HasT.pat C.pTok, Evs.cons (Ev.loc hE rfl f5 (Evs.nil (Op.search_hit (n := 100) C.pTok (tok_hit ov r hk) (by decide) (by simp; omega) rfl (by decide) ?_)))⟩)))
              refine Ex.cons (Ex1.if (Tr.value (Ev.loc hE rfl look_eq (Op1.true_mat ?_))))
              rw [if_pos rfl]
              refine Ex.cons (Ex1.assign hE rfl (Ev.call (p := 0) C.ok hE hA rfl (C.g _ _ rfl) (unmatchedAt C) (Evs.cons (Ev.loc hE rfl look_eq (Evs.nil ⟨Nat.zero_le _, shutW_nil, Shut.cons Shut.mat Shut.nil, Fun.mono (fn_unmatched C (n + 1) (k :: sfx ov r) _ 0 1 rfl rfl (by decide) (by simp; omega) (by simp) (by simp)) ?_⟩)))))
              rintro _ _ ⟨rfl, rfl⟩
              refine Ex.cons (Ex1.assign hE rfl (Ev.meth (Ev.loc hE rfl (look_ne look_eq (by decide)) ⟨"re.Match", "re.Match.group", pa_mat, slot_group, type_group, HasT.mat, Evs.cons (Ev.int (Evs.nil (Op.group (b := 0) (e := 1) rfl rfl rfl (by rw [S_len]; simp; omega) ?_)))⟩)))
              refine Ex.gen (fun τ => τ.lo.lookup (Str.ofString "text") = some (sv (sfx ov r)) ∧ τ.lo.lookup (Str.ofString "name") = some (.str (S [k])) ∧ τ.lo.lookup (Str.ofString "result") = some (.own 0) ∧ τ.lo.lookup (Str.ofString "pairs") = some (.own (done.length + 1)) ∧ τ.ow = OWs done ++ [.lst (dn.map pv)]) ⟨look_ne look_eq (by decide), look_eq, look_ne (look_ne (look_ne f2 (by decide)) (by decide)) (by decide), look_ne (look_ne (look_ne f3 (by decide)) (by decide)) (by decide), by dsimp only; rw [List.nil_append, List.drop_zero]; exact f4⟩ ?_
              rintro τ ⟨t1, t2, t3, t4, t5⟩
              refine Ex.two (fun τ' => τ'.lo.lookup (Str.ofString "text") = some (sv (tl r)) ∧ τ'.lo.lookup (Str.ofString "name") = some (.str (S [k])) ∧ τ'.lo.lookup (Str.ofString "value") = some (optAV ov) ∧ τ'.lo.lookup (Str.ofString "result") = some (.own 0) ∧ τ'.lo.lookup (Str.ofString "pairs") = some (.own (done.length + 1)) ∧ τ'.ow = OWs done ++ [.lst (dn.map pv)]) ?_ ?_
              · intro W' hW'
                cases ov with
                | none =>
                  refine Ex1.assign hE rfl (Ev.meth (Ev.glob C.ok hE rfl (C.g _ _ rfl) ⟨"re.Pattern", "re.Pattern.search", pa_pat, slot_search, type_search, HasT.pat C.pQuo, Evs.cons (Ev.loc hE rfl t1 (Evs.nil (quo_none C r (by omega) ⟨rfl, ?_⟩)))⟩))
                  refine Ex1.if (Tr.value (Ev.loc hE rfl look_eq (Op1.true_none ?_)))
                  rw [if_neg Bool.false_ne_true]
                  refine Ex.cons (Ex1.assign hE rfl (Ev.meth (Ev.glob C.ok hE rfl (C.g _ _ rfl) ⟨"re.Pattern", "re.Pattern.search", pa_pat, slot_search, type_search, HasT.pat C.pVal, Evs.cons (Ev.loc hE rfl (look_ne t1 (by decide)) (Evs.nil (val_none C r (by omega) ?_)))⟩)))
                  refine Ex.cons (Ex1.if (Tr.value (Ev.loc hE rfl look_eq (Op1.true_none ?_))))
                  rw [if_neg Bool.false_ne_true]
                  refine Ex.cons (Ex1.assign hE rfl (Ev.none ?_))
                  refine Ex.nil (Ex.nil ⟨rfl, hW' _ ⟨look_ne (look_ne (look_ne t1 (by decide)) (by decide)) (by decide), look_ne (look_ne (look_ne t2 (by decide)) (by decide)) (by decide), look_eq, look_ne (look_ne (look_ne t3 (by decide)) (by decide)) (by decide), look_ne (look_ne (look_ne t4 (by decide)) (by decide)) (by decide), t5⟩⟩)
                | some v =>
                  have hvl := hgp.len v rfl
                  have hel := esc_length v
                  by_cases htok : v = [97] ∨ v = [97, 97]
                  · have ew : wval v = v := if_pos htok
                    have es : sfx (some v) r = 61 :: (v ++ tl r) := by show 61 :: (wval v ++ tl r) = _; rw [ew]
                    rw [es] at t1
                    refine Ex1.assign hE rfl (Ev.meth (Ev.glob C.ok hE rfl (C.g _ _ rfl) ⟨"re.Pattern", "re.Pattern.search", pa_pat, slot_search, type_search, HasT.pat C.pQuo, Evs.cons (Ev.loc hE rfl t1 (Evs.nil (quo_tok C htok r (by omega) ⟨rfl, ?_⟩)))⟩))
                    refine Ex1.if (Tr.value (Ev.loc hE rfl look_eq (Op1.true_none ?_)))
                    rw [if_neg Bool.false_ne_true]
                    refine Ex.cons (Ex1.assign hE rfl (Ev.meth (Ev.glob C.ok hE rfl (C.g _ _ rfl) ⟨"re.Pattern", "re.Pattern.search", pa_pat, slot_search, type_search, HasT.pat C.pVal, Evs.cons (Ev.loc hE rfl (look_ne t1 (by decide)) (Evs.nil (Op.search_hit (n := 100) C.pVal (val_hit r htok) (by decide) (by simp; omega) (by rcases htok with rfl | rfl <;> rfl) (by decide) ?_)))⟩)))
                    refine Ex.cons (Ex1.if (Tr.value (Ev.loc hE rfl look_eq (Op1.true_mat ?_))))
                    rw [if_pos rfl]
                    refine Ex.cons (Ex1.assign hE rfl (Ev.call (p := 0) C.ok hE hA rfl (C.g _ _ rfl) (unmatchedAt C) (Evs.cons (Ev.loc hE rfl look_eq (Evs.nil ⟨Nat.zero_le _, shutW_nil, Shut.cons Shut.mat Shut.nil, Fun.mono (fn_unmatched C (n + 1) (61 :: (v ++ tl r)) _ 0 (1 + v.length) rfl rfl (by rcases htok with rfl | rfl <;> decide) (by simp; omega) (by simp) (by simp; omega)) ?_⟩)))))
                    rintro _ _ ⟨rfl, rfl⟩
                    refine Ex.cons (Ex1.assign hE rfl (Ev.meth (Ev.loc hE rfl (look_ne look_eq (by decide)) ⟨"re.Match", "re.Match.group", pa_mat, slot_group, type_group, HasT.mat, Evs.cons (Ev.int (Evs.nil (Op.group (b := 1) (e := 1 + v.length) rfl rfl rfl (by rw [S_len]; simp; omega) ?_)))⟩)))
                    refine Ex.cons (Ex1.assign hE rfl (Ev.meth (Ev.loc hE rfl look_eq ⟨"str", "str.rstrip", PySem.F.plainAttrs_str, PySem.F.slot_str_rstrip, PySem.F.type_str_rstrip, HasT.str, Evs.nil (Op.rstrip (by rw [S_len]; simp; omega) ?_)⟩)))
                    have e1 : (61 :: (v ++ tl r)).take 0 ++ (61 :: (v ++ tl r)).drop (1 + v.length) = tl r := by
                      rw [Nat.add_comm]; simp
                    have e2 : Txt.rstrip (S (((S (61 :: (v ++ tl r))).cps.toList.drop 1).take (1 + v.length - 1))) = S v := by
                      have : ((S (61 :: (v ++ tl r))).cps.toList.drop 1).take (1 + v.length - 1) = v := by
                        rw [Nat.add_sub_cancel_left]; simp
                      rw [this]
                      rcases htok with rfl | rfl
                      · exact rs1
                      · exact rs2
                    refine Ex.nil (Ex.nil ⟨rfl, hW' _ ⟨?_, ?_, ?_, ?_, ?_, by dsimp only; rw [List.nil_append, List.drop_zero]; exact t5⟩⟩)
                    · rw [look_ne (look_ne look_eq (by decide)) (by decide), e1]
                    · exact look_ne (look_ne (look_ne (look_ne (look_ne t2 (by decide)) (by decide)) (by decide)) (by decide)) (by decide)
                    · rw [look_eq, e2]; rfl
                    · exact look_ne (look_ne (look_ne (look_ne (look_ne t3 (by decide)) (by decide)) (by decide)) (by decide)) (by decide)
                    · exact look_ne (look_ne (look_ne (look_ne (look_ne t4 (by decide)) (by decide)) (by decide)) (by decide)) (by decide)
                  · have hq : v ∈ qvals := by
                      rcases hgp.val with q | q | q | ⟨w, hw, q⟩
                      · cases q
                      · cases q; exact absurd (.inl rfl) htok
                      · cases q; exact absurd (.inr rfl) htok
                      · cases q; exact hw
                    have ew : wval v = 34 :: (esc v ++ [34]) := if_neg htok
                    have es : sfx (some v) r = 61 :: 34 :: (esc v ++ 34 :: tl r) := by show 61 :: (wval v ++ tl r) = _; rw [ew]; simp
                    rw [es] at t1
                    refine Ex1.assign hE rfl (Ev.meth (Ev.glob C.ok hE rfl (C.g _ _ rfl) ⟨"re.Pattern", "re.Pattern.search", pa_pat, slot_search, type_search, HasT.pat C.pQuo, Evs.cons (Ev.loc hE rfl t1 (Evs.nil (Op.search_hit (n := 100) C.pQuo (q_quo (tl r) v hq) (by decide) (by simp; omega) ?_ (by decide) ⟨rfl, ?_⟩)))⟩))
                    · unfold okSpans
                      simp
                    refine Ex1.if (Tr.value (Ev.loc hE rfl look_eq (Op1.true_mat ?_)))
                    rw [if_pos rfl]
                    refine Ex.cons (Ex1.assign hE rfl (Ev.call (p := 0) C.ok hE hA rfl (C.g _ _ rfl) (unmatchedAt C) (Evs.cons (Ev.loc hE rfl look_eq (Evs.nil ⟨Nat.zero_le _, shutW_nil, Shut.cons Shut.mat Shut.nil, Fun.mono (fn_unmatched C (n + 1) (61 :: 34 :: (esc v ++ 34 :: tl r)) _ 0 (3 + (esc v).length) rfl rfl (by simp [spansOf]) (by simp; omega) (by simp) (by simp; omega)) ?_⟩)))))
                    rintro _ _ ⟨rfl, rfl⟩
                    refine Ex.cons (Ex1.assign hE rfl (Ev.meth (Ev.loc hE rfl (look_ne look_eq (by decide)) ⟨"re.Match", "re.Match.group", pa_mat, slot_group, type_group, HasT.mat, Evs.cons (Ev.int (Evs.nil (Op.group (b := 2) (e := 2 + (esc v).length) rfl rfl rfl (by rw [S_len]; simp; omega) ?_)))⟩)))
                    have e1 : (61 :: 34 :: (esc v ++ 34 :: tl r)).take 0 ++ (61 :: 34 :: (esc v ++ 34 :: tl r)).drop (3 + (esc v).length) = tl r := by
                      have : 3 + (esc v).length = (61 :: 34 :: (esc v ++ [34])).length := by simp; omega
                      rw [this]
                      have e : 61 :: 34 :: (esc v ++ 34 :: tl r) = (61 :: 34 :: (esc v ++ [34])) ++ tl r := by simp
                      rw [e, List.drop_left]; rfl
                    have e2 : ((S (61 :: 34 :: (esc v ++ 34 :: tl r))).cps.toList.drop 2).take (2 + (esc v).length - 2) = esc v := by
                      rw [Nat.add_sub_cancel_left]; simp
                    rw [e1, e2]
                    refine Ex.cons (Ex1.assign hE rfl (Ev.meth (Ev.glob C.ok hE rfl (C.g _ _ rfl) ⟨"re.Pattern", "re.Pattern.sub", pa_pat, slot_sub, type_sub, HasT.pat C.pEsc, Evs.cons (Ev.lambda C.ok C.bm hE C.tS.1 C.tS.2 rfl rfl rfl rfl rfl fun c' oc vs tk ctv hod hov => ?_)⟩)))
                    refine Evs.cons (Ev.loc hE rfl look_eq (Evs.nil (Op.sub_fn (nA := n + 1) (text := esc v) (g := fun x => x) C.pEsc hA (by omega) (fun x hx => by omega) rfl (fun sp b e hb he hl => ?_) (q_es v hq) (by decide) ?_)))
                    · exact lam_ok (pre := []) C.ok hod hov rfl hb he hl (by omega) (by decide)
                    · refine Ex.nil ⟨rfl, hW' _ ⟨look_ne (look_ne look_eq (by decide)) (by decide), ?_, look_eq, ?_, ?_, by dsimp only; rw [List.nil_append, List.drop_zero]; exact t5⟩⟩
                      · exact look_ne (look_ne (look_ne (look_ne t2 (by decide)) (by decide)) (by decide)) (by decide)
                      · exact look_ne (look_ne (look_ne (look_ne t3 (by decide)) (by decide)) (by decide)) (by decide)
                      · exact look_ne (look_ne (look_ne (look_ne t4 (by decide)) (by decide)) (by decide)) (by decide)
              · rintro τ' ⟨s1, s2, s3, s4, s5, s6⟩
                refine Ex.cons (Ex1.expr (Ev.meth (Ev.loc hE rfl s5 ⟨"list", "list.append", PySem.F.plainAttrs_list, slot_list_append, PySem.F.type_list_append, HasT.own (xs := dn.map pv) (by rw [s6]; exact ow_last (OWs_len _)), Evs.cons (Ev.tuple (Evs.cons (Ev.loc hE rfl s2 (Evs.cons (Ev.loc hE rfl s3 (Evs.nil ⟨len2, ?_⟩))))))⟩)))
                refine Evs.nil (Op.append (xs := dn.map pv) (by rw [s6]; exact ow_last (OWs_len _)) (by simp; omega) ⟨rfl, ?_⟩)
                refine Ex.nil (Ex.nil (hΦ₂ _ _ ?_))
                refine ⟨2 * r.length + 1, by rw [f7]; simp; omega, dn ++ [(k, ov)], r, true, by rw [List.append_assoc]; exact f1, s4, s5, ?_, s1, (fun h => by cases h), rfl⟩
                dsimp only
                rw [s6, ow_set (OWs_len _)]
                simp
                rfl
    · exact ⟨[], pss, rfl, rfl, rfl, rfl⟩
end Mine
end

section
open PySem PySem.W PyProof.Rows
set_option autoImplicit false
set_option linter.unusedVariables false
namespace Mine

def tle (x y : T) : Prop := ¬ y < x
theorem tle_refl (x : T) : tle x x := List.lt_irrefl x
theorem tle_of_lt {x y : T} (h : x < y) : tle x y := List.lt_asymm h
theorem tle_trans {x y z : T} (h1 : tle x y) (h2 : tle y z) : tle x z := fun h => by
  have a := List.not_lt.mp h1
  have b := List.not_lt.mp h2
  exact List.not_lt.mpr (List.le_trans a b) h
theorem tle_anti {x y : T} (h1 : tle x y) (h2 : tle y x) : x = y := List.le_antisymm (List.not_lt.mp h1) (List.not_lt.mp h2)
theorem tle_total {x y : T} (h : ¬ tle x y) : tle y x := fun h' => h (tle_of_lt h')

abbrev g (a : List T) (i : Nat) : T := a.getD i []
theorem g_set_eq {a : List T} {i : Nat} {v : T} (h : i < a.length) : g (a.set i v) i = v := by
  simp [g, List.getD_eq_getElem?_getD, List.getElem?_set, h]
theorem g_set_ne {a : List T} {i j : Nat} {v : T} (h : i ≠ j) : g (a.set i v) j = g a j := by
  simp [g, List.getD_eq_getElem?_getD, List.getElem?_set, h]
theorem g_get {a : List T} {i : Nat} (h : i < a.length) : a[i] = g a i := by
  simp [g, List.getD_eq_getElem?_getD, h]

theorem swap_perm {a : List T} {i j : Nat} {v : T} (hi : i < a.length) (hj : j < a.length) (hij : i ≠ j) : ((a.set i (g a j)).set j v).Perm (a.set i v) := by
  rw [List.perm_iff_count]
  intro y
  rw [List.count_set (by simpa using hj), List.count_set hi, List.count_set hi]
  have e : (a.set i (g a j))[j]'(by simpa using hj) = g a j := by
    rw [List.getElem_set_ne hij]; exact g_get hj
  rw [e]
  have m1 : (if (a[i] == y) = true then 1 else 0) ≤ List.count y a := by
    split
    · rename_i h
      have : a[i] = y := by simpa using h
      rw [← this]
      exact List.count_pos_iff.mpr (List.getElem_mem hi)
    · exact Nat.zero_le _
  omega

def par (i : Nat) : Nat := (i - 1) / 2
def Heap' (a : List T) : Prop := ∀ i, 0 < i → i < a.length → tle (g a (par i)) (g a i)

/-- a heap but for the hole at pos, which is to take new or a smaller one -/
structure HoleI (a : List T) (pos : Nat) : Prop where
  lt : pos < a.length
  a1 : ∀ i, 0 < i → i < a.length → i ≠ pos → par i ≠ pos → tle (g a (par i)) (g a i)
  a3 : ∀ i, 0 < i → i < a.length → par i = pos → 0 < pos → tle (g a (par pos)) (g a i)

theorem par_lt {i : Nat} (h : 0 < i) : par i < i := by unfold par; omega

theorem sd_ok (new : T) : ∀ (f : Nat) (a : List T) (pos : Nat), pos ≤ f → HoleI a pos → (∀ i, 0 < i → i < a.length → par i = pos → tle new (g a i)) → Heap' (sd new f a pos) ∧ (sd new f a pos).Perm (a.set pos new)
  | f, a, pos, hf, I, h2 => by
    have fin : (pos = 0 ∨ tle (g a (par pos)) new) → Heap' (a.set pos new) := by
      intro hp i h0 hi
      rw [List.length_set] at hi
      by_cases c1 : i = pos
      · subst c1
        rw [g_set_eq I.lt, g_set_ne (Nat.ne_of_gt (par_lt h0))]
        rcases hp with hp | hp
        · omega
        · exact hp
      · rw [g_set_ne (Ne.symm c1)]
        by_cases c2 : par i = pos
        · rw [c2, g_set_eq I.lt]; exact h2 i h0 hi c2
        · rw [g_set_ne (Ne.symm c2)]; exact I.a1 i h0 hi c1 c2
    cases f with
    | zero =>
      have : pos = 0 := by omega
      exact ⟨fin (.inl this), List.Perm.refl _⟩
    | succ f =>
      unfold sd
      by_cases c0 : 0 < pos
      · rw [if_pos c0]
        have hpp := par_lt c0
        have hpl : par pos < a.length := Nat.lt_trans hpp I.lt
        show Heap' (if new < g a (par pos) then _ else _) ∧ _
        by_cases c1 : new < g a (par pos)
        · have e : (if new < a.getD ((pos - 1) / 2) [] then sd new f (a.set pos (a.getD ((pos - 1) / 2) [])) ((pos - 1) / 2) else a.set pos new) = sd new f (a.set pos (g a (par pos))) (par pos) := if_pos c1
          rw [e]
          rw [if_pos c1]
          have hne : pos ≠ par pos := Nat.ne_of_gt hpp
          have I' : HoleI (a.set pos (g a (par pos))) (par pos) := by
            refine ⟨by rw [List.length_set]; exact hpl, fun i h0 hi n1 n2 => ?_, fun i h0 hi hp hpos => ?_⟩
            · rw [List.length_set] at hi
              have ni : i ≠ pos := fun q => n2 (by rw [q])
              rw [g_set_ne (Ne.symm ni)]
              by_cases c2 : par i = pos
              · rw [c2, g_set_eq I.lt]; exact I.a3 i h0 hi c2 c0
              · rw [g_set_ne (Ne.symm c2)]; exact I.a1 i h0 hi ni c2
            · rw [List.length_set] at hi
              have q1 : par (par pos) ≠ pos := by have := par_lt hpos; omega
              rw [g_set_ne (Ne.symm q1)]
              have up1 := I.a1 (par pos) hpos hpl (Ne.symm hne) q1
              by_cases c2 : i = pos
              · subst c2; rw [g_set_eq I.lt]; exact up1
              · rw [g_set_ne (Ne.symm c2)]
                have := I.a1 i h0 hi c2 (by rw [hp]; exact Ne.symm hne)
                rw [hp] at this
                exact tle_trans up1 this
          obtain ⟨r1, r2⟩ := sd_ok new f (a.set pos (g a (par pos))) (par pos) (by omega) I' (fun i h0 hi hp => by
            rw [List.length_set] at hi
            by_cases c2 : i = pos
            · subst c2; rw [g_set_eq I.lt]; exact tle_of_lt c1
            · rw [g_set_ne (Ne.symm c2)]
              have := I.a1 i h0 hi c2 (by rw [hp]; exact Ne.symm hne)
              rw [hp] at this
              exact tle_trans (tle_of_lt c1) this)
          exact ⟨r1, r2.trans (swap_perm I.lt hpl hne)⟩
        · rw [if_neg c1]
          have e : (if new < a.getD ((pos - 1) / 2) [] then sd new f (a.set pos (a.getD ((pos - 1) / 2) [])) ((pos - 1) / 2) else a.set pos new) = a.set pos new := if_neg c1
          rw [e]
          exact ⟨fin (.inr c1), List.Perm.refl _⟩
      · rw [if_neg c0]
        exact ⟨fin (.inl (by omega)), List.Perm.refl _⟩

theorem push_ok (h : List T) (x : T) (H : Heap' h) : Heap' (push h x) ∧ (push h x).Perm (x :: h) := by
  unfold push
  have gl : ∀ i, i < h.length → g (h ++ [x]) i = g h i := fun i hi => by
    simp [g, List.getD_eq_getElem?_getD, List.getElem?_append_left hi]
  obtain ⟨r1, r2⟩ := sd_ok x h.length (h ++ [x]) h.length (Nat.le_refl _) ⟨by simp, fun i h0 hi n1 n2 => by
      have hi' : i < h.length := by simp at hi; omega
      rw [gl i hi', gl (par i) (Nat.lt_trans (par_lt h0) hi')]
      exact H i h0 hi', fun i h0 hi hp _ => by
      simp at hi
      have := par_lt h0
      omega⟩ (fun i h0 hi hp => by
      simp at hi
      have := par_lt h0
      omega)
  refine ⟨r1, r2.trans ?_⟩
  have : (h ++ [x]).set h.length x = h ++ [x] := by simp
  rw [this]
  exact List.perm_append_singleton x h

/-- the hole goes down to a leaf -/
theorem sb_ok (new : T) : ∀ (f : Nat) (a : List T) (pos : Nat), a.length ≤ pos + f → HoleI a pos → HoleI (sb f a pos).1 (sb f a pos).2 ∧ (sb f a pos).1.length ≤ 2 * (sb f a pos).2 + 1 ∧ ((sb f a pos).1.set (sb f a pos).2 new).Perm (a.set pos new)
  | 0, a, pos, hf, I => absurd I.lt (by omega)
  | f + 1, a, pos, hf, I => by
    unfold sb
    by_cases c0 : 2 * pos + 1 < a.length
    · rw [if_pos c0]
      have hk : pos < kid a pos ∧ kid a pos < a.length ∧ par (kid a pos) = pos ∧ ∀ i, 0 < i → i < a.length → par i = pos → tle (g a (kid a pos)) (g a i) := by
        unfold kid
        by_cases c1 : 2 * pos + 2 < a.length ∧ ¬ a.getD (2 * pos + 1) [] < a.getD (2 * pos + 2) []
        · rw [if_pos c1]
          refine ⟨by omega, c1.1, by unfold par; omega, fun i h0 hi hp => ?_⟩
          have : i = 2 * pos + 1 ∨ i = 2 * pos + 2 := by unfold par at hp; omega
          rcases this with rfl | rfl
          · exact c1.2
          · exact tle_refl _
        · rw [if_neg c1]
          refine ⟨by omega, c0, by unfold par; omega, fun i h0 hi hp => ?_⟩
          have : i = 2 * pos + 1 ∨ i = 2 * pos + 2 := by unfold par at hp; omega
          rcases this with rfl | rfl
          · exact tle_refl _
          · refine tle_of_lt ?_
            exact Classical.byContradiction fun q => c1 ⟨hi, q⟩
      obtain ⟨k1, k2, k3, k4⟩ := hk
      have hk0 : 0 < kid a pos := by omega
      have hne : pos ≠ kid a pos := by omega
      have I' : HoleI (a.set pos (g a (kid a pos))) (kid a pos) := by
        refine ⟨by rw [List.length_set]; exact k2, fun i h0 hi n1 n2 => ?_, fun i h0 hi hp hpos => ?_⟩
        · rw [List.length_set] at hi
          by_cases c1 : i = pos
          · subst c1
            rw [g_set_eq I.lt, g_set_ne (Nat.ne_of_gt (par_lt h0))]
            exact I.a3 _ hk0 k2 k3 h0
          · rw [g_set_ne (Ne.symm c1)]
            by_cases c2 : par i = pos
            · rw [c2, g_set_eq I.lt]; exact k4 i h0 hi c2
            · rw [g_set_ne (Ne.symm c2)]; exact I.a1 i h0 hi c1 c2
        · rw [List.length_set] at hi
          rw [k3, g_set_eq I.lt]
          have hip : i ≠ pos := by have := par_lt h0; omega
          rw [g_set_ne (Ne.symm hip)]
          have := I.a1 i h0 hi hip (by rw [hp]; omega)
          rw [hp] at this
          exact this
      obtain ⟨r1, r2, r3⟩ := sb_ok new f (a.set pos (g a (kid a pos))) (kid a pos) (by rw [List.length_set]; omega) I'
      exact ⟨r1, r2, r3.trans (swap_perm I.lt k2 hne)⟩
    · rw [if_neg c0]
      exact ⟨I, by show a.length ≤ 2 * pos + 1; omega, List.Perm.refl _⟩

theorem up_ok (z : T) (r : List T) (I : HoleI (z :: r) 0) : Heap' (up (z :: r)) ∧ (up (z :: r)).Perm (z :: r) := by
  obtain ⟨r1, r2, r3⟩ := sb_ok z (z :: r).length (z :: r) 0 (by omega) I
  unfold up
  show Heap' (sd z _ _ _) ∧ (sd z _ _ _).Perm _
  generalize sb (z :: r).length (z :: r) 0 = q at r1 r2 r3
  have hl := List.length_set (as := q.1) (i := q.2) (a := z)
  obtain ⟨s1, s2⟩ := sd_ok z q.2 (q.1.set q.2 z) q.2 (Nat.le_refl _) ⟨by rw [hl]; exact r1.lt, fun i h0 hi n1 n2 => by
      rw [hl] at hi
      rw [g_set_ne (Ne.symm n1), g_set_ne (Ne.symm n2)]
      exact r1.a1 i h0 hi n1 n2, fun i h0 hi hp hpos => by
      rw [hl] at hi
      have h1 : i ≠ q.2 := by have := par_lt h0; omega
      rw [g_set_ne (Ne.symm h1), g_set_ne (Nat.ne_of_gt (par_lt hpos))]
      exact r1.a3 i h0 hi hp hpos⟩ (fun i h0 hi hp => by
      rw [hl] at hi
      unfold par at hp
      omega)
  refine ⟨s1, s2.trans ?_⟩
  rw [List.set_set]
  exact r3.trans (by simp)

theorem root_min {a : List T} (H : Heap' a) : ∀ (n i : Nat), i ≤ n → i < a.length → tle (g a 0) (g a i)
  | 0, i, h, hi => by
    have : i = 0 := by omega
    rw [this]; exact tle_refl _
  | n + 1, i, h, hi => by
    by_cases c : i = 0
    · rw [c]; exact tle_refl _
    · have h0 : 0 < i := by omega
      have := par_lt h0
      exact tle_trans (root_min H n (par i) (by omega) (by omega)) (H i h0 hi)

theorem pop_ok (ys : List T) (z : T) (H : Heap' (ys ++ [z])) : Heap' (pop ys z).2 ∧ ((pop ys z).1 :: (pop ys z).2).Perm (ys ++ [z]) ∧ ∀ x ∈ (pop ys z).2, tle (pop ys z).1 x := by
  cases ys with
  | nil => exact ⟨fun i h0 hi => by simp [pop] at hi, List.Perm.refl _, fun x hx => by simp [pop] at hx⟩
  | cons y r =>
    have ge : ∀ i, 0 < i → i < (z :: r).length → g (z :: r) i = g (y :: r ++ [z]) i := fun i h0 hi => by
      cases i with
      | zero => omega
      | succ i =>
        simp at hi
        simp [g, List.getD_eq_getElem?_getD, List.getElem?_append_left hi]
    obtain ⟨u1, u2⟩ := up_ok z r ⟨by simp, fun i h0 hi n1 n2 => by
      have hp0 : 0 < par i := by omega
      rw [ge i h0 hi, ge (par i) hp0 (Nat.lt_trans (par_lt h0) hi)]
      exact H i h0 (by simp at hi ⊢; omega), fun i h0 hi hp hpos => absurd hpos (by decide)⟩
    have hp : (y :: up (z :: r)).Perm (y :: r ++ [z]) := by
      refine List.Perm.cons y (u2.trans ?_)
      exact (List.perm_append_singleton z r).symm
    refine ⟨u1, hp, fun x hx => ?_⟩
    have hx' : x ∈ y :: r ++ [z] := hp.subset (.tail _ hx)
    obtain ⟨i, hi, rfl⟩ := List.getElem_of_mem hx'
    rw [g_get hi]
    exact root_min H i i (Nat.le_refl _) hi

theorem popL_ok (h : List T) (hne : h ≠ []) (H : Heap' h) : Heap' (popL h).2 ∧ ((popL h).1 :: (popL h).2).Perm h ∧ ∀ x ∈ (popL h).2, tle (popL h).1 x := by
  unfold popL
  have e : h.dropLast ++ [h.getLastD []] = h := by
    have := List.dropLast_concat_getLast hne
    rw [List.getLastD_eq_getLast?, List.getLast?_eq_some_getLast hne]
    simpa using this
  have := pop_ok h.dropLast (h.getLastD []) (by rw [e]; exact H)
  rw [e] at this
  exact this

theorem drain_ok : ∀ (k : Nat) (h : List T), h.length = k → Heap' h → (drain k h).Pairwise tle ∧ (drain k h).Perm h
  | 0, h, hl, H => by
    have : h = [] := List.length_eq_zero_iff.mp hl
    subst this
    exact ⟨.nil, List.Perm.refl _⟩
  | k + 1, h, hl, H => by
    obtain ⟨p1, p2, p3⟩ := popL_ok h (fun q => by rw [q] at hl; simp at hl) H
    have hl2 : (popL h).2.length = k := by have := p2.length_eq; simp at this; omega
    obtain ⟨d1, d2⟩ := drain_ok k (popL h).2 hl2 p1
    exact ⟨List.pairwise_cons.mpr ⟨fun x hx => p3 x (d2.subset hx), d1⟩, (List.Perm.cons _ d2).trans p2⟩

theorem fold_ok : ∀ (ts h : List T), Heap' h → Heap' (ts.foldl push h) ∧ (ts.foldl push h).Perm (ts ++ h)
  | [], h, H => ⟨H, List.Perm.refl _⟩
  | t :: ts, h, H => by
    obtain ⟨p1, p2⟩ := push_ok h t H
    obtain ⟨f1, f2⟩ := fold_ok ts (push h t) p1
    exact ⟨f1, f2.trans ((List.Perm.append_left ts p2).trans List.perm_middle)⟩

/-- what comes off the heap is the texts in order -/
theorem emptied_ok (ts : List T) : (emptied ts).Pairwise tle ∧ (emptied ts).Perm ts := by
  unfold emptied
  obtain ⟨f1, f2⟩ := fold_ok ts [] (fun i h0 hi => by simp at hi)
  rw [List.append_nil] at f2
  obtain ⟨d1, d2⟩ := drain_ok ts.length (ts.foldl push []) f2.length_eq f1
  exact ⟨d1, d2.trans f2⟩
theorem sorted_eq {a b : List T} (h1 : a.Pairwise tle) (h2 : b.Pairwise tle) (h : a.Perm b) : a = b :=
  List.Perm.eq_of_pairwise (fun x y _ _ p q => tle_anti p q) h1 h2 h
end Mine
end

section
open PySem PySem.W PyProof.Rows
set_option autoImplicit false
set_option linter.unusedVariables false
namespace Mine

theorem rising_pw : ∀ (zs : List Str) (p : Str), risingS p zs = true → (p :: zs).Pairwise (fun a b => tle a.cps.toList b.cps.toList)
  | [], p, _ => List.pairwise_singleton _ _
  | x :: r, p, h => by
    unfold risingS at h
    rw [Bool.and_eq_true, ltCps_eq] at h
    have h1 : tle p.cps.toList x.cps.toList := by simpa [tle] using h.1
    have ih := rising_pw r x h.2
    refine List.pairwise_cons.mpr ⟨fun y hy => ?_, ih⟩
    rcases List.mem_cons.mp hy with rfl | hy
    · exact h1
    · exact tle_trans h1 ((List.pairwise_cons.mp ih).1 y hy)
theorem sortedS_pw {zs : List Str} (h : sortedS zs = true) : zs.Pairwise (fun a b => tle a.cps.toList b.cps.toList) := by
  cases zs with
  | nil => exact .nil
  | cons x r => exact rising_pw r x h
theorem sorted_strs {zs : List Str} {ts : List T} (hp : zs.Perm (ts.map S)) (hs : sortedS zs = true) : zs = (emptied ts).map S := by
  have e : (zs.map (fun x => x.cps.toList)).map S = zs := by
    rw [List.map_map]
    refine (List.map_congr_left fun x _ => ?_).trans (List.map_id _)
    show S x.cps.toList = x
    rfl
  have hp' : (zs.map (fun x => x.cps.toList)).Perm ts := by
    have := hp.map (fun x : Str => x.cps.toList)
    rw [List.map_map] at this
    have e2 : ts.map ((fun x : Str => x.cps.toList) ∘ S) = ts := (List.map_congr_left fun x _ => rfl).trans (List.map_id _)
    rwa [e2] at this
  have hw : (zs.map (fun x => x.cps.toList)).Pairwise tle := List.pairwise_map.mpr (sortedS_pw hs)
  obtain ⟨m1, m2⟩ := emptied_ok ts
  rw [← e, sorted_eq hw m1 (hp'.trans m2.symm)]

theorem left_eq : ∀ (r m a : List Pr), r.Nodup → a.Nodup → left r m a = (m ++ r.filter (fun x => !decide (x ∈ a)), a.filter (fun x => !decide (x ∈ r)))
  | [], m, a, _, _ => by
    have : a.filter (fun _ => true) = a := List.filter_eq_self.mpr fun _ _ => rfl
    simp [left, this]
  | x :: r, m, a, hr, ha => by
    obtain ⟨hx, hr'⟩ := List.nodup_cons.mp hr
    unfold left
    by_cases c : x ∈ a
    · rw [if_pos c, left_eq r m (a.erase x) hr' (ha.erase x)]
      congr 1
      · have : (fun y => !decide (y ∈ x :: r)) = (fun y => !decide (y ∈ x :: r)) := rfl
        rw [List.filter_cons, if_neg (by simpa using c)]
        congr 1
        refine List.filter_congr fun y hy => ?_
        have : y ≠ x := fun q => hx (q ▸ hy)
        simp only [List.mem_erase_of_ne this]
      · rw [ha.erase_eq_filter, List.filter_filter]
        refine List.filter_congr fun y hy => ?_
        by_cases q : y = x
        · subst q; simp
        · simp [q]
    · rw [if_neg c, left_eq r (m ++ [x]) a hr' ha]
      congr 1
      · rw [List.filter_cons, if_pos (by simpa using c)]
        simp
      · refine List.filter_congr fun y hy => ?_
        have : y ≠ x := fun q => c (q ▸ hy)
        simp [this]

theorem sdiff_eq : ∀ (xs ys : List T), xs.Pairwise (· < ·) → ys.Pairwise (· < ·) → sdiff xs ys = (xs.filter (fun x => !decide (x ∈ ys)), ys.filter (fun x => !decide (x ∈ xs))) := by
  intro xs ys
  fun_induction sdiff xs ys with
  | case1 ys =>
    intro _ _
    have : ys.filter (fun _ => true) = ys := List.filter_eq_self.mpr fun _ _ => rfl
    simp [this]
  | case2 xs h =>
    intro _ _
    have : xs.filter (fun _ => true) = xs := List.filter_eq_self.mpr fun _ _ => rfl
    simp [this]
  | case3 x xs y ys hlt ih =>
    intro hx hy
    obtain ⟨hx1, hx2⟩ := List.pairwise_cons.mp hx
    obtain ⟨hy1, hy2⟩ := List.pairwise_cons.mp hy
    have ih := ih hx2 hy
    have nx : x ∉ y :: ys := fun q => by
      rcases List.mem_cons.mp q with rfl | q
      · exact List.lt_irrefl _ hlt
      · exact List.lt_irrefl _ (List.lt_trans hlt (hy1 _ q))
    rw [ih]
    congr 1
    · rw [List.filter_cons (x := x), if_pos (by simpa using nx)]
    · refine List.filter_congr fun z hz => ?_
      have : z ≠ x := fun q => nx (q ▸ hz)
      simp [this]
  | case4 x xs y ys h1 hlt ih =>
    intro hx hy
    obtain ⟨hx1, hx2⟩ := List.pairwise_cons.mp hx
    obtain ⟨hy1, hy2⟩ := List.pairwise_cons.mp hy
    have ih := ih hx hy2
    have ny : y ∉ x :: xs := fun q => by
      rcases List.mem_cons.mp q with rfl | q
      · exact List.lt_irrefl _ hlt
      · exact List.lt_irrefl _ (List.lt_trans hlt (hx1 _ q))
    rw [ih]
    congr 1
    · refine List.filter_congr fun z hz => ?_
      have : z ≠ y := fun q => ny (q ▸ hz)
      simp [this]
    · rw [List.filter_cons (x := y), if_pos (by simpa using ny)]
  | case5 x xs y ys h1 h2 ih =>
    intro hx hy
    obtain ⟨hx1, hx2⟩ := List.pairwise_cons.mp hx
    obtain ⟨hy1, hy2⟩ := List.pairwise_cons.mp hy
    have ih := ih hx2 hy2
    have e : x = y := tle_anti h2 h1
    subst e
    rw [ih]
    congr 1
    · rw [List.filter_cons, if_neg (by simp)]
      refine List.filter_congr fun z hz => ?_
      have : z ≠ x := fun q => List.lt_irrefl _ (q ▸ hx1 z hz)
      simp [this]
    · rw [List.filter_cons, if_neg (by simp)]
      refine List.filter_congr fun z hz => ?_
      have : z ≠ x := fun q => List.lt_irrefl _ (q ▸ hy1 z hz)
      simp [this]

theorem wval_inj {v w : T} (hv : v = [97] ∨ v = [97, 97] ∨ v ∈ qvals) (hw : w = [97] ∨ w = [97, 97] ∨ w ∈ qvals) (h : wval v = wval w) : v = w := by
  have tk : ∀ {u : T}, u = [97] ∨ u = [97, 97] ∨ u ∈ qvals → (wval u = u ∧ ∃ r, u = 97 :: r) ∨ (u ∈ qvals ∧ wval u = 34 :: (esc u ++ [34])) := by
    intro u hu
    rcases hu with rfl | rfl | hu
    · exact .inl ⟨rfl, _, rfl⟩
    · exact .inl ⟨rfl, _, rfl⟩
    · have := q_len u hu
      refine .inr ⟨hu, if_neg fun q => ?_⟩
      rcases q with q | q
      · exact this.2.1 q
      · exact this.2.2 q
  rcases tk hv with ⟨v1, r, hr⟩ | ⟨v1, v2⟩ <;> rcases tk hw with ⟨w1, r', hr'⟩ | ⟨w1, w2⟩
  · rw [← v1, ← w1]; exact h
  · rw [v1, w2, hr] at h; cases h
  · rw [w1, v2, hr'] at h; cases h
  · rw [v2, w2] at h
    have h1 : esc v ++ [34] = esc w ++ [34] := by injection h
    have h2 : esc v = esc w := List.append_cancel_right h1
    have e1 := q_es v v1
    have e2 := q_es w w1
    rw [h2, e2] at e1
    exact (Option.some.inj e1).symm
theorem written_inj {p q : Pr} (hp : Good p) (hq : Good q) (h : written p = written q) : p = q := by
  obtain ⟨k, ov⟩ := p
  obtain ⟨k', ow⟩ := q
  have gv : ∀ {k : Nat} {v : T}, Good (k, some v) → v = [97] ∨ v = [97, 97] ∨ v ∈ qvals := by
    intro k v hg
    rcases hg.val with q | q | q | ⟨w, hw, q⟩
    · cases q
    · cases q; exact .inl rfl
    · cases q; exact .inr (.inl rfl)
    · cases q; exact .inr (.inr hw)
  cases ov with
  | none =>
    cases ow with
    | none =>
      have h' : [k] = [k'] := h
      cases h'; rfl
    | some w =>
      rw [written_some] at h
      have h' : [k] = k' :: 61 :: wval w := h
      cases h'
  | some v =>
    cases ow with
    | none =>
      rw [written_some] at h
      have h' : k :: 61 :: wval v = [k'] := h
      cases h'
    | some w =>
      rw [written_some, written_some] at h
      have h1 : k = k' := by injection h
      have h2 : wval v = wval w := by injection h with _ h; injection h
      rw [h1, wval_inj (gv hp) (gv hq) h2]

theorem map_nodup {l : List Pr} (hg : ∀ p ∈ l, Good p) (h : l.Nodup) : (l.map written).Nodup := by
  rw [List.nodup_iff_pairwise_ne, List.pairwise_map]
  refine List.Pairwise.imp_of_mem (fun {a b} ha hb hab q => hab (written_inj (hg a ha) (hg b hb) q)) (List.nodup_iff_pairwise_ne.mp h)
theorem strict_of {ts : List T} (h1 : ts.Pairwise tle) (h2 : ts.Nodup) : ts.Pairwise (· < ·) := by
  refine List.Pairwise.imp (R := fun a b => tle a b ∧ a ≠ b) (fun {a b} h => ?_) (List.Pairwise.and h1 (List.nodup_iff_pairwise_ne.mp h2))
  exact Classical.byContradiction fun q => h.2 (tle_anti h.1 q)
theorem rows_strict {l : List Pr} (hg : ∀ p ∈ l, Good p) (h : l.Nodup) : (emptied (l.map written)).Pairwise (· < ·) := by
  obtain ⟨m1, m2⟩ := emptied_ok (l.map written)
  exact strict_of m1 (m2.nodup_iff.mpr (map_nodup hg h))
/-- what the rows differ in -/
theorem rows_diff {l0 l1 : List Pr} (h0 : ∀ p ∈ l0, Good p) (h1 : ∀ p ∈ l1, Good p) :
    (emptied (l0.map written)).filter (fun x => !decide (x ∈ emptied (l1.map written))) = emptied ((l0.filter fun p => !decide (p ∈ l1)).map written) := by
  obtain ⟨a1, a2⟩ := emptied_ok (l0.map written)
  obtain ⟨b1, b2⟩ := emptied_ok (l1.map written)
  obtain ⟨c1, c2⟩ := emptied_ok ((l0.filter fun p => !decide (p ∈ l1)).map written)
  refine sorted_eq (a1.filter _) c1 ?_
  refine (a2.filter _).trans ?_
  refine List.Perm.trans ?_ c2.symm
  rw [List.filter_map]
  have : (l0.filter ((fun x => !decide (x ∈ emptied (l1.map written))) ∘ written)) = l0.filter fun p => !decide (p ∈ l1) := by
    refine List.filter_congr fun p hp => ?_
    have : written p ∈ emptied (l1.map written) ↔ p ∈ l1 := by
      rw [b2.mem_iff, List.mem_map]
      constructor
      · rintro ⟨q, hq, e⟩
        rw [← written_inj (h1 q hq) (h0 p hp) e]; exact hq
      · intro h; exact ⟨p, h, rfl⟩
    simp only [Function.comp, this]
  rw [this]
theorem told_eq {l0 l1 : List Pr} (h0 : ∀ p ∈ l0, Good p) (h1 : ∀ p ∈ l1, Good p) (n0 : l0.Nodup) (n1 : l1.Nodup) :
    sdiff (emptied (l0.map written)) (emptied (l1.map written)) = (emptied ((l0.filter fun p => !decide (p ∈ l1)).map written), emptied ((l1.filter fun p => !decide (p ∈ l0)).map written)) := by
  rw [sdiff_eq _ _ (rows_strict h0 n0) (rows_strict h1 n1), rows_diff h0 h1, rows_diff h1 h0]

theorem addIf_nodup {c : Bool} {l : List Pr} {p : Pr} (h : l.Nodup) : (addIf c l p).Nodup := by
  unfold addIf
  split
  · rename_i q
    rw [List.nodup_append]
    refine ⟨h, by simp, fun a ha b hb e => ?_⟩
    rw [List.mem_singleton.mp hb] at e
    exact q.2 (e ▸ ha)
  · exact h
theorem addIf_good {c : Bool} {l : List Pr} {p : Pr} (h : ∀ q ∈ l, Good q) (hp : Good p) : ∀ q ∈ addIf c l p, Good q := by
  unfold addIf
  split
  · intro q hq
    rcases List.mem_append.mp hq with q' | q'
    · exact h q q'
    · rw [List.mem_singleton.mp q']; exact hp
  · exact h
theorem addIf_ne {c : Bool} {l : List Pr} {p : Pr} (h : l ≠ []) : addIf c l p ≠ [] := by
  unfold addIf
  split
  · simp
  · exact h
structure Fine (l : List Pr) (n : Nat) : Prop where
  good : ∀ p ∈ l, Good p
  nodup : l.Nodup
  len : l.length ≤ n
theorem fold1 : ∀ (xs : List Int) (l : List Pr) (n : Nat), Fine l n → Fine (xs.foldl step1 l) (n + xs.length) ∧ (l ≠ [] → xs.foldl step1 l ≠ [])
  | [], l, n, h => ⟨h, id⟩
  | x :: xs, l, n, h => by
    obtain ⟨a, b⟩ := fold1 xs (step1 l x) (n + 1) ⟨addIf_good h.good (good_prOf x), addIf_nodup h.nodup, Nat.le_trans (addIf_len _ _ _) (Nat.succ_le_succ h.len)⟩
    exact ⟨⟨a.good, a.nodup, by have := a.len; simp only [List.length_cons]; simp only [List.foldl_cons]; omega⟩, fun q => b (addIf_ne q)⟩
theorem fold2 : ∀ (xs : List Int) (l : List Pr) (n : Nat), Fine l n → Fine (xs.foldl step2 l) (n + xs.length) ∧ (l ≠ [] → xs.foldl step2 l ≠ [])
  | [], l, n, h => ⟨h, id⟩
  | x :: xs, l, n, h => by
    obtain ⟨a, b⟩ := fold2 xs (step2 l x) (n + 1) ⟨addIf_good h.good (good_prOf x), addIf_nodup h.nodup, Nat.le_trans (addIf_len _ _ _) (Nat.succ_le_succ h.len)⟩
    exact ⟨⟨a.good, a.nodup, by have := a.len; simp only [List.length_cons]; simp only [List.foldl_cons]; omega⟩, fun q => b (addIf_ne q)⟩
theorem fineNil : Fine [] 0 := ⟨(fun p hp => nomatch hp), List.nodup_nil, Nat.le_refl _⟩
def numbers (ns : List Int) : List Int := [263, 3, 16, 474, 211] ++ ns.take 4
theorem fine1 (ns : List Int) : Fine ((numbers ns).foldl step1 []) 9 ∧ (numbers ns).foldl step1 [] ≠ [] := by
  have h := (fold1 (numbers ns) [] 0 fineNil).1
  have hl : (numbers ns).length ≤ 9 := by simp [numbers]; omega
  refine ⟨⟨h.good, h.nodup, by have := h.len; omega⟩, ?_⟩
  have e : numbers ns = 263 :: ([3, 16, 474, 211] ++ ns.take 4) := rfl
  rw [e, List.foldl_cons]
  refine (fold1 _ (step1 [] 263) 1 ⟨addIf_good (fun p hp => nomatch hp) (good_prOf _), addIf_nodup List.nodup_nil, by decide⟩).2 ?_
  decide
theorem fine2 (ns : List Int) : Fine ((numbers ns).foldl step2 []) 9 ∧ (numbers ns).foldl step2 [] ≠ [] := by
  have h := (fold2 (numbers ns) [] 0 fineNil).1
  have hl : (numbers ns).length ≤ 9 := by simp [numbers]; omega
  refine ⟨⟨h.good, h.nodup, by have := h.len; omega⟩, ?_⟩
  have e : numbers ns = 263 :: ([3, 16, 474, 211] ++ ns.take 4) := rfl
  rw [e, List.foldl_cons]
  refine (fold2 _ (step2 [] 263) 1 ⟨addIf_good (fun p hp => nomatch hp) (good_prOf _), addIf_nodup List.nodup_nil, by decide⟩).2 ?_
  decide
end Mine
end

section
open PySem PySem.W PyProof.Rows PySem.Calls
set_option autoImplicit false
set_option linter.unusedVariables false
set_option maxRecDepth 100000
namespace Mine
section
variable {G : Glob} {B : Base} {A : Around} {σ : St} {Ψ : XPost} {Φ : AV → St → Prop}

theorem Tst.mono {ifs : List Expr} {Ψ₁ Ψ₂ : Bool → St → Prop} (hi : ∀ ok σ₂, Ψ₁ ok σ₂ → Ψ₂ ok σ₂) (hT : Tst G B A σ ifs Ψ₁) : Tst G B A σ ifs Ψ₂ := by
  match ifs, hT with
  | [], hT => exact hi _ _ hT
  | [c], hT => exact Do.mono hT hi

/-- a comprehension over a told list, each item by itself -/
theorem CompL.mapIf {j : Nat} {t elt : Expr} {ifs : List Expr} {Φ : List AV → St → Prop} {α : Type} (e r : α → AV) (p : α → Bool) (ow0 : List OW) (Ce : List (Str × AV) → Prop) (l₀ : List α) (hj : ow0.length = j) (hl : l₀.length ≤ 1000)
    (turn : ∀ a ∈ l₀, ∀ io lo ce ys, Ce ce → (∀ y ∈ ys, ∃ b ∈ l₀, y = r b) → Asg G (B.withIo io) A { lo := lo, ce := ce, ow := ow0 ++ [.lst ys] } t (e a) (fun σ₁ => Tst G (B.withIo io) A σ₁ ifs (fun ok σ₂ => ok = p a ∧ match ok with
      | false => Ce σ₂.ce ∧ σ₂.ow = ow0 ++ [.lst ys]
      | true => Ev G (B.withIo io) A σ₂ elt (fun y σ₃ => y = r a ∧ Ce σ₃.ce ∧ σ₃.ow = ow0 ++ [.lst ys]) noX)) noX)
    (fin : ∀ lo ce, Ce ce → Φ ((l₀.filter p).map r) { lo := lo, ce := ce, ow := ow0 ++ [.lst ((l₀.filter p).map r)] }) :
    ∀ (d l : List α) (lo ce : List (Str × AV)), d ++ l = l₀ → Ce ce → CompL G B A j t ifs elt Φ (l.map e) ((d.filter p).map r) { lo := lo, ce := ce, ow := ow0 ++ [.lst ((d.filter p).map r)] }
  | d, [], lo, ce, hd, hc => by
    rw [List.append_nil] at hd
    subst hd
    exact fin lo ce hc
  | d, a :: l, lo, ce, hd, hc => fun io => by
    have ha : a ∈ l₀ := by rw [← hd]; simp
    have hys : ∀ y ∈ (d.filter p).map r, ∃ b ∈ l₀, y = r b := fun y hy => by
      obtain ⟨b, hb, rfl⟩ := List.mem_map.mp hy
      exact ⟨b, by rw [← hd]; exact List.mem_append_left _ (List.mem_filter.mp hb).1, rfl⟩
    have hdl : (d.filter p).length ≤ 1000 := Nat.le_trans (List.length_filter_le _ _) (by rw [← hd, List.length_append] at hl; omega)
    intro K ad s u hR hv Q E q ex
    refine turn a ha io lo ce _ hc hys K ad s u hR hv Q E (fun x s' K' ad' b σ' g1 g2 g3 g4 g5 g6 => q x s' K' ad' b σ' g1 g2 g3 g4 g5 ?_) ex
    refine Tst.mono (fun ok σ₂ z => ?_) g6
    obtain ⟨z1, z2⟩ := z
    cases ok with
    | false =>
      obtain ⟨lo2, ce2, ow2⟩ := σ₂
      obtain ⟨z3, z4⟩ := z2
      dsimp only at z3 z4
      subst z4
      refine ⟨ow_last hj, ?_⟩
      have := CompL.mapIf e r p ow0 Ce l₀ hj hl turn fin (d ++ [a]) l lo2 ce2 (by rw [List.append_assoc]; exact hd) z3
      rw [List.filter_append, List.filter_cons, if_neg (by rw [← z1]; exact Bool.false_ne_true), List.filter_nil, List.append_nil] at this
      exact this
    | true =>
      refine Do.mono z2 fun y σ₃ w => ?_
      obtain ⟨lo3, ce3, ow3⟩ := σ₃
      obtain ⟨rfl, w3, w4⟩ := w
      dsimp only at w3 w4
      subst w4
      have h16 := sz16
      refine ⟨ow_last hj, by rw [List.length_map]; omega, ?_⟩
      have := CompL.mapIf e r p ow0 Ce l₀ hj hl turn fin (d ++ [a]) l lo3 ce3 (by rw [List.append_assoc]; exact hd) w3
      rw [List.filter_append, List.filter_cons, if_pos z1.symm, List.filter_nil, List.map_append] at this
      dsimp only
      rw [ow_set hj]
      exact this

/-- the same, no test -/
theorem CompL.map {j : Nat} {t elt : Expr} {Φ : List AV → St → Prop} {α : Type} (e r : α → AV) (ow0 : List OW) (Ce : List (Str × AV) → Prop) (l : List α) (hj : ow0.length = j) (hl : l.length ≤ 1000)
    (turn : ∀ a ∈ l, ∀ io lo ce ys, Ce ce → (∀ y ∈ ys, ∃ b ∈ l, y = r b) → Asg G (B.withIo io) A { lo := lo, ce := ce, ow := ow0 ++ [.lst ys] } t (e a) (fun σ₁ => Ev G (B.withIo io) A σ₁ elt (fun y σ₃ => y = r a ∧ Ce σ₃.ce ∧ σ₃.ow = ow0 ++ [.lst ys]) noX) noX)
    (fin : ∀ lo ce, Ce ce → Φ (l.map r) { lo := lo, ce := ce, ow := ow0 ++ [.lst (l.map r)] }) (lo ce : List (Str × AV)) (hc : Ce ce) :
    CompL G B A j t [] elt Φ (l.map e) [] { lo := lo, ce := ce, ow := ow0 ++ [.lst []] } := by
  have hft : l.filter (fun _ => true) = l := List.filter_eq_self.mpr fun _ _ => rfl
  refine CompL.mapIf e r (fun _ => true) ow0 Ce l hj hl (fun a ha io lo ce ys h1 h2 => ?_) (by rw [hft]; exact fin) [] l lo ce rfl hc
  intro K ad s u hR hv Q E q ex
  exact turn a ha io lo ce ys h1 h2 K ad s u hR hv Q E (fun x s' K' ad' b σ' g1 g2 g3 g4 g5 g6 => q x s' K' ad' b σ' g1 g2 g3 g4 g5 ⟨rfl, g6⟩) ex

theorem Ev.usub {x : Expr} {pos : Pos} (h : Ev G B A σ x (fun v σ₁ => ∃ i, v = .int i ∧ Φ (.int (-i)) σ₁) Ψ) : Ev G B A σ (.UnaryOp .USub x pos) Φ Ψ := fun K ad s hR Q E q ex => by
  refine wpAny_UnaryOp (h K ad s hR _ _ (fun u s₁ K₁ ad₁ v σ₁ g1 g2 g3 g4 g5 g6 => ?_) ex)
  obtain ⟨i, rfl, hΦ⟩ := g6
  simp only [V] at g4
  obtain ⟨t, rfl⟩ := g4
  refine PySem.P.neg_int ?_
  exact q _ { s₁ with toks := s₁.toks + 1 } K₁ ad₁ _ σ₁ g1 g2 g3 V_int (g5.trans ⟨rfl, rfl, rfl⟩) hΦ

theorem Op2.neSame {a b : AV} (n m : Nat) (d : PyData) (ha : fz 0 σ.ow n a = emb d) (hb : fz 0 σ.ow m b = emb d) (hc : d.canLay0 = true) (hu : A.units + d.depth < cLine) (h : Φ (.bool false) σ) : Op2 G B A σ (compareOp .NotEq) a b Φ Ψ :=
  Op2.neD ha hb hc hc (by rw [Nat.min_self]; exact hu) (by rw [SeqAt.eqv_refl d hc]; exact h)
theorem Op2.eqSame {a b : AV} (n m : Nat) (d : PyData) (ha : fz 0 σ.ow n a = emb d) (hb : fz 0 σ.ow m b = emb d) (hc : d.canLay0 = true) (hu : A.units + d.depth < cLine) (h : Φ (.bool true) σ) : Op2 G B A σ (compareOp .Eq) a b Φ Ψ :=
  Op2.eqD ha hb hc hc (by rw [Nat.min_self]; exact hu) (by rw [SeqAt.eqv_refl d hc]; exact h)
end

def dS (t : T) : PyData := .str (S t)
def dL (ts : List T) : PyData := .list (ts.map dS)
def dP (ps : List Pr) : PyData := .list (ps.map pd)
theorem emb_dS (t : T) : emb (dS t) = sv t := by simp [dS, emb, sv]
theorem emb_list (ds : List PyData) : emb (.list ds) = .lst (ds.map emb) := by simp [emb, embs_map]
theorem emb_tuple (ds : List PyData) : emb (.tuple ds) = .tup (ds.map emb) := by simp [emb, embs_map]
theorem emb_dL (ts : List T) : emb (dL ts) = .lst (ts.map sv) := by
  unfold dL
  rw [emb_list, List.map_map]
  exact congrArg AV.lst (List.map_congr_left fun x _ => emb_dS x)
theorem emb_dP (ps : List Pr) : emb (dP ps) = .lst (ps.map pv) := by
  unfold dP
  rw [emb_list, emb_pds]
theorem lay_list : ∀ {ds : List PyData}, (∀ d ∈ ds, d.canLay0 = true) → (PyData.list ds).canLay0 = true
  | [], _ => by simp [PyData.canLay0, PyData.canLayAll0]
  | d :: ds, h => by
    have h1 := h d (.head _)
    have h2 := lay_list (ds := ds) (fun x hx => h x (.tail _ hx))
    simp only [PyData.canLay0] at h2
    simp [PyData.canLay0, PyData.canLayAll0, h1, h2]
theorem lay_tuple {ds : List PyData} (h : ∀ d ∈ ds, d.canLay0 = true) : (PyData.tuple ds).canLay0 = true := by
  have := lay_list h
  simp only [PyData.canLay0] at this ⊢
  exact this
theorem depth_list {k : Nat} : ∀ {ds : List PyData}, (∀ d ∈ ds, d.depth ≤ k) → (PyData.list ds).depth ≤ k + 1
  | [], _ => by simp [PyData.depth, PyData.depthAll]
  | d :: ds, h => by
    have h1 := h d (.head _)
    have h2 := depth_list (ds := ds) (fun x hx => h x (.tail _ hx))
    simp only [PyData.depth, PyData.depthAll] at h2 ⊢
    omega
theorem depth_tuple {k : Nat} {ds : List PyData} (h : ∀ d ∈ ds, d.depth ≤ k) : (PyData.tuple ds).depth ≤ k + 1 := by
  have := depth_list h
  simp only [PyData.depth] at this ⊢
  exact this
def okT (t : T) : Prop := ∀ c ∈ t, c < 128
theorem lay_dL {ts : List T} (h : ∀ t ∈ ts, okT t) : (dL ts).canLay0 = true := lay_list fun d hd => by
  obtain ⟨t, ht, rfl⟩ := List.mem_map.mp hd
  exact lay_S (h t ht)
theorem lay_dP {ps : List Pr} (h : ∀ p ∈ ps, Good p) : (dP ps).canLay0 = true := lay_list fun d hd => by
  obtain ⟨t, ht, rfl⟩ := List.mem_map.mp hd
  exact lay_pd t (h t ht).ok
theorem depth_dL (ts : List T) : (dL ts).depth ≤ 1 := depth_list (k := 0) fun d hd => by
  obtain ⟨t, ht, rfl⟩ := List.mem_map.mp hd
  simp [dS, PyData.depth]
theorem depth_dP (ps : List Pr) : (dP ps).depth ≤ 2 := depth_list (k := 1) fun d hd => by
  obtain ⟨t, ht, rfl⟩ := List.mem_map.mp hd
  rw [depth_pd]; exact Nat.le_refl _
theorem okT_esc {v : T} (h : okT v) : okT (esc v) := fun c hc => by
  unfold esc at hc
  obtain ⟨x, hx, hc⟩ := List.mem_flatMap.mp hc
  have := h x hx
  unfold esc1 at hc
  split at hc
  · simp at hc; omega
  · simp at hc; omega
theorem okT_written {p : Pr} (h : Good p) : okT (written p) := fun c hc => by
  obtain ⟨h1, h2⟩ := h.ok
  obtain ⟨k, ov⟩ := p
  cases ov with
  | none =>
    have hc' : c ∈ [k] := hc
    rw [List.mem_singleton.mp hc']; exact h1
  | some v =>
    have hv : okT v := h2 v rfl
    rw [written_some] at hc
    rcases List.mem_cons.mp hc with rfl | hc
    · exact h1
    · rcases List.mem_cons.mp hc with rfl | hc
      · decide
      · unfold wval at hc
        split at hc
        · exact hv c hc
        · rcases List.mem_cons.mp hc with rfl | hc
          · decide
          · rcases List.mem_append.mp hc with hc | hc
            · exact okT_esc hv c hc
            · rw [List.mem_singleton.mp hc]; decide
theorem okT_joinW : ∀ (ts : List T), (∀ t ∈ ts, okT t) → okT (joinW ts)
  | [], _ => fun c hc => by simp [joinW] at hc
  | [x], h => h x (.head _)
  | x :: y :: r, h => fun c hc => by
    have ih := okT_joinW (y :: r) (fun t ht => h t (.tail _ ht))
    have hc : c ∈ x ++ 59 :: 32 :: joinW (y :: r) := hc
    rcases List.mem_append.mp hc with hc | hc
    · exact h x (.head _) c hc
    · rcases List.mem_cons.mp hc with rfl | hc
      · decide
      · rcases List.mem_cons.mp hc with rfl | hc
        · decide
        · exact ih c hc
theorem okT_written_all {l : List Pr} (h : ∀ p ∈ l, Good p) : ∀ t ∈ l.map written, okT t := fun t ht => by
  obtain ⟨p, hp, rfl⟩ := List.mem_map.mp ht
  exact okT_written (h p hp)
theorem okT_emptied {ts : List T} (h : ∀ t ∈ ts, okT t) : ∀ t ∈ emptied ts, okT t := fun t ht => h t ((emptied_ok ts).2.subset ht)
end Mine
end

section
open PySem PySem.W PyProof.Rows PySem.Calls
set_option autoImplicit false
set_option linter.unusedVariables false
set_option maxRecDepth 100000
set_option maxHeartbeats 4000000
namespace Mine

noncomputable def lawFd (P : Params) : Option (Scope × List Stmt) := match (hd.heap_39 P).lookup 158 with
  | some o => match o.data with
    | .func fd => match fd.body with
      | .stmts b => some (fd.scope, b)
      | _ => none
    | _ => none
  | none => none

theorem at143 {G : Glob} {P : Params} (C : Ctx G P) : ∃ o fd, G.H.get? 143 = some o ∧ o.data = .func fd := (C.fn (a := 143) rfl rfl rfl rfl rfl rfl rfl rfl rfl rfl rfl rfl rfl).some
theorem at148 {G : Glob} {P : Params} (C : Ctx G P) : ∃ o fd, G.H.get? 148 = some o ∧ o.data = .func fd := (C.fn (a := 148) rfl rfl rfl rfl rfl rfl rfl rfl rfl rfl rfl rfl rfl).some
theorem at87 {G : Glob} {P : Params} (C : Ctx G P) : ∃ o fd, G.H.get? 87 = some o ∧ o.data = .func fd := (C.fn (a := 87) rfl rfl rfl rfl rfl rfl rfl rfl rfl rfl rfl rfl rfl).some
theorem at70 {G : Glob} {P : Params} (C : Ctx G P) : ∃ o fd, G.H.get? 70 = some o ∧ o.data = .func fd := (C.fn (a := 70) rfl rfl rfl rfl rfl rfl rfl rfl rfl rfl rfl rfl rfl).some
theorem at129 {G : Glob} {P : Params} (C : Ctx G P) : ∃ o fd, G.H.get? 129 = some o ∧ o.data = .func fd := (C.fn (a := 129) rfl rfl rfl rfl rfl rfl rfl rfl rfl rfl rfl rfl rfl).some
theorem at153 {G : Glob} {P : Params} (C : Ctx G P) : ∃ o fd, G.H.get? 153 = some o ∧ o.data = .func fd := (C.fn (a := 153) rfl rfl rfl rfl rfl rfl rfl rfl rfl rfl rfl rfl rfl).some
theorem at122 {G : Glob} {P : Params} (C : Ctx G P) : ∃ o fd, G.H.get? 122 = some o ∧ o.data = .func fd := (C.fn (a := 122) rfl rfl rfl rfl rfl rfl rfl rfl rfl rfl rfl rfl rfl).some
theorem len1 {a : AV} : [a].length ≤ sizeLine := by show 1 ≤ sizeLine; decide
theorem shut_ints (m : Nat) (l : List Int) : ∀ x ∈ l.map AV.int, Shut m x := fun x hx => by
  obtain ⟨i, _, rfl⟩ := List.mem_map.mp hx
  exact Shut.int

theorem shutW_one {p : Nat} {ys : List AV} (h : ∀ y ∈ ys, Shut p y) : ShutW p [.lst ys] := fun w hw xs e x hx => by
  rw [List.mem_singleton.mp hw] at e
  cases e
  exact h x hx
theorem shutW_app {p : Nat} {a b : List OW} (ha : ShutW p a) (hb : ShutW p b) : ShutW p (a ++ b) := fun w hw => by
  rcases List.mem_append.mp hw with q | q
  · exact ha w q
  · exact hb w q
theorem notIn_pvL {G : Glob} {B : Base} {A : Around} {σ : St} {Ψ : XPost} {Φ : AV → St → Prop} {l : List Pr} {p : Pr} (hl : ∀ q ∈ l, okPr q) (hp : okPr p) (hu : A.units + 2 < cLine) (h : Φ (.bool (!decide (p ∈ l))) σ) : Op2 G B A σ (compareOp .NotIn) (pv p) (.lst (l.map pv)) Φ Ψ := by
  rw [← emb_pd, ← emb_pds]
  refine Op2.notIn_lst (ds := l.map pd) (fun d hd => ?_) (lay_pd p hp) (by rw [depth_pd]; exact hu) (by rw [any_pd]; exact h)
  obtain ⟨q, hq, rfl⟩ := List.mem_map.mp hd
  exact lay_pd q (hl q hq)
theorem shut_r {α : Type} {l : List α} {r : α → AV} {m : Nat} (h : ∀ a ∈ l, Shut m (r a)) : ∀ y ∈ l.map r, Shut m y := fun y hy => by
  obtain ⟨a, ha, rfl⟩ := List.mem_map.mp hy
  exact h a ha
theorem shut_ys {α : Type} {l : List α} {r : α → AV} {m : Nat} {ys : List AV} (hys : ∀ y ∈ ys, ∃ b ∈ l, y = r b) (h : ∀ a, Shut m (r a)) : ∀ y ∈ ys, Shut m y := fun y hy => by
  obtain ⟨a, ha, rfl⟩ := hys y hy
  exact h a

end Mine
end

section
open PySem PySem.W PyProof.Rows PySem.Calls
set_option autoImplicit false
set_option linter.unusedVariables false
set_option maxRecDepth 100000
set_option maxHeartbeats 4000000
namespace Mine

theorem law_end {G : Glob} {P : Params} (C : Ctx G P) {name : Str} {L a : Addr} {cd : Value} {K : PH} {h₀ : Heap} {A : Around} {sc : Scope} {body : List Stmt} (hfd : lawFd P = some (sc, body)) (hA : AOk 20 A [envOfC name sc L a cd]) {l0 l1 a0 a1 : List Pr} (F1 : Fine l0 9) (F2 : Fine l1 9) (ha0 : a0 = l0.filter (fun p => !decide (p ∈ l1))) (ha1 : a1 = l1.filter (fun p => !decide (p ∈ l0)))
    {lo ce : List (Str × AV)} {ow : List OW} (hw0 : ∀ m, ShutW m ow) (d1 : lo.lookup (Str.ofString "due") = some (.lst [.lst ((l0.map written).map sv), .lst ((l1.map written).map sv)])) (d2 : lo.lookup (Str.ofString "alone") = some (.lst [.lst (a0.map pv), .lst (a1.map pv)]))
    (d3 : lo.lookup (Str.ofString "rows") = some (.lst [.lst ((emptied (l0.map written)).map sv), .lst ((emptied (l1.map written)).map sv)])) :
    Ex G (baseOf (envOfC name sc L a cd) [] K h₀ [] [Str.ofString "lists"]) A { lo := lo, ce := ce, ow := ow } (body.drop 7) (fun fl σ' => retOf fl = .bool true) noX := by
  have e : lawFd P = some (_, _) := rfl
  have hE : EnvOk (envOfC name sc L a cd) := by
    rw [e] at hfd
    cases hfd
    exact ⟨rfl, rfl, rfl⟩
  rw [e] at hfd
  cases hfd
  clear e
  have h16 := sz16
  have hu : A.units + 100 < cLine := by have := hA.units; omega
  have g0 : ∀ p ∈ a0, Good p := fun p hp => by rw [ha0] at hp; exact F1.good p (List.mem_filter.mp hp).1
  have g1 : ∀ p ∈ a1, Good p := fun p hp => by rw [ha1] at hp; exact F2.good p (List.mem_filter.mp hp).1
  have m0 : a0.length ≤ 9 := by rw [ha0]; exact Nat.le_trans (List.length_filter_le _ _) F1.len
  have m1 : a1.length ≤ 9 := by rw [ha1]; exact Nat.le_trans (List.length_filter_le _ _) F2.len
  have lf1 := F1.len
  have lf2 := F2.len
  have z2 : ∀ (x y : AV), [x, y].length ≤ sizeLine := fun _ _ => by show 2 ≤ sizeLine; decide
  have q0 := okT_emptied (okT_written_all F1.good)
  have q1 := okT_emptied (okT_written_all F2.good)
  have p0 := okT_emptied (okT_written_all g0)
  have p1 := okT_emptied (okT_written_all g1)
  -- rows against sorted
  refine Ex.cons (Ex1.if (Tr.compare (Ev.loc hE rfl d3 (Ev.list (Evs.cons (Ev.callB C.ok hE rfl (C.b _ _ rfl).1 (C.b _ _ rfl).2 (.inl ⟨_, rfl⟩) (Evs.cons (Ev.subscript (Ev.loc hE rfl d1 (Ev.int (Sub.lst (by decide) rfl (z2 _ _) (Evs.nil ?_))))))))))))
  rw [svs]
  refine Op.sorted (by simp; omega) fun zs hp hs => ?_
  rw [sorted_strs hp hs]
  refine Evs.cons (Ev.callB C.ok hE rfl (C.b _ _ rfl).1 (C.b _ _ rfl).2 (.inl ⟨_, rfl⟩) (Evs.cons (Ev.subscript (Ev.loc hE rfl d1 (Ev.int (Sub.lst (by decide) rfl (z2 _ _) (Evs.nil ?_)))))))
  rw [svs (l1.map written)]
  refine Op.sorted (by simp; omega) fun zs hp hs => ?_
  rw [sorted_strs hp hs]
  refine Evs.nil ⟨len2, ?_⟩
  refine Op2.neSame 0 0 (.list [dL (emptied (l0.map written)), dL (emptied (l1.map written))]) ?_ ?_ (lay_list fun d hd => ?_) ?_ ⟨_, rfl, ?_⟩
  · rw [emb_list, List.map_cons, List.map_cons, List.map_nil, emb_dL, emb_dL]; rfl
  · rw [emb_list, List.map_cons, List.map_cons, List.map_nil, emb_dL, emb_dL, svs, svs]; rfl
  · rcases List.mem_cons.mp hd with rfl | hd
    · exact lay_dL q0
    · rw [List.mem_singleton.mp hd]; exact lay_dL q1
  · have := depth_list (k := 2) (ds := [dL (emptied (l0.map written)), dL (emptied (l1.map written))]) (fun d hd => by
      rcases List.mem_cons.mp hd with rfl | hd
      · exact Nat.le_trans (depth_dL _) (by decide)
      · rw [List.mem_singleton.mp hd]; exact Nat.le_trans (depth_dL _) (by decide))
    omega
  rw [if_neg Bool.false_ne_true]
  refine Ex.nil ?_
  -- lost, over
  refine Ex.cons (Ex1.assignComp2 (cl := []) (ce' := []) hA.handled hE rfl rfl rfl ⟨by simp, fun c hc => (nomatch hc), fun x c hc => (nomatch hc)⟩ (Ev.loc hE rfl d2 ⟨_, Iterable.lst hA.handled, fun x v hx => (nomatch hx), ?_⟩))
  rintro B' ⟨cc, K', h', ad', rfl⟩
  have hga : ∀ ps ∈ [a0, a1], (∀ p ∈ ps, Good p) ∧ ps.length ≤ 9 := fun ps hp => by
    rcases List.mem_cons.mp hp with rfl | hp
    · exact ⟨g0, m0⟩
    · rw [List.mem_singleton.mp hp]; exact ⟨g1, m1⟩
  refine CompL.map (fun ps => .lst (ps.map pv)) (fun ps => .lst ((emptied (ps.map written)).map sv)) ow (fun _ => True) [a0, a1] rfl (by simp) ?_ ?_ [] [] trivial
  · intro ps hps io lo ce ys _ hys
    obtain ⟨gps, lps⟩ := hga ps hps
    refine Asg.name (compEnvOk hE rfl) rfl ?_
    refine Ev.callB C.ok (compEnvOk hE rfl) rfl (C.b _ _ rfl).1 (C.b _ _ rfl).2 (.inl ⟨_, rfl⟩) (Evs.cons (Ev.comp (cl := []) (ce' := []) rfl ⟨by simp, fun c hc => (nomatch hc), fun x c hc => (nomatch hc)⟩ (Ev.loc (compEnvOk hE rfl) rfl look_eq ⟨_, Iterable.lst hA.handled, fun x v hx => (nomatch hx), ?_⟩)))
    rintro B'' ⟨c2, K2, h2, ad2, rfl⟩
    refine CompL.map pv (fun p => sv (written p)) (ow ++ [.lst ys]) (fun _ => True) ps rfl (by omega) ?_ ?_ [] [] trivial
    · intro p hp io2 lo2 ce2 ys2 _ _
      have gp := gps p hp
      refine Asg.name (compEnvOk (compEnvOk hE rfl) rfl) rfl ?_
      refine Ev.call (p := 0) C.ok (compEnvOk (compEnvOk hE rfl) rfl) hA rfl (C.g _ _ rfl) (at148 C) (Evs.cons (Ev.loc (compEnvOk (compEnvOk hE rfl) rfl) rfl look_eq (Evs.nil ⟨Nat.zero_le _, shutW_nil, Shut.cons (shut_pv _ _) Shut.nil, Fun.mono (fn_written C 18 p gp.ok (fun v hv => Nat.le_trans (gp.len v hv) (by decide))) ?_⟩)))
      rintro _ _ ⟨rfl, rfl⟩
      exact ⟨rfl, trivial, by dsimp only; rw [List.nil_append, List.drop_zero]⟩
    · intro lo2 ce2 _
      refine ⟨by rw [List.take_left]; exact shutW_app (hw0 _) (shutW_one (shut_ys hys fun b => Shut.lst (shut_svs _ _))), shut_r fun a _ => Shut.str, ?_⟩
      have em : ps.map (fun p => sv (written p)) = ((ps.map written).map S).map .str := by rw [List.map_map, List.map_map]; rfl
      rw [em]
      refine Evs.nil (Op.sorted (by simp; omega) fun zs hp hs => ?_)
      rw [sorted_strs hp hs]
      refine ⟨by rw [svs], trivial, ?_⟩
      exact List.take_left
  intro lo2 ce2 _
  refine ⟨by rw [List.take_left]; exact hw0 _, shut_r fun a _ => Shut.lst (shut_svs _ _), _, _, rfl, ?_⟩
  refine Ex.gen (fun τ => τ.lo.lookup (Str.ofString "rows") = some (.lst [.lst ((emptied (l0.map written)).map sv), .lst ((emptied (l1.map written)).map sv)]) ∧ τ.lo.lookup (Str.ofString "lost") = some (.lst ((emptied (a0.map written)).map sv)) ∧ τ.lo.lookup (Str.ofString "over") = some (.lst ((emptied (a1.map written)).map sv))) ⟨look_ne (look_ne d3 (by decide)) (by decide), look_ne look_eq (by decide), look_eq⟩ ?_
  clear d1 d2 d3 hw0
  rintro τ ⟨d1, d2, d3⟩
  have r0 := rows_strict F1.good F1.nodup
  have r1 := rows_strict F2.good F2.nodup
  have ln0 : (emptied (l0.map written)).length ≤ 1000 := by rw [(emptied_ok _).2.length_eq, List.length_map]; omega
  have ln1 : (emptied (l1.map written)).length ≤ 1000 := by rw [(emptied_ok _).2.length_eq, List.length_map]; omega
  have t01 := told_eq F1.good F2.good F1.nodup F2.nodup
  have t10 := told_eq F2.good F1.good F2.nodup F1.nodup
  rw [← ha0, ← ha1] at t01
  rw [← ha0, ← ha1] at t10
  have s2 : ∀ (m : Nat) (x y : List T), ∀ z ∈ [AV.lst (x.map sv), .lst (y.map sv)], Shut m z := fun m x y => Shut.cons (Shut.lst (shut_svs _ _)) (Shut.cons (Shut.lst (shut_svs _ _)) Shut.nil)
  -- told
  refine Ex.cons (Ex1.assign hE rfl (Ev.tuple (Evs.cons (Ev.call (p := 0) C.ok hE hA rfl (C.g _ _ rfl) (at122 C) (Evs.cons (Ev.subscript (Ev.loc hE rfl d1 (Ev.int (Sub.lst (by decide) rfl (z2 _ _) (Evs.cons (Ev.subscript (Ev.loc hE rfl d1 (Ev.int (Sub.lst (by decide) rfl (z2 _ _) (Evs.nil ⟨Nat.zero_le _, shutW_nil, s2 _ _ _, Fun.mono (fn_sorted_diff C 18 _ _ ln0 ln1 r0 r1) ?_⟩)))))))))))))))
  rintro _ _ ⟨rfl, rfl⟩
  rw [t01]
  refine Evs.cons (Ev.call (p := 0) C.ok hE hA rfl (C.g _ _ rfl) (at122 C) (Evs.cons (Ev.subscript (Ev.loc hE rfl d1 (Ev.int (Sub.lst (by decide) rfl (z2 _ _) (Evs.cons (Ev.subscript (Ev.loc hE rfl d1 (Ev.int (Sub.lst (by decide) rfl (z2 _ _) (Evs.nil ⟨Nat.zero_le _, shutW_nil, s2 _ _ _, Fun.mono (fn_sorted_diff C 18 _ _ ln1 ln0 r1 r0) ?_⟩))))))))))))
  rintro _ _ ⟨rfl, rfl⟩
  rw [t10]
  refine Evs.nil ⟨len2, ?_⟩
  refine Ex.cons (Ex1.ret (Ev.compare (Ev.loc hE rfl look_eq (Ev.tuple (Evs.cons (Ev.tuple (Evs.cons (Ev.loc hE rfl (look_ne d2 (by decide)) (Evs.cons (Ev.loc hE rfl (look_ne d3 (by decide)) (Evs.nil ⟨len2, ?_⟩)))))))))))
  refine Evs.cons (Ev.tuple (Evs.cons (Ev.loc hE rfl (look_ne d3 (by decide)) (Evs.cons (Ev.loc hE rfl (look_ne d2 (by decide)) (Evs.nil ⟨len2, Evs.nil ⟨len2, ?_⟩⟩))))))
  have e4 : AV.tup [.tup [.lst ((emptied (a0.map written)).map sv), .lst ((emptied (a1.map written)).map sv)], .tup [.lst ((emptied (a1.map written)).map sv), .lst ((emptied (a0.map written)).map sv)]] = emb (.tuple [.tuple [dL (emptied (a0.map written)), dL (emptied (a1.map written))], .tuple [dL (emptied (a1.map written)), dL (emptied (a0.map written))]]) := by
    rw [emb_tuple, List.map_cons, List.map_cons, List.map_nil, emb_tuple, emb_tuple, List.map_cons, List.map_cons, List.map_nil, List.map_cons, List.map_cons, List.map_nil, emb_dL, emb_dL]
  have lt : ∀ (x y : List T), (∀ t ∈ x, okT t) → (∀ t ∈ y, okT t) → (PyData.tuple [dL x, dL y]).canLay0 = true ∧ (PyData.tuple [dL x, dL y]).depth ≤ 2 := fun x y hx hy => by
    refine ⟨lay_tuple fun d hd => ?_, depth_tuple (k := 1) fun d hd => ?_⟩
    · rcases List.mem_cons.mp hd with rfl | hd
      · exact lay_dL hx
      · rw [List.mem_singleton.mp hd]; exact lay_dL hy
    · rcases List.mem_cons.mp hd with rfl | hd
      · exact depth_dL _
      · rw [List.mem_singleton.mp hd]; exact depth_dL _
  refine Op2.eqSame 0 0 _ e4 e4 (lay_tuple fun d hd => ?_) ?_ ?_
  · rcases List.mem_cons.mp hd with rfl | hd
    · exact (lt _ _ p0 p1).1
    · rw [List.mem_singleton.mp hd]; exact (lt _ _ p1 p0).1
  · have := depth_tuple (k := 2) (ds := [.tuple [dL (emptied (a0.map written)), dL (emptied (a1.map written))], .tuple [dL (emptied (a1.map written)), dL (emptied (a0.map written))]]) (fun d hd => by
      rcases List.mem_cons.mp hd with rfl | hd
      · exact (lt _ _ p0 p1).2
      · rw [List.mem_singleton.mp hd]; exact (lt _ _ p1 p0).2)
    omega
  rfl
end Mine
end

section
open PySem PySem.W PyProof.Rows PySem.Calls
set_option autoImplicit false
set_option linter.unusedVariables false
set_option maxRecDepth 100000
set_option maxHeartbeats 4000000
namespace Mine

theorem clok2 {B : Base} {x y : Str} {c d : Addr} (hB : B.env.cells = [(x, c), (y, d)]) (hcd : c ≠ d) (hxy : x ≠ y) : ClOk B [(y, d), (x, c)] := by
  refine ⟨?_, fun e he => ?_, fun z e he => ?_⟩
  · simp only [List.map_cons, List.map_nil, List.nodup_cons, List.mem_singleton, List.not_mem_nil, not_false_eq_true, List.nodup_nil, and_true]
    exact Ne.symm hcd
  · rw [hB]
    simp only [List.map_cons, List.map_nil, List.mem_cons, List.not_mem_nil, or_false] at he ⊢
    exact he.symm
  · rw [hB]
    rw [List.lookup_cons, List.lookup_cons] at he ⊢
    cases q1 : z == x with
    | false =>
      rw [q1] at he
      dsimp only at he ⊢
      cases q2 : z == y with
      | false => rw [q2] at he; cases he
      | true => rw [q2] at he; exact he
    | true =>
      rw [q1] at he
      have e1 := beq_iff_eq.mp q1
      have q2 : (z == y) = false := beq_eq_false_iff_ne.mpr (fun q => hxy (e1.symm.trans q))
      rw [q2] at he
      exact he

theorem law_tail {G : Glob} {P : Params} (C : Ctx G P) {name : Str} {L a : Addr} {cd : Value} {K : PH} {h₀ : Heap} {A : Around} {sc : Scope} {body : List Stmt} (hfd : lawFd P = some (sc, body)) (hA : AOk 20 A [envOfC name sc L a cd]) {l0 l1 : List Pr} (F1 : Fine l0 9) (N1 : l0 ≠ []) (F2 : Fine l1 9) (N2 : l1 ≠ []) {LS : AV} (hLS : LS = AV.tup [.lst (l0.map pv), .lst (l1.map pv)])
    {τ : St} (d1 : τ.lo.lookup (Str.ofString "due") = some (.lst [.lst ((l0.map written).map sv), .lst ((l1.map written).map sv)])) (c1 : τ.ce.lookup (Str.ofString "lists") = some LS) (o1 : τ.ow = []) :
    Ex G (baseOf (envOfC name sc L a cd) [] K h₀ [] [Str.ofString "lists"]) A τ (body.drop 4) (fun fl σ' => retOf fl = .bool true) noX := by
  have e : lawFd P = some (_, _) := rfl
  have hE : EnvOk (envOfC name sc L a cd) := by
    rw [e] at hfd
    cases hfd
    exact ⟨rfl, rfl, rfl⟩
  rw [e] at hfd
  cases hfd
  clear e
  have h16 := sz16
  have hun : LS ≠ unset := by rw [hLS]; intro q; cases q
  have hgood : ∀ ps ∈ [l0, l1], Fine ps 9 ∧ ps ≠ [] := fun ps hp => by
    rcases List.mem_cons.mp hp with rfl | hp
    · exact ⟨F1, N1⟩
    · rw [List.mem_singleton.mp hp]; exact ⟨F2, N2⟩
  have hu : A.units + 100 < cLine := by have := hA.units; omega
  obtain ⟨lo, ce, ow⟩ := τ
  dsimp only at d1 c1 o1
  subst o1
  obtain ⟨pk, hpk⟩ : ∃ pk : Int → List Pr, pk = fun k => if k = 0 then l0 else l1 := ⟨_, rfl⟩
  have pk0 : pk 0 = l0 := by rw [hpk]; rfl
  have pk1 : pk 1 = l1 := by rw [hpk]; rfl
  have pks : ∀ k ∈ [(0 : Int), 1], 0 ≤ k ∧ 0 ≤ 1 - k ∧ [AV.lst (l0.map pv), .lst (l1.map pv)][k.toNat]? = some (.lst ((pk k).map pv)) ∧ [AV.lst (l0.map pv), .lst (l1.map pv)][(1 - k).toNat]? = some (.lst ((pk (1 - k)).map pv)) ∧ (∀ p ∈ pk k, Good p) ∧ (∀ p ∈ pk (1 - k), Good p) ∧ (pk k).length ≤ 9 := by
    intro k hk
    rcases List.mem_cons.mp hk with rfl | hk
    · refine ⟨by decide, by decide, ?_, ?_, ?_, ?_, ?_⟩
      · rw [pk0]; rfl
      · show _ = some (AV.lst ((pk 1).map pv)); rw [pk1]; rfl
      · rw [pk0]; exact F1.good
      · show ∀ p ∈ pk 1, Good p; rw [pk1]; exact F2.good
      · rw [pk0]; exact F1.len
    · rw [List.mem_singleton.mp hk]
      refine ⟨by decide, by decide, ?_, ?_, ?_, ?_, ?_⟩
      · rw [pk1]; rfl
      · show _ = some (AV.lst ((pk 0).map pv)); rw [pk0]; rfl
      · rw [pk1]; exact F2.good
      · show ∀ p ∈ pk 0, Good p; rw [pk0]; exact F1.good
      · rw [pk1]; exact F2.len
  -- alone
  refine Ex.cons (Ex1.assignCompC (cn := Str.ofString "k") (cl := [(Str.ofString "lists", L + 1)]) (ce' := [(Str.ofString "lists", LS)]) hE rfl rfl ⟨by simp, fun c hc => hc, fun x c hc => hc⟩ (Ev.callB C.ok hE rfl (C.b _ _ rfl).1 (C.b _ _ rfl).2 (.inr ⟨_, rfl⟩) (Evs.cons (Ev.int (Evs.nil (Op.range2 fun t u v => ⟨_, Iterable.range2 hA.handled, ?_, ?_⟩))))))
  · intro x v hx
    rw [List.lookup_cons] at hx
    cases q : x == Str.ofString "lists" with
    | false => rw [q] at hx; cases hx
    | true =>
      rw [q] at hx
      cases hx
      have := beq_iff_eq.mp q
      subst this
      exact ⟨c1, by decide, L + 1, rfl⟩
  rintro B' ⟨cc, K', h', ad', hcc, rfl⟩
  have hcc' : cc + 1 ≠ L + 1 := fun q => hcc (by rw [q]; exact .head _)
  refine CompL.map (fun k : Int => .int k) (fun k => .lst (((pk k).filter fun p => !decide (p ∈ pk (1 - k))).map pv)) [] (fun ce => (∃ w, ce.lookup (Str.ofString "k") = some w) ∧ ce.lookup (Str.ofString "lists") = some LS) [0, 1] rfl (by decide) ?_ ?_ [] _ ⟨⟨_, rfl⟩, rfl⟩
  · intro k hk io lo2 ce2 ys hce hys
    obtain ⟨⟨w, hw⟩, hl2⟩ := hce
    obtain ⟨k1, k2, k3, k4, k5, k6, k7⟩ := pks k hk
    refine Asg.cell (compEnvOk hE rfl) rfl (.head _) ?_ hw ?_
    · intro y d c h1 h2 hn q
      have h1' : some (cc + 1) = some c := h1
      cases h1'
      have h2' : ((Str.ofString "k", cc + 1) :: [(Str.ofString "lists", L + 1)]).lookup y = some d := h2
      rw [List.lookup_cons, beq_eq_false_iff_ne.mpr hn, List.lookup_cons] at h2'
      cases q2 : y == Str.ofString "lists" with
      | false => rw [q2] at h2'; cases h2'
      | true => rw [q2] at h2'; cases h2'; exact hcc' q.symm
    have hk1 : (setL ce2 (Str.ofString "k") (.int k)).lookup (Str.ofString "k") = some (.int k) := look_eq
    have hk2 : (setL ce2 (Str.ofString "k") (.int k)).lookup (Str.ofString "lists") = some LS := look_ne hl2 (by decide)
    refine Ev.comp (cl := [(Str.ofString "lists", L + 1), (Str.ofString "k", cc + 1)]) (ce' := [(Str.ofString "k", .int k), (Str.ofString "lists", LS)]) rfl (clok2 rfl hcc' (by decide)) (Ev.subscript (Ev.cell (compEnvOk hE rfl) rfl hk2 hun (Ev.cell (compEnvOk hE rfl) rfl hk1 (by intro z; cases z) ?_)))
    rw [hLS]
    refine Sub.tup k1 k3 (by show 2 ≤ sizeLine; decide) ⟨_, Iterable.lst hA.handled, ?_, ?_⟩
    · intro x v hx
      rw [← hLS] at hx
      rw [List.lookup_cons] at hx
      cases q : x == Str.ofString "k" with
      | true =>
        rw [q] at hx
        cases hx
        have := beq_iff_eq.mp q
        subst this
        exact ⟨hk1, cc + 1, rfl⟩
      | false =>
        rw [q] at hx
        dsimp only at hx
        rw [List.lookup_cons] at hx
        cases q2 : x == Str.ofString "lists" with
        | false => rw [q2] at hx; cases hx
        | true =>
          rw [q2] at hx
          cases hx
          have := beq_iff_eq.mp q2
          subst this
          exact ⟨hk2, L + 1, rfl⟩
    rintro B'' ⟨c3, K3, h3, ad3, rfl⟩
    rw [← hLS]
    refine CompL.mapIf pv pv (fun p => !decide (p ∈ pk (1 - k))) ([] ++ [.lst ys]) (fun ce => ce = [(Str.ofString "k", .int k), (Str.ofString "lists", LS)]) (pk k) rfl (by omega) ?_ ?_ [] (pk k) [] _ rfl rfl
    · intro p hp io3 lo3 ce3 ys3 hce3 hys3
      subst hce3
      refine Asg.name (compEnvOk (compEnvOk hE rfl) rfl) rfl ?_
      show Tr _ _ _ _ _ _ _
      refine Tr.compare (Ev.loc (compEnvOk (compEnvOk hE rfl) rfl) rfl look_eq (Ev.subscript (Ev.cell (compEnvOk (compEnvOk hE rfl) rfl) rfl (v := LS) rfl hun (Ev.binop (Ev.int (Ev.cell (compEnvOk (compEnvOk hE rfl) rfl) rfl (v := .int k) rfl (by intro z; cases z) (Op2.sub_int ?_)))))))
      rw [hLS]
      refine Sub.tup k2 k4 (by show 2 ≤ sizeLine; decide) ?_
      refine notIn_pvL (fun q hq => (k6 q hq).ok) (k5 p hp).ok (by omega) ⟨_, rfl, rfl, ?_⟩
      cases hd : !decide (p ∈ pk (1 - k)) with
      | false => exact ⟨rfl, rfl⟩
      | true => exact Ev.loc (compEnvOk (compEnvOk hE rfl) rfl) rfl look_eq ⟨rfl, rfl, rfl⟩
    · intro lo3 ce3 _
      refine ⟨by rw [List.take_left]; exact shutW_one (shut_ys hys fun b => Shut.lst (shut_pvs _ _)), shut_r fun a _ => shut_pv _ _, rfl, ⟨⟨_, hk1⟩, hk2⟩, ?_⟩
      exact List.take_left
  intro lo2 ce2 _
  refine ⟨shutW_nil, shut_r fun a _ => Shut.lst (shut_pvs _ _), ?_⟩
  obtain ⟨a0, ha0⟩ : ∃ a0, a0 = l0.filter (fun p => !decide (p ∈ l1)) := ⟨_, rfl⟩
  obtain ⟨a1, ha1⟩ : ∃ a1, a1 = l1.filter (fun p => !decide (p ∈ l0)) := ⟨_, rfl⟩
  have eal : [(0 : Int), 1].map (fun k => AV.lst (((pk k).filter fun p => !decide (p ∈ pk (1 - k))).map pv)) = [.lst (a0.map pv), .lst (a1.map pv)] := by
    show [AV.lst (((pk 0).filter fun p => !decide (p ∈ pk 1)).map pv), AV.lst (((pk 1).filter fun p => !decide (p ∈ pk 0)).map pv)] = _
    rw [pk0, pk1, ha0, ha1]
  rw [eal]
  refine Ex.gen (fun τ => τ.lo.lookup (Str.ofString "due") = some (.lst [.lst ((l0.map written).map sv), .lst ((l1.map written).map sv)]) ∧ τ.lo.lookup (Str.ofString "alone") = some (.lst [.lst (a0.map pv), .lst (a1.map pv)]) ∧ τ.ce.lookup (Str.ofString "lists") = some LS ∧ τ.ow = []) ⟨look_ne d1 (by decide), look_eq, c1, rfl⟩ ?_
  clear d1 c1
  rintro ⟨lo, ce, ow⟩ ⟨d1, d2, c1, rfl⟩
  dsimp only at d1 d2 c1
  have eL : left l0.reverse [] l1 = (a0.reverse, a1) := by
    rw [left_eq _ _ _ (List.pairwise_reverse.mpr (List.Pairwise.imp (fun h => Ne.symm h) F1.nodup)) F2.nodup, List.nil_append, List.filter_reverse, ← ha0, ha1]
    congr 1
    exact List.filter_congr fun p _ => by simp only [List.mem_reverse]
  have g0 : ∀ p ∈ a0, Good p := fun p hp => by rw [ha0] at hp; exact F1.good p (List.mem_filter.mp hp).1
  have g1 : ∀ p ∈ a1, Good p := fun p hp => by rw [ha1] at hp; exact F2.good p (List.mem_filter.mp hp).1
  have m0 : a0.length ≤ 9 := by rw [ha0]; exact Nat.le_trans (List.length_filter_le _ _) F1.len
  have m1 : a1.length ≤ 9 := by rw [ha1]; exact Nat.le_trans (List.length_filter_le _ _) F2.len
  have lf1 := F1.len
  have lf2 := F2.len
  have z2 : ∀ (x y : AV), [x, y].length ≤ sizeLine := fun _ _ => by show 2 ≤ sizeLine; decide
  -- unorderable_list_difference
  refine Ex.cons (Ex1.post (fun τ => τ.lo.lookup (Str.ofString "due") = some (.lst [.lst ((l0.map written).map sv), .lst ((l1.map written).map sv)]) ∧ τ.lo.lookup (Str.ofString "alone") = some (.lst [.lst (a0.map pv), .lst (a1.map pv)]) ∧ τ.ce.lookup (Str.ofString "lists") = some LS ∧ τ.ow = [.lst [], .lst (a1.map pv)]) ?_ ?_)
  · intro W' hW'
    refine Ex1.if (Tr.compare (Ev.call (p := 2) C.ok hE hA rfl (C.g _ _ rfl) (at129 C) (Evs.cons (Ev.callB C.ok hE rfl (C.b _ _ rfl).1 (C.b _ _ rfl).2 (.inr ⟨_, rfl⟩) (Evs.cons (Ev.subscript (Ev.cell hE rfl c1 hun (Ev.int ?_))))))))
    rw [hLS]
    refine Sub.tup (by decide) rfl (z2 _ _) (Evs.nil (Op.list_lst (by simp; omega) ?_))
    refine Evs.cons (Ev.callB C.ok hE rfl (C.b _ _ rfl).1 (C.b _ _ rfl).2 (.inr ⟨_, rfl⟩) (Evs.cons (Ev.subscript (Ev.cell hE rfl c1 hun (Ev.int ?_)))))
    rw [hLS]
    refine Sub.tup (by decide) rfl (z2 _ _) (Evs.nil (Op.list_lst (by simp; omega) (Evs.nil ⟨Nat.le_refl _, ?_, ?_, Fun.mono (fn_unorderable C 18 l0 l1 (fun q hq => (F1.good q hq).ok) (fun q hq => (F2.good q hq).ok) (by omega) (by omega)) ?_⟩)))
    · exact shutW_app (shutW_one (shut_pvs _ _)) (shutW_one (shut_pvs _ _))
    · exact Shut.cons (Shut.own (by show 0 < 2; decide)) (Shut.cons (Shut.own (by show 1 < 2; decide)) Shut.nil)
    rintro _ _ ⟨rfl, rfl⟩
    rw [eL]
    refine Ev.tuple (Evs.cons (Ev.subscript (Ev.subscript (Ev.loc hE rfl d2 (Ev.int (Sub.lst (by decide) rfl (z2 _ _) (Ev.slice (EvP.none (EvP.none (EvP.some (Ev.usub (Ev.int ⟨_, rfl, ⟨_, rfl, ?_⟩⟩))))))))))))
    intro vl vu vs pl pu ps
    refine Sub.lst_rev pl pu ps (by simp; omega) (Evs.cons (Ev.subscript (Ev.loc hE rfl d2 (Ev.int (Sub.lst (by decide) rfl (z2 _ _) (Evs.nil ⟨len2, ?_⟩))))))
    refine Op2.neSame 2 0 (.tuple [dP a0.reverse, dP a1]) ?_ ?_ (lay_tuple fun d hd => ?_) ?_ ⟨_, rfl, ?_⟩
    · show AV.tup [.lst (a0.reverse.map pv), .lst ((a1.map pv).map (fz 0 _ 0))] = _
      rw [map_fz0, emb_tuple, List.map_cons, List.map_cons, List.map_nil, emb_dP, emb_dP]
    · show AV.tup [.lst (a0.map pv).reverse, .lst (a1.map pv)] = _
      rw [emb_tuple, List.map_cons, List.map_cons, List.map_nil, emb_dP, emb_dP, List.map_reverse]
    · rcases List.mem_cons.mp hd with rfl | hd
      · exact lay_dP fun p hp => g0 p (List.mem_reverse.mp hp)
      · rw [List.mem_singleton.mp hd]; exact lay_dP g1
    · have := depth_tuple (k := 2) (ds := [dP a0.reverse, dP a1]) (fun d hd => by
        rcases List.mem_cons.mp hd with rfl | hd
        · exact depth_dP _
        · rw [List.mem_singleton.mp hd]; exact depth_dP _)
      omega
    rw [if_neg Bool.false_ne_true]
    exact Ex.nil ⟨rfl, hW' _ ⟨d1, d2, c1, rfl⟩⟩
  clear d1 d2 c1
  rintro ⟨lo, ce, ow⟩ ⟨d1, d2, c1, o1⟩
  dsimp only at d1 d2 c1 o1
  have hw0 : ∀ m, ShutW m ow := fun m => by
    rw [o1]
    exact shutW_app (a := [.lst []]) (shutW_one Shut.nil) (shutW_one (shut_pvs _ _))
  clear o1
  -- rows
  refine Ex.cons (Ex1.assignComp (cl := []) (ce' := []) hE rfl rfl ⟨by simp, fun c hc => (nomatch hc), fun x c hc => (nomatch hc)⟩ (Ev.cell hE rfl c1 hun ?_))
  rw [hLS]
  refine ⟨_, Iterable.tup hA.handled, fun x v hx => (nomatch hx), ?_⟩
  rintro B' ⟨cc, K', h', ad', rfl⟩
  refine CompL.map (fun ps => .lst (ps.map pv)) (fun ps => .lst ((emptied (ps.map written)).map sv)) ow (fun _ => True) [l0, l1] rfl (by simp) ?_ ?_ [] [] trivial
  · intro ps hps io lo ce ys _ hys
    obtain ⟨Fp, Np⟩ := hgood ps hps
    have lfp := Fp.len
    refine Asg.name (compEnvOk hE rfl) rfl ?_
    refine Ev.call (p := 0) C.ok (compEnvOk hE rfl) hA rfl (C.g _ _ rfl) (at153 C) (Evs.cons (Ev.comp (cl := []) (ce' := []) rfl ⟨by simp, fun c hc => (nomatch hc), fun x c hc => (nomatch hc)⟩ (Ev.loc (compEnvOk hE rfl) rfl look_eq ⟨_, Iterable.lst hA.handled, fun x v hx => (nomatch hx), ?_⟩)))
    rintro B'' ⟨c2, K2, h2, ad2, rfl⟩
    refine CompL.map pv (fun p => sv (written p)) (ow ++ [.lst ys]) (fun _ => True) ps rfl (by omega) ?_ ?_ [] [] trivial
    · intro p hp io2 lo2 ce2 ys2 _ _
      have gp := Fp.good p hp
      refine Asg.name (compEnvOk (compEnvOk hE rfl) rfl) rfl ?_
      refine Ev.call (p := 0) C.ok (compEnvOk (compEnvOk hE rfl) rfl) hA rfl (C.g _ _ rfl) (at87 C) (Evs.cons (Ev.list (Evs.cons (Ev.list (Evs.cons (Ev.loc (compEnvOk (compEnvOk hE rfl) rfl) rfl look_eq (Evs.nil ⟨len1, Evs.nil ⟨len1, Evs.nil ⟨Nat.zero_le _, shutW_nil, Shut.cons (Shut.lst (Shut.cons (Shut.lst (Shut.cons (shut_pv _ _) Shut.nil)) Shut.nil)) Shut.nil, Fun.mono (fn_join C 17 [p] (fun q hq => by rw [List.mem_singleton.mp hq]; exact gp) (by simp)) ?_⟩⟩⟩)))))))
      rintro _ _ ⟨rfl, rfl⟩
      exact ⟨rfl, trivial, by dsimp only; rw [List.nil_append, List.drop_zero]⟩
    · intro lo2 ce2 _
      refine ⟨by rw [List.take_left]; exact shutW_app (hw0 _) (shutW_one (shut_ys hys fun b => Shut.lst (shut_svs _ _))), shut_r fun a _ => Shut.str, ?_⟩
      have em : ps.map (fun p => sv (written p)) = (ps.map written).map sv := by rw [List.map_map]; rfl
      rw [em]
      refine Evs.nil ⟨Nat.zero_le _, shutW_nil, Shut.cons (Shut.lst (shut_svs _ _)) Shut.nil, Fun.mono (fn_emptied C 16 (ps.map written) (by rw [List.length_map]; omega)) ?_⟩
      rintro _ _ ⟨rfl, rfl⟩
      refine ⟨rfl, trivial, ?_⟩
      dsimp only
      rw [List.nil_append, List.drop_zero]
      exact List.take_left
  intro lo2 ce2 _
  refine ⟨by rw [List.take_left]; exact hw0 _, shut_r fun a _ => Shut.lst (shut_svs _ _), ?_⟩
  refine Ex.gen (fun τ => τ.lo.lookup (Str.ofString "due") = some (.lst [.lst ((l0.map written).map sv), .lst ((l1.map written).map sv)]) ∧ τ.lo.lookup (Str.ofString "alone") = some (.lst [.lst (a0.map pv), .lst (a1.map pv)]) ∧ τ.lo.lookup (Str.ofString "rows") = some (.lst [.lst ((emptied (l0.map written)).map sv), .lst ((emptied (l1.map written)).map sv)]) ∧ τ.ow = ow) ⟨look_ne d1 (by decide), look_ne d2 (by decide), look_eq, List.take_left⟩ ?_
  clear d1 d2 c1
  rintro ⟨lo, ce, ow'⟩ ⟨d1, d2, d3, rfl⟩
  dsimp only at d1 d2 d3
  exact law_end C rfl hA F1 F2 ha0 ha1 hw0 d1 d2 d3
end Mine
end

section
open PySem PySem.W PyProof.Rows PySem.Calls
set_option autoImplicit false
set_option linter.unusedVariables false
set_option maxRecDepth 100000
set_option maxHeartbeats 4000000
namespace Mine

theorem law_body {G : Glob} {P : Params} (C : Ctx G P) (ns : List Int) (hns : ns.length ≤ 63) {name : Str} {L a : Addr} {cd : Value} {K : PH} {h₀ : Heap} {A : Around} {sc : Scope} {body : List Stmt} (hfd : lawFd P = some (sc, body)) (hA : AOk 20 A [envOfC name sc L a cd]) :
    Ex G (baseOf (envOfC name sc L a cd) [] K h₀ [] [Str.ofString "lists"]) A { lo := [(Str.ofString "script", .lst (ns.map .int))], ce := [(Str.ofString "lists", unset)] } body (fun fl σ' => retOf fl = .bool true) noX := by
  have e : lawFd P = some (_, _) := rfl
  have hE : EnvOk (envOfC name sc L a cd) := by
    rw [e] at hfd
    cases hfd
    exact ⟨rfl, rfl, rfl⟩
  rw [e] at hfd
  cases hfd
  clear e
  obtain ⟨F1, N1⟩ := fine1 ns
  obtain ⟨F2, N2⟩ := fine2 ns
  have h16 := sz16
  have inj : ∀ (B : Base), B.env.cells = [(Str.ofString "lists", L + 1)] → ∀ y d c, B.env.cells.lookup (Str.ofString "lists") = some c → B.env.cells.lookup y = some d → y ≠ Str.ofString "lists" → d ≠ c := fun B hB y d c h1 h2 hn => by
    rw [hB, List.lookup_cons, beq_eq_false_iff_ne.mpr hn] at h2; cases h2
  have en : ∀ zs : List AV, zs = (ns.map AV.int).take 4 → [AV.int 263, .int 3, .int 16, .int 474, .int 211] ++ zs = (numbers ns).map .int := by
    rintro _ rfl
    rw [numbers, List.map_append, List.map_take]
    rfl
  have hnl : (numbers ns).length ≤ 9 := by simp [numbers]; omega
  -- lists = _law_lists([..] + script[:4])
  refine Ex.cons (Ex1.assignCell hE rfl (.head _) (inj _ rfl) (Ev.call (p := 0) C.ok hE hA rfl (C.g _ _ rfl) (at143 C) (Evs.cons (Ev.binop (Ev.list (Evs.cons (Ev.int (Evs.cons (Ev.int (Evs.cons (Ev.int (Evs.cons (Ev.int (Evs.cons (Ev.int (Evs.nil ⟨by show 5 ≤ sizeLine; decide, ?_⟩))))))))))))))))
  refine Ev.subscript (Ev.loc hE rfl rfl (Ev.slice (EvP.none (EvP.some (Ev.int ⟨_, rfl, EvP.none ?_⟩)))))
  intro vl vu vs pl pu ps
  refine Sub.lst_upto pl pu ps (by decide) (by rw [List.length_map]; omega) ?_
  refine Op2.add_lst (by simp; omega) ?_
  rw [en ((ns.map AV.int).take (4 : Int).toNat) rfl]
  refine Evs.nil ⟨Nat.zero_le _, shutW_nil, Shut.cons (Shut.lst (shut_ints _ _)) Shut.nil, Fun.mono (fn_lists C 18 (numbers ns) (by omega)) ?_⟩
  rintro _ _ ⟨rfl, rfl⟩
  generalize (numbers ns).foldl step1 [] = l0 at F1 N1
  generalize (numbers ns).foldl step2 [] = l1 at F2 N2
  refine ⟨⟨_, rfl⟩, ?_⟩
  clear en hnl
  obtain ⟨LS, hLS⟩ : ∃ LS, LS = AV.tup [.lst (l0.map pv), .lst (l1.map pv)] := ⟨_, rfl⟩
  have hgood : ∀ ps ∈ [l0, l1], Fine ps 9 ∧ ps ≠ [] := fun ps hp => by
    rcases List.mem_cons.mp hp with rfl | hp
    · exact ⟨F1, N1⟩
    · rw [List.mem_singleton.mp hp]; exact ⟨F2, N2⟩
  refine Ex.gen (fun τ => τ.lo = [(Str.ofString "script", .lst (ns.map .int))] ∧ τ.ce.lookup (Str.ofString "lists") = some LS ∧ τ.ow = []) ⟨rfl, by rw [hLS]; exact look_eq, rfl⟩ ?_
  rintro ⟨lo, ce, ow⟩ ⟨rfl, c1, rfl⟩
  dsimp only at c1
  have hun : LS ≠ unset := by rw [hLS]; intro q; cases q
  have hLs : ∀ m, Shut m LS := fun m => by
    rw [hLS]; exact Shut.tup (Shut.cons (Shut.lst (shut_pvs _ _)) (Shut.cons (Shut.lst (shut_pvs _ _)) Shut.nil))
  have hu : A.units + 100 < cLine := by have := hA.units; omega
  -- due
  refine Ex.cons (Ex1.assignComp (cl := []) (ce' := []) hE rfl rfl ⟨by simp, fun c hc => (nomatch hc), fun x c hc => (nomatch hc)⟩ (Ev.cell hE rfl c1 hun ?_))
  rw [hLS]
  refine ⟨_, Iterable.tup hA.handled, fun x v hx => (nomatch hx), ?_⟩
  rintro B' ⟨cc, K', h', ad', rfl⟩
  refine CompL.map (fun ps => .lst (ps.map pv)) (fun ps => .lst ((ps.map written).map sv)) [] (fun _ => True) [l0, l1] rfl (by simp) ?_ ?_ [] [] trivial
  · intro ps hps io lo ce ys _ hys
    obtain ⟨Fp, Np⟩ := hgood ps hps
    refine Asg.name (compEnvOk hE rfl) rfl ?_
    refine Ev.comp (cl := []) (ce' := []) rfl ⟨by simp, fun c hc => (nomatch hc), fun x c hc => (nomatch hc)⟩ (Ev.loc (compEnvOk hE rfl) rfl look_eq ⟨_, Iterable.lst hA.handled, fun x v hx => (nomatch hx), ?_⟩)
    rintro B'' ⟨c2, K2, h2, ad2, rfl⟩
    refine CompL.map pv (fun p => sv (written p)) ([] ++ [.lst ys]) (fun _ => True) ps rfl (by have := Fp.len; omega) ?_ ?_ [] [] trivial
    · intro p hp io2 lo2 ce2 ys2 _ _
      have gp := Fp.good p hp
      refine Asg.name (compEnvOk (compEnvOk hE rfl) rfl) rfl ?_
      refine Ev.call (p := 0) C.ok (compEnvOk (compEnvOk hE rfl) rfl) hA rfl (C.g _ _ rfl) (at148 C) (Evs.cons (Ev.loc (compEnvOk (compEnvOk hE rfl) rfl) rfl look_eq (Evs.nil ⟨Nat.zero_le _, shutW_nil, Shut.cons (shut_pv _ _) Shut.nil, Fun.mono (fn_written C 18 p gp.ok (fun v hv => Nat.le_trans (gp.len v hv) (by decide))) ?_⟩)))
      rintro _ _ ⟨rfl, rfl⟩
      exact ⟨rfl, trivial, by dsimp only; rw [List.nil_append, List.drop_zero]⟩
    · intro lo2 ce2 _
      refine ⟨by rw [List.take_left]; exact shutW_one (shut_ys hys fun b => Shut.lst (shut_svs _ _)), shut_r fun a _ => Shut.str, ?_, trivial, ?_⟩
      · simp
      · exact List.take_left
  intro lo ce _
  refine ⟨shutW_nil, shut_r fun a _ => Shut.lst (shut_svs _ _), ?_⟩
  -- headers
  refine Ex.cons (Ex1.assignComp (cl := []) (ce' := []) hE rfl rfl ⟨by simp, fun c hc => (nomatch hc), fun x c hc => (nomatch hc)⟩ (Ev.cell hE rfl c1 hun ?_))
  rw [hLS]
  refine ⟨_, Iterable.tup hA.handled, fun x v hx => (nomatch hx), ?_⟩
  rintro B' ⟨cc, K', h', ad', rfl⟩
  refine CompL.map (fun ps => .lst (ps.map pv)) (fun ps => sv (joinW (ps.map written))) [] (fun _ => True) [l0, l1] rfl (by simp) ?_ ?_ [] [] trivial
  · intro ps hps io lo ce ys _ hys
    obtain ⟨Fp, Np⟩ := hgood ps hps
    refine Asg.name (compEnvOk hE rfl) rfl ?_
    refine Ev.call (p := 0) C.ok (compEnvOk hE rfl) hA rfl (C.g _ _ rfl) (at87 C) (Evs.cons (Ev.list (Evs.cons (Ev.loc (compEnvOk hE rfl) rfl look_eq (Evs.nil ⟨len1, Evs.nil ⟨Nat.zero_le _, shutW_nil, Shut.cons (Shut.lst (Shut.cons (Shut.lst (shut_pvs _ _)) Shut.nil)) Shut.nil, Fun.mono (fn_join C 17 ps Fp.good (by have := Fp.len; omega)) ?_⟩⟩)))))
    rintro _ _ ⟨rfl, rfl⟩
    exact ⟨rfl, trivial, by dsimp only; rw [List.nil_append, List.drop_zero]⟩
  intro lo ce _
  refine ⟨shutW_nil, shut_r fun a _ => Shut.str, ?_⟩
  refine Ex.gen (fun τ => τ.lo.lookup (Str.ofString "due") = some (.lst [.lst ((l0.map written).map sv), .lst ((l1.map written).map sv)]) ∧ τ.lo.lookup (Str.ofString "headers") = some (.lst [sv (joinW (l0.map written)), sv (joinW (l1.map written))]) ∧ τ.ce.lookup (Str.ofString "lists") = some LS ∧ τ.ow = []) ⟨look_ne look_eq (by decide), look_eq, c1, rfl⟩ ?_
  clear c1
  rintro ⟨lo, ce, ow⟩ ⟨d1, d2, c1, rfl⟩
  dsimp only at d1 d2 c1
  -- the first test
  refine Ex.cons (Ex1.if (Tr.pin (w := false) ?_ ?_))
  · refine Tr.boolop (TrL.or (Tr.compare (Ev.loc hE rfl d2 (Ev.comp (cl := []) (ce' := []) rfl ⟨by simp, fun c hc => (nomatch hc), fun x c hc => (nomatch hc)⟩ (Ev.loc hE rfl d1 ⟨_, Iterable.lst hA.handled, fun x v hx => (nomatch hx), ?_⟩)))))
    rintro B' ⟨cc, K', h', ad', rfl⟩
    refine CompL.map (fun ps => .lst ((ps.map written).map sv)) (fun ps => sv (joinW (ps.map written))) [] (fun _ => True) [l0, l1] rfl (by simp) ?_ ?_ [] [] trivial
    · intro ps hps io lo ce ys _ hys
      obtain ⟨Fp, Np⟩ := hgood ps hps
      refine Asg.name (compEnvOk hE rfl) rfl ?_
      refine Ev.meth (Ev.str ⟨"str", "str.join", PySem.F.plainAttrs_str, PySem.F.slot_str_join, PySem.F.type_str_join, HasT.str, Evs.cons (Ev.loc (compEnvOk hE rfl) rfl look_eq (Evs.nil ?_))⟩)
      rw [svs]
      refine Op.join_lst ?_ ?_
      · have e : (Str.ofString "; ").length = 2 := by decide
        have hsum : ∀ l : List T, (∀ y ∈ l, y.length ≤ 8) → l.flatten.length ≤ 8 * l.length := by
          intro l
          induction l with
          | nil => intro _; simp
          | cons x l ih =>
            intro h
            have h1 := h x (.head _)
            have h2 := ih (fun y hy => h y (.tail _ hy))
            simp only [List.flatten_cons, List.length_append, List.length_cons]
            omega
        have := hsum (ps.map written) (fun y hy => by obtain ⟨q, hq, rfl⟩ := List.mem_map.mp hy; exact written_len (Fp.good q hq))
        have := Fp.len
        rw [e, sum_len]
        simp only [List.length_map] at *
        omega
      · rw [joinW_T]
        exact ⟨rfl, trivial, rfl⟩
    · intro lo2 ce2 _
      refine ⟨shutW_nil, shut_r fun a _ => Shut.str, ?_⟩
      refine Op2.neSame 0 0 (dL [joinW (l0.map written), joinW (l1.map written)]) (by rw [emb_dL]; rfl) (by rw [emb_dL]; rfl) (lay_dL fun t ht => ?_) (by have := depth_dL [joinW (l0.map written), joinW (l1.map written)]; omega) ⟨_, rfl, ?_⟩
      · rcases List.mem_cons.mp ht with rfl | ht
        · exact okT_joinW _ (okT_written_all F1.good)
        · rw [List.mem_singleton.mp ht]; exact okT_joinW _ (okT_written_all F2.good)
      rw [if_neg Bool.false_ne_true]
      refine TrL.or (Tr.compare (Ev.call (p := 0) C.ok hE hA rfl (C.g _ _ rfl) (at70 C) (Evs.cons (Ev.loc hE rfl d2 (Evs.nil ⟨Nat.zero_le _, shutW_nil, Shut.cons (Shut.lst (Shut.cons Shut.str (Shut.cons Shut.str Shut.nil))) Shut.nil, Fun.mono (fn_split C 17 [l0, l1] (fun ps hps => ⟨(hgood ps hps).2, Nat.le_trans (hgood ps hps).1.len (by decide), (hgood ps hps).1.good⟩) (by simp)) ?_⟩)))))
      rintro _ _ ⟨rfl, rfl⟩
      refine Ev.list (Evs.cons (Ev.subscript (Ev.cell hE rfl c1 hun (Ev.int ?_))))
      rw [hLS]
      refine Sub.tup (by decide) rfl (by show 2 ≤ sizeLine; decide) ?_
      refine Evs.cons (Ev.subscript (Ev.cell hE rfl c1 hun (Ev.int ?_)))
      rw [hLS]
      refine Sub.tup (by decide) rfl (by show 2 ≤ sizeLine; decide) ?_
      refine Evs.nil ⟨len2, ?_⟩
      have e2 : AV.lst [.lst (l0.map pv), .lst (l1.map pv)] = emb (.list [dP l0, dP l1]) := by rw [emb_list, List.map_cons, List.map_cons, List.map_nil, emb_dP, emb_dP]
      refine Op2.neSame 0 0 (.list [dP l0, dP l1]) e2 e2 (lay_list fun d hd => ?_) ?_ ⟨_, rfl, ?_⟩
      · rcases List.mem_cons.mp hd with rfl | hd
        · exact lay_dP F1.good
        · rw [List.mem_singleton.mp hd]; exact lay_dP F2.good
      · have := depth_list (k := 2) (ds := [dP l0, dP l1]) (fun d hd => by
          rcases List.mem_cons.mp hd with rfl | hd
          · exact depth_dP _
          · rw [List.mem_singleton.mp hd]; exact depth_dP _)
        omega
      rw [if_neg Bool.false_ne_true]
      exact TrL.orNil ⟨rfl, rfl⟩
  rw [if_neg Bool.false_ne_true]
  refine Ex.nil ?_
  exact law_tail C rfl hA F1 N1 F2 N2 hLS d1 c1 rfl
end Mine
end

section
open PySem PySem.W PyProof.Rows PySem.Calls
set_option autoImplicit false
set_option linter.unusedVariables false
set_option maxRecDepth 100000
set_option maxHeartbeats 4000000
namespace Mine

theorem lookup_mem {α : Type} : ∀ {l : List (Str × α)} {x : Str} {v : α}, l.lookup x = some v → (x, v) ∈ l
  | [], _, _, h => by cases h
  | (y, w) :: r, x, v, h => by
    rw [List.lookup_cons] at h
    cases q : x == y with
    | true => rw [q] at h; cases h; rw [beq_iff_eq.mp q]; exact .head _
    | false => rw [q] at h; exact .tail _ (lookup_mem h)

/-- the names' table at the start -/
noncomputable def topEs (P : Params) : Array DictEntry := match (hd.heap_39 P).lookup 3 with
  | some o => match o.data with
    | .dict es _ => es
    | _ => #[]
  | none => #[]
theorem top_gl (P : Params) : gl.map (fun p => nsFind (topEs P) p.1) = gl.map (fun p => some p.2) := by kernel_rfl
theorem top_bl (P : Params) : bl.map (fun p => nsFind (topEs P) p.1) = bl.map (fun _ => none) := by kernel_rfl
theorem boot_bl : bl.map (fun p => bootBuiltins p.1) = bl.map (fun p => some p.2) := by kernel_rfl
theorem bl_name : ∀ p ∈ bl, p.1 ≠ Str.ofString "__name__" := by
  have : bl.all (fun p => decide (p.1 ≠ Str.ofString "__name__")) = true := by decide +kernel
  intro p hp
  exact of_decide_eq_true (List.all_eq_true.mp this p hp)

theorem ctx_of {p' : Program} {loose : List Str} {mean : ExcName → Option Value} {mg mb : Str → Option Value} {H : Heap} {prog : Program} {w : World}
    (X' : (hd.heap_39 w.params).In H) (T' : Top p' loose mean mg mb H) (cJ : CodeHd H 86 82) (cS : CodeHd H 69 65) :
    Ctx { prog := prog, w := w, H := H, mg := mg, mb := mb, tabs := [tabS, tabJ] } w.params := by
  have e4 : ∀ x, nsFind (topEs w.params) x = mg x := by
    obtain ⟨o, es, ep, e1, e2, e3, e4⟩ := T'.g
    have x3 := X' 3 _ rfl
    have e1' : H.get? 3 = some o := e1
    rw [x3] at e1'
    cases e1'
    cases e2
    exact e4
  refine ⟨⟨T'.g, T'.b, T'.nolimit, fun t ht => ?_⟩, X', fun x v hx => ?_, fun x v hx => ?_, T'.bmain, rfl⟩
  · rcases List.mem_cons.mp ht with rfl | ht
    · exact cS
    · rw [List.mem_singleton.mp ht]; exact cJ
  · show mg x = some v
    rw [← e4]
    exact List.map_inj_left.mp (top_gl w.params) _ (lookup_mem hx)
  · have hm := lookup_mem hx
    refine ⟨?_, ?_⟩
    · show mg x = none
      rw [← e4]
      exact List.map_inj_left.mp (top_bl w.params) _ hm
    · exact (T'.builtins x (bl_name _ hm)).trans (List.map_inj_left.mp boot_bl _ hm)
end Mine
end

section
open PySem PySem.W PyProof.Rows PySem.Calls
set_option autoImplicit false
set_option linter.unusedVariables false
set_option maxRecDepth 100000
set_option maxHeartbeats 4000000
namespace Mine

theorem intsV {K : PH} {ad : List Addr} {P : Params} {h : Heap} : ∀ {vs : List Value} {ns : List Int}, WellAll P h vs (ofPys (ns.map .int)) → Vs K ad (ns.map AV.int) vs
  | _, [], hw => by cases hw; exact Vs.nil
  | _, n :: ns, hw => by
    cases hw with
    | cons h1 h2 =>
      cases h1
      exact Vs.cons V_int (intsV h2)

theorem law_ends {p' : Program} {loose : List Str} {mean : ExcName → Option Value} {mg mb : Str → Option Value} {prog : Program} {w : World} {s₁ s : Shared} {name : Str} {sc : Scope} {body : List Stmt} {fa la : Addr} {cd : Value} {m : Str → Option Value} {oc : Obj} {ns : List Int} {Q : Flow → Shared → Prop} {E : Value → Shared → Prop}
    (hfd : lawFd w.params = some (sc, body)) (hsc : sc.kind = .function) (hcells : cellsFrom (s₁.heap.objs.size + 1) sc.names [] = [(Str.ofString "lists", s₁.heap.objs.size + 1)])
    (X' : (hd.heap_39 w.params).In (ghostOf s₁.heap [(86, 82), (69, 65)])) (T' : Top p' loose mean mg mb (ghostOf s₁.heap [(86, 82), (69, 65)])) (cJ : CodeHd (ghostOf s₁.heap [(86, 82), (69, 65)]) 86 82) (cS : CodeHd (ghostOf s₁.heap [(86, 82), (69, 65)]) 69 65)
    (F' : Fr (ghostOf s₁.heap [(86, 82), (69, 65)]) s₁.heap.objs.size s.heap m) (N' : News (ghostOf s₁.heap [(86, 82), (69, 65)]) s₁.heap.objs.size s.heap [(s₁.heap.objs.size + 1, oc), (82, tabObj #[]), (65, tabObj #[])]) (hm : m (Str.ofString "script") = some (.ref la)) (hoc : oc.data = .cell none)
    (hl : 82 < s₁.heap.objs.size ∧ 65 < s₁.heap.objs.size) (hT : TabsAt [(86, 82), (69, 65)] s₁.heap) (hw : Well w.params s₁.heap (.ref la) (ofPy (.list (ns.map .int)))) (hn : ns.length ≤ 63)
    (q : ∀ s', s'.gens = s.gens → s'.os = s.os → (∀ b o, (ghostOf s₁.heap [(86, 82), (69, 65)]).get? b = some o → s'.heap.get? b = some o) → GrownAll [(86, 82), (69, 65)] s'.heap → Q (.ret (.bool true)) s') :
    wpAny (model prog w) (callerA.deeper (envOfC name sc s₁.heap.objs.size fa cd)) (execs body (envOfC name sc s₁.heap.objs.size fa cd)) Q E s := by
  have C := ctx_of (prog := prog) X' T' cJ cS
  generalize hH : ghostOf s₁.heap [(86, 82), (69, 65)] = H at *
  generalize hLz : s₁.heap.objs.size = L at *
  have hA : AOk 20 (callerA.deeper (envOfC name sc L fa cd)) [envOfC name sc L fa cd] := by
    refine ⟨rfl, ?_, ?_, rfl⟩
    · show 1 + claimMargin + 1 + 20 < recursionLimit
      decide
    · show 4 + 3 + 40 * 20 < cLine
      decide
  have hHL : H.get? L = none := Heap.get?_none_of_le F'.above
  have hC1 := N' _ (.head _)
  have t82 := N' _ (.tail _ (.head _))
  have t65 := N' _ (.tail _ (.tail _ (.head _)))
  have hcs : (envOfC name sc L fa cd).cells = [(Str.ofString "lists", L + 1)] := hcells
  have tne : ∀ b ∈ [65, 82], b ≠ L ∧ b ≠ L + 1 := fun b hb => by
    rcases List.mem_cons.mp hb with rfl | hb
    · exact ⟨Nat.ne_of_lt hl.2, Nat.ne_of_lt (Nat.lt_succ_of_lt hl.2)⟩
    · rw [List.mem_singleton.mp hb]; exact ⟨Nat.ne_of_lt hl.1, Nat.ne_of_lt (Nat.lt_succ_of_lt hl.1)⟩
  have hmem : ∀ b, b ∈ privs (baseOf (envOfC name sc L fa cd) [] (fun b => H.get? b) H [] [Str.ofString "lists"]) [] → b = L ∨ b = L + 1 := fun b hb => by
    unfold privs at hb
    rcases List.mem_cons.mp hb with e | e
    · exact .inl e
    · rw [List.append_nil] at e
      have e' : b ∈ (envOfC name sc L fa cd).cells.map (·.2) ++ [] := e
      rw [hcs, List.append_nil] at e'
      exact .inr (by simpa using e')
  have hpn : ∀ b, b = L ∨ b = L + 1 → H.get? b = none ∧ b ∉ ({ prog := prog, w := w, H := H, mg := mg, mb := mb, tabs := [tabS, tabJ] } : Glob).T := fun b hb => by
    refine ⟨?_, fun z => ?_⟩
    · rcases hb with rfl | rfl
      · exact hHL
      · exact hC1.2.2
    · have := tne b z
      rcases hb with e | e
      · exact this.1 e
      · exact this.2 e
  obtain ⟨oL, es, ep, hoL, hdL, hstr, hfind⟩ := id F'.ns
  cases hw with
  | @list _ vs _ hla hall =>
  have hlaH : H.get? la = some (lstOf vs 0) := by
    rw [← hH]
    refine ghost_get hT hla ?_
    intro z
    injection z with z1
    cases z1
  have R : Rel { prog := prog, w := w, H := H, mg := mg, mb := mb, tabs := [tabS, tabJ] } (baseOf (envOfC name sc L fa cd) [] (fun b => H.get? b) H [] [Str.ofString "lists"]) (fun b => H.get? b) [] { lo := [(Str.ofString "script", .lst (ns.map .int))], ce := [(Str.ofString "lists", unset)] } s.heap := {
    base := fun b o e => e
    keep := fun b o e => F'.keep b o e
    noT := fun b hb => by
      have hb' : b ∈ [65, 82] := hb
      rcases List.mem_cons.mp hb' with rfl | hb'
      · exact t65.2.2
      · rw [List.mem_singleton.mp hb']; exact t82.2.2
    tabs := fun t ht => by
      rcases List.mem_cons.mp ht with rfl | ht
      · exact ⟨#[], t65.1, trivial, .inl rfl⟩
      · rw [List.mem_singleton.mp ht]; exact ⟨#[], t82.1, trivial, .inl rfl⟩
    step := .of_keeps fun b o e _ _ => F'.keep b o e
    K0 := KLe.refl _
    new := fun b o e => .inl e
    ff := ⟨by show sc.kind ≠ .module; rw [hsc]; decide, ⟨L, oL, rfl, hHL, hoL, fun vs z => by rw [hdL] at z; cases z⟩, trivial⟩
    priv := fun b hb => hpn b (hmem b hb)
    live := fun b hb => by
      rcases hmem b hb with rfl | rfl
      · exact ⟨oL, hoL⟩
      · exact ⟨oc, hC1.1⟩
    nodup := by
      show (L :: (((envOfC name sc L fa cd).cells.map (·.2) ++ []) ++ [])).Nodup
      rw [hcs]
      simp only [List.map_cons, List.map_nil, List.append_nil, List.nodup_cons, List.mem_singleton, List.not_mem_nil, not_false_eq_true, List.nodup_nil, and_true]
      exact Ne.symm (Nat.succ_ne_self L)
    lnew := hHL
    anew := fun a ha => nomatch ha
    cnew := fun x hx c hc => by
      rw [List.mem_singleton.mp hx] at hc
      have hc' : (envOfC name sc L fa cd).cells.lookup (Str.ofString "lists") = some c := hc
      rw [hcs, List.lookup_cons, beq_self_eq_true] at hc'
      cases hc'
      exact hC1.2.2
    ns := ⟨m, F'.ns, fun x v e => by
      have e' : [(Str.ofString "script", AV.lst (ns.map .int))].lookup x = some v := e
      rw [List.lookup_cons] at e'
      cases z : x == Str.ofString "script" with
      | false => rw [z] at e'; cases e'
      | true =>
        rw [z] at e'
        cases e'
        rw [beq_iff_eq.mp z]
        refine ⟨_, hm, ?_⟩
        simp only [V]
        exact ⟨la, vs, 0, rfl, hlaH, intsV hall⟩⟩
    cells := fun x v e => by
      have e' : [(Str.ofString "lists", unset)].lookup x = some v := e
      rw [List.lookup_cons] at e'
      cases z : x == Str.ofString "lists" with
      | false => rw [z] at e'; cases e'
      | true =>
        rw [z] at e'
        cases e'
        rw [beq_iff_eq.mp z]
        refine ⟨L + 1, none, ?_, ⟨oc, hC1.1, hoc⟩, rfl⟩
        show (envOfC name sc L fa cd).cells.lookup (Str.ofString "lists") = _
        rw [hcs, List.lookup_cons, beq_self_eq_true]
    ownl := rfl
    own := fun i a w e1 => by simp at e1
    pon := fun a ha => nomatch ha
    iob := fun z hz => nomatch hz
    fok := fun env he L' hL' => by
      have he' := List.mem_singleton.mp he
      subst he'
      cases hL'
      exact .inl rfl }
  refine law_body C ns hn hfd hA (fun b => H.get? b) [] s R Q E (fun fl s' K' ad' b σ' g1 g2 g3 g4 g5 g6 => ?_) ec_noX
  have hfl : fl = .ret (.bool true) := by
    cases b with
    | ret v =>
      have : v = .bool true := g6
      subst this
      simp only [FlowIs] at g4
      obtain ⟨u, rfl, hv⟩ := g4
      simp only [V] at hv
      rw [hv]
    | next => cases g6
    | brk => cases g6
    | cont => cases g6
  rw [hfl]
  refine q s' g5.1 g5.2.2 (fun b o e => g3.H b o e) ?_
  obtain ⟨ps1, e1, _⟩ := g3.tabs tabS (.head _)
  obtain ⟨ps2, e2, _⟩ := g3.tabs tabJ (.tail _ (.head _))
  exact ⟨⟨ps2, e2⟩, ⟨ps1, e1⟩, trivial⟩
end Mine
end

section
open PySem PySem.W PyProof.Rows PySem.Calls
set_option autoImplicit false
set_option linter.unusedVariables false
set_option maxRecDepth 100000
set_option maxHeartbeats 8000000

theorem PySem.Challenge.cw_oc0154_01_holds : PySem.Challenge.rw_oc0154_01.Holds := by
  refine Mine.hd ?_
  k_go0
  refine Mine.law_ends (E := _) rfl rfl rfl (by assumption) (by assumption) (by assumption) (by assumption) (by assumption) (by assumption) ?hm ?hoc (by assumption) (by assumption) (by assumption) ?hn ?q
  case hm => exact rfl
  case hoc => assumption
  case hn => omega
  case q =>
    intro s' hg ho hk hgr
    refine ⟨?_, hgr⟩
    refine ⟨.inl ⟨.bool true, .bool true, [], rfl, fun cls => ?rr, .bool true, ?pp, fun _ => ⟨List.nodup_nil, fun a ha => nomatch ha⟩⟩, hk, ho, hg.trans ?gg⟩
    case rr => rfl
    case pp => kernel_rfl
    case gg => assumption
end
