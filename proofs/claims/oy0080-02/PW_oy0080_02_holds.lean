import PyProof.Rows.All
import Wide.All
import OpenK.AllK
import Wide.FinOn
import Lean
import PySem.Challenge.RW_oy0080_02
section
open PySem PyProof.Rows
set_option Elab.async false
set_option autoImplicit false
set_option linter.unusedVariables false
namespace Mine

/-- data by value -/
inductive AVal where
  | none
  | bool (b : Bool)
  | int (i : Int)
  | str (s : Str)
  | list (xs : List AVal)
  | tuple (xs : List AVal)
  | range (a b : Int)
  | setI (ks : List Int)
  | setS (ks : List Str)

def isVal (o : Obj) : Prop := (∃ xs n, o.data = .seq xs n) ∨ (∃ a b c, o.data = .set a b c) ∨ (∃ vs, o.cls = .type "range" ∧ o.data = .fields vs)

section
variable (prog : Program) (w : World) (P : Addr → Prop) (h : Heap)
mutual
def VR : AVal → Value → Prop
  | .none, v => v = .none
  | .bool b, v => v = .bool b
  | .int i, v => ∃ t, v = .int i t
  | .str x, v => ∃ t, v = .str x t
  | .list xs, v => ∃ a vs, v = .ref a ∧ ¬ P a ∧ h.IsList a vs.toArray ∧ VRs xs vs
  | .tuple xs, v => ∃ a vs, v = .ref a ∧ ¬ P a ∧ IsTup h a vs.toArray ∧ VRs xs vs
  | .range a b, v => ∃ r t u c, v = .ref r ∧ ¬ P r ∧ IsRange h r a b 1 t u c
  | .setI ks, v => ∃ a n, v = .ref a ∧ ¬ P a ∧ h.SetOf (intKind prog w) a (fun k => decide (k ∈ ks)) n
  | .setS ks, v => ∃ a n, v = .ref a ∧ ¬ P a ∧ h.SetOf (strKind prog w) a (fun k => decide (k ∈ ks)) n
def VRs : List AVal → List Value → Prop
  | [], vs => vs = []
  | x :: xs, vs => ∃ v r, vs = v :: r ∧ VR x v ∧ VRs xs r
end
end

section
variable {prog : Program} {w : World} {P P' : Addr → Prop} {h h' : Heap}
mutual
theorem VR.mono (k : ∀ b o, h.get? b = some o → isVal o → ¬ P b → ¬ P' b ∧ h'.get? b = some o) : ∀ (x : AVal) (v : Value), VR prog w P h x v → VR prog w P' h' x v
  | .none, v, H => by simp only [VR] at *; exact H
  | .bool _, v, H => by simp only [VR] at *; exact H
  | .int _, v, H => by simp only [VR] at *; exact H
  | .str _, v, H => by simp only [VR] at *; exact H
  | .list xs, v, H => by
    simp only [VR] at *
    obtain ⟨a, vs, rfl, hp, ⟨o, ho, hc, n, hd⟩, hr⟩ := H
    obtain ⟨q1, q2⟩ := k a o ho (.inl ⟨_, _, hd⟩) hp
    exact ⟨a, vs, rfl, q1, ⟨o, q2, hc, n, hd⟩, VRs.mono k xs vs hr⟩
  | .tuple xs, v, H => by
    simp only [VR] at *
    obtain ⟨a, vs, rfl, hp, ⟨o, ho, hc, n, hd⟩, hr⟩ := H
    obtain ⟨q1, q2⟩ := k a o ho (.inl ⟨_, _, hd⟩) hp
    exact ⟨a, vs, rfl, q1, ⟨o, q2, hc, n, hd⟩, VRs.mono k xs vs hr⟩
  | .range a b, v, H => by
    simp only [VR] at *
    obtain ⟨r, t, u, c, rfl, hp, ho⟩ := H
    obtain ⟨q1, q2⟩ := k r _ ho (.inr (.inr ⟨_, rfl, rfl⟩)) hp
    exact ⟨r, t, u, c, rfl, q1, q2⟩
  | .setI ks, v, H => by
    simp only [VR] at *
    obtain ⟨a, n, rfl, hp, o, es, ep, t, ho, hx, hd, hr⟩ := H
    obtain ⟨q1, q2⟩ := k a o ho (.inr (.inl ⟨_, _, _, hd⟩)) hp
    exact ⟨a, n, rfl, q1, o, es, ep, t, q2, hx, hd, hr⟩
  | .setS ks, v, H => by
    simp only [VR] at *
    obtain ⟨a, n, rfl, hp, o, es, ep, t, ho, hx, hd, hr⟩ := H
    obtain ⟨q1, q2⟩ := k a o ho (.inr (.inl ⟨_, _, _, hd⟩)) hp
    exact ⟨a, n, rfl, q1, o, es, ep, t, q2, hx, hd, hr⟩
theorem VRs.mono (k : ∀ b o, h.get? b = some o → isVal o → ¬ P b → ¬ P' b ∧ h'.get? b = some o) : ∀ (xs : List AVal) (vs : List Value), VRs prog w P h xs vs → VRs prog w P' h' xs vs
  | [], vs, H => by simp only [VRs] at *; exact H
  | x :: xs, vs, H => by
    simp only [VRs] at *
    obtain ⟨v, r, rfl, h1, h2⟩ := H
    exact ⟨v, r, rfl, VR.mono k x v h1, VRs.mono k xs r h2⟩
end
end

/-- the address is some frame's on the stack -/
def IsFr (fls : List Env) (b : Addr) : Prop := ∃ e ∈ fls, e.frame = some b

def Kept (fls : List Env) (h' : Heap) (b : Addr) (o : Obj) : Prop :=
  h'.get? b = some o ∨ (IsFr fls b ∧ (∃ es ep, o.data = .dict es ep) ∧ ∃ sl, h'.get? b = some { o with slots := sl })

theorem Kept.trans {fls : List Env} {h h' : Heap} {b : Addr} {o : Obj} (x : Kept fls h b o) (y : ∀ o', h.get? b = some o' → Kept fls h' b o') : Kept fls h' b o := by
  rcases x with e | ⟨hf, hd, sl, e⟩
  · exact y o e
  · rcases y _ e with e' | ⟨_, _, sl', e'⟩
    · exact .inr ⟨hf, hd, sl, e'⟩
    · exact .inr ⟨hf, hd, sl', e'⟩

theorem Kept.val {fls : List Env} {h' : Heap} {b : Addr} {o : Obj} (x : Kept fls h' b o) (hv : isVal o) : h'.get? b = some o := by
  rcases x with e | ⟨_, ⟨es, ep, hd⟩, _⟩
  · exact e
  · rcases hv with ⟨_, _, q⟩ | ⟨_, _, _, q⟩ | ⟨_, _, q⟩ <;> (rw [hd] at q; cases q)

theorem Kept.fields {fls : List Env} {h' : Heap} {b : Addr} {o : Obj} {vs : Array Value} (x : Kept fls h' b o) (hd : o.data = .fields vs) : h'.get? b = some o := by
  rcases x with e | ⟨_, ⟨es, ep, q⟩, _⟩
  · exact e
  · rw [hd] at q; cases q
theorem Kept.notFr {fls : List Env} {h' : Heap} {b : Addr} {o : Obj} (x : Kept fls h' b o) (hv : ¬ IsFr fls b) : h'.get? b = some o := by
  rcases x with e | ⟨q, _⟩
  · exact e
  · exact absurd q hv
theorem Kept.data {fls : List Env} {h' : Heap} {b : Addr} {o : Obj} (x : Kept fls h' b o) : ∃ o', h'.get? b = some o' ∧ o'.cls = o.cls ∧ o'.data = o.data ∧ o'.dict = o.dict := by
  rcases x with e | ⟨_, _, sl, e⟩
  · exact ⟨o, e, rfl, rfl, rfl⟩
  · exact ⟨_, e, rfl, rfl, rfl⟩

structure Grow (fls : List Env) (s s' : Shared) : Prop where
  eq : s' = { s with heap := s'.heap, toks := s'.toks }
  keep : ∀ b o, s.heap.get? b = some o → Kept fls s'.heap b o

theorem Grow.refl (fls : List Env) (s : Shared) : Grow fls s s := ⟨rfl, fun _ _ e => .inl e⟩
theorem Grow.trans {fls : List Env} {s s' s'' : Shared} (x : Grow fls s s') (y : Grow fls s' s'') : Grow fls s s'' :=
  ⟨by rw [y.eq, x.eq], fun b o e => (x.keep b o e).trans fun o' e' => y.keep b o' e'⟩
theorem Grow.of {fls : List Env} {s : Shared} {h' : Heap} {tk : Nat} (k : ∀ b o, s.heap.get? b = some o → h'.get? b = some o) : Grow fls s { s with heap := h', toks := tk } :=
  ⟨rfl, fun b o e => .inl (k b o e)⟩
theorem Grow.toks {fls : List Env} {s : Shared} {tk : Nat} : Grow fls s { s with toks := tk } := ⟨rfl, fun _ _ e => .inl e⟩

theorem VR.grow {prog : Program} {w : World} {P : Addr → Prop} {fls : List Env} {s s' : Shared} {x : AVal} {v : Value} (H : VR prog w P s.heap x v) (g : Grow fls s s') : VR prog w P s'.heap x v :=
  VR.mono (fun b o e hv hp => ⟨hp, (g.keep b o e).val hv⟩) x v H
theorem VRs.grow {prog : Program} {w : World} {P : Addr → Prop} {fls : List Env} {s s' : Shared} {x : List AVal} {v : List Value} (H : VRs prog w P s.heap x v) (g : Grow fls s s') : VRs prog w P s'.heap x v :=
  VRs.mono (fun b o e hv hp => ⟨hp, (g.keep b o e).val hv⟩) x v H

structure St where
  fr : List (Str × AVal)
  ow : List (Str × AVal)

structure Cfg where
  prog : Program
  w : World
  A : Around
  env : Env
  base : Heap
  fls : List Env
  P₀ : Addr → Prop
  wc : List Addr
  mg : Str → Option Value
  mb : Str → Option Value
  rz : Bool

def VarAt (env : Env) (h : Heap) (m : Str → Option Value) (x : Str) (v : Value) : Prop :=
  (env.kindOf x = some .local ∧ m x = some v) ∨
  ((env.kindOf x = some .cell ∨ (env.kindOf x = some .free ∧ (x == ("__classdict__" : Str)) = false)) ∧ ∃ c, env.cells.lookup x = some c ∧ h.IsCell c (some v))

def Ow (σ : St) (g : Str → Addr) (b : Addr) : Prop := ∃ p ∈ σ.ow, g p.1 = b
def Av (C : Cfg) (σ : St) (g : Str → Addr) (b : Addr) : Prop := C.P₀ b ∨ Ow σ g b
def Pm (C : Cfg) (O : Addr → Prop) (b : Addr) : Prop := b = C.env.locals ∨ b ∈ C.wc ∨ O b

/-- what an owned object holds -/
def OwnAt (prog : Program) (w : World) (P : Addr → Prop) (h : Heap) (a : Addr) : AVal → Prop
  | .list xs => ∃ vs, h.PlainList a vs.toArray ∧ VRs prog w P h xs vs
  | .setI ks => ∃ n, h.SetOf (intKind prog w) a (fun k => decide (k ∈ ks)) n ∧ n = ks.length ∧ ks.Nodup
  | _ => False

structure CfgOk (C : Cfg) : Prop where
  kind : C.env.scope.kind = .function
  globals : C.env.globals = mainGlobals
  builtins : C.env.builtins = builtinsNs
  frames : C.A.frames = some C.fls
  apart : ∀ x y c, C.env.cells.lookup x = some c → C.env.cells.lookup y = some c → x = y
  lnew : C.base.get? C.env.locals = none
  wnew : ∀ c ∈ C.wc, C.base.get? c = none
  wcell : ∀ c ∈ C.wc, ∃ x, C.env.cells.lookup x = some c
  gl : C.base.Ns mainGlobals C.mg
  bl : C.base.Ns builtinsNs C.mb
  lim : C.base.NoLimit
  pnew : ∀ b, C.P₀ b → C.base.get? b = none

/-- an IndexError that is being handled, without a context -/
def HdlAt (h : Heap) (a : Addr) : Prop := ∃ oe vs, h.get? a = some oe ∧ oe.cls = .type "IndexError" ∧ oe.data = .fields vs ∧ vs.size = 6 ∧ vs[2]? = some .none
theorem HdlAt.at {h h' : Heap} {a : Addr} (x : HdlAt h a) (k : ∀ o vs, h.get? a = some o → o.data = .fields vs → o.cls = .type "IndexError" → h'.get? a = some o) : HdlAt h' a := by
  obtain ⟨o, vs, h1, h2, h3, r⟩ := x; exact ⟨o, vs, k o vs h1 h3 h2, h2, h3, r⟩

structure RelM (C : Cfg) (σ : St) (g : Str → Addr) (m : Str → Option Value) (s : Shared) : Prop where
  base : ∀ b o, C.base.get? b = some o → s.heap.get? b = some o
  frames : s.heap.FunFrames C.base C.fls
  dicts : ∀ b, IsFr C.fls b → ∃ o, s.heap.get? b = some o ∧ ∃ es ep, o.data = .dict es ep
  p0 : ∀ b, C.P₀ b → ∃ o, s.heap.get? b = some o
  ns : s.heap.Ns C.env.locals m
  cells : ∀ x c, C.env.cells.lookup x = some c → ∃ v, s.heap.IsCell c v
  fr : ∀ x v, (x, v) ∈ σ.fr → ∃ cv, VarAt C.env s.heap m x cv ∧ VR C.prog C.w (Av C σ g) s.heap v cv
  ow : ∀ x v, (x, v) ∈ σ.ow → VarAt C.env s.heap m x (.ref (g x)) ∧ OwnAt C.prog C.w (Av C σ g) s.heap (g x) v ∧ ¬ C.P₀ (g x) ∧ C.base.get? (g x) = none
  inj : ∀ p ∈ σ.ow, ∀ q ∈ σ.ow, g p.1 = g q.1 → p.1 = q.1
  hdl : C.rz = true → ∀ a, C.A.handled = some (.ref a) → HdlAt s.heap a

def Rel (C : Cfg) (σ : St) (g : Str → Addr) (s : Shared) : Prop := ∃ m, RelM C σ g m s

structure Step (C : Cfg) (O : Addr → Prop) (s : Shared) (O' : Addr → Prop) (s' : Shared) : Prop where
  eq : s' = { s with heap := s'.heap, toks := s'.toks }
  keep : ∀ b o, s.heap.get? b = some o → ¬ Pm C O b → Kept C.fls s'.heap b o
  own : ∀ b, O' b → O b ∨ s.heap.get? b = none
  live : ∀ b o, s.heap.get? b = some o → ∃ o', s'.heap.get? b = some o'

theorem Step.refl (C : Cfg) (O : Addr → Prop) (s : Shared) : Step C O s O s := ⟨rfl, fun _ _ e _ => .inl e, fun _ h => .inl h, fun _ o e => ⟨o, e⟩⟩
theorem Step.trans {C : Cfg} {O O' O'' : Addr → Prop} {s s' s'' : Shared} (x : Step C O s O' s') (y : Step C O' s' O'' s'') : Step C O s O'' s'' where
  eq := by rw [y.eq, x.eq]
  keep := fun b o e hp => (x.keep b o e hp).trans fun o' e' => y.keep b o' e' fun q => by
    rcases q with q | q | q
    · exact hp (.inl q)
    · exact hp (.inr (.inl q))
    · rcases x.own b q with q | q
      · exact hp (.inr (.inr q))
      · rw [q] at e; cases e
  own := fun b h => by
    rcases y.own b h with h | h
    · exact x.own b h
    · cases e : s.heap.get? b with
      | none => exact .inr rfl
      | some o =>
        obtain ⟨o', e'⟩ := x.live b o e
        rw [h] at e'; cases e'
  live := fun b o e => let ⟨o', e'⟩ := x.live b o e; y.live b o' e'

theorem Grow.step {C : Cfg} {O : Addr → Prop} {s s' : Shared} (x : Grow C.fls s s') : Step C O s O s' :=
  ⟨x.eq, fun b o e _ => x.keep b o e, fun _ h => .inl h, fun b o e => let ⟨o', e', _⟩ := (x.keep b o e).data; ⟨o', e'⟩⟩

theorem isCell_kept {fls : List Env} {h h' : Heap} {c : Addr} {v : Option Value} (x : h.IsCell c v) (k : ∀ o, h.get? c = some o → Kept fls h' c o) : h'.IsCell c v := by
  obtain ⟨o, ho, hd⟩ := x
  obtain ⟨o', ho', _, hd', _⟩ := (k o ho).data
  exact ⟨o', ho', hd'.trans hd⟩
theorem ns_kept {fls : List Env} {h h' : Heap} {c : Addr} {m : Str → Option Value} (x : h.Ns c m) (k : ∀ o, h.get? c = some o → Kept fls h' c o) : h'.Ns c m := by
  obtain ⟨o, es, ep, ho, hd, r⟩ := x
  obtain ⟨o', ho', _, hd', _⟩ := (k o ho).data
  exact ⟨o', es, ep, ho', hd'.trans hd, r⟩
theorem varAt_of {env : Env} {h h' : Heap} {m : Str → Option Value} {x : Str} {v : Value} (H : VarAt env h m x v) (k : ∀ c u, (x, c) ∈ env.cells → h.IsCell c u → h'.IsCell c u) : VarAt env h' m x v := by
  rcases H with H | ⟨h1, c, h2, h3⟩
  · exact .inl H
  · exact .inr ⟨h1, c, h2, k c _ (PySem.mem_of_lookup h2) h3⟩
theorem funFrames_kept {fls : List Env} {h h' base : Heap} {l : List Env} (k : ∀ b o, h.get? b = some o → Kept fls h' b o) (H : h.FunFrames base l) : h'.FunFrames base l :=
  H.of_keeps fun b o ho _ => let ⟨o', e, _, d, _⟩ := (k b o ho).data; ⟨o', e, d⟩
theorem funFrames_of {h h' base : Heap} {l : List Env} (k : ∀ b o, IsFr l b → h.get? b = some o → (∃ es ep, o.data = .dict es ep) → ∃ o', h'.get? b = some o' ∧ (∃ es ep, o'.data = .dict es ep)) (hd : ∀ b, IsFr l b → ∃ o, h.get? b = some o ∧ ∃ es ep, o.data = .dict es ep) (H : h.FunFrames base l) : h'.FunFrames base l := by
  induction l with
  | nil => trivial
  | cons e r ih =>
    obtain ⟨h1, ⟨L, o, hf, hn, ho, hx⟩, h3⟩ := H
    have hL : IsFr (e :: r) L := ⟨e, .head _, hf⟩
    obtain ⟨o1, ho1, hd1⟩ := hd L hL
    rw [ho] at ho1; cases ho1
    obtain ⟨o', ho', es, ep, hd'⟩ := k L o hL ho hd1
    refine ⟨h1, ⟨L, o', hf, hn, ho', fun vs q => by rw [hd'] at q; cases q⟩, ih (fun b o hb => k b o ?_) (fun b hb => hd b ?_) h3⟩
    · obtain ⟨e', he', q⟩ := hb; exact ⟨e', .tail _ he', q⟩
    · obtain ⟨e', he', q⟩ := hb; exact ⟨e', .tail _ he', q⟩

theorem RelM.base_notFr {C : Cfg} {σ : St} {g : Str → Addr} {m : Str → Option Value} {s : Shared} (R : RelM C σ g m s) {b : Addr} {o : Obj} (hb : C.base.get? b = some o) : ¬ IsFr C.fls b := by
  rintro ⟨e, he, hf⟩
  obtain ⟨q, _⟩ := R.frames.mem (b := b) (List.mem_filterMap.mpr ⟨e, he, hf⟩)
  rw [q] at hb; cases hb

theorem OwnAt.grow {prog : Program} {w : World} {P : Addr → Prop} {fls : List Env} {s s' : Shared} {a : Addr} {v : AVal} (H : OwnAt prog w P s.heap a v) (k : Grow fls s s') : OwnAt prog w P s'.heap a v := by
  cases v with
  | list xs => obtain ⟨vs, ⟨n, ho⟩, hr⟩ := H; exact ⟨vs, ⟨n, (k.keep _ _ ho).val (.inl ⟨_, _, rfl⟩)⟩, hr.grow k⟩
  | setI ks =>
    obtain ⟨n, ⟨o, es, ep, t, ho, hx, hd, r⟩, hn⟩ := H
    exact ⟨n, ⟨o, es, ep, t, (k.keep _ _ ho).val (.inr (.inl ⟨_, _, _, hd⟩)), hx, hd, r⟩, hn⟩
  | _ => exact H.elim

theorem RelM.grow {C : Cfg} {σ : St} {g : Str → Addr} {m : Str → Option Value} {s s' : Shared} (R : RelM C σ g m s) (k : Grow C.fls s s') : RelM C σ g m s' where
  base := fun b o e => (k.keep b o (R.base b o e)).notFr (R.base_notFr e)
  frames := funFrames_kept k.keep R.frames
  dicts := fun b hb => by
    obtain ⟨o, ho, es, ep, hd⟩ := R.dicts b hb
    obtain ⟨o', ho', _, hd', _⟩ := (k.keep b o ho).data
    exact ⟨o', ho', es, ep, hd'.trans hd⟩
  p0 := fun b hb => let ⟨o, ho⟩ := R.p0 b hb; let ⟨o', ho', _⟩ := (k.keep b o ho).data; ⟨o', ho'⟩
  ns := ns_kept R.ns fun o e => k.keep _ o e
  cells := fun x c hc => let ⟨v, hv⟩ := R.cells x c hc; ⟨v, isCell_kept hv fun o e => k.keep _ o e⟩
  fr := fun x v hx => by
    obtain ⟨cv, h1, h2⟩ := R.fr x v hx
    exact ⟨cv, varAt_of h1 fun c u _ hc => isCell_kept hc fun o e => k.keep _ o e, h2.grow k⟩
  ow := fun x v hx => by
    obtain ⟨h1, h2, h3⟩ := R.ow x v hx
    exact ⟨varAt_of h1 fun c u _ hc => isCell_kept hc fun o e => k.keep _ o e, h2.grow k, h3⟩
  inj := R.inj
  hdl := fun hz a ha => (R.hdl hz a ha).at fun o vs e hd _ => (k.keep _ o e).fields hd
theorem Rel.grow {C : Cfg} {σ : St} {g : Str → Addr} {s s' : Shared} (R : Rel C σ g s) (k : Grow C.fls s s') : Rel C σ g s' := let ⟨m, R⟩ := R; ⟨m, R.grow k⟩

/-- an expression's judgement: it gives v, changes nothing that stands -/
def EV (C : Cfg) (σ : St) (e : Expr) (v : AVal) : Prop :=
  ∀ g s E (Q : Value → Shared → Prop), Rel C σ g s → (∀ cv s', Grow C.fls s s' → VR C.prog C.w (Av C σ g) s'.heap v cv → Q cv s') → wpAny (model C.prog C.w) C.A (eval e C.env) Q E s
/-- the same, the value may be an owned object -/
def EV0 (C : Cfg) (σ : St) (e : Expr) (v : AVal) : Prop :=
  ∀ g s E (Q : Value → Shared → Prop), Rel C σ g s → (∀ cv s', Grow C.fls s s' → VR C.prog C.w (fun _ => False) s'.heap v cv → Q cv s') → wpAny (model C.prog C.w) C.A (eval e C.env) Q E s
/-- a test -/
def EB (C : Cfg) (σ : St) (e : Expr) (b : Bool) : Prop :=
  ∀ g s E (Q : Bool → Shared → Prop), Rel C σ g s → (∀ s', Grow C.fls s s' → Q b s') → wpAny (model C.prog C.w) C.A (isTrue e C.env (eval e C.env)) Q E s

theorem VR.weak {prog : Program} {w : World} {P : Addr → Prop} {h : Heap} {x : AVal} {v : Value} (H : VR prog w P h x v) : VR prog w (fun _ => False) h x v :=
  VR.mono (fun _ _ e _ _ => ⟨fun q => q, e⟩) x v H
theorem EV.weak {C : Cfg} {σ : St} {e : Expr} {v : AVal} (H : EV C σ e v) : EV0 C σ e v := fun g s E Q R k => H g s E Q R fun cv s' G V => k cv s' G V.weak

/-- an operation on values: what stands stays; the value is told -/
def OP (C : Cfg) (t : Sem Value) (P : Addr → Prop) (v : AVal) (s : Shared) : Prop :=
  ∀ E (Q : Value → Shared → Prop), (∀ cv s', Grow C.fls s s' → VR C.prog C.w P s'.heap v cv → Q cv s') → wpAny (model C.prog C.w) C.A t Q E s

end Mine

end
section
open PySem PyProof.Rows
set_option Elab.async false
set_option autoImplicit false
set_option linter.unusedVariables false
namespace Mine

theorem Rel.av_live {C : Cfg} {σ : St} {g : Str → Addr} {s : Shared} (R : Rel C σ g s) {b : Addr} (h : Av C σ g b) : ∃ o, s.heap.get? b = some o := by
  obtain ⟨m, R⟩ := R
  rcases h with h | ⟨⟨x, v⟩, hp, rfl⟩
  · exact R.p0 b h
  · obtain ⟨_, h2, _⟩ := R.ow x v hp
    cases v with
    | list xs => obtain ⟨vs, ⟨n, ho⟩, _⟩ := h2; exact ⟨_, ho⟩
    | setI ks => obtain ⟨n, ⟨o, es, ep, t, ho, _⟩, _⟩ := h2; exact ⟨_, ho⟩
    | _ => exact h2.elim
theorem Rel.new_not_av {C : Cfg} {σ : St} {g : Str → Addr} {s : Shared} (R : Rel C σ g s) {b : Addr} (hb : s.heap.objs.size ≤ b) : ¬ Av C σ g b := fun h => by
  obtain ⟨o, ho⟩ := R.av_live h
  exact absurd (Heap.lt_size ho) (Nat.not_lt.mpr hb)

/-- what is known of the avoided addresses in an operation -/
def Lives (P : Addr → Prop) (h : Heap) : Prop := ∀ b, P b → ∃ o, h.get? b = some o
theorem Lives.new {P : Addr → Prop} {h : Heap} (L : Lives P h) {b : Addr} (hb : h.objs.size ≤ b) : ¬ P b := fun q => by
  obtain ⟨o, ho⟩ := L b q
  exact absurd (Heap.lt_size ho) (Nat.not_lt.mpr hb)

def BinOk (C : Cfg) (op : Operator) (a b v : AVal) : Prop :=
  ∀ P s va vb, Lives P s.heap → VR C.prog C.w P s.heap a va → VR C.prog C.w P s.heap b vb → OP C (binaryOp op va vb) P v s
def CmpOk (C : Cfg) (op : CmpOp) (a b : AVal) (v : Bool) : Prop :=
  ∀ s va vb, VR C.prog C.w (fun _ => False) s.heap a va → VR C.prog C.w (fun _ => False) s.heap b vb →
    ∀ E (Q : Value → Shared → Prop), (∀ s', Grow C.fls s s' → Q (.bool v) s') → wpAny (model C.prog C.w) C.A (compareOp op va vb) Q E s

section
variable {C : Cfg} {σ : St} {a b : Int} {x y : Str}
theorem bin_add : BinOk C .Add (.int a) (.int b) (.int (a + b)) := by
  intro P s va vb _ h1 h2; simp only [VR] at h1 h2; obtain ⟨t, rfl⟩ := h1; obtain ⟨u, rfl⟩ := h2
  intro E Q k; exact add_int (k _ _ Grow.toks (by simp only [VR]; exact ⟨_, rfl⟩))
theorem bin_sub : BinOk C .Sub (.int a) (.int b) (.int (a - b)) := by
  intro P s va vb _ h1 h2; simp only [VR] at h1 h2; obtain ⟨t, rfl⟩ := h1; obtain ⟨u, rfl⟩ := h2
  intro E Q k; exact sub_int (k _ _ Grow.toks (by simp only [VR]; exact ⟨_, rfl⟩))
theorem bin_mul (hm : IntMulOk a b) : BinOk C .Mult (.int a) (.int b) (.int (a * b)) := by
  intro P s va vb _ h1 h2; simp only [VR] at h1 h2; obtain ⟨t, rfl⟩ := h1; obtain ⟨u, rfl⟩ := h2
  intro E Q k; exact mul_int (k _ _ Grow.toks (by simp only [VR]; exact ⟨_, rfl⟩)) hm
theorem bin_div (hb : b ≠ 0) (hb2 : b.natAbs < 1073741824) : BinOk C .FloorDiv (.int a) (.int b) (.int (a.fdiv b)) := by
  intro P s va vb _ h1 h2; simp only [VR] at h1 h2; obtain ⟨t, rfl⟩ := h1; obtain ⟨u, rfl⟩ := h2
  intro E Q k; exact floordiv_int hb (k _ _ Grow.toks (by simp only [VR]; exact ⟨_, rfl⟩)) (.inl (PyProof.noPylong_small hb2))
theorem bin_mod (hb : b ≠ 0) : BinOk C .Mod (.int a) (.int b) (.int (a.fmod b)) := by
  intro P s va vb _ h1 h2; simp only [VR] at h1 h2; obtain ⟨t, rfl⟩ := h1; obtain ⟨u, rfl⟩ := h2
  intro E Q k; exact mod_int' hb (k _ _ Grow.toks (by simp only [VR]; exact ⟨_, rfl⟩))
theorem bin_pow (hn : 0 ≤ b) (hn2 : b ≤ 1000000) (ha : a.natAbs < 2 ^ 64) : BinOk C .Pow (.int a) (.int b) (.int (a ^ b.toNat)) := by
  intro P s va vb _ h1 h2; simp only [VR] at h1 h2; obtain ⟨t, rfl⟩ := h1; obtain ⟨u, rfl⟩ := h2
  intro E Q k; exact pow_int_small hn hn2 ha (k _ _ Grow.toks (by simp only [VR]; exact ⟨_, rfl⟩))
theorem bin_and : BinOk C .BitAnd (.int a) (.int b) (.int (Builtin.bitAnd a b)) := by
  intro P s va vb _ h1 h2; simp only [VR] at h1 h2; obtain ⟨t, rfl⟩ := h1; obtain ⟨u, rfl⟩ := h2
  intro E Q k; exact and_int (k _ _ Grow.toks (by simp only [VR]; exact ⟨_, rfl⟩))
theorem bin_or : BinOk C .BitOr (.int a) (.int b) (.int (Builtin.bitOr a b)) := by
  intro P s va vb _ h1 h2; simp only [VR] at h1 h2; obtain ⟨t, rfl⟩ := h1; obtain ⟨u, rfl⟩ := h2
  intro E Q k; exact or_int (k _ _ Grow.toks (by simp only [VR]; exact ⟨_, rfl⟩))

theorem cmp_lt : CmpOk C .Lt (.int a) (.int b) (decide (a < b)) := by
  intro s va vb h1 h2; simp only [VR] at h1 h2; obtain ⟨t, rfl⟩ := h1; obtain ⟨u, rfl⟩ := h2
  intro E Q k; exact lt_int (k _ (Grow.refl _ _))
theorem cmp_gt : CmpOk C .Gt (.int a) (.int b) (decide (b < a)) := by
  intro s va vb h1 h2; simp only [VR] at h1 h2; obtain ⟨t, rfl⟩ := h1; obtain ⟨u, rfl⟩ := h2
  intro E Q k; exact gt_int (k _ (Grow.refl _ _))
theorem cmp_ge : CmpOk C .GtE (.int a) (.int b) (decide (b ≤ a)) := by
  intro s va vb h1 h2; simp only [VR] at h1 h2; obtain ⟨t, rfl⟩ := h1; obtain ⟨u, rfl⟩ := h2
  intro E Q k; exact ge_int (k _ (Grow.refl _ _))
theorem cmp_eq : CmpOk C .Eq (.int a) (.int b) (a == b) := by
  intro s va vb h1 h2; simp only [VR] at h1 h2; obtain ⟨t, rfl⟩ := h1; obtain ⟨u, rfl⟩ := h2
  intro E Q k; exact eq_int (k _ (Grow.refl _ _))
theorem cmp_ins : CmpOk C .In (.str y) (.str x) (!(Builtin.Str.occurrences x y 0 x.length 1).isEmpty) := by
  intro s va vb h1 h2; simp only [VR] at h1 h2; obtain ⟨t, rfl⟩ := h1; obtain ⟨u, rfl⟩ := h2
  intro E Q k; exact PyProof.Rows.in_str (k _ (Grow.refl _ _))

/-! expressions -/
theorem ev_int {i : Int} {k : Nat} {pos : Pos} : EV C σ (.Constant (.int i) k pos) (.int i) := fun g s E Q R kk =>
  wpAny_Constant_int (kk _ _ Grow.toks (by simp only [VR]; exact ⟨_, rfl⟩))
theorem ev_str {k : Nat} {pos : Pos} : EV C σ (.Constant (.str x) k pos) (.str x) := fun g s E Q R kk =>
  Calls.Constant_str (kk _ _ Grow.toks (by simp only [VR]; exact ⟨_, rfl⟩))
theorem ev_bool {c : Bool} {k : Nat} {pos : Pos} : EV C σ (.Constant (.bool c) k pos) (.bool c) := fun g s E Q R kk =>
  wpAny_pure (kk _ _ (Grow.refl _ _) (by simp only [VR]))

theorem ev_loadName (K : CfgOk C) {g : Str → Addr} {m : Str → Option Value} {s : Shared} (R : RelM C σ g m s) {n : Str} {cv : Value} {E : Value → Shared → Prop} {Q : Value → Shared → Prop}
    (hv : VarAt C.env s.heap m n cv) (h : Q cv s) : wpAny (model C.prog C.w) C.A (loadName C.env n) Q E s := by
  rcases hv with ⟨h1, h2⟩ | ⟨h1 | ⟨h1, h1'⟩, c, h2, h3⟩
  · exact wpAny_loadName_local K.kind h1 R.ns h2 h
  · exact wpAny_loadName_cell K.kind h1 h2 h3 h
  · exact wpAny_loadName_free K.kind h1 h2 h3 h h1'

theorem ev_name (K : CfgOk C) {n : Str} {v : AVal} {pos : Pos} (hv : (n, v) ∈ σ.fr) (hd : (n == ("__debug__" : Str)) = false) : EV C σ (.Name n pos) v := fun g s E Q ⟨m, R⟩ k => by
  obtain ⟨cv, h1, h2⟩ := R.fr n v hv
  exact wpAny_Name (ev_loadName K R h1 (k _ _ (Grow.refl _ _) h2)) hd

theorem OwnAt.vr {prog : Program} {w : World} {P : Addr → Prop} {h : Heap} {a : Addr} {v : AVal} (H : OwnAt prog w P h a v) : VR prog w (fun _ => False) h v (.ref a) := by
  cases v with
  | list xs => obtain ⟨vs, h1, h2⟩ := H; simp only [VR]; exact ⟨a, vs, rfl, fun q => q, h1.isList, VRs.mono (fun _ _ e _ _ => ⟨fun q => q, e⟩) _ _ h2⟩
  | setI ks => obtain ⟨n, h1, _⟩ := H; simp only [VR]; exact ⟨a, n, rfl, fun q => q, h1⟩
  | _ => exact H.elim

theorem ev0_own (K : CfgOk C) {n : Str} {v : AVal} {pos : Pos} (hv : (n, v) ∈ σ.ow) (hd : (n == ("__debug__" : Str)) = false) : EV0 C σ (.Name n pos) v := fun g s E Q ⟨m, R⟩ k => by
  obtain ⟨h1, h2, _⟩ := R.ow n v hv
  exact wpAny_Name (ev_loadName K R h1 (k _ _ (Grow.refl _ _) h2.vr)) hd

theorem ev_bin {l r : Expr} {op : Operator} {pos : Pos} {va vb v : AVal} (hl : EV C σ l va) (hr : EV C σ r vb) (ho : BinOk C op va vb v) : EV C σ (.BinOp l op r pos) v := fun g s E Q R k =>
  wpAny_BinOp (hl g s _ _ R fun ca s₁ G1 V1 => hr g s₁ _ _ (R.grow G1) fun cb s₂ G2 V2 =>
    ho _ _ _ _ (fun b hb => ((R.grow G1).grow G2).av_live hb) (V1.grow G2) V2 _ _ fun cv s' G3 V3 => k cv s' ((G1.trans G2).trans G3) V3)

theorem ev_neg {e : Expr} {pos : Pos} (h : EV C σ e (.int a)) : EV C σ (.UnaryOp .USub e pos) (.int (-a)) := fun g s E Q R k =>
  wpAny_UnaryOp (h g s _ _ R fun ca s₁ G1 V1 => by
    simp only [VR] at V1; obtain ⟨t, rfl⟩ := V1
    exact neg_int (k _ _ (G1.trans Grow.toks) (by simp only [VR]; exact ⟨_, rfl⟩)))

theorem ev_cmp {l r : Expr} {op : CmpOp} {pos : Pos} {va vb : AVal} {v : Bool} (hl : EV0 C σ l va) (hr : EV0 C σ r vb) (ho : CmpOk C op va vb v) (hm : behindInMarks op r = false) :
    EV C σ (.Compare l [op] [r] pos) (.bool v) := fun g s E Q R k =>
  wpAny_Compare1 (hl g s _ _ R fun ca s₁ G1 V1 => hr g s₁ _ _ (R.grow G1) fun cb s₂ G2 V2 =>
    ho _ _ _ (V1.grow G2) V2 _ _ fun s' G3 => k _ s' ((G1.trans G2).trans G3) (by simp only [VR])) hm
theorem eb_cmp {l r : Expr} {op : CmpOp} {pos : Pos} {va vb : AVal} {v : Bool} (hl : EV0 C σ l va) (hr : EV0 C σ r vb) (ho : CmpOk C op va vb v) (hm : behindInMarks op r = false) :
    EB C σ (.Compare l [op] [r] pos) v := fun g s E Q R k =>
  wpAny_isTrue_Compare1 (hl g s _ _ R fun ca s₁ G1 V1 => hr g s₁ _ _ (R.grow G1) fun cb s₂ G2 V2 =>
    ho _ _ _ (V1.grow G2) V2 _ _ fun s' G3 => wpAny_truthy_bool (k s' ((G1.trans G2).trans G3))) hm

/-- a test by its value, a bool: names, constants, calls -/
theorem eb_of {e : Expr} {v : Bool} (h : EV C σ e (.bool v)) (hw : ∀ env whole, isTrue e env whole = (do let v ← whole; standAt e.pos; holding [v] (truthy v))) : EB C σ e v := fun g s E Q R k => by
  rw [hw]
  refine wpAny_bind (h g s _ _ R fun cv s' G V => ?_)
  simp only [VR] at V; subst V
  exact wpAny_bind (wpAny_standAt (wpAny_holding (wpAny_truthy_bool (k s' G))))

theorem eb_and_nil {pos : Pos} : EB C σ (.BoolOp .And [] pos) true := fun g s E Q R k => by
  rw [arm_isTrue_BoolOp, arm_allTrue_nil]; exact wpAny_pure (k s (Grow.refl _ _))
theorem eb_and_cons {e : Expr} {es : List Expr} {pos : Pos} {p q : Bool} (h : EB C σ e p) (hr : p = true → EB C σ (.BoolOp .And es pos) q) : EB C σ (.BoolOp .And (e :: es) pos) (p && q) := fun g s E Q R k => by
  rw [arm_isTrue_BoolOp, arm_allTrue_cons]
  refine wpAny_bind (h g s _ _ R fun s₁ G1 => ?_)
  cases p with
  | false => exact wpAny_pure (k s₁ G1)
  | true =>
    have := hr rfl g s₁ E Q (R.grow G1) fun s₂ G2 => k s₂ (G1.trans G2)
    rw [arm_isTrue_BoolOp] at this; exact this
/-- the value of an and over bools -/
theorem ev_and_one {e : Expr} {pos : Pos} {p : Bool} (h : EV C σ e (.bool p)) : EV C σ (.BoolOp .And [e] pos) (.bool p) := h
theorem ev_and_cons {e e' : Expr} {es : List Expr} {pos : Pos} {p q : Bool} (h : EV C σ e (.bool p)) (hr : p = true → EV C σ (.BoolOp .And (e' :: es) pos) (.bool q)) :
    EV C σ (.BoolOp .And (e :: e' :: es) pos) (.bool (p && q)) := fun g s E Q R k => by
  rw [arm_eval_BoolOp, arm_evalEach_cons, arm_evalEach_cons, boolOp.eq_def]
  refine wpAny_bind (h g s _ _ R fun cv s₁ G1 V => ?_)
  simp only [VR] at V; subst V
  refine wpAny_bind (wpAny_standAt (wpAny_bind (wpAny_holding (wpAny_truthy_bool ?_))))
  cases p with
  | false => exact wpAny_pure (k _ s₁ G1 (by simp only [VR, Bool.false_and]))
  | true => exact hr rfl g s₁ E Q (R.grow G1) fun cv s₂ G2 V2 => k cv s₂ (G1.trans G2) V2

theorem ev_if {t b o : Expr} {pos : Pos} {c : Bool} {v : AVal} (ht : EB C σ t c) (hb : c = true → EV C σ b v) (ho : c = false → EV C σ o v) : EV C σ (.IfExp t b o pos) v := fun g s E Q R k => by
  rw [arm_eval_IfExp]
  refine wpAny_bind (ht g s _ _ R fun s₁ G1 => ?_)
  cases c with
  | true => exact hb rfl g s₁ E Q (R.grow G1) fun cv s₂ G2 V2 => k cv s₂ (G1.trans G2) V2
  | false => exact ho rfl g s₁ E Q (R.grow G1) fun cv s₂ G2 V2 => k cv s₂ (G1.trans G2) V2
end
end Mine

end
section
open PySem PyProof.Rows
set_option Elab.async false
set_option autoImplicit false
set_option linter.unusedVariables false
namespace Mine

def AvZ (z : Bool) (C : Cfg) (σ : St) (g : Str → Addr) : Addr → Prop := if z then Av C σ g else fun _ => False
def EVz (z : Bool) (C : Cfg) (σ : St) (e : Expr) (v : AVal) : Prop :=
  ∀ g s E (Q : Value → Shared → Prop), Rel C σ g s → (∀ cv s', Grow C.fls s s' → VR C.prog C.w (AvZ z C σ g) s'.heap v cv → Q cv s') → wpAny (model C.prog C.w) C.A (eval e C.env) Q E s
theorem EV.z {C : Cfg} {σ : St} {e : Expr} {v : AVal} (h : EV C σ e v) : EVz true C σ e v := h
theorem EV0.z {C : Cfg} {σ : St} {e : Expr} {v : AVal} (h : EV0 C σ e v) : EVz false C σ e v := h
theorem EVz.ev {C : Cfg} {σ : St} {e : Expr} {v : AVal} (h : EVz true C σ e v) : EV C σ e v := h
theorem EVz.ev0 {C : Cfg} {σ : St} {e : Expr} {v : AVal} {z : Bool} (h : EVz z C σ e v) : EV0 C σ e v := by
  cases z with
  | false => exact h
  | true => exact EV.weak h
theorem avz_live {z : Bool} {C : Cfg} {σ : St} {g : Str → Addr} {s : Shared} (R : Rel C σ g s) : Lives (AvZ z C σ g) s.heap := fun b hb => by
  cases z with
  | false => exact hb.elim
  | true => exact R.av_live hb

def notStar (e : Expr) : Prop := ∀ rest env, starEach (e :: rest) env = (false, eval e env) :: starEach rest env

def EVs (z : Bool) (C : Cfg) (σ : St) (es : List Expr) (vs : List AVal) : Prop :=
  ∀ pos g s E (Q : List Value → Shared → Prop), Rel C σ g s → (∀ cvs s', Grow C.fls s s' → VRs C.prog C.w (AvZ z C σ g) s'.heap vs cvs → Q cvs s') →
    wpAny (model C.prog C.w) C.A (spliced (backTo pos (starEach es C.env))) Q E s

section
variable {C : Cfg} {σ : St} {z : Bool}
theorem evs_nil : EVs z C σ [] [] := fun pos g s E Q R k => Calls.spliced_nil (k _ _ (Grow.refl _ _) (by simp only [VRs]))
theorem evs_cons {e : Expr} {es : List Expr} {v : AVal} {vs : List AVal} (h : EVz z C σ e v) (hs : EVs z C σ es vs) (hn : notStar e) : EVs z C σ (e :: es) (v :: vs) := fun pos g s E Q R k => by
  rw [hn]
  show wpAny _ _ (spliced ((false, eval e C.env) :: backTo pos (starEach es C.env))) Q E s
  refine Calls.spliced_cons (h g s _ _ R fun cv s₁ G1 V1 => hs pos g s₁ _ _ (R.grow G1) fun cvs s₂ G2 V2 => k _ _ (G1.trans G2) ?_)
  simp only [VRs]; exact ⟨cv, cvs, rfl, V1.grow G2, V2⟩

theorem VRs.length {prog : Program} {w : World} {P : Addr → Prop} {h : Heap} : ∀ {xs : List AVal} {vs : List Value}, VRs prog w P h xs vs → vs.length = xs.length
  | [], vs, H => by simp only [VRs] at H; subst H; rfl
  | x :: xs, vs, H => by simp only [VRs] at H; obtain ⟨v, r, rfl, _, h2⟩ := H; simp [VRs.length h2]
theorem VRs.get {prog : Program} {w : World} {P : Addr → Prop} {h : Heap} : ∀ {xs : List AVal} {vs : List Value}, VRs prog w P h xs vs → ∀ (i : Nat) (x : AVal), xs[i]? = some x → ∃ v, vs[i]? = some v ∧ VR prog w P h x v
  | [], vs, H, i, x, e => by simp at e
  | y :: xs, vs, H, i, x, e => by
    simp only [VRs] at H; obtain ⟨v, r, rfl, h1, h2⟩ := H
    cases i with
    | zero => simp only [List.getElem?_cons_zero, Option.some.injEq] at e; subst e; exact ⟨v, rfl, h1⟩
    | succ i => simp only [List.getElem?_cons_succ] at e ⊢; exact VRs.get h2 i x e
theorem VRs.append {prog : Program} {w : World} {P : Addr → Prop} {h : Heap} : ∀ {xs ys : List AVal} {vs us : List Value}, VRs prog w P h xs vs → VRs prog w P h ys us → VRs prog w P h (xs ++ ys) (vs ++ us)
  | [], ys, vs, us, H, K => by simp only [VRs] at H; subst H; exact K
  | x :: xs, ys, vs, us, H, K => by
    simp only [VRs] at H; obtain ⟨v, r, rfl, h1, h2⟩ := H
    simp only [List.cons_append, VRs]; exact ⟨v, r ++ us, rfl, h1, VRs.append h2 K⟩
theorem VRs.drop {prog : Program} {w : World} {P : Addr → Prop} {h : Heap} : ∀ {xs : List AVal} {vs : List Value}, VRs prog w P h xs vs → ∀ n : Nat, VRs prog w P h (xs.drop n) (vs.drop n)
  | xs, vs, H, 0 => by simpa using H
  | [], vs, H, n + 1 => by simp only [VRs] at H; subst H; simp [VRs]
  | x :: xs, vs, H, n + 1 => by simp only [VRs] at H; obtain ⟨v, r, rfl, h1, h2⟩ := H; simpa using VRs.drop h2 n
theorem VRs.take {prog : Program} {w : World} {P : Addr → Prop} {h : Heap} : ∀ {xs : List AVal} {vs : List Value}, VRs prog w P h xs vs → ∀ n : Nat, VRs prog w P h (xs.take n) (vs.take n)
  | xs, vs, H, 0 => by simp [VRs]
  | [], vs, H, n + 1 => by simp only [VRs] at H; subst H; simp [VRs]
  | x :: xs, vs, H, n + 1 => by
    simp only [VRs] at H; obtain ⟨v, r, rfl, h1, h2⟩ := H
    simp only [List.take_succ_cons, VRs]; exact ⟨v, _, rfl, h1, VRs.take h2 n⟩

/-- displays -/
theorem ev_list {es : List Expr} {vs : List AVal} {pos : Pos} (h : EVs true C σ es vs) (hsz : vs.length ≤ sizeLine) : EV C σ (.List es pos) (.list vs) := fun g s E Q R k =>
  List_ (h pos g s _ _ R fun cvs s₁ G1 V1 => wpAny_newObj_type (by
    have hk : ∀ b o, s₁.heap.get? b = some o → (s₁.heap.push { cls := .type "list", data := .seq cvs.toArray }).get? b = some o := fun b o e => Heap.get?_push_of_some _ e
    have G2 : Grow C.fls s₁ { s₁ with heap := s₁.heap.push { cls := .type "list", data := .seq cvs.toArray } } := Grow.of hk
    refine k _ _ (G1.trans G2) ?_
    simp only [VR]
    exact ⟨_, cvs, rfl, (R.grow G1).new_not_av (Nat.le_refl _), ⟨_, Heap.get?_push_size _ rfl, rfl, _, rfl⟩, V1.grow G2⟩)
    (by show cvs.toArray.size ≤ sizeLine; rw [List.size_toArray, V1.length]; exact hsz))
theorem ev_tuple {es : List Expr} {vs : List AVal} {n : Nat} {pos : Pos} (h : EVs true C σ es vs) (hsz : vs.length ≤ sizeLine) : EV C σ (.Tuple es n pos) (.tuple vs) := fun g s E Q R k =>
  Tuple_ (h pos g s _ _ R fun cvs s₁ G1 V1 => wpAny_newObj_type (by
    have hk : ∀ b o, s₁.heap.get? b = some o → (s₁.heap.push { cls := .type "tuple", data := .seq cvs.toArray }).get? b = some o := fun b o e => Heap.get?_push_of_some _ e
    have G2 : Grow C.fls s₁ { s₁ with heap := s₁.heap.push { cls := .type "tuple", data := .seq cvs.toArray } } := Grow.of hk
    refine k _ _ (G1.trans G2) ?_
    simp only [VR]
    exact ⟨_, cvs, rfl, (R.grow G1).new_not_av (Nat.le_refl _), ⟨_, Heap.get?_push_size _ rfl, rfl, _, rfl⟩, V1.grow G2⟩)
    (by show cvs.toArray.size ≤ sizeLine; rw [List.size_toArray, V1.length]; exact hsz))

/-- items -/
def plainSub (sl : Expr) : Prop := ∀ o i, subscripted sl false o i = operate [o, i] (getItem o i)
theorem evz_item {e i : Expr} {pos : Pos} {xs : List AVal} {k : Int} {v : AVal} (he : EVz z C σ e (.list xs)) (hi : EV C σ i (.int k)) (h0 : 0 ≤ k) (hk : k < 2 ^ 63) (hv : xs[k.toNat]? = some v) (hs : plainSub i) :
    EVz z C σ (.Subscript e i pos) v := fun g s E Q R kk => by
  refine Subscript_ (he g s _ _ R fun ce s₁ G1 V1 => hi g s₁ _ _ (R.grow G1) fun ci s₂ G2 V2 => ?_)
  simp only [VR] at V2; obtain ⟨t, rfl⟩ := V2
  have V1' := V1.grow G2
  simp only [VR] at V1'; obtain ⟨a, vs, rfl, hp, hl, hr⟩ := V1'
  obtain ⟨cv, hcv, hV⟩ := hr.get _ _ hv
  exact tail_any hl.typeIs slot_list_getitem.lookup (wpAny_getItem_list hl h0 hk (by simpa using hcv) (kk _ _ (G1.trans G2) hV)) (hs _ _)

theorem isList_push (h : Heap) (items : Array Value) : (h.push { cls := .type "list", data := .seq items }).IsList h.objs.size items := ⟨_, Heap.get?_push_size _ rfl, rfl, _, rfl⟩
theorem ev_sliceFrom {e u : Expr} {p pos : Pos} {xs : List AVal} {k : Int} (he : EVz z C σ e (.list xs)) (hu : EV C σ u (.int k)) (h0 : 0 ≤ k) (hsz : xs.length ≤ sizeLine) (ht : ∀ o r, letTemporaryGo e o r = pure ()) :
    EVz z C σ (.Subscript e (.Slice (some u) none none p) pos) (.list (xs.drop k.toNat)) := fun g s E Q R kk => by
  refine wpAny_Subscript_list_slice (he g s _ _ R fun ce s₁ G1 V1 => ?_) ht
  rw [evalPart_some]
  refine hu g s₁ _ _ (R.grow G1) fun ci s₂ G2 V2 => ?_
  rw [evalPart_none]
  refine wpAny_pure ?_
  simp only [VR] at V2; obtain ⟨t, rfl⟩ := V2
  have V1' := V1.grow G2
  simp only [VR] at V1'; obtain ⟨a, vs, rfl, hp, hl, hr⟩ := V1'
  refine ⟨a, vs.toArray, some k, none, rfl, hl, by simp [hr.length]; exact hsz, .int _ _, .none, ?_⟩
  have hk : slicePick vs.toArray (some k) none none = (vs.drop k.toNat).toArray := by
    have := slicePick_from' vs.toArray k.toNat
    rw [show ((k.toNat : Nat) : Int) = k by lia] at this
    simpa using this
  rw [hk]
  have G3 : Grow C.fls s₂ { s₂ with heap := (s₂.heap.push { cls := .type "slice", data := .fields #[.int k t, .none, .none] }).push { cls := .type "list", data := .seq (vs.drop k.toNat).toArray } } :=
    Grow.of (tk := s₂.toks) fun b o e => Heap.get?_push_of_some _ (Heap.get?_push_of_some _ e)
  refine kk _ _ ((G1.trans G2).trans G3) ?_
  simp only [VR]
  refine ⟨_, vs.drop k.toNat, rfl, Lives.new (avz_live ((R.grow G1).grow G2)) (Nat.le_succ _), ?_, (hr.drop _).grow G3⟩
  rw [← Heap.size_push]; exact isList_push _ _
end
end Mine

end
section
open PySem PyProof.Rows
set_option Elab.async false
set_option autoImplicit false
set_option linter.unusedVariables false
namespace Mine

def GlobB (C : Cfg) (n : Str) (v : Value) : Prop := C.env.kindOf n = some .globalImplicit ∧ C.mg n = none ∧ C.mb n = some v
def GlobG (C : Cfg) (n : Str) (v : Value) : Prop := C.env.kindOf n = some .globalImplicit ∧ C.mg n = some v

section
variable {C : Cfg} {σ : St} {z : Bool}

theorem wp_globB (K : CfgOk C) {g : Str → Addr} {s : Shared} (R : Rel C σ g s) {n : Str} {v : Value} {pos : Pos} {E Q : Value → Shared → Prop} (hg : GlobB C n v) (hd : (n == ("__debug__" : Str)) = false) (h : Q v s) :
    wpAny (model C.prog C.w) C.A (eval (.Name n pos) C.env) Q E s := by
  obtain ⟨m, R⟩ := R
  refine Calls.Name_function_global K.kind hg.1 (Calls.loadGlobal_builtin (mg := C.mg) (mb := C.mb) ?_ hg.2.1 ?_ hg.2.2 h) hd
  · rw [K.globals]; exact K.gl.keeps R.base
  · rw [K.builtins]; exact K.bl.keeps R.base
theorem wp_globG (K : CfgOk C) {g : Str → Addr} {s : Shared} (R : Rel C σ g s) {n : Str} {v : Value} {pos : Pos} {E Q : Value → Shared → Prop} (hg : GlobG C n v) (hd : (n == ("__debug__" : Str)) = false) (h : Q v s) :
    wpAny (model C.prog C.w) C.A (eval (.Name n pos) C.env) Q E s := by
  obtain ⟨m, R⟩ := R
  refine Calls.Name_function_global K.kind hg.1 (Calls.loadGlobal_global (mg := C.mg) ?_ hg.2 h) hd
  rw [K.globals]; exact K.gl.keeps R.base

/-- a global constant -/
theorem ev_const (K : CfgOk C) {n : Str} {cv : Value} {v : AVal} {pos : Pos} (hg : GlobG C n cv) (hd : (n == ("__debug__" : Str)) = false) (hv : VR C.prog C.w (fun b => C.base.get? b = none) C.base v cv) : EV C σ (.Name n pos) v := fun g s E Q R k => by
  refine wp_globG K R hg hd (k _ _ (Grow.refl _ _) ?_)
  obtain ⟨m, R⟩ := R
  refine VR.mono (fun b o e _ hb => ⟨fun q => ?_, R.base b o e⟩) v cv hv
  rcases q with q | ⟨⟨x, u⟩, hp, rfl⟩
  · exact hb (K.pnew b q)
  · exact hb (R.ow x u hp).2.2.2

theorem eval_call_name {f : Str} {p pos : Pos} {args : List Expr} {env : Env} : eval (.Call (.Name f p) args [] pos) env = (do callWith pos (← eval (.Name f p) env) [] (backTo pos (starEach args env)) []) := rfl

/-- a call of a built-in or a type -/
def CallOk (C : Cfg) (f : Value) (vs : List AVal) (v : AVal) : Prop :=
  ∀ P s cvs, Lives P s.heap → VRs C.prog C.w (fun _ => False) s.heap vs cvs → OP C (call f cvs) P v s

theorem ev_callB (K : CfgOk C) {f : Str} {id : String} {p pos : Pos} {e : Expr} {es : List Expr} {vs : List AVal} {v : AVal} (hg : GlobB C f (.builtin id)) (hd : (f == ("__debug__" : Str)) = false)
    (ha : EVs false C σ (e :: es) vs) (ho : CallOk C (.builtin id) vs v) (hn : notStar e) (hp : ∀ pos, (backTo pos (starEach es C.env)).any (·.1) = false) : EV C σ (.Call (.Name f p) (e :: es) [] pos) v := fun g s E Q R k => by
  rw [eval_call_name]
  refine wpAny_bind (wp_globB K R hg hd ?_)
  refine callWith_builtin1 (ha pos g s _ _ R fun cvs s₁ G1 V1 => ?_) (hn _ _) (hp pos)
  exact ho (Av C σ g) s₁ cvs (fun b hb => (R.grow G1).av_live hb) V1 _ _ fun cv s' G V => k cv s' (G1.trans G) V
theorem ev_callT (K : CfgOk C) {f : Str} {T : String} {p pos : Pos} {e : Expr} {es : List Expr} {vs : List AVal} {v : AVal} (hg : GlobB C f (.type T)) (hd : (f == ("__debug__" : Str)) = false)
    (ha : EVs false C σ (e :: es) vs) (ho : CallOk C (.type T) vs v) (hn : notStar e) (hp : ∀ pos, (backTo pos (starEach es C.env)).any (·.1) = false) : EV C σ (.Call (.Name f p) (e :: es) [] pos) v := fun g s E Q R k => by
  rw [eval_call_name]
  refine wpAny_bind (wp_globB K R hg hd ?_)
  have h := ha pos g s E (fun cvs s₁ => wpAny (model C.prog C.w) C.A (call (.type T) cvs) Q E s₁) R fun cvs s₁ G1 V1 =>
    ho (Av C σ g) s₁ cvs (fun b hb => (R.grow G1).av_live hb) V1 _ _ fun cv s' G V => k cv s' (G1.trans G) V
  rw [hn] at h ⊢
  exact PySem.callWith_type (by show (false || (backTo pos (starEach es C.env)).any (·.1)) = false; rw [hp]; rfl) (Calls.evalArgs_plain h)

theorem vrs_ints {prog : Program} {w : World} {P : Addr → Prop} {h : Heap} : ∀ {ns : List Int} {vs : List Value}, VRs prog w P h (ns.map .int) vs ↔ IntsAre vs ns
  | [], vs => by
    simp only [List.map_nil, VRs]
    constructor
    · rintro rfl; exact .nil
    · intro q; cases q; rfl
  | n :: ns, vs => by
    simp only [List.map_cons, VRs, VR]
    constructor
    · rintro ⟨v, r, rfl, ⟨t, rfl⟩, hr⟩; exact .cons _ _ (vrs_ints.mp hr)
    · intro q; cases q with | cons k t r => exact ⟨_, _, rfl, ⟨t, rfl⟩, vrs_ints.mpr r⟩
theorem vrs_strs {prog : Program} {w : World} {P : Addr → Prop} {h : Heap} : ∀ {ns : List Str} {vs : List Value}, VRs prog w P h (ns.map .str) vs ↔ StrsAre vs ns
  | [], vs => by
    simp only [List.map_nil, VRs]
    constructor
    · rintro rfl; exact .nil
    · intro q; cases q; rfl
  | n :: ns, vs => by
    simp only [List.map_cons, VRs, VR]
    constructor
    · rintro ⟨v, r, rfl, ⟨t, rfl⟩, hr⟩; exact .cons _ _ (vrs_strs.mp hr)
    · intro q; cases q with | cons k t r => exact ⟨_, _, rfl, ⟨t, rfl⟩, vrs_strs.mpr r⟩
/-- one argument -/
theorem vrs_one {prog : Program} {w : World} {P : Addr → Prop} {h : Heap} {v : AVal} {cvs : List Value} (H : VRs prog w P h [v] cvs) : ∃ c, cvs = [c] ∧ VR prog w P h v c := by
  simp only [VRs] at H; obtain ⟨c, r, rfl, h1, rfl⟩ := H; exact ⟨c, rfl, h1⟩
theorem vrs_two {prog : Program} {w : World} {P : Addr → Prop} {h : Heap} {v u : AVal} {cvs : List Value} (H : VRs prog w P h [v, u] cvs) : ∃ c d, cvs = [c, d] ∧ VR prog w P h v c ∧ VR prog w P h u d := by
  simp only [VRs] at H; obtain ⟨c, r, rfl, h1, d, r', rfl, h2, rfl⟩ := H; exact ⟨c, d, rfl, h1, h2⟩

theorem call_len {xs : List AVal} (h : (xs.length : Int) < 2 ^ 63) : CallOk C (.builtin "len") [.list xs] (.int xs.length) := fun P s cvs hL H => by
  obtain ⟨c, rfl, V⟩ := vrs_one H
  simp only [VR] at V; obtain ⟨a, vs, rfl, _, hl, hr⟩ := V
  intro E Q k
  have e := hr.length
  refine PyProof.Rows.len_list hl (by simpa [e] using h) (k _ _ Grow.toks ?_)
  simp only [VR, List.size_toArray, e]; exact ⟨_, rfl⟩
theorem call_range1 {n : Int} : CallOk C (.type "range") [.int n] (.range 0 n) := fun P s cvs hL H => by
  obtain ⟨c, rfl, V⟩ := vrs_one H
  simp only [VR] at V; obtain ⟨t, rfl⟩ := V
  intro E Q k
  refine call_range_1 (k _ _ (Grow.of fun b o e => Heap.get?_push_of_some _ e) ?_)
  simp only [VR]; exact ⟨_, _, _, _, rfl, hL.new (Nat.le_refl _), IsRange.new _ _ _ _ _ _ _⟩
theorem call_range2 {a n : Int} : CallOk C (.type "range") [.int a, .int n] (.range a n) := fun P s cvs hL H => by
  obtain ⟨c, d, rfl, V, V2⟩ := vrs_two H
  simp only [VR] at V V2; obtain ⟨t, rfl⟩ := V; obtain ⟨t2, rfl⟩ := V2
  intro E Q k
  refine call_range_2 (k _ _ (Grow.of fun b o e => Heap.get?_push_of_some _ e) ?_)
  simp only [VR]; exact ⟨_, _, _, _, rfl, hL.new (Nat.le_refl _), IsRange.new _ _ _ _ _ _ _⟩

theorem call_sortedI {ns ns' : List Int} (hp : ns'.Perm ns) (hs : ns'.Pairwise (· ≤ ·)) (h64 : ns.length < 64) : CallOk C (.builtin "sorted") [.list (ns.map .int)] (.list (ns'.map .int)) := fun P s cvs hL H => by
  obtain ⟨c, rfl, V⟩ := vrs_one H
  simp only [VR] at V; obtain ⟨a, vs, rfl, _, hl, hr⟩ := V
  have hI := vrs_ints.mp hr
  intro E Q k
  refine sorted_ints hl hI (by rw [hI.length]; exact h64) fun out ns'' a1 a2 a3 => ?_
  have e : ns'' = ns' := List.Perm.eq_of_pairwise (fun x y _ _ h1 h2 => Int.le_antisymm h1 h2) a3 hs (a2.trans hp.symm)
  subst e
  obtain ⟨ep, he⟩ := sortedAll_at s.heap vs out
  refine k _ _ (Grow.of (tk := s.toks) fun b o e => sortedAll_old e) ?_
  simp only [VR]; exact ⟨_, out.toList, rfl, hL.new (Nat.le_succ _), ⟨_, he, rfl, _, rfl⟩, vrs_ints.mpr a1⟩
end
end Mine

end
section
open PySem PyProof.Rows
set_option Elab.async false
set_option autoImplicit false
set_option linter.unusedVariables false
namespace Mine

inductive AFlow where
  | next | brk | cont
  | ret (v : AVal)

def FlowR (prog : Program) (w : World) (P : Addr → Prop) (h : Heap) : AFlow → Flow → Prop
  | .next, f => f = .next
  | .brk, f => f = .brk
  | .cont, f => f = .cont
  | .ret v, f => ∃ cv, f = .ret cv ∧ VR prog w P h v cv

/-- an IndexError in the air, none of its parts stood in h₀ -/
def Exc (plain : Prop) (h₀ h : Heap) (e : Value) : Prop :=
  ∃ a oe vs, e = .ref a ∧ h₀.get? a = none ∧ h.get? a = some oe ∧ oe.cls = .type "IndexError" ∧ oe.data = .fields vs ∧ vs.size = 6 ∧ (plain → vs[2]? = some .none) ∧
    (vs[1]? = some .none ∨ ∃ T oT ts, vs[1]? = some (.ref T) ∧ T ≠ a ∧ h₀.get? T = none ∧ h.get? T = some oT ∧ oT.cls = .type "traceback" ∧ oT.data = .fields ts ∧ 3 < ts.size)

/-- how a statement may end by an exception -/
def EX (C : Cfg) (O : Addr → Prop) (s : Shared) (X : Bool → St → Prop) (e : Value) (s' : Shared) : Prop :=
  ∃ σ' g' pl, Rel C σ' g' s' ∧ Step C O s (Ow σ' g') s' ∧ Exc (pl = true) s.heap s'.heap e ∧ X pl σ'
/-- how it may end -/
def NX (C : Cfg) (O : Addr → Prop) (s : Shared) (Q : AFlow → St → Prop) (f : Flow) (s' : Shared) : Prop :=
  ∃ σ' g' f', Rel C σ' g' s' ∧ Step C O s (Ow σ' g') s' ∧ FlowR C.prog C.w (Av C σ' g') s'.heap f' f ∧ Q f' σ'

def XS (C : Cfg) (σ : St) (body : List Stmt) (Q : AFlow → St → Prop) (X : Bool → St → Prop) : Prop :=
  ∀ g s, Rel C σ g s → wpAny (model C.prog C.w) C.A (execs body C.env) (NX C (Ow σ g) s Q) (EX C (Ow σ g) s X) s
def X1 (C : Cfg) (σ : St) (st : Stmt) (Q : AFlow → St → Prop) (X : Bool → St → Prop) : Prop :=
  ∀ g s, Rel C σ g s → wpAny (model C.prog C.w) C.A (exec st C.env) (NX C (Ow σ g) s Q) (EX C (Ow σ g) s X) s

theorem Exc.older {plain : Prop} {h₀ h₁ h : Heap} {e : Value} (x : Exc plain h₁ h e) (k : ∀ b, h₁.get? b = none → h₀.get? b = none) : Exc plain h₀ h e := by
  obtain ⟨a, oe, vs, h1, h2, h3, h4, h5, h6, h6', h7⟩ := x
  refine ⟨a, oe, vs, h1, k _ h2, h3, h4, h5, h6, h6', ?_⟩
  rcases h7 with h7 | ⟨T, oT, ts, q1, q2, q3, q4⟩
  · exact .inl h7
  · exact .inr ⟨T, oT, ts, q1, q2, k _ q3, q4⟩
theorem Step.none {C : Cfg} {O O' : Addr → Prop} {s s' : Shared} (x : Step C O s O' s') {b : Addr} (h : s'.heap.get? b = none) : s.heap.get? b = none := by
  cases e : s.heap.get? b with
  | none => rfl
  | some o => obtain ⟨o', e'⟩ := x.live b o e; rw [h] at e'; cases e'
theorem EX.pre {C : Cfg} {O O' : Addr → Prop} {s s₁ : Shared} {X : Bool → St → Prop} {e : Value} {s' : Shared} (S : Step C O s O' s₁) (x : EX C O' s₁ X e s') : EX C O s X e s' := by
  obtain ⟨σ', g', pl, R, S', H, hX⟩ := x
  exact ⟨σ', g', pl, R, S.trans S', H.older fun b h => S.none h, hX⟩
theorem NX.pre {C : Cfg} {O O' : Addr → Prop} {s s₁ : Shared} {Q : AFlow → St → Prop} {f : Flow} {s' : Shared} (S : Step C O s O' s₁) (x : NX C O' s₁ Q f s') : NX C O s Q f s' := by
  obtain ⟨σ', g', f', R, S', H, hQ⟩ := x
  exact ⟨σ', g', f', R, S.trans S', H, hQ⟩
theorem NX.imp {C : Cfg} {O : Addr → Prop} {s : Shared} {Q Q' : AFlow → St → Prop} {f : Flow} {s' : Shared} (x : NX C O s Q f s') (k : ∀ f σ, Q f σ → Q' f σ) : NX C O s Q' f s' := by
  obtain ⟨σ', g', f', R, S', H, hQ⟩ := x
  exact ⟨σ', g', f', R, S', H, k _ _ hQ⟩
theorem EX.imp {C : Cfg} {O : Addr → Prop} {s : Shared} {X X' : Bool → St → Prop} {e : Value} {s' : Shared} (x : EX C O s X e s') (k : ∀ pl σ, X pl σ → X' pl σ) : EX C O s X' e s' := by
  obtain ⟨σ', g', pl, R, S', H, hX⟩ := x
  exact ⟨σ', g', pl, R, S', H, k _ _ hX⟩

section
variable {C : Cfg} {σ : St} {Q : AFlow → St → Prop} {X : Bool → St → Prop}

theorem XS.imp {body : List Stmt} {Q' : AFlow → St → Prop} {X' : Bool → St → Prop} (h : XS C σ body Q X) (k : ∀ f σ, Q f σ → Q' f σ) (kx : ∀ pl σ, X pl σ → X' pl σ) : XS C σ body Q' X' := fun g s R =>
  wpAny_mono (h g s R) (fun _ _ x => x.imp k) fun _ _ x => x.imp kx

theorem xs_nil (h : Q .next σ) : XS C σ [] Q X := fun g s R => wpAny_execs_nil ⟨σ, g, .next, R, Step.refl _ _ _, rfl, h⟩
/-- what a flow leads to, with statements behind -/
def Then (C : Cfg) (rest : List Stmt) (Q : AFlow → St → Prop) (X : Bool → St → Prop) : AFlow → St → Prop
  | .next, σ => XS C σ rest Q X
  | f, σ => Q f σ
theorem xs_cons {st : Stmt} {rest : List Stmt} (h : X1 C σ st (Then C rest Q X) X) : XS C σ (st :: rest) Q X := fun g s R => by
  refine wpAny_execs_cons (wpAny_mono (h g s R) (fun f s' x => ?_) fun _ _ x => x)
  obtain ⟨σ', g', f', R', S', H, hQ⟩ := x
  cases f' with
  | next =>
    simp only [FlowR] at H; subst H
    exact wpAny_mono (hQ g' s' R') (fun _ _ x => x.pre S') fun _ _ x => x.pre S'
  | brk => simp only [FlowR] at H; subst H; exact ⟨σ', g', .brk, R', S', rfl, hQ⟩
  | cont => simp only [FlowR] at H; subst H; exact ⟨σ', g', .cont, R', S', rfl, hQ⟩
  | ret v =>
    have H' := H
    simp only [FlowR] at H; obtain ⟨cv, rfl, _⟩ := H; exact ⟨σ', g', .ret v, R', S', H', hQ⟩

theorem x1_pass {pos : Pos} (h : Q .next σ) : X1 C σ (.Pass pos) Q X := fun g s R => wpAny_Pass ⟨σ, g, .next, R, Step.refl _ _ _, rfl, h⟩
theorem x1_break {pos : Pos} (h : Q .brk σ) : X1 C σ (.Break pos) Q X := fun g s R => wpAny_Break ⟨σ, g, .brk, R, Step.refl _ _ _, rfl, h⟩
theorem x1_return {e : Expr} {pos : Pos} {v : AVal} (he : EV C σ e v) (h : Q (.ret v) σ) : X1 C σ (.Return (some e) pos) Q X := fun g s R =>
  wpAny_Return_some (he g s _ _ R fun cv s' G V => ⟨σ, g, .ret v, R.grow G, G.step, ⟨cv, rfl, V⟩, h⟩)
theorem x1_if {t : Expr} {b o : List Stmt} {pos : Pos} {c : Bool} (ht : EB C σ t c) (hb : c = true → XS C σ b Q X) (ho : c = false → XS C σ o Q X) : X1 C σ (.If t b o pos) Q X := fun g s R => by
  refine wpAny_If (ht g s _ _ R fun s' G => ?_)
  cases c with
  | true => exact wpAny_mono (hb rfl g s' (R.grow G)) (fun _ _ x => x.pre G.step) fun _ _ x => x.pre G.step
  | false => exact wpAny_mono (ho rfl g s' (R.grow G)) (fun _ _ x => x.pre G.step) fun _ _ x => x.pre G.step
end

/-! stores -/
def putL (x : Str) (v : AVal) : List (Str × AVal) → List (Str × AVal)
  | [] => [(x, v)]
  | (y, u) :: r => if y == x then (x, v) :: r.filter (fun p => !(p.1 == x)) else (y, u) :: putL x v r
theorem mem_putL {x y : Str} {v u : AVal} : ∀ {l : List (Str × AVal)}, (y, u) ∈ putL x v l → (y = x ∧ u = v) ∨ (y ≠ x ∧ (y, u) ∈ l)
  | [], h => by simp only [putL, List.mem_singleton, Prod.mk.injEq] at h; exact .inl h
  | (z, w) :: r, h => by
    simp only [putL] at h
    split at h
    · rename_i hz
      rcases List.mem_cons.mp h with h | h
      · simp only [Prod.mk.injEq] at h; exact .inl h
      · obtain ⟨h1, h2⟩ := List.mem_filter.mp h
        refine .inr ⟨fun q => ?_, .tail _ h1⟩
        simp [q] at h2
    · rename_i hz
      rcases List.mem_cons.mp h with h | h
      · simp only [Prod.mk.injEq] at h; obtain ⟨rfl, rfl⟩ := h
        exact .inr ⟨fun q => hz (by simp [q]), .head _⟩
      · rcases mem_putL h with q | ⟨q1, q2⟩
        · exact .inl q
        · exact .inr ⟨q1, .tail _ q2⟩
def St.set (σ : St) (x : Str) (v : AVal) : St := ⟨putL x v σ.fr, σ.ow.filter fun p => !(p.1 == x)⟩
/-- a name that holds an object of the frame's own -/
def St.own (σ : St) (x : Str) (v : AVal) : St := ⟨σ.fr.filter (fun p => !(p.1 == x)), (x, v) :: σ.ow.filter fun p => !(p.1 == x)⟩

/-- the name can be stored into -/
def Storable (C : Cfg) (x : Str) : Prop := C.env.kindOf x = some .local ∨ (C.env.kindOf x = some .cell ∧ ∃ c, C.env.cells.lookup x = some c ∧ c ∈ C.wc)

section
variable {C : Cfg} {σ : St} {z : Bool}

/-- the heap behind a store: the name's place holds cv, all else stands -/
theorem wp_store (K : CfgOk C) {g : Str → Addr} {m : Str → Option Value} {s : Shared} (R : RelM C σ g m s) {x : Str} {cv : Value} {E : Value → Shared → Prop} {Qu : Unit → Shared → Prop} (hx : Storable C x)
    (h : ∀ s' m', s' = { s with heap := s'.heap, toks := s'.toks } → (∀ b o, s.heap.get? b = some o → b ≠ C.env.locals → b ∉ C.wc → s'.heap.get? b = some o) → (∀ b o, s.heap.get? b = some o → ∃ o', s'.heap.get? b = some o' ∧ ((∃ es ep, o.data = .dict es ep) → ∃ es ep, o'.data = .dict es ep)) →
      s'.heap.Ns C.env.locals m' → (∀ y c, C.env.cells.lookup y = some c → ∃ v, s'.heap.IsCell c v) → VarAt C.env s'.heap m' x cv → (∀ y u, y ≠ x → VarAt C.env s.heap m y u → VarAt C.env s'.heap m' y u) → Qu () s') :
    wpAny (model C.prog C.w) C.A (storeName C.env x cv) Qu E s := by
  obtain ⟨oL, esL, epL, hoL, hdL, hrL⟩ := id R.ns
  rcases hx with hx | ⟨hx, c, hc, hcw⟩
  · refine wpAny_storeName_local hx R.ns (fun h' hn hs => h _ (fun y => if y = x then some cv else m y) rfl (fun b o e hb _ => (hs.2 b hb).trans e) (fun b o e => ?_) hn (fun y c hy => ?_) (.inl ⟨hx, by simp⟩) fun y u hy H => ?_) (by rw [K.kind]; rfl)
    · by_cases hb : b = C.env.locals
      · subst hb
        obtain ⟨o', es, ep, ho', hd', _⟩ := hn
        exact ⟨o', ho', fun _ => ⟨es, ep, hd'⟩⟩
      · exact ⟨o, (hs.2 b hb).trans e, fun q => q⟩
    · obtain ⟨v, hv⟩ := R.cells y c hy
      exact ⟨v, hv.sameBut hs fun q => by obtain ⟨o, ho, hd⟩ := hv; rw [q, hoL] at ho; cases ho; rw [hdL] at hd; cases hd⟩
    · rcases H with ⟨q1, q2⟩ | ⟨q1, c, q2, q3⟩
      · exact .inl ⟨q1, by simp [hy, q2]⟩
      · exact .inr ⟨q1, c, q2, q3.sameBut hs fun q => by obtain ⟨o, ho, hd⟩ := q3; rw [q, hoL] at ho; cases ho; rw [hdL] at hd; cases hd⟩
  · obtain ⟨v₀, hv₀⟩ := R.cells x c hc
    have hcL : c ≠ C.env.locals := fun q => by obtain ⟨o, ho, hd⟩ := hv₀; rw [q, hoL] at ho; cases ho; rw [hdL] at hd; cases hd
    refine wpAny_storeName_cell K.kind hx hc hv₀ fun h' hc' hs => h _ m rfl (fun b o e _ hb => (hs.2 b fun q => hb (q ▸ hcw)).trans e) (fun b o e => ?_) (R.ns.sameBut hs (Ne.symm hcL)) (fun y c' hy => ?_) (.inr ⟨.inl hx, c, hc, hc'⟩) fun y u hy H => ?_
    · by_cases hb : b = c
      · subst hb
        obtain ⟨o', ho', hd'⟩ := hc'
        obtain ⟨o₀, ho₀, hd₀⟩ := hv₀
        rw [e] at ho₀; cases ho₀
        exact ⟨o', ho', fun ⟨es, ep, q⟩ => by rw [hd₀] at q; cases q⟩
      · exact ⟨o, (hs.2 b hb).trans e, fun q => q⟩
    · by_cases hb : c' = c
      · subst hb; exact ⟨_, hc'⟩
      · obtain ⟨v, hv⟩ := R.cells y c' hy; exact ⟨v, hv.sameBut hs hb⟩
    · rcases H with ⟨q1, q2⟩ | ⟨q1, c', q2, q3⟩
      · exact .inl ⟨q1, q2⟩
      · refine .inr ⟨q1, c', q2, q3.sameBut hs fun q => hy ?_⟩
        subst q
        exact K.apart _ _ _ q2 hc
end
end Mine

end
section
open PySem PyProof.Rows
set_option Elab.async false
set_option autoImplicit false
set_option linter.unusedVariables false
namespace Mine

theorem isVal_notDict {o : Obj} (h : isVal o) : ∀ es ep, o.data ≠ .dict es ep := fun es ep q => by
  rcases h with ⟨_, _, p⟩ | ⟨_, _, _, p⟩ | ⟨_, _, p⟩ <;> (rw [q] at p; cases p)
theorem isVal_notCell {o : Obj} (h : isVal o) : ∀ v, o.data ≠ .cell v := fun v q => by
  rcases h with ⟨_, _, p⟩ | ⟨_, _, _, p⟩ | ⟨_, _, p⟩ <;> (rw [q] at p; cases p)

section
variable {C : Cfg} {σ : St} {z : Bool}

theorem RelM.val_notPriv (K : CfgOk C) {g : Str → Addr} {m : Str → Option Value} {s : Shared} (R : RelM C σ g m s) {b : Addr} {o : Obj} (e : s.heap.get? b = some o) (hv : isVal o) : b ≠ C.env.locals ∧ b ∉ C.wc := by
  constructor
  · rintro rfl
    obtain ⟨oL, es, ep, ho, hd, _⟩ := R.ns
    rw [e] at ho; cases ho; exact isVal_notDict hv _ _ hd
  · intro q
    obtain ⟨x, hx⟩ := K.wcell b q
    obtain ⟨v, oc, ho, hd⟩ := R.cells x b hx
    rw [e] at ho; cases ho; exact isVal_notCell hv _ hd

theorem OwnAt.move {prog : Program} {w : World} {P P' : Addr → Prop} {h h' : Heap} {a : Addr} {v : AVal} (H : OwnAt prog w P h a v) (k : ∀ b o, h.get? b = some o → isVal o → h'.get? b = some o) (kp : ∀ b o, h.get? b = some o → isVal o → ¬ P b → ¬ P' b) : OwnAt prog w P' h' a v := by
  cases v with
  | list xs => obtain ⟨vs, ⟨n, ho⟩, hr⟩ := H; exact ⟨vs, ⟨n, k _ _ ho (.inl ⟨_, _, rfl⟩)⟩, VRs.mono (fun b o e hv hp => ⟨kp b o e hv hp, k b o e hv⟩) _ _ hr⟩
  | setI ks =>
    obtain ⟨n, ⟨o, es, ep, t, ho, hx, hd, r⟩, hn⟩ := H
    exact ⟨n, ⟨o, es, ep, t, k _ _ ho (.inr (.inl ⟨_, _, _, hd⟩)), hx, hd, r⟩, hn⟩
  | _ => exact H.elim

/-- behind a store of a value that is not the frame's own -/
theorem wp_set (K : CfgOk C) {g : Str → Addr} {s : Shared} (R : Rel C σ g s) {x : Str} {cv : Value} {v : AVal} {E : Value → Shared → Prop} {Qu : Unit → Shared → Prop} (hx : Storable C x) (hv : VR C.prog C.w (Av C σ g) s.heap v cv)
    (h : ∀ s', Rel C (σ.set x v) g s' → Step C (Ow σ g) s (Ow (σ.set x v) g) s' → Qu () s') : wpAny (model C.prog C.w) C.A (storeName C.env x cv) Qu E s := by
  obtain ⟨m, R⟩ := R
  refine wp_store K R hx fun s' m' he hk hl hn hcl hvx hvo => ?_
  have hval : ∀ b o, s.heap.get? b = some o → isVal o → s'.heap.get? b = some o := fun b o e q => hk b o e (R.val_notPriv K e q).1 (R.val_notPriv K e q).2
  have hOw : ∀ b, Ow (σ.set x v) g b → Ow σ g b := fun b ⟨p, hp, q⟩ => ⟨p, (List.mem_filter.mp hp).1, q⟩
  have hAv : ∀ b, Av C (σ.set x v) g b → Av C σ g b := fun b q => q.elim .inl fun q => .inr (hOw b q)
  refine h s' ⟨m', ?_⟩ ⟨he, fun b o e hp => .inl (hk b o e (fun q => hp (.inl q)) fun q => hp (.inr (.inl q))), fun b q => .inl (hOw b q), fun b o e => let ⟨o', e', _⟩ := hl b o e; ⟨o', e'⟩⟩
  exact {
    base := fun b o e => hk b o (R.base b o e) (fun q => by rw [q, K.lnew] at e; cases e) fun q => by rw [K.wnew b q] at e; cases e
    frames := funFrames_of (fun b o _ e hd => let ⟨o', e', q⟩ := hl b o e; ⟨o', e', q hd⟩) R.dicts R.frames
    dicts := fun b hb => by
      obtain ⟨o, ho, hd⟩ := R.dicts b hb
      obtain ⟨o', e', q⟩ := hl b o ho
      exact ⟨o', e', q hd⟩
    p0 := fun b hb => let ⟨o, ho⟩ := R.p0 b hb; let ⟨o', e', _⟩ := hl b o ho; ⟨o', e'⟩
    ns := hn
    cells := hcl
    fr := fun y u hy => by
      rcases mem_putL hy with ⟨rfl, rfl⟩ | ⟨hne, hy⟩
      · exact ⟨cv, hvx, VR.mono (fun b o e q hp => ⟨fun r => hp (hAv b r), hval b o e q⟩) _ _ hv⟩
      · obtain ⟨cu, h1, h2⟩ := R.fr y u hy
        exact ⟨cu, hvo y cu hne h1, VR.mono (fun b o e q hp => ⟨fun r => hp (hAv b r), hval b o e q⟩) _ _ h2⟩
    ow := fun y u hy => by
      obtain ⟨hy, hne⟩ := List.mem_filter.mp hy
      have hne' : y ≠ x := fun q => by simp [q] at hne
      obtain ⟨h1, h2, h3⟩ := R.ow y u hy
      exact ⟨hvo y _ hne' h1, h2.move hval fun b o _ _ hp r => hp (hAv b r), h3⟩
    inj := fun p hp q hq e => R.inj p (List.mem_filter.mp hp).1 q (List.mem_filter.mp hq).1 e
    hdl := fun hz a ha => (R.hdl hz a ha).at fun o vs e hd _ => hk a o e (fun q => by rw [q] at e; obtain ⟨oL, es, ep, ho, hdL, _⟩ := R.ns; rw [e] at ho; cases ho; rw [hd] at hdL; cases hdL) fun q => by obtain ⟨y, hy⟩ := K.wcell a q; obtain ⟨u, oc, ho, hdc⟩ := R.cells y a hy; rw [e] at ho; cases ho; rw [hd] at hdc; cases hdc }

/-- a fresh object -/
def EVF (C : Cfg) (σ : St) (e : Expr) (v : AVal) : Prop :=
  ∀ g s E (Q : Value → Shared → Prop), Rel C σ g s → (∀ a s', Grow C.fls s s' → s.heap.get? a = none → OwnAt C.prog C.w (fun b => Av C σ g b ∨ b = a) s'.heap a v → Q (.ref a) s') → wpAny (model C.prog C.w) C.A (eval e C.env) Q E s

variable {Q : AFlow → St → Prop} {X : Bool → St → Prop}
theorem x1_set (K : CfgOk C) {x : Str} {e : Expr} {v : AVal} {px pos : Pos} {σ' : St} (he : EV C σ e v) (hx : Storable C x) (hσ : σ.set x v = σ') (h : Q .next σ') (hs : swapsWith e (some (.Name x px)) pos.line C.env = pure false) : X1 C σ (.Assign [.Name x px] e pos) Q X := fun g s R => by
  subst hσ
  exact wpAny_Assign_Name (he g s _ _ R fun cv s₁ G V => wp_set K (R.grow G) hx V fun s' R' S' => ⟨_, g, .next, R', (G.step (C := C) (O := Ow σ g)).trans S', rfl, h⟩) hs

theorem VR.avoidNew {prog : Program} {w : World} {P : Addr → Prop} {h h' : Heap} {v : AVal} {cv : Value} (H : VR prog w P h v cv) (k : ∀ b o, h.get? b = some o → isVal o → h'.get? b = some o) {a : Addr} (ha : h.get? a = none) : VR prog w (fun b => P b ∨ b = a) h' v cv :=
  VR.mono (fun b o e q hp => ⟨fun r => r.elim hp fun r => (by subst r; rw [ha] at e; cases e), k b o e q⟩) _ _ H
theorem OwnAt.avoidNew {prog : Program} {w : World} {P : Addr → Prop} {h h' : Heap} {c : Addr} {v : AVal} (H : OwnAt prog w P h c v) (k : ∀ b o, h.get? b = some o → isVal o → h'.get? b = some o) {a : Addr} (ha : h.get? a = none) : OwnAt prog w (fun b => P b ∨ b = a) h' c v :=
  H.move k fun b o e q hp => fun r => r.elim hp fun r => by subst r; rw [ha] at e; cases e

theorem wp_ownNew' (K : CfgOk C) {g : Str → Addr} {s s₁ : Shared} (R : Rel C σ g s) (G : Grow C.fls s s₁) {x : Str} {a : Addr} {v : AVal} {E : Value → Shared → Prop} {Qu : Unit → Shared → Prop} (hx : Storable C x)
    (ha : s.heap.get? a = none) (hv : OwnAt C.prog C.w (fun b => Av C σ g b ∨ b = a) s₁.heap a v)
    (h : ∀ s', Rel C (σ.own x v) (fun y => if y = x then a else g y) s' → Step C (Ow σ g) s (Ow (σ.own x v) (fun y => if y = x then a else g y)) s' → (∀ b o, s₁.heap.get? b = some o → b ≠ C.env.locals → b ∉ C.wc → s'.heap.get? b = some o) → Qu () s') : wpAny (model C.prog C.w) C.A (storeName C.env x (.ref a)) Qu E s₁ := by
  have naAv : ¬ Av C σ g a := fun q => by obtain ⟨o, ho⟩ := R.av_live q; rw [ha] at ho; cases ho
  have nb : C.base.get? a = none := by
    cases e : C.base.get? a with
    | none => rfl
    | some o => obtain ⟨m, R⟩ := R; have := R.base a o e; rw [ha] at this; cases this
  have hold : ∀ b o, s.heap.get? b = some o → isVal o → s₁.heap.get? b = some o := fun b o e q => (G.keep b o e).val q
  obtain ⟨m, RM⟩ := id R
  have R₁ := R.grow G
  obtain ⟨m₁, RM₁⟩ := id R₁
  -- values bound in the frame were made before the new object
  have key : ∀ u cu, VR C.prog C.w (Av C σ g) s.heap u cu → VR C.prog C.w (fun b => Av C σ g b ∨ b = a) s₁.heap u cu := fun u cu H => H.avoidNew hold ha
  have key2 : ∀ y u, OwnAt C.prog C.w (Av C σ g) s.heap (g y) u → OwnAt C.prog C.w (fun b => Av C σ g b ∨ b = a) s₁.heap (g y) u := fun y u H => H.avoidNew hold ha
  obtain ⟨m, R0⟩ := R
  -- rebuild the relation at s₁ with the values read at s
  have RM' : RelM C σ g m s₁ := R0.grow G
  refine wp_store K RM' hx fun s' m' he hk hl hn hcl hvx hvo => ?_
  have hval : ∀ b o, s₁.heap.get? b = some o → isVal o → s'.heap.get? b = some o := fun b o e q => hk b o e (RM'.val_notPriv K e q).1 (RM'.val_notPriv K e q).2
  have hOw : ∀ b, Ow (σ.own x v) (fun y => if y = x then a else g y) b → Ow σ g b ∨ b = a := fun b ⟨p, hp, q⟩ => by
    rcases List.mem_cons.mp hp with rfl | hp
    · simp only [if_true] at q; exact .inr q.symm
    · obtain ⟨h1, h2⟩ := List.mem_filter.mp hp
      have hne : p.1 ≠ x := fun r => by simp [r] at h2
      simp only [if_neg hne] at q
      exact .inl ⟨p, h1, q⟩
  have hAv : ∀ b, Av C (σ.own x v) (fun y => if y = x then a else g y) b → Av C σ g b ∨ b = a := fun b q => q.elim (fun q => .inl (.inl q)) fun q => (hOw b q).elim (fun q => .inl (.inr q)) .inr
  have notA : ∀ b o, s₁.heap.get? b = some o → isVal o → ¬ (Av C σ g b ∨ b = a) → ¬ Av C (σ.own x v) (fun y => if y = x then a else g y) b ∧ s'.heap.get? b = some o := fun b o e q hp => ⟨fun r => hp (hAv b r), hval b o e q⟩
  refine h s' ⟨m', ?_⟩ ⟨by rw [he, G.eq], fun b o e hp => ?_, fun b q => (hOw b q).imp id fun q => by rw [q]; exact ha, fun b o e => ?_⟩ hk
  · exact {
      base := fun b o e => hk b o (RM'.base b o e) (fun q => by rw [q, K.lnew] at e; cases e) fun q => by rw [K.wnew b q] at e; cases e
      frames := funFrames_of (fun b o _ e hd => let ⟨o', e', q⟩ := hl b o e; ⟨o', e', q hd⟩) RM'.dicts RM'.frames
      dicts := fun b hb => by
        obtain ⟨o, ho, hd⟩ := RM'.dicts b hb
        obtain ⟨o', e', q⟩ := hl b o ho
        exact ⟨o', e', q hd⟩
      p0 := fun b hb => let ⟨o, ho⟩ := RM'.p0 b hb; let ⟨o', e', _⟩ := hl b o ho; ⟨o', e'⟩
      ns := hn
      cells := hcl
      fr := fun y u hy => by
        obtain ⟨hy, hne⟩ := List.mem_filter.mp hy
        have hne' : y ≠ x := fun q => by simp [q] at hne
        obtain ⟨cu, h1, h2⟩ := R0.fr y u hy
        have h1' : VarAt C.env s₁.heap m y cu := varAt_of h1 fun c u _ hc => isCell_kept hc fun o e => G.keep _ o e
        exact ⟨cu, hvo y cu hne' h1', VR.mono notA _ _ (key u cu h2)⟩
      ow := fun y u hy => by
        rcases List.mem_cons.mp hy with q | hy
        · simp only [Prod.mk.injEq] at q; obtain ⟨rfl, rfl⟩ := q
          simp only [if_true]
          exact ⟨hvx, hv.move hval fun b o e q hp => (notA b o e q hp).1, fun q => naAv (.inl q), nb⟩
        · obtain ⟨hy, hne⟩ := List.mem_filter.mp hy
          have hne' : y ≠ x := fun q => by simp [q] at hne
          obtain ⟨h1, h2, h3⟩ := R0.ow y u hy
          have h1' : VarAt C.env s₁.heap m y (.ref (g y)) := varAt_of h1 fun c u _ hc => isCell_kept hc fun o e => G.keep _ o e
          simp only [if_neg hne']
          exact ⟨hvo y _ hne' h1', (key2 y u h2).move hval fun b o e q hp => (notA b o e q hp).1, h3⟩
      inj := fun p hp q hq e => by
        rcases List.mem_cons.mp hp with rfl | hp <;> rcases List.mem_cons.mp hq with rfl | hq
        · rfl
        · obtain ⟨h1, h2⟩ := List.mem_filter.mp hq
          have hne : q.1 ≠ x := fun r => by simp [r] at h2
          simp only [if_true, if_neg hne] at e
          exact absurd ⟨q, h1, e.symm⟩ fun r => naAv (.inr r)
        · obtain ⟨h1, h2⟩ := List.mem_filter.mp hp
          have hne : p.1 ≠ x := fun r => by simp [r] at h2
          simp only [if_true, if_neg hne] at e
          exact absurd ⟨p, h1, e⟩ fun r => naAv (.inr r)
        · obtain ⟨h1, h2⟩ := List.mem_filter.mp hp
          obtain ⟨h3, h4⟩ := List.mem_filter.mp hq
          have hne : p.1 ≠ x := fun r => by simp [r] at h2
          have hne' : q.1 ≠ x := fun r => by simp [r] at h4
          simp only [if_neg hne, if_neg hne'] at e
          exact R0.inj p h1 q h3 e
      hdl := fun hz a ha => (RM'.hdl hz a ha).at fun o vs e hd _ => hk a o e (fun q => by rw [q] at e; obtain ⟨oL, es, ep, ho, hdL, _⟩ := RM'.ns; rw [e] at ho; cases ho; rw [hd] at hdL; cases hdL) fun q => by obtain ⟨y, hy⟩ := K.wcell a q; obtain ⟨u, oc, ho, hdc⟩ := RM'.cells y a hy; rw [e] at ho; cases ho; rw [hd] at hdc; cases hdc }
  · refine (G.keep b o e).trans fun o' e' => .inl (hk b o' e' (fun q => hp (.inl q)) fun q => hp (.inr (.inl q)))
  · obtain ⟨o₁, e₁, _⟩ := (G.keep b o e).data
    obtain ⟨o', e', _⟩ := hl b o₁ e₁
    exact ⟨o', e'⟩

theorem wp_ownNew (K : CfgOk C) {g : Str → Addr} {s s₁ : Shared} (R : Rel C σ g s) (G : Grow C.fls s s₁) {x : Str} {a : Addr} {v : AVal} {E : Value → Shared → Prop} {Qu : Unit → Shared → Prop} (hx : Storable C x)
    (ha : s.heap.get? a = none) (hv : OwnAt C.prog C.w (fun b => Av C σ g b ∨ b = a) s₁.heap a v)
    (h : ∀ s', Rel C (σ.own x v) (fun y => if y = x then a else g y) s' → Step C (Ow σ g) s (Ow (σ.own x v) (fun y => if y = x then a else g y)) s' → Qu () s') : wpAny (model C.prog C.w) C.A (storeName C.env x (.ref a)) Qu E s₁ :=
  wp_ownNew' K R G hx ha hv fun s' R' S' _ => h s' R' S'

theorem x1_own (K : CfgOk C) {x : Str} {e : Expr} {v : AVal} {px pos : Pos} {σ' : St} (he : EVF C σ e v) (hx : Storable C x) (hσ : σ.own x v = σ') (h : Q .next σ') (hs : swapsWith e (some (.Name x px)) pos.line C.env = pure false) : X1 C σ (.Assign [.Name x px] e pos) Q X := fun g s R => by
  subst hσ
  exact wpAny_Assign_Name (he g s _ _ R fun a s₁ G ha hv => wp_ownNew K R G hx ha hv fun s' R' S' => ⟨_, _, .next, R', S', rfl, h⟩) hs
end
end Mine

end
section
open PySem PyProof.Rows
set_option Elab.async false
set_option autoImplicit false
set_option linter.unusedVariables false
namespace Mine

theorem extend_any (l b : Addr) (items items2 : Array Value) (n n2 : Nat) (dd : Option Addr) (sl : Array (Option Value)) (hz : items.size + items2.size ≤ sizeLine) :
    Meets (Builtin.«list.extend» ⟨[.ref l, .ref b], []⟩) (fun _ R s => s.heap.get? l = some { cls := .type "list", dict := none, data := .seq items n, slots := #[] } ∧
      s.heap.get? b = some { cls := .type "list", dict := dd, data := .seq items2 n2, slots := sl } ∧ R (.ok (.ret Value.none)) { s with heap := s.heap.update l (Obj.mapSeq fun x => x ++ items2), toks := s.toks }) :=
  .of_wp fun prog w A R s h => by
    obtain ⟨hp, g, d, tk, os⟩ := s
    obtain ⟨hl, hb, h⟩ := h
    have h1 : ¬(!items.isEmpty && Builtin.List.listTooLong (items.size + items2.size)) = true := by
      simp only [Builtin.List.listTooLong, Bool.and_eq_true, decide_eq_true_eq]
      have : sizeLine = 2 ^ 24 := rfl
      lia
    have h2 : items.size ≤ sizeLine := by lia
    have h3 : (items ++ items2).size ≤ sizeLine + 1 := by rw [Array.size_append]; lia
    have f1 := PySem.AutoSeq1.idx_int
    have f2 := PySem.AutoSeq1.sub_tuple_tuple
    have f3 := PySem.AutoSeq1.sub_list_list
    have f4 := PySem.AutoSeq1.sub_tuple_list
    have f5 := PySem.AutoSeq1.sub_list_tuple
    wp_walk using (wpAny_updateSeq hl rfl (hz := h2) (_hz' := h3)), PySem.AutoSeq1.wpAny_loadPart' hl, PySem.AutoSeq1.wpAny_loadPart' hb
    exact ⟨_, rfl, h⟩

theorem plain_update {h : Heap} {l : Addr} {items items2 : Array Value} (H : h.PlainList l items) : (h.update l (Obj.mapSeq fun x => x ++ items2)).PlainList l (items ++ items2) := by
  obtain ⟨n, ho⟩ := H
  exact ⟨_, Heap.get?_update_self _ ho rfl⟩

def St.upd (σ : St) (x : Str) (v : AVal) : St := ⟨σ.fr, σ.ow.map fun p => if p.1 == x then (x, v) else p⟩
theorem mem_upd {σ : St} {x y : Str} {v u : AVal} (h : (y, u) ∈ (σ.upd x v).ow) : (y = x ∧ u = v) ∨ (y ≠ x ∧ (y, u) ∈ σ.ow) := by
  obtain ⟨p, hp, e⟩ := List.mem_map.mp h
  by_cases hx : p.1 = x
  · simp only [hx, beq_self_eq_true, if_true, Prod.mk.injEq] at e; exact .inl ⟨e.1.symm, e.2.symm⟩
  · have : (p.1 == x) = false := by simpa using hx
    simp only [this, Bool.false_eq_true, if_false] at e; subst e
    exact .inr ⟨hx, hp⟩

section
variable {C : Cfg} {σ : St} {z : Bool} {Q : AFlow → St → Prop} {X : Bool → St → Prop}

theorem Ow_upd {g : Str → Addr} {x : Str} {v : AVal} {b : Addr} (h : Ow (σ.upd x v) g b) (hx : ∃ u, (x, u) ∈ σ.ow) : Ow σ g b := by
  obtain ⟨⟨y, u⟩, hp, e⟩ := h
  rcases mem_upd hp with ⟨rfl, _⟩ | ⟨_, hp⟩
  · obtain ⟨w, hw⟩ := hx; exact ⟨(y, w), hw, e⟩
  · exact ⟨(y, u), hp, e⟩

theorem OwnAt.isVal {prog : Program} {w : World} {P : Addr → Prop} {h : Heap} {a : Addr} {v : AVal} (H : OwnAt prog w P h a v) : ∃ o, h.get? a = some o ∧ isVal o := by
  cases v with
  | list xs => obtain ⟨vs, ⟨n, ho⟩, _⟩ := H; exact ⟨_, ho, .inl ⟨_, _, rfl⟩⟩
  | setI ks => obtain ⟨n, ⟨o, es, ep, t, ho, _, hd, _⟩, _⟩ := H; exact ⟨_, ho, .inr (.inl ⟨_, _, _, hd⟩)⟩
  | _ => exact H.elim

/-- an owned object has changed -/
theorem RelM.mut (K : CfgOk C) {g : Str → Addr} {m : Str → Option Value} {s : Shared} {h' : Heap} {tk : Nat} {x : Str} {v v' : AVal} (R : RelM C σ g m s) (hx : (x, v) ∈ σ.ow) (hs : Heap.SameBut (g x) s.heap h')
    (hv : OwnAt C.prog C.w (Av C σ g) h' (g x) v') : RelM C (σ.upd x v') g m { s with heap := h', toks := tk } ∧ Step C (Ow σ g) s (Ow (σ.upd x v') g) { s with heap := h', toks := tk } := by
  obtain ⟨hvx, hox, hP, hB⟩ := R.ow x v hx
  obtain ⟨ox, hox', hvalx⟩ := hox.isVal
  have hpriv := R.val_notPriv K hox' hvalx
  have hOw : ∀ b, Ow (σ.upd x v') g b → Ow σ g b := fun b q => Ow_upd q ⟨v, hx⟩
  have hAv : ∀ b, Av C (σ.upd x v') g b → Av C σ g b := fun b q => q.elim .inl fun q => .inr (hOw b q)
  have hax : Av C σ g (g x) := .inr ⟨(x, v), hx, rfl⟩
  have mv : ∀ b o, s.heap.get? b = some o → b ≠ g x → h'.get? b = some o := fun b o e q => (hs.2 b q).trans e
  have mv2 : ∀ b o, s.heap.get? b = some o → isVal o → ¬ Av C σ g b → ¬ Av C (σ.upd x v') g b ∧ h'.get? b = some o := fun b o e _ hp => ⟨fun r => hp (hAv b r), mv b o e fun q => hp (q ▸ hax)⟩
  have hcell : ∀ c u, s.heap.IsCell c u → c ≠ g x := fun c u ⟨o, ho, hd⟩ q => by rw [q, hox'] at ho; cases ho; exact isVal_notCell hvalx _ hd
  have hdict : ∀ b o, s.heap.get? b = some o → (∃ es ep, o.data = .dict es ep) → b ≠ g x := fun b o e ⟨es, ep, hd⟩ q => by rw [q, hox'] at e; cases e; exact isVal_notDict hvalx _ _ hd
  obtain ⟨ov', hov', _⟩ := hv.isVal
  refine ⟨?_, rfl, fun b o e hp => .inl (mv b o e fun q => hp (.inr (.inr (q ▸ ⟨(x, v), hx, rfl⟩)))), fun b q => .inl (hOw b q), fun b o e => ?_⟩
  · exact {
      base := fun b o e => mv b o (R.base b o e) fun q => by rw [q, hB] at e; cases e
      frames := funFrames_of (fun b o _ e hd => ⟨o, mv b o e (hdict b o e hd), hd⟩) R.dicts R.frames
      dicts := fun b hb => by
        obtain ⟨o, ho, hd⟩ := R.dicts b hb
        exact ⟨o, mv b o ho (hdict b o ho hd), hd⟩
      p0 := fun b hb => by
        obtain ⟨o, ho⟩ := R.p0 b hb
        exact ⟨o, mv b o ho fun q => hP (q ▸ hb)⟩
      ns := R.ns.sameBut hs (Ne.symm hpriv.1)
      cells := fun y c hy => by
        obtain ⟨u, hu⟩ := R.cells y c hy
        exact ⟨u, hu.sameBut hs (hcell c u hu)⟩
      fr := fun y u hy => by
        obtain ⟨cu, h1, h2⟩ := R.fr y u hy
        exact ⟨cu, varAt_of h1 fun c u _ hc => hc.sameBut hs (hcell c u hc), VR.mono mv2 _ _ h2⟩
      ow := fun y u hy => by
        rcases mem_upd hy with ⟨rfl, rfl⟩ | ⟨hne, hy⟩
        · exact ⟨varAt_of hvx fun c u _ hc => hc.sameBut hs (hcell c u hc), hv.move (fun b o e _ => e) (fun b o e q hp => fun r => hp (hAv b r)), hP, hB⟩
        · obtain ⟨h1, h2, h3⟩ := R.ow y u hy
          refine ⟨varAt_of h1 fun c u _ hc => hc.sameBut hs (hcell c u hc), ?_, h3⟩
          have hgy : g y ≠ g x := fun q => hne (R.inj (y, u) hy (x, v) hx q)
          cases u with
          | list xs =>
            obtain ⟨vs, ⟨n, ho⟩, hr⟩ := h2
            exact ⟨vs, ⟨n, mv _ _ ho hgy⟩, VRs.mono mv2 _ _ hr⟩
          | setI ks =>
            obtain ⟨n, ⟨o, es, ep, t, ho, r⟩, hn⟩ := h2
            exact ⟨n, ⟨o, es, ep, t, mv _ _ ho hgy, r⟩, hn⟩
          | _ => exact h2.elim
      inj := fun p hp q hq e => by
        have key : ∀ r ∈ (σ.upd x v').ow, ∃ u, (r.1, u) ∈ σ.ow := fun r hr => by
          obtain ⟨y, u⟩ := r
          rcases mem_upd hr with ⟨rfl, _⟩ | ⟨_, hr⟩
          · exact ⟨v, hx⟩
          · exact ⟨u, hr⟩
        obtain ⟨u1, h1⟩ := key p hp
        obtain ⟨u2, h2⟩ := key q hq
        exact R.inj (p.1, u1) h1 (q.1, u2) h2 e
      hdl := fun hz a ha => (R.hdl hz a ha).at fun o vs e hd hc => mv a o e fun q => by rw [q, hox'] at e; cases e; rcases hvalx with ⟨_, _, r⟩ | ⟨_, _, _, r⟩ | ⟨_, r, _⟩ <;> first | (rw [hd] at r; cases r; done) | (rw [hc] at r; simp at r) }
  · by_cases q : b = g x
    · subst q; exact ⟨ov', hov'⟩
    · exact ⟨o, mv b o e q⟩

theorem notInteractive (K : CfgOk C) : interactive C.env = false := by
  unfold interactive; rw [K.kind]; rfl

/-- x.append(e) -/
theorem x1_append (K : CfgOk C) {x : Str} {e : Expr} {v : AVal} {xs : List AVal} {px ap pos p2 : Pos} {σ' : St} (hx : (x, .list xs) ∈ σ.ow) (hd : (x == ("__debug__" : Str)) = false) (he : EV C σ e v) (hn : notStar e)
    (hσ : σ.upd x (.list (xs ++ [v])) = σ') (h : Q .next σ') (hline : (ap.endLine == pos.line) = true) (hsz : xs.length ≤ sizeLine)
    (hs : swapsWith (.Call (.Attribute (.Name x px) "append" ap) [e] [] pos) none p2.line C.env = pure false) : X1 C σ (.Expr (.Call (.Attribute (.Name x px) "append" ap) [e] [] pos) p2) Q X := fun g s R => by
  subst hσ
  refine wpAny_Expr_any (wpAny_Call_append rfl (by rw [show backTo pos (starEach [e] C.env) = [(false, eval e C.env)] by rw [hn]; rfl]; rfl) hline (by rw [hn]; rfl) ?_) (notInteractive K) hs
  obtain ⟨m, RM⟩ := id R
  obtain ⟨hvx, hox, _⟩ := RM.ow x _ hx
  refine wpAny_Name (ev_loadName K RM hvx ?_) hd
  obtain ⟨vs, ⟨n, ho⟩, hr⟩ := hox
  refine ⟨g x, vs.toArray, rfl, ⟨_, n, ho, rfl, rfl, rfl⟩, ?_⟩
  refine he g s _ _ R fun cv s₁ G V => ?_
  have RM₁ := RM.grow G
  obtain ⟨_, hox₁, _⟩ := RM₁.ow x _ hx
  obtain ⟨vs₁, hpl, hr₁⟩ := hox₁
  refine wpAny_list_append_plain (hsz := by simpa [hr₁.length] using hsz) hpl fun h' hpl' hsb => ?_
  have hv' : OwnAt C.prog C.w (Av C σ g) h' (g x) (.list (xs ++ [v])) := by
    refine ⟨vs₁ ++ [cv], by simpa using hpl', ?_⟩
    refine VRs.append ?_ ?_
    · exact VRs.mono (fun b o e _ hp => ⟨hp, (hsb.2 b fun q => hp (q ▸ .inr ⟨(x, _), hx, rfl⟩)).trans e⟩) _ _ hr₁
    · simp only [VRs]
      exact ⟨cv, [], rfl, VR.mono (fun b o e _ hp => ⟨hp, (hsb.2 b fun q => hp (q ▸ .inr ⟨(x, _), hx, rfl⟩)).trans e⟩) _ _ V, rfl⟩
  obtain ⟨R2, S2⟩ := RM₁.mut K (tk := s₁.toks) hx hsb hv'
  exact ⟨_, g, .next, ⟨m, R2⟩, (G.step (C := C)).trans S2, rfl, h⟩

theorem same_kind_extend {prog : Program} {w : World} {A : Around} {E Qv : Value → Shared → Prop} {s : Shared} {l b : Addr} {items items2 : Array Value} (hl : s.heap.PlainList l items) (hb : s.heap.IsList b items2) (hz : items.size + items2.size ≤ sizeLine)
    (h : ∀ h', h'.PlainList l (items ++ items2) → Heap.SameBut l s.heap h' → Qv .none { s with heap := h' }) : wpAny (model prog w) A (call (.builtin "list.extend") [.ref l, .ref b]) Qv E s := by
  obtain ⟨n, ho⟩ := id hl
  obtain ⟨⟨c, dd, dt, sl⟩, ho2, hc, n2, hd⟩ := hb
  simp only at hc hd; subst hc hd
  exact call_meets PySem.F.slot_list_extend ⟨_, ho, rfl⟩ PySem.F.entry_list_extend (PySem.F.args_list_extend_2 _ _) (extend_any l b items items2 n n2 dd sl hz) ⟨ho, ho2, h _ (plain_update hl) (Heap.SameBut.update ..)⟩

/-- x.extend(e) -/
theorem x1_extend (K : CfgOk C) {x : Str} {e : Expr} {xs ys : List AVal} {px ap pos p2 : Pos} {σ' : St} (hx : (x, .list xs) ∈ σ.ow) (hd : (x == ("__debug__" : Str)) = false) (he : EV C σ e (.list ys)) (hn : notStar e)
    (hσ : σ.upd x (.list (xs ++ ys)) = σ') (h : Q .next σ') (hline : (ap.endLine == pos.line) = true) (hsz : xs.length + ys.length ≤ sizeLine)
    (hs : swapsWith (.Call (.Attribute (.Name x px) "extend" ap) [e] [] pos) none p2.line C.env = pure false) : X1 C σ (.Expr (.Call (.Attribute (.Name x px) "extend" ap) [e] [] pos) p2) Q X := fun g s R => by
  subst hσ
  refine wpAny_Expr_any (wpAny_Call_method1_late rfl hline (by rw [hn]; rfl) ?_) (notInteractive K) hs
  obtain ⟨m, RM⟩ := id R
  obtain ⟨hvx, hox, _⟩ := RM.ow x _ hx
  refine wpAny_Name (ev_loadName K RM hvx ?_) hd
  obtain ⟨vs, ⟨n, ho⟩, hr⟩ := hox
  refine ⟨"list", "list.extend", PySem.F.plainAttrs_list, PySem.F.slot_list_extend, PySem.F.type_list_extend, ⟨_, ho, rfl⟩, fun a q => by cases q; exact ⟨_, ho, rfl⟩, ?_⟩
  refine Calls.callWith_builtin rfl (Calls.evalArgs_plain (Calls.spliced_cons (he g s _ _ R fun cv s₁ G V => Calls.spliced_nil ?_)))
  have RM₁ := RM.grow G
  obtain ⟨_, hox₁, _⟩ := RM₁.ow x _ hx
  obtain ⟨vs₁, hpl, hr₁⟩ := hox₁
  simp only [VR] at V
  obtain ⟨b, us, rfl, hb, hlb, hrb⟩ := V
  show wpAny _ _ (call (.builtin "list.extend") [.ref (g x), .ref b]) _ _ _
  refine same_kind_extend hpl hlb (by simpa [hr₁.length, hrb.length] using hsz) fun h' hpl' hsb => ?_
  have hv' : OwnAt C.prog C.w (Av C σ g) h' (g x) (.list (xs ++ ys)) := by
    refine ⟨vs₁ ++ us, by simpa using hpl', ?_⟩
    refine VRs.append ?_ ?_
    · exact VRs.mono (fun b o e _ hp => ⟨hp, (hsb.2 b fun q => hp (q ▸ .inr ⟨(x, _), hx, rfl⟩)).trans e⟩) _ _ hr₁
    · exact VRs.mono (fun b o e _ hp => ⟨hp, (hsb.2 b fun q => hp (q ▸ .inr ⟨(x, _), hx, rfl⟩)).trans e⟩) _ _ hrb
  obtain ⟨R2, S2⟩ := RM₁.mut K (tk := s₁.toks) hx hsb hv'
  exact ⟨_, g, .next, ⟨m, R2⟩, (G.step (C := C)).trans S2, rfl, h⟩
end
end Mine

end
section
open PySem PyProof.Rows
set_option Elab.async false
set_option autoImplicit false
set_option linter.unusedVariables false
namespace Mine

def InOk (C : Cfg) (op : Operator) (a b v : AVal) : Prop :=
  ∀ P s va vb, Lives P s.heap → VR C.prog C.w P s.heap a va → VR C.prog C.w P s.heap b vb → OP C (inplaceOp op va vb) P v s

section
variable {C : Cfg} {σ : St} {z : Bool} {Q : AFlow → St → Prop} {X : Bool → St → Prop}
theorem in_add {a b : Int} : InOk C .Add (.int a) (.int b) (.int (a + b)) := by
  intro P s va vb _ h1 h2; simp only [VR] at h1 h2; obtain ⟨t, rfl⟩ := h1; obtain ⟨u, rfl⟩ := h2
  intro E Q k; exact iadd_int (k _ _ Grow.toks (by simp only [VR]; exact ⟨_, rfl⟩))
theorem in_sub {a b : Int} : InOk C .Sub (.int a) (.int b) (.int (a - b)) := by
  intro P s va vb _ h1 h2; simp only [VR] at h1 h2; obtain ⟨t, rfl⟩ := h1; obtain ⟨u, rfl⟩ := h2
  intro E Q k; exact isub_int (k _ _ Grow.toks (by simp only [VR]; exact ⟨_, rfl⟩))

theorem x1_aug (K : CfgOk C) {x : Str} {op : Operator} {e : Expr} {u v v' : AVal} {px pos : Pos} {σ' : St} (hx : (x, u) ∈ σ.fr) (he : EV C σ e v) (ho : InOk C op u v v') (hst : Storable C x) (hσ : σ.set x v' = σ') (h : Q .next σ') :
    X1 C σ (.AugAssign (.Name x px) op e pos) Q X := fun g s R => by
  subst hσ
  refine wpAny_AugAssign_Name ?_
  obtain ⟨m, RM⟩ := id R
  obtain ⟨cu, h1, h2⟩ := RM.fr x u hx
  refine ev_loadName K RM h1 ?_
  refine he g s _ _ R fun cv s₁ G V => ?_
  refine ho (Av C σ g) s₁ cu cv (fun b hb => (R.grow G).av_live hb) (h2.grow G) V _ _ fun cr s₂ G2 V2 => ?_
  exact wp_set K ((R.grow G).grow G2) hst V2 fun s' R' S' => ⟨_, g, .next, R', ((G.trans G2).step (C := C)).trans S', rfl, h⟩

/-- the frame lets its hold on an object go -/
def St.freeze (σ : St) (x : Str) (v : AVal) : St := ⟨σ.fr ++ [(x, v)], σ.ow.filter fun p => !(p.1 == x)⟩
theorem Step.mono {O₁ O O' : Addr → Prop} {s s' : Shared} (S : Step C O₁ s O' s') (k : ∀ b, O₁ b → O b) : Step C O s O' s' :=
  ⟨S.eq, fun b o e hp => S.keep b o e fun q => hp (q.imp id (Or.imp id (k b))), fun b q => (S.own b q).imp (k b) id, S.live⟩
theorem Rel.freeze {g : Str → Addr} {s : Shared} {x : Str} {v : AVal} (R : Rel C σ g s) (hx : (x, v) ∈ σ.ow) : Rel C (σ.freeze x v) g s := by
  obtain ⟨m, R⟩ := R
  have hAv : ∀ b, Av C (σ.freeze x v) g b → Av C σ g b := fun b q => q.elim .inl fun ⟨p, hp, e⟩ => .inr ⟨p, (List.mem_filter.mp hp).1, e⟩
  have mv : ∀ b o, s.heap.get? b = some o → isVal o → ¬ Av C σ g b → ¬ Av C (σ.freeze x v) g b ∧ s.heap.get? b = some o := fun b o e _ hp => ⟨fun r => hp (hAv b r), e⟩
  have nx : ¬ Av C (σ.freeze x v) g (g x) := fun q => by
    rcases q with q | ⟨p, hp, e⟩
    · exact (R.ow x v hx).2.2.1 q
    · obtain ⟨h1, h2⟩ := List.mem_filter.mp hp
      have := R.inj p h1 (x, v) hx e
      simp only at this
      simp [this] at h2
  exact ⟨m, {
    base := R.base, frames := R.frames, dicts := R.dicts, p0 := R.p0, ns := R.ns, cells := R.cells
    fr := fun y u hy => by
      rcases List.mem_append.mp hy with hy | hy
      · obtain ⟨cu, h1, h2⟩ := R.fr y u hy
        exact ⟨cu, h1, VR.mono mv _ _ h2⟩
      · simp only [List.mem_singleton, Prod.mk.injEq] at hy; obtain ⟨rfl, rfl⟩ := hy
        obtain ⟨h1, h2, _⟩ := R.ow y u hx
        refine ⟨_, h1, ?_⟩
        cases u with
        | list xs => obtain ⟨vs, hp, hr⟩ := h2; simp only [VR]; exact ⟨_, vs, rfl, nx, hp.isList, VRs.mono mv _ _ hr⟩
        | setI ks => obtain ⟨n, hn, _⟩ := h2; simp only [VR]; exact ⟨_, n, rfl, nx, hn⟩
        | _ => exact h2.elim
    ow := fun y u hy => by
      obtain ⟨h1, h2, h3⟩ := R.ow y u (List.mem_filter.mp hy).1
      exact ⟨h1, h2.move (fun b o e _ => e) fun b o e q hp => (mv b o e q hp).1, h3⟩
    inj := fun p hp q hq e => R.inj p (List.mem_filter.mp hp).1 q (List.mem_filter.mp hq).1 e
    hdl := R.hdl }⟩
theorem xs_freeze {x : Str} {v : AVal} {body : List Stmt} {σ' : St} (hx : (x, v) ∈ σ.ow) (hσ : σ.freeze x v = σ') (h : XS C σ' body Q X) : XS C σ body Q X := fun g s R => by
  subst hσ
  have hO : ∀ b, Ow (σ.freeze x v) g b → Ow σ g b := fun b ⟨p, hp, e⟩ => ⟨p, (List.mem_filter.mp hp).1, e⟩
  refine wpAny_mono (h g s (R.freeze hx)) (fun f s' q => ?_) fun e s' q => ?_
  · obtain ⟨σ', g', f', R', S', r⟩ := q; exact ⟨σ', g', f', R', S'.mono hO, r⟩
  · obtain ⟨σ', g', pl, R', S', r⟩ := q; exact ⟨σ', g', pl, R', S'.mono hO, r⟩

/-- a list display that the frame keeps -/
theorem evf_list {es : List Expr} {vs : List AVal} {pos : Pos} (h : EVs true C σ es vs) (hsz : vs.length ≤ sizeLine) : EVF C σ (.List es pos) (.list vs) := fun g s E Q R k =>
  List_ (h pos g s _ _ R fun cvs s₁ G1 V1 => wpAny_newObj_type (by
    have G2 : Grow C.fls s₁ { s₁ with heap := s₁.heap.push { cls := .type "list", data := .seq cvs.toArray } } := Grow.of (tk := s₁.toks) fun b o e => Heap.get?_push_of_some _ e
    have hnew : s.heap.get? s₁.heap.objs.size = none := by
      cases e : s.heap.get? s₁.heap.objs.size with
      | none => rfl
      | some o =>
        obtain ⟨o', e', _⟩ := (G1.keep _ o e).data
        exact absurd (Heap.lt_size e') (Nat.lt_irrefl _)
    refine k _ _ (G1.trans G2) hnew ⟨cvs, ⟨_, Heap.get?_push_size _ rfl⟩, ?_⟩
    refine VRs.mono (fun b o e _ hp => ⟨fun q => ?_, Heap.get?_push_of_some _ e⟩) _ _ V1
    rcases q with q | q
    · exact hp q
    · subst q; exact absurd (Heap.lt_size e) (Nat.lt_irrefl _))
    (by show cvs.toArray.size ≤ sizeLine; rw [List.size_toArray, V1.length]; exact hsz))
end
end Mine

end
section
open PySem PyProof.Rows
set_option Elab.async false
set_option autoImplicit false
set_option linter.unusedVariables false
namespace Mine

/-- all stands but records that are new since h₀ -/
def Tch (fls : List Env) (h₀ h h' : Heap) : Prop :=
  ∀ b o, h.get? b = some o → (h₀.get? b = none ∧ (∃ vs, o.data = .fields vs) ∧ ¬ isVal o) ∨ Kept fls h' b o
theorem Tch.refl (fls : List Env) (h₀ h : Heap) : Tch fls h₀ h h := fun b o e => .inr (.inl e)
theorem Kept.isVal {fls : List Env} {h' : Heap} {b : Addr} {o : Obj} (x : Kept fls h' b o) {o' : Obj} (e : h'.get? b = some o') : isVal o' ↔ isVal o := by
  obtain ⟨o₁, e₁, h1, h2, _⟩ := x.data
  rw [e₁] at e; cases e
  unfold Mine.isVal; rw [h1, h2]
theorem Tch.trans {fls : List Env} {h₀ h h' h'' : Heap} (x : Tch fls h₀ h h') (y : Tch fls h₀ h' h'') : Tch fls h₀ h h'' := fun b o e => by
  rcases x b o e with k | k
  · exact .inl k
  · obtain ⟨o', e', c1, d1, _⟩ := k.data
    rcases y b o' e' with ⟨h1, ⟨vs, h2⟩, h3⟩ | k'
    · exact .inl ⟨h1, ⟨vs, by rw [← d1]; exact h2⟩, fun q => h3 ((k.isVal e').mpr q)⟩
    · exact .inr (k.trans fun o₂ e₂ => by rw [e'] at e₂; cases e₂; exact k')

section
variable {C : Cfg} {σ : St}
theorem Tch.of_notFields {fls : List Env} {h₀ h h' : Heap} (x : Tch fls h₀ h h') {b : Addr} {o : Obj} (e : h.get? b = some o) (hd : ∀ vs, o.data ≠ .fields vs) : Kept fls h' b o := by
  rcases x b o e with ⟨_, ⟨vs, q⟩, _⟩ | k
  · exact absurd q (hd vs)
  · exact k
theorem Tch.of_val {fls : List Env} {h₀ h h' : Heap} (x : Tch fls h₀ h h') {b : Addr} {o : Obj} (e : h.get? b = some o) (hv : isVal o) : h'.get? b = some o := by
  rcases x b o e with ⟨_, _, q⟩ | k
  · exact absurd hv q
  · exact k.val hv
theorem Rel.tch {g : Str → Addr} {s : Shared} {h₀ h' : Heap} (R : Rel C σ g s) (x : Tch C.fls h₀ s.heap h') (hb : ∀ b o, C.base.get? b = some o → h₀.get? b ≠ none) (hh : C.rz = true → ∀ a, C.A.handled = some (.ref a) → h₀.get? a ≠ none) (hp0 : ∀ b, C.P₀ b → h₀.get? b ≠ none) : Rel C σ g { s with heap := h' } := by
  obtain ⟨m, R⟩ := R
  have mv : ∀ b o, s.heap.get? b = some o → isVal o → ∀ P : Addr → Prop, ¬ P b → ¬ P b ∧ h'.get? b = some o := fun b o e hv P hp => ⟨hp, x.of_val e hv⟩
  have hc : ∀ c u, s.heap.IsCell c u → h'.IsCell c u := fun c u ⟨o, ho, hd⟩ => isCell_kept ⟨o, ho, hd⟩ fun o' e => by rw [ho] at e; cases e; exact x.of_notFields ho fun vs q => by rw [hd] at q; cases q
  exact ⟨m, {
    base := fun b o e => by
      rcases x b o (R.base b o e) with ⟨q, _⟩ | k
      · exact absurd q (hb b o e)
      · exact k.notFr (R.base_notFr e)
    frames := funFrames_of (fun b o _ e ⟨es, ep, hd⟩ => by
      obtain ⟨o', e', _, d, _⟩ := (x.of_notFields e fun vs q => by rw [hd] at q; cases q).data
      exact ⟨o', e', es, ep, d.trans hd⟩) R.dicts R.frames
    dicts := fun b hb => by
      obtain ⟨o, e, es, ep, hd⟩ := R.dicts b hb
      obtain ⟨o', e', _, d, _⟩ := (x.of_notFields e fun vs q => by rw [hd] at q; cases q).data
      exact ⟨o', e', es, ep, d.trans hd⟩
    p0 := fun b hb => by
      obtain ⟨o, ho⟩ := R.p0 b hb
      rcases x b o ho with ⟨q, _⟩ | k
      · exact absurd q (hp0 b hb)
      · obtain ⟨o', e', _⟩ := k.data; exact ⟨o', e'⟩
    ns := by
      obtain ⟨o, es, ep, ho, hd, r⟩ := id R.ns
      exact ns_kept R.ns fun o' e => by rw [ho] at e; cases e; exact x.of_notFields ho fun vs q => by rw [hd] at q; cases q
    cells := fun y c hy => let ⟨u, hu⟩ := R.cells y c hy; ⟨u, hc c u hu⟩
    fr := fun y u hy => by
      obtain ⟨cu, h1, h2⟩ := R.fr y u hy
      exact ⟨cu, varAt_of h1 fun c u _ q => hc c u q, VR.mono (fun b o e hv hp => mv b o e hv _ hp) _ _ h2⟩
    ow := fun y u hy => by
      obtain ⟨h1, h2, h3⟩ := R.ow y u hy
      exact ⟨varAt_of h1 fun c u _ q => hc c u q, h2.move (fun b o e hv => x.of_val e hv) fun b o _ _ hp => hp, h3⟩
    inj := R.inj
    hdl := fun hz a ha => (R.hdl hz a ha).at fun o vs e hd _ => by
      rcases x a o e with ⟨q, _⟩ | k
      · exact absurd q (hh hz a ha)
      · exact k.fields hd }⟩
theorem Step.tch {O O' : Addr → Prop} {s s₁ : Shared} {h' : Heap} (S : Step C O s O' s₁) (x : Tch C.fls s.heap s₁.heap h') : Step C O s O' { s₁ with heap := h' } where
  eq := by rw [S.eq]
  keep := fun b o e hp => (S.keep b o e hp).trans fun o' e' => by
    rcases x b o' e' with ⟨q, _⟩ | k
    · rw [e] at q; cases q
    · exact k
  own := S.own
  live := fun b o e => by
    obtain ⟨o', e'⟩ := S.live b o e
    rcases x b o' e' with ⟨q, _⟩ | k
    · rw [e] at q; cases q
    · obtain ⟨o'', e'', _⟩ := k.data; exact ⟨o'', e''⟩

/-- it bears a traceback -/
def ExcT (plain : Prop) (h₀ h : Heap) (e : Value) : Prop :=
  ∃ a oe vs T oT ts, e = .ref a ∧ h₀.get? a = none ∧ h.get? a = some oe ∧ oe.cls = .type "IndexError" ∧ oe.data = .fields vs ∧ vs.size = 6 ∧ (plain → vs[2]? = some .none) ∧
    vs[1]? = some (.ref T) ∧ T ≠ a ∧ h₀.get? T = none ∧ h.get? T = some oT ∧ oT.cls = .type "traceback" ∧ oT.data = .fields ts ∧ 3 < ts.size
theorem ExcT.exc {plain : Prop} {h₀ h : Heap} {e : Value} (x : ExcT plain h₀ h e) : Exc plain h₀ h e := by
  obtain ⟨a, oe, vs, T, oT, ts, h1, h2, h3, h4, h5, h6, h7, r⟩ := x
  exact ⟨a, oe, vs, h1, h2, h3, h4, h5, h6, h7, .inr ⟨T, oT, ts, r⟩⟩

theorem notVal_exc {o : Obj} {vs : Array Value} {n : String} (hc : o.cls = .type n) (hn : n ≠ "range") (hd : o.data = .fields vs) : ¬ isVal o := by
  rintro (⟨_, _, q⟩ | ⟨_, _, _, q⟩ | ⟨_, q, _⟩)
  · rw [hd] at q; cases q
  · rw [hd] at q; cases q
  · rw [hc] at q; cases q; exact hn rfl

/-- a record's field set: all else stands -/
theorem tch_update {fls : List Env} {h₀ h : Heap} {a : Addr} {o : Obj} {vs : Array Value} {i : Nat} {x : Value} (h1 : h₀.get? a = none) (ho : h.get? a = some o) (hd : o.data = .fields vs) (hv : ¬ isVal o) :
    Tch fls h₀ h (h.update a (Obj.mapFields (·.setIfInBounds i x))) := fun b p e => by
  by_cases q : b = a
  · subst q
    rw [ho] at e; cases e
    exact .inl ⟨h1, ⟨vs, hd⟩, hv⟩
  · have e' := (Heap.get?_update_other h (Obj.mapFields (·.setIfInBounds i x)) (Ne.symm q)).trans e
    exact .inr (.inl e')
theorem tch_push {fls : List Env} {h₀ h : Heap} (o : Obj) : Tch fls h₀ h (h.push o) := fun b p e => .inr (.inl (Heap.get?_push_of_some _ e))

theorem wp_setFlight {plain : Prop} {M : Model} {A : Around} {s : Shared} {h₀ : Heap} {e : Value} {f : Option Addr} {Qu : Unit → Shared → Prop} {E : Value → Shared → Prop} {fls : List Env} (H : ExcT plain h₀ s.heap e)
    (h : ∀ h', Tch fls h₀ s.heap h' → ExcT plain h₀ h' e → Qu () { s with heap := h' }) : wpAny M A (setFlight e f) Qu E s := by
  obtain ⟨a, oe, vs, T, oT, ts, rfl, h1, h2, h3, h4, h5, h6, h7, h8, h9, h10, h11, h12, h13⟩ := H
  unfold setFlight
  refine wpAny_bind (wpAny_field h2 h4 h7 ?_)
  rw [if_pos (show (Value.ref T != Value.none) = true from by simp)]
  refine wpAny_setField h10 h12 h13 (h _ (tch_update h9 h10 h12 (notVal_exc h11 (by decide) h12)) ?_)
  have d := Obj.data_mapFields h12 (·.setIfInBounds 3 (f.elim Value.none fun f => rawInt f))
  refine ⟨a, oe, vs, T, _, _, rfl, h1, (Heap.get?_update_other _ _ h8).trans h2, h3, h4, h5, h6, h7, h8, h9, Heap.get?_update_self _ h10 (Obj.isFreed_of_fields d), (Obj.cls_mapFields _ _).trans h11, d, ?_⟩
  simpa using h13

/-- an exception is noted in its frame -/
theorem wp_note {plain : Prop} {M : Model} {A : Around} {s : Shared} {h₀ base : Heap} {env : Env} {outer : List Env} {L : Addr} {e : Value} {Qu : Unit → Shared → Prop} {E : Value → Shared → Prop}
    (hfr : A.frames = some (env :: outer)) (hf : env.frame = some L) (hl : s.heap.FunFrames base (env :: outer)) (hdict : ∀ b, IsFr (env :: outer) b → ∃ o, s.heap.get? b = some o ∧ ∃ es ep, o.data = .dict es ep)
    (hlive : ∀ b o, h₀.get? b = some o → ∃ o', s.heap.get? b = some o') (H : Exc plain h₀ s.heap e)
    (h : ∀ h', Tch (env :: outer) h₀ s.heap h' → ExcT plain h₀ h' e → Qu () { s with heap := h' }) : wpAny M A (noteFrame e env) Qu E s := by
  -- the tail: a new entry onto e
  have tail : ∀ (s₁ : Shared) (head : Value) (hn : Bool), s₁.heap.FunFrames base (env :: outer) → (∀ b, IsFr (env :: outer) b → ∃ o, s₁.heap.get? b = some o ∧ ∃ es ep, o.data = .dict es ep) → Tch (env :: outer) h₀ s.heap s₁.heap →
      (∃ a oe vs, e = .ref a ∧ h₀.get? a = none ∧ s₁.heap.get? a = some oe ∧ oe.cls = .type "IndexError" ∧ oe.data = .fields vs ∧ vs.size = 6 ∧ (plain → vs[2]? = some .none)) → s₁ = { s with heap := s₁.heap } →
      wpAny M A (do setField e 1 (← EntryCells.newEntry head (← frameOf env) .none (rawInt L) .none (← entryPlaceOf L hn))) Qu E s₁ := by
    rintro s₁ head hn hl₁ hd₁ ht₁ ⟨a, oe, vs, rfl, h1, h2, h3, h4, h5, h6⟩ he₁
    refine wpAny_bind (wpAny_frameOf_fun hfr hl₁ hf fun h₂ hs₂ => ?_)
    refine wpAny_bind (wpAny_entryPlaceOf fun pl hpl => ?_)
    unfold EntryCells.newEntry newFields
    refine wpAny_bind (wpAny_newObj_type ?_ (hpl.sizeOk5 _ _ _ _ _))
    have ht₂ : Tch (env :: outer) h₀ s₁.heap h₂ := fun b o q => by
      obtain ⟨sl, q'⟩ := hs₂.2.2 b o q
      refine .inr ?_
      by_cases hb : b ∈ (env :: outer).filterMap (·.frame)
      · have hF : IsFr (env :: outer) b := by obtain ⟨x, hx, hx'⟩ := List.mem_filterMap.mp hb; exact ⟨x, hx, hx'⟩
        obtain ⟨o', ho', hd'⟩ := hd₁ b hF
        rw [q] at ho'; cases ho'
        exact .inr ⟨hF, hd', sl, q'⟩
      · exact .inl ((hs₂.2.1 b hb).trans q)
    have hea : h₂.get? a = some oe := by
      refine (hs₂.2.1 a fun hm => ?_).trans h2
      obtain ⟨_, o, ho, hnf⟩ := hl₁.mem hm
      rw [h2] at ho; cases ho; exact hnf vs h4
    have hea3 := Heap.get?_push_of_some (h := h₂) { cls := .type "traceback", dict := none, data := .fields ([head, .ref L, .none, rawInt L, .none] ++ (if pl.isEmpty then List.replicate 6 Value.none else pl)).toArray } hea
    refine wpAny_setField hea3 h4 (by lia) ?_
    have hv : ¬ isVal oe := notVal_exc h3 (by decide) h4
    have ht4 := ((ht₁.trans ht₂).trans (tch_push (h₀ := h₀) (fls := env :: outer) { cls := .type "traceback", dict := none, data := .fields ([head, .ref L, .none, rawInt L, .none] ++ (if pl.isEmpty then List.replicate 6 Value.none else pl)).toArray })).trans (tch_update (i := 1) (x := .ref h₂.objs.size) h1 hea3 h4 hv)
    rw [he₁]
    refine h _ ht4 ?_
    have hTa : h₂.objs.size ≠ a := Nat.ne_of_gt (Heap.lt_size hea)
    have d := Obj.data_mapFields h4 (·.setIfInBounds 1 (Value.ref h₂.objs.size))
    have hnew : h₀.get? h₂.objs.size = none := by
      cases q : h₀.get? h₂.objs.size with
      | none => rfl
      | some o =>
        obtain ⟨o', q'⟩ := hlive _ o q
        rcases (ht₁.trans ht₂) _ _ q' with ⟨r, _⟩ | r
        · rw [q] at r; cases r
        · obtain ⟨o₂, q₂, _⟩ := r.data
          exact absurd (Heap.lt_size q₂) (Nat.lt_irrefl _)
    refine ⟨a, _, _, h₂.objs.size, _, _, rfl, h1, Heap.get?_update_self _ hea3 (Obj.isFreed_of_fields d), (Obj.cls_mapFields _ _).trans h3, d, by simpa using h5, fun q => ?_, by simp [h5], hTa, hnew,
      (Heap.get?_update_other _ _ (Ne.symm hTa)).trans (Heap.get?_push_size h₂ rfl), rfl, rfl, by simp⟩
    rw [Array.getElem?_setIfInBounds]; simpa using h6 q
  obtain ⟨a, oe, vs, rfl, h1, h2, h3, h4, h5, h6, hh⟩ := H
  unfold noteFrame
  simp only [hf]
  rcases hh with hh | ⟨T, oT, ts, q1, q2, q3, q4, q5, q6, q7⟩
  · refine wpAny_bind (wpAny_field h2 h4 hh ?_)
    rw [if_neg (by decide)]
    exact tail s .none _ hl hdict (Tch.refl _ _ _) ⟨a, oe, vs, rfl, h1, h2, h3, h4, h5, h6⟩ rfl
  · refine wpAny_bind (wpAny_field h2 h4 q1 ?_)
    rw [if_pos (show (Value.ref T != Value.none) = true from by simp)]
    obtain ⟨y, hy⟩ : ∃ y, ts[3]? = some y := ⟨ts[3], by simp [q7]⟩
    refine wpAny_bind (wpAny_field q4 q6 hy ?_)
    by_cases hm : (y == rawInt L) = true
    · rw [if_pos hm]
      exact wpAny_pure (h _ (Tch.refl _ _ _) ⟨a, oe, vs, T, oT, ts, rfl, h1, h2, h3, h4, h5, h6, q1, q2, q3, q4, q5, q6, q7⟩)
    · rw [if_neg hm]
      refine wpAny_bind (wpAny_setField q4 q6 q7 ?_)
      have ht := tch_update (fls := env :: outer) (i := 3) (x := Value.none) q3 q4 q6 (notVal_exc q5 (by decide) q6)
      refine tail _ (.ref T) _ ?_ ?_ ht ⟨a, oe, vs, rfl, h1, (Heap.get?_update_other _ _ q2).trans h2, h3, h4, h5, h6⟩ rfl
      · exact hl.of_keeps fun b o e hnf => by
          obtain ⟨o', e', _, d, _⟩ := (ht.of_notFields e hnf).data
          exact ⟨o', e', d⟩
      · exact fun b hb => by
          obtain ⟨o, e, es, ep, hd⟩ := hdict b hb
          obtain ⟨o', e', _, d, _⟩ := (ht.of_notFields e fun vs q => by rw [hd] at q; cases q).data
          exact ⟨o', e', es, ep, d.trans hd⟩
end
end Mine

end
section
open PySem PyProof.Rows
set_option Elab.async false
set_option autoImplicit false
set_option linter.unusedVariables false
namespace Mine

/-- the frame at hand is the newest on the stack -/
def TopFr (C : Cfg) : Prop := ∃ outer L, C.fls = C.env :: outer ∧ C.env.frame = some L
def BaseIn (C : Cfg) (s : Shared) : Prop := (∀ b o, C.base.get? b = some o → s.heap.get? b ≠ none) ∧ (C.rz = true → ∀ a, C.A.handled = some (.ref a) → s.heap.get? a ≠ none) ∧ ∀ b, C.P₀ b → s.heap.get? b ≠ none
theorem Rel.baseIn {C : Cfg} {σ : St} {g : Str → Addr} {s : Shared} (R : Rel C σ g s) : BaseIn C s := by
  obtain ⟨m, R⟩ := R
  refine ⟨fun b o e q => ?_, fun hz a ha q => ?_, fun b hb q => ?_⟩
  · rw [R.base b o e] at q; cases q
  · obtain ⟨oe, vs, h1, _⟩ := R.hdl hz a ha; rw [h1] at q; cases q
  · obtain ⟨o, ho⟩ := R.p0 b hb; rw [ho] at q; cases q

section
variable {C : Cfg} {σ : St} {Q : AFlow → St → Prop} {X : Bool → St → Prop}

/-- what is in the air, noted -/
def EXT (C : Cfg) (O : Addr → Prop) (s : Shared) (X : Bool → St → Prop) (e : Value) (s' : Shared) : Prop :=
  ∃ σ' g' pl, Rel C σ' g' s' ∧ Step C O s (Ow σ' g') s' ∧ ExcT (pl = true) s.heap s'.heap e ∧ X pl σ'
theorem EXT.ex {O : Addr → Prop} {s : Shared} {e : Value} {s' : Shared} (x : EXT C O s X e s') : EX C O s X e s' := by
  obtain ⟨σ', g', pl, R, S, H, hX⟩ := x; exact ⟨σ', g', pl, R, S, H.exc, hX⟩

theorem ex_note {A : Around} (hA : A.frames = some C.fls) (hT : TopFr C) {O : Addr → Prop} {s s' : Shared} {e : Value} {Qu : Unit → Shared → Prop} {E : Value → Shared → Prop} (hB : BaseIn C s) (x : EX C O s X e s')
    (h : ∀ s'', EXT C O s X e s'' → Qu () s'') : wpAny (model C.prog C.w) A (noteFrame e C.env) Qu E s' := by
  obtain ⟨outer, L, hF, hf⟩ := hT
  obtain ⟨σ', g', pl, R, S, H, hX⟩ := x
  obtain ⟨m, RM⟩ := id R
  have hl := RM.frames
  have hd := RM.dicts
  rw [hF] at hl hd hA
  refine wp_note hA hf hl hd (fun b o e => S.live b o e) H fun h' ht hE => h _ ?_
  rw [← hF] at ht
  exact ⟨σ', g', pl, R.tch ht hB.1 hB.2.1 hB.2.2, S.tch ht, hE, hX⟩
theorem ext_flight {A : Around} {O : Addr → Prop} {s s' : Shared} {e : Value} {f : Option Addr} {Qu : Unit → Shared → Prop} {E : Value → Shared → Prop} (hB : BaseIn C s) (x : EXT C O s X e s')
    (h : ∀ s'', EXT C O s X e s'' → Qu () s'') : wpAny (model C.prog C.w) A (setFlight e f) Qu E s' := by
  obtain ⟨σ', g', pl, R, S, H, hX⟩ := x
  exact wp_setFlight (fls := C.fls) H fun h' ht hE => h _ ⟨σ', g', pl, R.tch ht hB.1 hB.2.1 hB.2.2, S.tch ht, hE, hX⟩
theorem ext_field {A : Around} {O : Addr → Prop} {s s' : Shared} {e : Value} {Qv : Value → Shared → Prop} {E : Value → Shared → Prop} (x : EXT C O s X e s') (h : ∀ T, Qv (.ref T) s') : wpAny (model C.prog C.w) A (field e 1) Qv E s' := by
  obtain ⟨σ', g', pl, R, S, ⟨a, oe, vs, T, oT, ts, rfl, h1, h2, h3, h4, h5, h6, h7, _⟩, hX⟩ := x
  exact wpAny_field h2 h4 h7 (h T)
theorem ext_back {A : Around} {O : Addr → Prop} {s s' : Shared} {e : Value} {E : Value → Shared → Prop} (hB : BaseIn C s) (x : EXT C O s X e s') (h : ∀ s'', EXT C O s X e s'' → E e s'') : cameBackBy (model C.prog C.w) A C.env E e s' := by
  unfold cameBackBy
  refine wpAny_bind (ext_field x fun T => ?_)
  rw [if_neg (show ¬ ((Value.ref T == Value.none) = true) from by simp)]
  first
    | exact ext_flight hB x h
    | exact wpAny_bind (wpAny_pure (ext_flight hB x h))
theorem ex_passes (K : CfgOk C) (hT : TopFr C) {O : Addr → Prop} {s : Shared} (hB : BaseIn C s) : PassesOwn (model C.prog C.w) C.A C.env (EX C O s X) := fun e s' x =>
  ex_note K.frames hT hB x fun s'' x' => ext_back hB x' fun s3 x3 => x3.ex

theorem Exc.plain {h₀ h : Heap} {e : Value} (C : Cfg) (x : Exc (C.A.handled = none) h₀ h e) : Exc (C.A.handled.isNone = true) h₀ h e := by
  obtain ⟨a, oe, vs, h1, h2, h3, h4, h5, h6, h7, r⟩ := x
  exact ⟨a, oe, vs, h1, h2, h3, h4, h5, h6, fun q => h7 (by simpa using q), r⟩
/-- a test that may raise an IndexError: none -/
def ET (C : Cfg) (σ : St) (e : Expr) (r : Option Bool) : Prop :=
  ∀ g s E (Qb : Bool → Shared → Prop), Rel C σ g s → (∀ b s', r = some b → Grow C.fls s s' → Qb b s') → (∀ x s', r = none → Grow C.fls s s' → Exc (C.A.handled = none) s.heap s'.heap x → E x s') →
    wpAny (model C.prog C.w) C.A (isTrue e C.env (eval e C.env)) Qb E s
theorem EB.et {e : Expr} {b : Bool} (h : EB C σ e b) : ET C σ e (some b) := fun g s E Qb R k _ => h g s E Qb R fun s' G => k b s' rfl G

/-- a while; inv n: n falls at each turn -/
theorem x1_while (K : CfgOk C) {test : Expr} {body : List Stmt} {pos : Pos} (hT : (∀ pl σ, ¬ X pl σ) ∨ TopFr C) (inv : Nat → St → Prop)
    (turn : ∀ n σ, inv n σ → ∃ r, ET C σ test r ∧ (r = some true → XS C σ body (fun f σ' => match f with | .next | .cont => ∃ m, m < n ∧ inv m σ' | .brk => Q .next σ' | .ret v => Q (.ret v) σ') X) ∧ (r = some false → Q .next σ) ∧ (r = none → X C.A.handled.isNone σ))
    (n : Nat) (h0 : inv n σ) : X1 C σ (.While test body [] pos) Q X := fun g s R => by
  have hB := R.baseIn
  have hE : PassesOwn (model C.prog C.w) C.A C.env (EX C (Ow σ g) s X) := by
    rcases hT with hT | hT
    · intro e s' x; obtain ⟨σ', _, pl, _, _, _, hX⟩ := x; exact absurd hX (hT pl σ')
    · exact ex_passes K hT hB
  refine wpAny_While (codeAny_whileLoop (fun n s' => ∃ σ' g', Rel C σ' g' s' ∧ Step C (Ow σ g) s (Ow σ' g') s' ∧ inv n σ') ?_ n ⟨σ, g, R, Step.refl _ _ _, h0⟩)
  rintro n s₁ ⟨σ₁, g₁, R₁, S₁, hI⟩
  obtain ⟨r, ht, hb, hf, hx⟩ := turn n σ₁ hI
  refine ht g₁ s₁ _ _ R₁ (fun b s₂ hr G => ?_) fun x s₂ hr G H => ?_
  · cases b with
    | true =>
      simp only [if_true]
      refine wpAny_passesOwn hE (wpAny_mono (hb hr g₁ s₂ (R₁.grow G)) (fun f s₃ q => ?_) fun e s₃ q => (q.pre (G.step (C := C))).pre S₁)
      obtain ⟨σ₃, g₃, f', R₃, S₃, F₃, hQ⟩ := q
      have S' := (S₁.trans (G.step (C := C))).trans S₃
      cases f' with
      | next => simp only [FlowR] at F₃; subst F₃; obtain ⟨m, hm, hI'⟩ := hQ; exact ⟨m, hm, σ₃, g₃, R₃, S', hI'⟩
      | cont => simp only [FlowR] at F₃; subst F₃; obtain ⟨m, hm, hI'⟩ := hQ; exact ⟨m, hm, σ₃, g₃, R₃, S', hI'⟩
      | brk => simp only [FlowR] at F₃; subst F₃; exact ⟨σ₃, g₃, .next, R₃, S', rfl, hQ⟩
      | ret v =>
        have F' := F₃
        simp only [FlowR] at F₃; obtain ⟨cv, rfl, _⟩ := F₃; exact ⟨σ₃, g₃, .ret v, R₃, S', F', hQ⟩
    | false =>
      simp only [Bool.false_eq_true, if_false]
      exact wpAny_execs_nil ⟨σ₁, g₁, .next, R₁.grow G, S₁.trans (G.step (C := C)), rfl, hf hr⟩
  · exact hE x s₂ ⟨σ₁, g₁, _, R₁.grow G, S₁.trans (G.step (C := C)), (H.plain C).older fun b q => S₁.none q, hx hr⟩
end
end Mine

end
section
open PySem PyProof.Rows
set_option Elab.async false
set_option autoImplicit false
set_option linter.unusedVariables false
namespace Mine

theorem entry_unchain : entryFor table "proto.unchain" = some Builtin.«proto.unchain» := entryFor_of_tree (by kernel_rfl)

/-- the state of what is handled where an IndexError is raised -/
def HdOk (A : Around) (h : Heap) : Prop := A.handled = none ∨ ∃ a, A.handled = some (.ref a) ∧ HdlAt h a

theorem wp_raiseIdx {α : Type} {prog : Program} {w : World} {A : Around} {s : Shared} {msg : String} {Q : α → Shared → Prop} {E : Value → Shared → Prop} (hh : HdOk A s.heap)
    (hE : ∀ h' tk e, (∀ b o, s.heap.get? b = some o → h'.get? b = some o) → Exc (A.handled = none) s.heap h' (.ref e) → E (.ref e) { s with heap := h', toks := tk }) :
    wpAny (model prog w) A (raiseErrorWords "IndexError" msg : Sem α) Q E s := by
  unfold raiseErrorWords
  refine wpAny_bind (wpAny_mkText (wpAny_bind (wpAny_newExc_plain plainExc_IndexError fun h' e hm => ?_)))
  obtain ⟨hk, hn, t, ht, htn, htt⟩ := hm
  rcases hh with hh | ⟨a, ha, oe, vs, h1, h2, h3, h4, h5⟩
  · exact wpAny_raiseNew_none hh (hE h' _ e hk ⟨e, _, _, rfl, hn, ht, rfl, rfl, rfl, fun _ => rfl, .inl rfl⟩)
  · unfold raiseNew
    refine wpAny_bind (wpAny_handled ?_)
    rw [ha]
    have hae : a ≠ e := fun q => by rw [q] at h1; rw [hn] at h1; cases h1
    dsimp only
    rw [if_pos (show (Value.ref a != Value.ref e) = true from by simpa using hae)]
    have h1' := hk a oe h1
    refine wpAny_bind (wpAny_holding (wpAny_runValue (codeAny_builtin entry_unchain ?_)))
    show wpAny _ _ (field (.ref a) 2 >>= _) _ _ _
    refine wpAny_bind (wpAny_field h1' h3 h5 ?_)
    show wpAny _ _ (ret .none) _ _ _
    refine wpAny_pure ?_
    show wpAny _ _ (setField (.ref e) 2 (.ref a) >>= fun _ => throw (.ref e)) _ _ _
    refine wpAny_bind (wpAny_setField ht rfl (by simp) (wpAny_throw ?_))
    have d : (Obj.mapFields (·.setIfInBounds 2 (Value.ref a)) { cls := .type "IndexError", data := .fields #[.ref t, .none, .none, .none, .bool false, .none] }).data = .fields #[.ref t, .none, .ref a, .none, .bool false, .none] := rfl
    refine hE _ _ e (fun b o q => ?_) ⟨e, _, _, rfl, hn, Heap.get?_update_self _ ht rfl, rfl, d, rfl, fun q => ?_, .inl rfl⟩
    · have hbe : e ≠ b := fun r => by rw [← r, hn] at q; cases q
      exact (Heap.get?_update_other _ _ hbe).trans (hk b o q)
    · exact absurd ha (by rw [show A.handled = none from q]; simp)

section
variable {prog : Program} {w : World} {A : Around} {E : Value → Shared → Prop} {s : Shared}
theorem list_out {l : Addr} {items : Array Value} {k : Int} {t : Tok} {Q : Value → Shared → Prop} (hA : HdOk A s.heap) (hl : s.heap.IsList l items) (h0 : 0 ≤ k) (hhi : k < 2 ^ 63) (hout : (items.size : Int) ≤ k)
    (hE : ∀ h' tk e, (∀ b o, s.heap.get? b = some o → h'.get? b = some o) → Exc (A.handled = none) s.heap h' (.ref e) → E (.ref e) { s with heap := h', toks := tk }) :
    wpAny (model prog w) A (getItem (.ref l) (.int k t)) Q E s := by
  obtain ⟨o, ho, hc, ne, hd⟩ := id hl
  unfold getItem
  refine wpAny_holding ?_
  refine wpAny_bind (wpAny_sequenceKey hl.typeIs (by decide) ?_)
  refine wpAny_bind (wpAny_callSpecial?_slot (name := Str.ofString "__getitem__") hl.typeIs slot_list_getitem
    (wpAny_call_entry slot_list_getitem hl.typeIs entry_list_getitem ?_ (args_list_getitem _ _)))
  show wpAny _ _ (Builtin.List.listSubscript? (.int k t) >>= _) _ _ s
  refine wpAny_bind (wpAny_listSubscript_int (fitsIndex_both (by lia) hhi) ?_)
  obtain ⟨j, rfl⟩ : ∃ j : Nat, k = Int.ofNat j := ⟨k.toNat, by simp [Int.toNat_of_nonneg h0]⟩
  have hx : items[j]? = none := Array.getElem?_eq_none (by have : (items.size : Int) ≤ (j : Int) := hout; lia)
  show wpAny _ _ ((seqItemAt l j >>= fun r => pure (r.map (j, ·))) >>= _) _ _ s
  refine wpAny_bind (wpAny_bind (wpAny_seqItemAt ho hd (wpAny_pure ?_)))
  rw [hx]
  exact wpAny_bind (wpAny_rule (wpAny_bind (wp_raiseIdx (A := A.in1) hA hE)))
theorem str_out {x : Str} {k : Int} {t u : Tok} {Q : Value → Shared → Prop} (hA : HdOk A s.heap) (h0 : 0 ≤ k) (hhi : k < 2 ^ 63) (hout : (x.length : Int) ≤ k)
    (hE : ∀ h' tk e, (∀ b o, s.heap.get? b = some o → h'.get? b = some o) → Exc (A.handled = none) s.heap h' (.ref e) → E (.ref e) { s with heap := h', toks := tk }) :
    wpAny (model prog w) A (getItem (.str x t) (.int k u)) Q E s := by
  refine getItem_slot (typeIs_str s x t) (by decide) slot_str_getitem (wpAny_call_entry slot_str_getitem (typeIs_str s x t) entry_str_getitem ?_ (args_str_getitem _ _))
  have hr : (decide (k < -(2 ^ 63 : Int)) || decide (k ≥ 2 ^ 63)) = false := by simp; lia
  have hc : (seqIndex? k x.length).bind (x.cps[·]?) = none := by
    unfold seqIndex?
    simp only [Int.not_lt.mpr h0, if_false]
    rw [if_neg (by simp; lia)]
    rfl
  show wpAny _ _ (if (decide (k < -(2 ^ 63 : Int)) || decide (k ≥ 2 ^ 63)) = true then _ else
          match (seqIndex? k x.length).bind (x.cps[·]?) with
          | some c => retStr ⟨#[c]⟩
          | none => _) _ _ s
  rw [hr, hc]
  simp only [Bool.false_eq_true, if_false]
  exact wpAny_bind (wpAny_rule (wp_raiseIdx (A := A.in1) hA hE))
end

section
variable {C : Cfg} {σ : St} {Q : AFlow → St → Prop} {X : Bool → St → Prop}
/-- a value, or an IndexError -/
def ER (C : Cfg) (σ : St) (e : Expr) (r : Option AVal) : Prop :=
  ∀ g s E (Qv : Value → Shared → Prop), Rel C σ g s → (∀ v cv s', r = some v → Grow C.fls s s' → VR C.prog C.w (Av C σ g) s'.heap v cv → Qv cv s') →
    (∀ x s', r = none → Grow C.fls s s' → Exc (C.A.handled = none) s.heap s'.heap x → E x s') → wpAny (model C.prog C.w) C.A (eval e C.env) Qv E s

def HdC (C : Cfg) : Prop := C.A.handled = none ∨ ∃ a, C.A.handled = some (.ref a) ∧ C.rz = true
theorem Rel.hd {g : Str → Addr} {s : Shared} (R : Rel C σ g s) (h : HdC C) : HdOk C.A s.heap := by
  rcases h with h | ⟨a, h, hz⟩
  · exact .inl h
  · obtain ⟨m, R⟩ := R; exact .inr ⟨a, h, R.hdl hz a h⟩

theorem exc_grow {plain : Prop} {s s₁ : Shared} {h' : Heap} {x : Value} (G : Grow C.fls s s₁) (H : Exc plain s₁.heap h' x) : Exc plain s.heap h' x :=
  H.older fun b q => by
    cases e : s.heap.get? b with
    | none => rfl
    | some o => obtain ⟨o', e', _⟩ := (G.keep b o e).data; rw [q] at e'; cases e'

theorem er_item (hH : HdC C) {e i : Expr} {pos : Pos} {xs : List AVal} {k : Int} (he : EV C σ e (.list xs)) (hi : EV C σ i (.int k)) (h0 : 0 ≤ k) (hk : k < 2 ^ 63) (hs : plainSub i) :
    ER C σ (.Subscript e i pos) xs[k.toNat]? := fun g s E Qv R kv kx => by
  refine Subscript_ (he g s _ _ R fun ce s₁ G1 V1 => hi g s₁ _ _ (R.grow G1) fun ci s₂ G2 V2 => ?_)
  simp only [VR] at V2; obtain ⟨t, rfl⟩ := V2
  have V1' := V1.grow G2
  simp only [VR] at V1'; obtain ⟨a, vs, rfl, hp, hl, hr⟩ := V1'
  cases hv : xs[k.toNat]? with
  | some v =>
    obtain ⟨cv, hcv, hV⟩ := hr.get _ _ hv
    exact tail_any hl.typeIs slot_list_getitem.lookup (wpAny_getItem_list hl h0 hk (by simpa using hcv) (kv v _ _ hv (G1.trans G2) hV)) (hs _ _)
  | none =>
    have hlen : xs.length ≤ k.toNat := List.getElem?_eq_none_iff.mp hv
    refine tail_any hl.typeIs slot_list_getitem.lookup (list_out (((R.grow G1).grow G2).hd hH) hl h0 hk (by simp [hr.length]; lia) fun h' tk e hkk H => ?_) (hs _ _)
    exact kx _ _ hv ((G1.trans G2).trans (Grow.of hkk)) (exc_grow (G1.trans G2) H)
theorem er_itemS (hH : HdC C) {e i : Expr} {pos : Pos} {x : Str} {k : Int} (he : EV C σ e (.str x)) (hi : EV C σ i (.int k)) (h0 : 0 ≤ k) (hk : k < 2 ^ 63) (hs : plainSub i) :
    ER C σ (.Subscript e i pos) (x.cps[k.toNat]?.map fun c => .str ⟨#[c]⟩) := fun g s E Qv R kv kx => by
  refine Subscript_ (he g s _ _ R fun ce s₁ G1 V1 => hi g s₁ _ _ (R.grow G1) fun ci s₂ G2 V2 => ?_)
  simp only [VR] at V2; obtain ⟨t, rfl⟩ := V2
  simp only [VR] at V1; obtain ⟨t', rfl⟩ := V1
  cases hv : x.cps[k.toNat]? with
  | some c =>
    have hlt : k.toNat < x.cps.size := (Array.getElem?_eq_some_iff.mp hv).1
    refine tail_any (typeIs_str _ _ _) slot_str_getitem.lookup (getItem_str (c := c) (by simp; lia) ?_ (kv _ _ _ (by rw [hv]; rfl) ((G1.trans G2).trans Grow.toks) (by simp only [VR]; exact ⟨_, rfl⟩))) (hs _ _)
    rw [seqIndex_of h0 (by show k < (x.cps.size : Int); lia)]
    exact hv
  | none =>
    have hlen : x.cps.size ≤ k.toNat := by simpa using hv
    refine tail_any (typeIs_str _ _ _) slot_str_getitem.lookup (str_out (((R.grow G1).grow G2).hd hH) h0 hk (by show (x.cps.size : Int) ≤ k; lia) fun h' tk e hkk H => ?_) (hs _ _)
    exact kx _ _ (by rw [hv]; rfl) ((G1.trans G2).trans (Grow.of hkk)) (exc_grow (G1.trans G2) H)

theorem et_cmp {l r : Expr} {op : CmpOp} {pos : Pos} {ra : Option AVal} {vb : AVal} {rb : Option Bool} (hl : ER C σ l ra) (hr : EV0 C σ r vb) (ho : ∀ va, ra = some va → ∃ b, rb = some b ∧ CmpOk C op va vb b) (hn : ra = none → rb = none) (hm : behindInMarks op r = false) :
    ET C σ (.Compare l [op] [r] pos) rb := fun g s E Qb R k kx =>
  wpAny_isTrue_Compare1 (hl g s _ _ R (fun va ca s₁ hra G1 V1 => by
    obtain ⟨b, hb, ho⟩ := ho va hra
    exact hr g s₁ _ _ (R.grow G1) fun cb s₂ G2 V2 => ho _ _ _ (V1.grow G2).weak V2 _ _ fun s' G3 => wpAny_truthy_bool (k b s' hb ((G1.trans G2).trans G3)))
    fun x s' hra G H => kx x s' (hn hra) G H) hm

theorem x1_setR (K : CfgOk C) {x : Str} {e : Expr} {r : Option AVal} {px pos : Pos} (he : ER C σ e r) (hx : Storable C x) (h : ∀ v, r = some v → Q .next (σ.set x v)) (hX : r = none → X C.A.handled.isNone σ) (hs : swapsWith e (some (.Name x px)) pos.line C.env = pure false) : X1 C σ (.Assign [.Name x px] e pos) Q X := fun g s R =>
  wpAny_Assign_Name (he g s _ _ R (fun v cv s₁ hr G V => wp_set K (R.grow G) hx V fun s' R' S' => ⟨_, g, .next, R', (G.step (C := C) (O := Ow σ g)).trans S', rfl, h v hr⟩)
    fun x s' hr G H => ⟨σ, g, _, R.grow G, G.step, H.plain C, hX hr⟩) hs
end
end Mine

end
section
open PySem PyProof.Rows
set_option Elab.async false
set_option autoImplicit false
set_option linter.unusedVariables false
namespace Mine

/-- within a handler, or a finally that an exception has led to -/
def Cfg.mk' (C : Cfg) (a : Addr) (rz : Bool) : Cfg := { C with A := C.A.mark (some (.ref a)), rz := rz }
theorem mk_ok {C : Cfg} (K : CfgOk C) (a : Addr) (rz : Bool) : CfgOk (C.mk' a rz) :=
  ⟨K.kind, K.globals, K.builtins, K.frames, K.apart, K.lnew, K.wnew, K.wcell, K.gl, K.bl, K.lim, K.pnew⟩
theorem Rel.toMk {C : Cfg} {σ : St} {g : Str → Addr} {s : Shared} (R : Rel C σ g s) (a : Addr) (rz : Bool) (h : rz = true → HdlAt s.heap a) : Rel (C.mk' a rz) σ g s := by
  obtain ⟨m, R⟩ := R
  refine ⟨m, ⟨R.base, R.frames, R.dicts, R.p0, R.ns, R.cells, R.fr, R.ow, R.inj, fun hz b hb => ?_⟩⟩
  have hb' : some (Value.ref a) = some (Value.ref b) := hb
  cases hb'; exact h hz
theorem Rel.ofMk {C : Cfg} {σ : St} {g : Str → Addr} {s : Shared} {a : Addr} {rz : Bool} (R : Rel (C.mk' a rz) σ g s) (hn : C.A.handled = none) : Rel C σ g s := by
  obtain ⟨m, R⟩ := R
  exact ⟨m, ⟨R.base, R.frames, R.dicts, R.p0, R.ns, R.cells, R.fr, R.ow, R.inj, fun hz b hb => by rw [hn] at hb; cases hb⟩⟩
theorem Step.ofMk {C : Cfg} {a : Addr} {rz : Bool} {O O' : Addr → Prop} {s s' : Shared} (S : Step (C.mk' a rz) O s O' s') : Step C O s O' s' := ⟨S.eq, S.keep, S.own, S.live⟩

section
variable {C : Cfg} {σ : St} {Q : AFlow → St → Prop} {X : Bool → St → Prop}

theorem NX.ofMk {a : Addr} {rz : Bool} {O : Addr → Prop} {s : Shared} {f : Flow} {s' : Shared} (hn : C.A.handled = none) (x : NX (C.mk' a rz) O s Q f s') : NX C O s Q f s' := by
  obtain ⟨σ', g', f', R, S, F, q⟩ := x
  exact ⟨σ', g', f', R.ofMk hn, S.ofMk, F, q⟩

theorem x1_try (K : CfgOk C) (hT : TopFr C) (hn : C.A.handled = none) {body : List Stmt} {b₀ : Stmt} {suite : List Stmt} {np hp pos : Pos} {X' : Bool → St → Prop} (hg : GlobB C "IndexError" (.type "IndexError"))
    (hbody : XS C σ body Q X') (hh : ∀ pl σ' a, X' pl σ' → XS (C.mk' a false) σ' (b₀ :: suite) Q (fun _ _ => False)) :
    X1 C σ (.Try body [.ExceptHandler (some (.Name "IndexError" np)) none (b₀ :: suite) hp] [] [] pos) Q X := fun g s R => by
  have hB := R.baseIn
  refine wpAny_Try_except (wpAny_mono (hbody g s R) (fun f s₁ x => ?_) fun e s₁ x => ?_)
  · cases f with
    | next => exact wpAny_execs_nil x
    | brk => exact x
    | cont => exact x
    | ret v => exact x
  · refine ex_note K.frames hT hB x fun s₂ x₂ => ext_flight hB x₂ fun s₃ x₃ => ?_
    obtain ⟨σ', g', pl, R₃, S₃, ⟨a, oe, vs, T, oT, ts, rfl, h1, h2, h3, h4, h5, h6, h7⟩, hX⟩ := id x₃
    have Rm := R₃.toMk (C := C) a false (fun q => by cases q)
    refine wpAny_handleBy_builtin (X := "IndexError") (T := "IndexError") (b := true) (isSubtype_of_subB (by decide +kernel)) (isSubtype_of_subB (by decide +kernel)) (isSubtype_of_subB (by decide +kernel)) ?_
    refine wp_globB (C := C.mk' a false) (mk_ok K a false) Rm hg (by decide) ⟨rfl, ⟨oe, h2, h3⟩, ?_⟩
    rw [if_pos rfl]
    refine ext_flight (A := C.A.mark (some (.ref a))) hB x₃ fun s₄ x₄ => ?_
    obtain ⟨σ₄, g₄, pl₄, R₄, S₄, _, hX₄⟩ := x₄
    have Rm₄ := R₄.toMk (C := C) a false (fun q => by cases q)
    refine wpAny_mono (hh pl₄ σ₄ a hX₄ g₄ s₄ Rm₄) (fun f s₅ q => ?_) fun e s₅ q => ?_
    · exact (q.ofMk hn).pre S₄
    · obtain ⟨_, _, _, _, _, _, hF⟩ := q; exact hF.elim

/-- what hangs on an exception in the air is kept by a block -/
theorem ExcT.kept {plain : Prop} {h₀ : Heap} {g : Str → Addr} {s s' : Shared} {O' : Addr → Prop} {e : Value} (K : CfgOk C) (R : Rel C σ g s) (S : Step C (Ow σ g) s O' s') (x : ExcT plain h₀ s.heap e) : ExcT plain h₀ s'.heap e := by
  obtain ⟨m, R⟩ := R
  have key : ∀ b o vs (n : String), s.heap.get? b = some o → o.cls = .type n → n ≠ "range" → o.data = .fields vs → s'.heap.get? b = some o := by
    intro b o vs n e1 e2 hne e3
    refine (S.keep b o e1 fun q => ?_).fields e3
    rcases q with q | q | ⟨⟨y, u⟩, hy, q⟩
    · obtain ⟨oL, es, ep, ho, hd, _⟩ := R.ns
      rw [← q, e1] at ho; cases ho; rw [e3] at hd; cases hd
    · obtain ⟨y, hy⟩ := K.wcell b q
      obtain ⟨u, oc, ho, hd⟩ := R.cells y b hy
      rw [e1] at ho; cases ho; rw [e3] at hd; cases hd
    · obtain ⟨_, h2, _⟩ := R.ow y u hy
      obtain ⟨o', ho', hv⟩ := h2.isVal
      simp only at q
      rw [q, e1] at ho'; cases ho'
      exact notVal_exc e2 hne e3 hv
  obtain ⟨a, oe, vs, T, oT, ts, rfl, h1, h2, h3, h4, h5, h6, h7, h8, h9, h10, h11, h12, h13⟩ := x
  exact ⟨a, oe, vs, T, oT, ts, rfl, h1, key _ _ _ _ h2 h3 (by decide) h4, h3, h4, h5, h6, h7, h8, h9, key _ _ _ _ h10 h11 (by decide) h12, h11, h12, h13⟩

theorem x1_finally (K : CfgOk C) (hT : TopFr C) (hn : C.A.handled = none) {body : List Stmt} {f₀ : Stmt} {fs : List Stmt} {pos : Pos} {Qn : St → Prop} {Xb : Bool → St → Prop}
    (hbody : XS C σ body (fun f σ' => f = .next ∧ Qn σ') Xb) (hXb : ∀ σ', ¬ Xb false σ') (hok : ∀ σ', Qn σ' → XS C σ' (f₀ :: fs) Q X)
    (hex : ∀ σ' a, Xb true σ' → XS (C.mk' a true) σ' (f₀ :: fs) (fun f σ'' => f = .next ∧ X true σ'') (fun _ σ'' => X false σ'')) :
    X1 C σ (.Try body [] [] (f₀ :: fs) pos) Q X := fun g s R => by
  have hB := R.baseIn
  have hP : PassesOwn (model C.prog C.w) C.A C.env (EX C (Ow σ g) s X) := ex_passes K hT hB
  refine wpAny_Try_finally (wpAny_mono (hbody g s R) (fun f s₁ x => ?_) fun e s₁ x => ?_)
  · obtain ⟨σ₁, g₁, f', R₁, S₁, F₁, rfl, hQ⟩ := x
    simp only [FlowR] at F₁; subst F₁
    refine wpAny_execs_nil (wpAny_passesOwn hP (wpAny_mono (hok σ₁ hQ g₁ s₁ R₁) (fun f₂ s₂ y => ?_) fun e s₂ y => y.pre S₁))
    cases f₂ <;> exact y.pre S₁
  · refine ex_note K.frames hT hB x fun s₂ x₂ => ?_
    obtain ⟨σ₂, g₂, pl, R₂, S₂, H₂, hX₂⟩ := id x₂
    have hpl : pl = true := by cases pl with | true => rfl | false => exact absurd hX₂ (hXb σ₂)
    subst hpl
    obtain ⟨a, oe, vs, T, oT, ts, he, _⟩ := id H₂
    subst he
    refine ⟨ref_ne_byPass a, ex_note K.frames hT hB x₂.ex fun s₃ x₃ => ext_flight hB x₃ fun s₄ x₄ => ?_⟩
    obtain ⟨σ₄, g₄, pl₄, R₄, S₄, H₄, hX₄⟩ := id x₄
    have hpl : pl₄ = true := by cases pl₄ with | true => rfl | false => exact absurd hX₄ (hXb σ₄)
    subst hpl
    have hdl : HdlAt s₄.heap a := by
      obtain ⟨a', oe, vs, T, oT, ts, he, h1, h2, h3, h4, h5, h6, _⟩ := H₄
      cases he
      exact ⟨oe, vs, h2, h3, h4, h5, h6 rfl⟩
    have Rm₄ := R₄.toMk (C := C) a true fun _ => hdl
    refine wpAny_mono (hex σ₄ a hX₄ g₄ s₄ Rm₄) (fun f₅ s₅ y => ?_) fun e₂ s₅ y => ?_
    · obtain ⟨σ₅, g₅, f', R₅, S₅, F₅, rfl, hX₅⟩ := y
      simp only [FlowR] at F₅; subst F₅
      have H₅ : ExcT (true = true) s.heap s₅.heap (.ref a) := ExcT.kept (C := C) K R₄ S₅.ofMk H₄
      have x₅ : EXT C (Ow σ g) s X (.ref a) s₅ := ⟨σ₅, g₅, true, R₅.ofMk hn, S₄.trans S₅.ofMk, H₅, hX₅⟩
      show wpAny _ C.A (PySem.passOn "try.finally" (.ref a) C.env) _ _ s₅
      unfold PySem.passOn
      refine wpAny_bind (ext_field x₅ fun T => ?_)
      rw [if_neg (show ¬ ((Value.ref T == Value.none) = true) from by simp)]
      first
        | exact wpAny_bind (ext_flight hB x₅ fun s₆ x₆ => wpAny_throw x₆.ex)
        | exact wpAny_bind (wpAny_pure (wpAny_bind (ext_flight hB x₅ fun s₆ x₆ => wpAny_throw x₆.ex)))
    · have hB₄ : BaseIn (C.mk' a true) s₄ := Rm₄.baseIn
      have hTm : TopFr (C.mk' a true) := hT
      refine ex_note (C := C.mk' a true) (A := C.A.mark (some (.ref a))) K.frames hTm hB₄ y fun s₆ x₆ => ext_back (C := C.mk' a true) (A := C.A) hB₄ x₆ fun s₇ x₇ => ?_
      obtain ⟨σ₇, g₇, pl₇, R₇, S₇, H₇, hX₇⟩ := x₇
      refine ⟨σ₇, g₇, false, R₇.ofMk hn, S₄.trans S₇.ofMk, ?_, hX₇⟩
      obtain ⟨b, ob, us, h1, h2, h3, h4, h5, h6, h7, r⟩ := H₇.exc.older fun b q => S₄.none q
      exact ⟨b, ob, us, h1, h2, h3, h4, h5, h6, (fun q => by cases q), r⟩
end
end Mine

end
section
open PySem PyProof.Rows
set_option Elab.async false
set_option autoImplicit false
set_option linter.unusedVariables false
namespace Mine

section
variable {C : Cfg} {σ : St} {Q : AFlow → St → Prop} {X : Bool → St → Prop}

theorem Rel.toks {g : Str → Addr} {s : Shared} (R : Rel C σ g s) (tk : Nat) : Rel C σ g { s with toks := tk } := by
  obtain ⟨m, R⟩ := R
  exact ⟨m, ⟨R.base, R.frames, R.dicts, R.p0, R.ns, R.cells, R.fr, R.ow, R.inj, R.hdl⟩⟩
theorem Step.toks {O O' : Addr → Prop} {s s' : Shared} (S : Step C O s O' s') (tk : Nat) : Step C O s O' { s' with toks := tk } := ⟨by rw [S.eq], S.keep, S.own, S.live⟩

/-- a value's objects outlive a step -/
theorem val_step (K : CfgOk C) {σ' : St} {g g' : Str → Addr} {s s' : Shared} (R : Rel C σ g s) (S : Step C (Ow σ g) s (Ow σ' g') s') {b : Addr} {o : Obj} (e : s.heap.get? b = some o) (hv : isVal o) (hp : ¬ Av C σ g b) :
    ¬ Av C σ' g' b ∧ s'.heap.get? b = some o := by
  obtain ⟨m, R⟩ := R
  have hpr := R.val_notPriv K e hv
  refine ⟨fun q => ?_, (S.keep b o e fun q => ?_).val hv⟩
  · rcases q with q | q
    · exact hp (.inl q)
    · rcases S.own b q with q | q
      · exact hp (.inr q)
      · rw [e] at q; cases q
  · rcases q with q | q | q
    · exact hpr.1 q
    · exact hpr.2 q
    · exact hp (.inr q)
theorem VR.step (K : CfgOk C) {σ' : St} {g g' : Str → Addr} {s s' : Shared} (R : Rel C σ g s) (S : Step C (Ow σ g) s (Ow σ' g') s') {v : AVal} {cv : Value} (H : VR C.prog C.w (Av C σ g) s.heap v cv) : VR C.prog C.w (Av C σ' g') s'.heap v cv :=
  VR.mono (fun b o e hv hp => val_step K R S e hv hp) _ _ H

/-- binding a target -/
def ASG (C : Cfg) (σ : St) (target : Expr) (v : AVal) (σ' : St) : Prop :=
  ∀ g s cv E (Qu : Unit → Shared → Prop), Rel C σ g s → VR C.prog C.w (Av C σ g) s.heap v cv → (∀ s', Rel C σ' g s' → Step C (Ow σ g) s (Ow σ' g) s' → Qu () s') → wpAny (model C.prog C.w) C.A (assign target C.env cv) Qu E s
theorem asg_name (K : CfgOk C) {x : Str} {p : Pos} {v : AVal} {σ' : St} (hx : Storable C x) (hσ : σ.set x v = σ') : ASG C σ (.Name x p) v σ' := fun g s cv E Qu R V k => by
  subst hσ
  rw [arm_assign_Name]
  exact wpAny_bind (wpAny_standAt (wpAny_bindName (wp_set K R hx V k)))
theorem asg_pair (K : CfgOk C) (hh : C.A.handled = none) {x y : Str} {px py p : Pos} {n : Nat} {v u : AVal} {σ' : St} (hx : Storable C x) (hy : Storable C y) (hσ : (σ.set x v).set y u = σ') : ASG C σ (.Tuple [.Name x px, .Name y py] n p) (.tuple [v, u]) σ' := fun g s cv E Qu R V k => by
  subst hσ
  simp only [VR] at V
  obtain ⟨t, vs, rfl, hp, ht, hr⟩ := V
  obtain ⟨c1, c2, rfl, h1, h2⟩ := vrs_two hr
  refine assign_Tuple_tuple hh ht rfl rfl fun h' hk => ?_
  have G : Grow C.fls s { s with heap := h' } := Grow.of (tk := s.toks) fun b o e => hk b o (Nat.ne_of_lt (Heap.lt_size e)) e
  have R' := R.grow G
  show wpAny _ _ (assignInOrder [assign (.Name x px) C.env, assign (.Name y py) C.env] [c1, c2]) _ _ _
  unfold assignInOrder
  refine wpAny_bind (wpAny_holding (asg_name K hx rfl g _ c1 _ _ R' (h1.grow G) fun s₁ R₁ S₁ => ?_))
  unfold assignInOrder
  refine wpAny_bind (wpAny_holding (asg_name K hy rfl g _ c2 _ _ R₁ (VR.step K R' S₁ (h2.grow G)) fun s₂ R₂ S₂ => ?_))
  unfold assignInOrder
  exact wpAny_pure (k _ R₂ (((G.step (C := C)).trans S₁).trans S₂))

/-- assignments: a, b = e -/
theorem x1_pair (K : CfgOk C) (hh : C.A.handled = none) {x y : Str} {px py p pos : Pos} {n : Nat} {e : Expr} {v u : AVal} {σ' : St} (he : EV C σ e (.tuple [v, u])) (hx : Storable C x) (hy : Storable C y) (hσ : (σ.set x v).set y u = σ') (h : Q .next σ')
    (hs : swapsWith e (some (.Tuple [.Name x px, .Name y py] n p)) pos.line C.env = pure false) (hs2 : swappedStores [.Tuple [.Name x px, .Name y py] n p] e C.env = pure none) : X1 C σ (.Assign [.Tuple [.Name x px, .Name y py] n p] e pos) Q X := fun g s R => by
  show wpAny _ _ (do
    standAt pos
    if ← swapsWithSole [.Tuple [.Name x px, .Name y py] n p] e pos.line C.env then do
      evalThenUse e C.env fun v => assignAll v ((assignEach [.Tuple [.Name x px, .Name y py] n p] C.env).map (·.2))
      pure .next
    else do
      let v ← eval e C.env
      assignStores C.env v (← swappedStores [.Tuple [.Name x px, .Name y py] n p] e C.env) ((assignEach [.Tuple [.Name x px, .Name y py] n p] C.env).map (·.2))) _ _ _
  refine wpAny_bind (wpAny_standAt (wpAny_bind (wpAny_of_eq (a := false) hs ?_)))
  simp only [Bool.false_eq_true, if_false]
  refine wpAny_bind (he g s _ _ R fun cv s₁ G V => wpAny_bind (wpAny_of_eq hs2 ?_))
  show wpAny _ _ (assignAll cv [assign (.Tuple [.Name x px, .Name y py] n p) C.env] >>= fun _ => pure Flow.next) _ _ _
  refine wpAny_bind (asg_pair K hh hx hy hσ g s₁ cv _ _ (R.grow G) V fun s' R' S' => wpAny_pure ⟨_, g, .next, R', (G.step (C := C)).trans S', rfl, h⟩)
/-- x = y = e -/
theorem x1_two (K : CfgOk C) {x y : Str} {px py pos : Pos} {e : Expr} {v : AVal} {σ' : St} (he : EV C σ e v) (hx : Storable C x) (hy : Storable C y) (hσ : (σ.set x v).set y v = σ') (h : Q .next σ')
    (hs2 : swappedStores [.Name x px, .Name y py] e C.env = pure none) : X1 C σ (.Assign [.Name x px, .Name y py] e pos) Q X := fun g s R => by
  subst hσ
  show wpAny _ _ (do
    standAt pos
    if ← swapsWithSole [.Name x px, .Name y py] e pos.line C.env then do
      evalThenUse e C.env fun v => assignAll v ((assignEach [.Name x px, .Name y py] C.env).map (·.2))
      pure .next
    else do
      let v ← eval e C.env
      assignStores C.env v (← swappedStores [.Name x px, .Name y py] e C.env) ((assignEach [.Name x px, .Name y py] C.env).map (·.2))) _ _ _
  refine wpAny_bind (wpAny_standAt (wpAny_bind (wpAny_of_eq (a := false) rfl ?_)))
  simp only [Bool.false_eq_true, if_false]
  refine wpAny_bind (he g s _ _ R fun cv s₁ G V => wpAny_bind (wpAny_of_eq hs2 ?_))
  have R₁ := R.grow G
  show wpAny _ _ (assignAll cv [assign (.Name x px) C.env, assign (.Name y py) C.env] >>= fun _ => pure Flow.next) _ _ _
  refine wpAny_bind ?_
  unfold assignAll
  refine wpAny_bind (wpAny_holding (asg_name K hx rfl g s₁ cv _ _ R₁ V fun s₂ R₂ S₂ => ?_))
  unfold assignAll
  exact asg_name K hy rfl g s₂ cv _ _ R₂ (VR.step K R₁ S₂ V) fun s₃ R₃ S₃ => wpAny_pure ⟨_, g, .next, R₃, ((G.step (C := C)).trans S₂).trans S₃, rfl, h⟩

/-! loops over what is at hand -/
def rangeL (a b : Int) : List AVal := (List.range (b - a).toNat).map fun (i : Nat) => .int (a + i)
def iterItems : AVal → Option (List AVal)
  | .list xs => some xs
  | .tuple xs => some xs
  | .range a b => if -(2 ^ 62) ≤ a ∧ a < 2 ^ 62 ∧ -(2 ^ 62) ≤ b ∧ b < 2 ^ 62 then some (rangeL a b) else none
  | _ => none

structure It (C : Cfg) (P : Addr → Prop) (s : Shared) (I : Addr) (xs : List AVal) (fp : List Addr) (Pi : Nat → Value → Prop) (St : Nat → Heap → Prop) : Prop where
  W : Walks C.prog C.w C.A I fp [I] xs.length Pi St
  st0 : St 0 s.heap
  fps : ∀ b ∈ fp, b = I ∨ ∃ o, s.heap.get? b = some o ∧ isVal o ∧ ¬ P b
  recd : ∀ i h, St i h → ∃ o vs nm, h.get? I = some o ∧ o.cls = .type nm ∧ (nm = "list_iterator" ∨ nm = "tuple_iterator" ∨ nm = "range_iterator") ∧ o.data = .fields vs
  itm : ∀ i cv, Pi i cv → ∀ x, xs[i]? = some x → VR C.prog C.w P s.heap x cv

theorem wp_iter (hh : C.A.handled = none) {P : Addr → Prop} {s : Shared} (hL : Lives P s.heap) {v : AVal} {cv : Value} {xs : List AVal} (H : VR C.prog C.w P s.heap v cv) (hi : iterItems v = some xs) {E Qv : Value → Shared → Prop}
    (k : ∀ I s' fp Pi St, Grow C.fls s s' → s.heap.get? I = none → It C P s' I xs fp Pi St → Qv (.ref I) s') : wpAny (model C.prog C.w) C.A (pyIter cv) Qv E s := by
  have hnew : s.heap.get? s.heap.objs.size = none := Heap.get?_none_of_le (Nat.le_refl _)
  cases v with
  | list ys =>
    simp only [iterItems, Option.some.injEq] at hi; subst hi
    simp only [VR] at H; obtain ⟨a, vs, rfl, hp, hl, hr⟩ := H
    refine wpAny_pyIter_list hl ?_
    have G : Grow C.fls s { s with heap := s.heap.push { cls := .type "list_iterator", data := .fields #[.ref a, .int 0 0] } } := Grow.of (tk := s.toks) fun b o e => Heap.get?_push_of_some _ e
    obtain ⟨o, ho, hc, n, hd⟩ := id hl
    have hne : a ≠ s.heap.objs.size := Nat.ne_of_lt (Heap.lt_size ho)
    refine k _ _ [s.heap.objs.size, a] (fun i v => vs.toArray[i]? = some v) (fun i h => h.IsListIter s.heap.objs.size a i ∧ h.IsList a vs.toArray) G hnew ⟨?_, ?_, ?_, ?_, ?_⟩
    · have := Walks.list (prog := C.prog) (w := C.w) hh s.heap.objs.size a hne vs.toArray
      have e : vs.toArray.size = ys.length := by rw [List.size_toArray, hr.length]
      rwa [e] at this
    · exact ⟨⟨_, Heap.get?_push_size _ rfl, rfl, rfl⟩, hl.push _⟩
    · intro b hb
      simp only [List.mem_cons, List.not_mem_nil, or_false] at hb
      rcases hb with rfl | rfl
      · exact .inl rfl
      · exact .inr ⟨o, Heap.get?_push_of_some _ ho, .inl ⟨_, _, hd⟩, hp⟩
    · rintro i h ⟨⟨o, ho, hc, hd⟩, _⟩; exact ⟨o, _, _, ho, hc, .inl rfl, hd⟩
    · intro i cv hcv x hx
      obtain ⟨c, hc, V⟩ := hr.get i x hx
      have hcv' : vs[i]? = some cv := by simpa using hcv
      rw [hc] at hcv'; cases hcv'; exact V.grow G
  | tuple ys =>
    simp only [iterItems, Option.some.injEq] at hi; subst hi
    simp only [VR] at H; obtain ⟨a, vs, rfl, hp, hl, hr⟩ := H
    have hl' : s.heap.IsTuple a vs.toArray := hl
    refine wpAny_pyIter_tuple hl' ?_
    have G : Grow C.fls s { s with heap := s.heap.push { cls := .type "tuple_iterator", data := .fields #[.ref a, .int 0 0] } } := Grow.of (tk := s.toks) fun b o e => Heap.get?_push_of_some _ e
    obtain ⟨o, ho, hc, n, hd⟩ := id hl
    have hne : a ≠ s.heap.objs.size := Nat.ne_of_lt (Heap.lt_size ho)
    refine k _ _ [s.heap.objs.size, a] (fun i v => vs.toArray[i]? = some v) (fun i h => h.IsTupleIter s.heap.objs.size a i ∧ h.IsTuple a vs.toArray) G hnew ⟨?_, ?_, ?_, ?_, ?_⟩
    · have := Walks.tuple (prog := C.prog) (w := C.w) hh s.heap.objs.size a hne vs.toArray
      have e : vs.toArray.size = ys.length := by rw [List.size_toArray, hr.length]
      rwa [e] at this
    · exact ⟨⟨_, Heap.get?_push_size _ rfl, rfl, rfl⟩, hl'.push _⟩
    · intro b hb
      simp only [List.mem_cons, List.not_mem_nil, or_false] at hb
      rcases hb with rfl | rfl
      · exact .inl rfl
      · exact .inr ⟨o, Heap.get?_push_of_some _ ho, .inl ⟨_, _, hd⟩, hp⟩
    · rintro i h ⟨⟨o, ho, hc, hd⟩, _⟩; exact ⟨o, _, _, ho, hc, .inr (.inl rfl), hd⟩
    · intro i cv hcv x hx
      obtain ⟨c, hc, V⟩ := hr.get i x hx
      have hcv' : vs[i]? = some cv := by simpa using hcv
      rw [hc] at hcv'; cases hcv'; exact V.grow G
  | range a b =>
    simp only [iterItems] at hi
    split at hi
    · rename_i hb
      simp only [Option.some.injEq] at hi; subst hi
      simp only [VR] at H; obtain ⟨r, t, u, c, rfl, hp, hr⟩ := H
      refine wpAny_pyIter_range hr (small_one hb.1 hb.2.1 hb.2.2.1 hb.2.2.2) ?_
      have G : Grow C.fls s { s with heap := s.heap.push { cls := .type "range_iterator", data := .fields #[rawInt a, rawInt (Builtin.Range.rangeSize a b 1), rawInt 1] } } := Grow.of (tk := s.toks) fun b o e => Heap.get?_push_of_some _ e
      have hlen : (rangeL a b).length = (b - a).toNat := by simp [rangeL]
      refine k _ _ [s.heap.objs.size] (fun i v => ∃ t, v = .int (a + i * 1) t) (fun i h => IsRangeIter h s.heap.objs.size (a + (i : Nat) * 1) ((((b - a).toNat : Nat) : Int) - (i : Nat)) 1) G hnew ⟨?_, ?_, ?_, ?_, ?_⟩
      · rw [hlen]; exact Walks.range hh s.heap.objs.size a 1 (b - a).toNat
      · have e1 : Builtin.Range.rangeSize a b 1 = ((b - a).toNat : Int) := by rw [rangeSize_one]; split <;> omega
        rw [e1]
        show IsRangeIter _ _ (a + ((0 : Nat) : Int) * 1) (((b - a).toNat : Int) - ((0 : Nat) : Int)) 1
        rw [show a + ((0 : Nat) : Int) * 1 = a by omega, show ((b - a).toNat : Int) - ((0 : Nat) : Int) = ((b - a).toNat : Int) by omega]
        exact Heap.get?_push_size _ rfl
      · intro b hb; simp only [List.mem_singleton] at hb; exact .inl hb
      · rintro i h ho; exact ⟨_, _, _, ho, rfl, .inr (.inr rfl), rfl⟩
      · rintro i cv ⟨t, rfl⟩ x hx
        simp only [rangeL, List.getElem?_map] at hx
        cases hq : (List.range (b - a).toNat)[i]? with
        | none => rw [hq] at hx; cases hx
        | some j =>
          rw [hq] at hx
          obtain ⟨hlt, e⟩ := List.getElem?_eq_some_iff.mp hq
          simp only [List.getElem_range] at e; subst e
          simp only [Option.map_some, Option.some.injEq] at hx; subst hx
          simp only [VR]; exact ⟨t, by rw [Int.mul_one]⟩
    · cases hi
  | _ => simp only [iterItems] at hi; cases hi

theorem wp_letOwned {M : Model} {A : Around} {s : Shared} {I : Addr} {target : Expr} {v : Value} {o : Obj} {vs : Array Value} {nm : String} {Qu : Unit → Shared → Prop} {E : Value → Shared → Prop} (ho : s.heap.get? I = some o) (hc : o.cls = .type nm)
    (hn : nm = "list_iterator" ∨ nm = "tuple_iterator" ∨ nm = "range_iterator") (hd : o.data = .fields vs) (h : Qu () s) : wpAny M A (letOwnedTupleGo target (.ref I) v) Qu E s := by
  have hnot : (["enumerate", "zip", "dict_itemiterator", "dict_reverseitemiterator", "odict_iterator", "itertools.zip_longest", "itertools.pairwise"].contains nm) = false := by
    rcases hn with rfl | rfl | rfl <;> decide
  unfold letOwnedTupleGo
  split
  · cases v with
    | ref a =>
      refine wpAny_bind (wpAny_load ho ?_)
      rw [hc, hd]
      simp only [hnot, Bool.false_and, Bool.false_eq_true, if_false]
      exact wpAny_pure h
    | _ => exact wpAny_pure h
  · cases v with
    | ref a =>
      refine wpAny_bind (wpAny_load ho ?_)
      rw [hc, hd]
      simp only [hnot, Bool.false_and, Bool.false_eq_true, if_false]
      exact wpAny_pure h
    | _ => exact wpAny_pure h
  · exact wpAny_pure h
end
end Mine

end
section
open PySem PyProof.Rows
set_option Elab.async false
set_option autoImplicit false
set_option linter.unusedVariables false
namespace Mine

section
variable {C : Cfg} {σ : St} {Q : AFlow → St → Prop} {X : Bool → St → Prop}

theorem notVal_iter {o : Obj} {vs : Array Value} {nm : String} (hc : o.cls = .type nm) (hn : nm = "list_iterator" ∨ nm = "tuple_iterator" ∨ nm = "range_iterator") (hd : o.data = .fields vs) : ¬ isVal o :=
  notVal_exc hc (by rcases hn with rfl | rfl | rfl <;> decide) hd

/-- what a loop carries from turn to turn -/
structure Turn (C : Cfg) (O : Addr → Prop) (s : Shared) (I : Addr) (xs : List AVal) (fp : List Addr) (Pi : Nat → Value → Prop) (St : Nat → Heap → Prop) (i : Nat) (σ' : Mine.St) (g' : Str → Addr) (s' : Shared) : Prop where
  R : Rel C σ' g' s'
  S : Step C O s (Ow σ' g') s'
  st : St i s'.heap
  fps : ∀ b ∈ fp, b = I ∨ ∃ o, s'.heap.get? b = some o ∧ isVal o ∧ ¬ Av C σ' g' b
  itm : ∀ j cv, Pi j cv → ∀ x, xs[j]? = some x → VR C.prog C.w (Av C σ' g') s'.heap x cv

/-- a block's step within a turn -/
theorem Turn.step (K : CfgOk C) {O : Addr → Prop} {s : Shared} {I : Addr} {xs : List AVal} {fp : List Addr} {Pi : Nat → Value → Prop} {St : Nat → Heap → Prop} {i : Nat} {σ₁ σ₂ : Mine.St} {g₁ g₂ : Str → Addr} {s₁ s₂ : Shared}
    (W : Walks C.prog C.w C.A I fp [I] xs.length Pi St) (hrec : ∀ i h, St i h → ∃ o vs nm, h.get? I = some o ∧ o.cls = .type nm ∧ (nm = "list_iterator" ∨ nm = "tuple_iterator" ∨ nm = "range_iterator") ∧ o.data = .fields vs)
    (T : Turn C O s I xs fp Pi St i σ₁ g₁ s₁) (R₂ : Rel C σ₂ g₂ s₂) (S₂ : Step C (Ow σ₁ g₁) s₁ (Ow σ₂ g₂) s₂) : Turn C O s I xs fp Pi St i σ₂ g₂ s₂ := by
  obtain ⟨oI, vsI, nm, hI, hcI, hnI, hdI⟩ := hrec i _ T.st
  obtain ⟨m, RM⟩ := id T.R
  have hIkept : s₂.heap.get? I = some oI := by
    refine (S₂.keep I oI hI fun q => ?_).fields hdI
    rcases q with q | q | ⟨⟨y, u⟩, hy, q⟩
    · obtain ⟨oL, es, ep, ho, hd, _⟩ := RM.ns
      rw [← q, hI] at ho; cases ho; rw [hdI] at hd; cases hd
    · obtain ⟨y, hy⟩ := K.wcell I q
      obtain ⟨u, oc, ho, hd⟩ := RM.cells y I hy
      rw [hI] at ho; cases ho; rw [hdI] at hd; cases hd
    · obtain ⟨_, h2, _⟩ := RM.ow y u hy
      obtain ⟨o', ho', hv⟩ := h2.isVal
      simp only at q
      rw [q, hI] at ho'; cases ho'
      exact notVal_iter hcI hnI hdI hv
  refine ⟨R₂, T.S.trans S₂, W.frame i _ _ T.st fun b hb o e => ?_, fun b hb => ?_, fun j cv hj x hx => VR.step K T.R S₂ (T.itm j cv hj x hx)⟩
  · rcases T.fps b hb with rfl | ⟨o', e', hv, hp⟩
    · rw [hI] at e; cases e; exact hIkept
    · rw [e'] at e; cases e; exact (val_step K T.R S₂ e' hv hp).2
  · rcases T.fps b hb with rfl | ⟨o', e', hv, hp⟩
    · exact .inl rfl
    · have := val_step K T.R S₂ e' hv hp
      exact .inr ⟨o', this.2, hv, this.1⟩

/-- the iterator has moved on -/
theorem Turn.moved (K : CfgOk C) {O : Addr → Prop} {s : Shared} {I : Addr} {xs : List AVal} {fp : List Addr} {Pi : Nat → Value → Prop} {St : Nat → Heap → Prop} {i j : Nat} {σ₁ : Mine.St} {g₁ : Str → Addr} {s₁ : Shared} {h' : Heap} {tk : Nat}
    (hB : BaseIn C s) (hI0 : s.heap.get? I = none) (hrec : ∀ i h, St i h → ∃ o vs nm, h.get? I = some o ∧ o.cls = .type nm ∧ (nm = "list_iterator" ∨ nm = "tuple_iterator" ∨ nm = "range_iterator") ∧ o.data = .fields vs)
    (T : Turn C O s I xs fp Pi St i σ₁ g₁ s₁) (hst : St j h') (hk : ∀ b o, b ∉ [I] → s₁.heap.get? b = some o → h'.get? b = some o) : Turn C O s I xs fp Pi St j σ₁ g₁ { s₁ with heap := h', toks := tk } := by
  obtain ⟨oI, vsI, nm, hI, hcI, hnI, hdI⟩ := hrec i _ T.st
  have ht : Tch C.fls s.heap s₁.heap h' := fun b o e => by
    by_cases q : b = I
    · subst q
      rw [hI] at e; cases e
      exact .inl ⟨hI0, ⟨_, hdI⟩, notVal_iter hcI hnI hdI⟩
    · have e' := hk b o (by simpa using q) e
      exact .inr (.inl e')
  refine ⟨((T.R.tch ht hB.1 hB.2.1 hB.2.2).toks tk), ((T.S.tch ht).toks tk), hst, fun b hb => ?_, fun j cv hj x hx => ?_⟩
  · rcases T.fps b hb with rfl | ⟨o', e', hv, hp⟩
    · exact .inl rfl
    · exact .inr ⟨o', ht.of_val e' hv, hv, hp⟩
  · exact VR.mono (fun b o e hv hp => ⟨hp, ht.of_val e hv⟩) _ _ (T.itm j cv hj x hx)

/-- the same, at the end of the walk: the iterator may look otherwise -/
theorem moved_end (K : CfgOk C) {O : Addr → Prop} {s : Shared} {I : Addr} {xs : List AVal} {fp : List Addr} {Pi : Nat → Value → Prop} {St : Nat → Heap → Prop} {i : Nat} {σ₁ : Mine.St} {g₁ : Str → Addr} {s₁ : Shared} {h' : Heap} {tk : Nat}
    (hB : BaseIn C s) (hI0 : s.heap.get? I = none) (hrec : ∀ i h, St i h → ∃ o vs nm, h.get? I = some o ∧ o.cls = .type nm ∧ (nm = "list_iterator" ∨ nm = "tuple_iterator" ∨ nm = "range_iterator") ∧ o.data = .fields vs)
    (T : Turn C O s I xs fp Pi St i σ₁ g₁ s₁) (hk : ∀ b o, b ∉ [I] → s₁.heap.get? b = some o → h'.get? b = some o) : Rel C σ₁ g₁ { s₁ with heap := h', toks := tk } ∧ Step C O s (Ow σ₁ g₁) { s₁ with heap := h', toks := tk } := by
  obtain ⟨oI, vsI, nm, hI, hcI, hnI, hdI⟩ := hrec i _ T.st
  have ht : Tch C.fls s.heap s₁.heap h' := fun b o e => by
    by_cases q : b = I
    · subst q
      rw [hI] at e; cases e
      exact .inl ⟨hI0, ⟨_, hdI⟩, notVal_iter hcI hnI hdI⟩
    · have e' := hk b o (by simpa using q) e
      exact .inr (.inl e')
  exact ⟨((T.R.tch ht hB.1 hB.2.1 hB.2.2).toks tk), ((T.S.tch ht).toks tk)⟩
end
end Mine

end
section
open PySem PyProof.Rows
set_option Elab.async false
set_option autoImplicit false
set_option linter.unusedVariables false
namespace Mine

section
variable {C : Cfg} {σ : St} {Q : AFlow → St → Prop} {X : Bool → St → Prop}

theorem x1_for (K : CfgOk C) (hh : C.A.handled = none) {target iter : Expr} {body orelse : List Stmt} {pos : Pos} {v : AVal} {xs : List AVal} (he : EV C σ iter v) (hi : iterItems v = some xs) (inv : Nat → St → Prop) (h0 : inv 0 σ)
    (turn : ∀ i x σ', xs[i]? = some x → inv i σ' → ∃ σ₁, ASG C σ' target x σ₁ ∧ XS C σ₁ body (fun f σ₂ => match f with | .next | .cont => inv (i + 1) σ₂ | .brk => Q .next σ₂ | .ret u => Q (.ret u) σ₂) (fun _ _ => False))
    (done : ∀ σ', inv xs.length σ' → XS C σ' orelse Q (fun _ _ => False)) (hs : ∀ x, foldedSetIterable iter C.env x = pure x) : X1 C σ (.For target iter body orelse pos) Q X := fun g s R => by
  have hB := R.baseIn
  refine wpAny_noRaise ?_
  refine wpAny_For (he g s _ _ R fun cv s₁ G1 V1 => wp_iter hh (fun b hb => (R.grow G1).av_live hb) V1 hi fun I s₂ fp Pi St G2 hI it => ?_) hs
  have G := G1.trans G2
  have hI0 : s.heap.get? I = none := by
    cases e : s.heap.get? I with
    | none => rfl
    | some o => obtain ⟨o', e', _⟩ := (G1.keep _ o e).data; rw [hI] at e'; cases e'
  have T0 : Turn C (Ow σ g) s I xs fp Pi St 0 σ g s₂ := ⟨R.grow G, G.step, it.st0, it.fps, it.itm⟩
  refine codeAny_forLoop_any (fun n s' => ∃ i σ' g', n = xs.length + 1 - i ∧ i ≤ xs.length ∧ Turn C (Ow σ g) s I xs fp Pi St i σ' g' s' ∧ inv i σ') ?_ (xs.length + 1) ⟨0, σ, g, rfl, Nat.zero_le _, T0, h0⟩
  rintro n s₃ ⟨i, σ₃, g₃, rfl, hle, T, hinv⟩
  by_cases hlt : i < xs.length
  · refine it.W.item i s₃ _ _ hlt T.st fun cv h' tk hP hst hk => ?_
    have T' := T.moved (tk := tk) K hB hI0 it.recd hst hk
    obtain ⟨oI, vsI, nm, hoI, hcI, hnI, hdI⟩ := it.recd _ _ T'.st
    refine wp_letOwned hoI hcI hnI hdI ?_
    obtain ⟨σ₄, hA, hX⟩ := turn i xs[i] σ₃ (by simp [hlt]) hinv
    refine hA g₃ _ cv _ _ T'.R (T'.itm i cv hP _ (by simp [hlt])) fun s₄ R₄ S₄ => ?_
    have T4 := T'.step K it.W it.recd R₄ S₄
    refine wpAny_mono (hX g₃ s₄ R₄) (fun f s₅ q => ?_) fun e s₅ q => ?_
    · obtain ⟨σ₅, g₅, f', R₅, S₅, F₅, hQ⟩ := q
      have T5 := T4.step K it.W it.recd R₅ S₅
      cases f' with
      | next => simp only [FlowR] at F₅; subst F₅; exact ⟨xs.length + 1 - (i + 1), by lia, i + 1, σ₅, g₅, rfl, hlt, T5, hQ⟩
      | cont => simp only [FlowR] at F₅; subst F₅; exact ⟨xs.length + 1 - (i + 1), by lia, i + 1, σ₅, g₅, rfl, hlt, T5, hQ⟩
      | brk => simp only [FlowR] at F₅; subst F₅; exact ⟨σ₅, g₅, .next, R₅, T5.S, rfl, hQ⟩
      | ret v =>
        have F' := F₅
        simp only [FlowR] at F₅; obtain ⟨cv, rfl, _⟩ := F₅; exact ⟨σ₅, g₅, .ret v, R₅, T5.S, F', hQ⟩
    · obtain ⟨_, _, _, _, _, _, hF⟩ := q; exact hF.elim
  · have hi' : i = xs.length := by lia
    subst hi'
    refine it.W.done s₃ _ _ T.st fun h' tk hk => ?_
    obtain ⟨R₄, S₄⟩ := moved_end (tk := tk) K hB hI0 it.recd T hk
    refine wpAny_mono (done σ₃ hinv g₃ _ R₄) (fun f s₅ q => ?_) fun e s₅ q => ?_
    · exact q.pre S₄
    · obtain ⟨_, _, _, _, _, _, hF⟩ := q; exact hF.elim
end

/-- room on the stacks -/
structure Room (A : Around) (lvl : Nat) : Prop where
  handled : A.handled = none
  depth : A.depth + lvl < recursionLimit
  units : A.units + 3 * lvl + 100 < cLine

/-- what a def of the text gives, by value -/
def FnOk (prog : Program) (w : World) (base : Heap) (fa : Addr) (lvl : Nat) (vs : List AVal) (v : AVal) : Prop :=
  ∀ (A : Around) (fls : List Env) (P₀ : Addr → Prop) (s : Shared) (args : List Value) (R : Result → Shared → Prop), Room A lvl → A.frames = some fls → (∀ b o, base.get? b = some o → s.heap.get? b = some o) →
    s.heap.FunFrames base fls → (∀ b, IsFr fls b → ∃ o, s.heap.get? b = some o ∧ ∃ es ep, o.data = .dict es ep) → Lives P₀ s.heap → (∀ b, P₀ b → base.get? b = none) → VRs prog w P₀ s.heap vs args →
    (∀ cv s', Grow fls s s' → VR prog w P₀ s'.heap v cv → R (.ok (.ret cv)) s') → codeAny (model prog w) A (.call (.ref fa) ⟨args, []⟩) R s

section
variable {C : Cfg} {σ : St}
theorem ev_callF (K : CfgOk C) {f : Str} {fa : Addr} {p pos : Pos} {e : Expr} {es : List Expr} {vs : List AVal} {v : AVal} {lvl : Nat} {o : Obj} {fd : FuncData} (hR : Room C.A lvl) (hg : GlobG C f (.ref fa)) (ho : C.base.get? fa = some o) (hfd : o.data = .func fd) (hd : (f == ("__debug__" : Str)) = false)
    (ha : EVs true C σ (e :: es) vs) (hf : FnOk C.prog C.w C.base fa lvl vs v) (hn : notStar e) : EV C σ (.Call (.Name f p) (e :: es) [] pos) v := fun g s E Q R k => by
  rw [eval_call_name]
  refine wpAny_bind (wp_globG K R hg hd ?_)
  refine callWith_def hfd (ha pos g s _ _ R fun cvs s₁ G1 V1 => ?_) (hn _ _)
  have R₁ := R.grow G1
  obtain ⟨m, RM⟩ := id R₁
  refine ⟨RM.base _ _ ho, wpAny_call ?_⟩
  refine hf C.A C.fls (Av C σ g) s₁ cvs _ hR K.frames RM.base RM.frames RM.dicts (fun b hb => R₁.av_live hb) (fun b hb => hb.elim (K.pnew b) fun ⟨⟨x, u⟩, hp, q⟩ => by subst q; exact (RM.ow x u hp).2.2.2) V1 fun cv s' G V => k cv s' (G1.trans G) V
end

/-- the frame of a call -/
def callCfg (prog : Program) (w : World) (base : Heap) (mg mb : Str → Option Value) (A : Around) (fls : List Env) (P₀ : Addr → Prop) (fd : FuncData) (L fa : Addr) : Cfg :=
  { prog, w, A := A.deeper (callEnvC fd L fa), env := callEnvC fd L fa, base, fls := callEnvC fd L fa :: fls, P₀, wc := ((callEnvC fd L fa).cells.map (·.1)).filterMap fun x => (callEnvC fd L fa).cells.lookup x, mg, mb, rz := false }

theorem bindL_locals {kindOf : Str → Option NameKind} : ∀ (ps : List Str) (args : List Value) (m : Str → Option Value), (∀ x ∈ ps, kindOf x = some .local) → ps.Nodup → ∀ (i : Nat) (x : Str) (v : Value), ps[i]? = some x → args[i]? = some v → bindL kindOf (ps.zip args) m x = some v := by
  have key : ∀ (ps : List Str) (args : List Value) (m : Str → Option Value) (x : Str), (∀ y ∈ ps, kindOf y = some .local) → x ∉ ps → bindL kindOf (ps.zip args) m x = m x := by
    intro ps
    induction ps with
    | nil => intros; rfl
    | cons p ps ih =>
      intro args m x hl hx
      cases args with
      | nil => rfl
      | cons a args =>
        simp only [List.zip_cons_cons, bindL]
        rw [if_pos (hl p (by simp)), ih args _ x (fun y hy => hl y (List.mem_cons_of_mem _ hy)) fun q => hx (List.mem_cons_of_mem _ q)]
        rw [if_neg (fun q : x = p => hx (by rw [q]; exact List.mem_cons_self))]
  intro ps
  induction ps with
  | nil => intro args m _ _ i x v h; simp at h
  | cons p ps ih =>
    intro args m hl hnd i x v hx hv
    cases args with
    | nil => simp at hv
    | cons a args =>
      simp only [List.zip_cons_cons, bindL]
      rw [if_pos (hl p (by simp))]
      obtain ⟨h1, h2⟩ := List.nodup_cons.mp hnd
      cases i with
      | zero =>
        simp only [List.getElem?_cons_zero, Option.some.injEq] at hx hv
        subst hx hv
        rw [key ps args _ p (fun y hy => hl y (List.mem_cons_of_mem _ hy)) h1, if_pos rfl]
      | succ i =>
        simp only [List.getElem?_cons_succ] at hx hv
        exact ih args _ (fun y hy => hl y (List.mem_cons_of_mem _ hy)) h2 i x v hx hv

/-- a contract by the body -/
theorem fnOk_of {prog : Program} {w : World} {base : Heap} {mg mb : Str → Option Value} {fa : Addr} {o : Obj} {fd : FuncData} {body : List Stmt} {ps : List Str} {lvl : Nat} {vs : List AVal} {v : AVal}
    (ho : base.get? fa = some o) (hfd : o.data = .func fd) (hcd : base.CodeRec fd.code fd.qualname) (hbody : fd.body = .stmts body) (hclo : fd.closure = []) (hgl : fd.globals = mainGlobals) (hbl : fd.builtins = builtinsNs)
    (hbind : ∀ args : List Value, args.length = ps.length → bindArgs fd ⟨args, []⟩ = pure (ps.zip args)) (hloc : ∀ x ∈ ps, fd.scope.names.lookup x = some .local) (hnd : ps.Nodup) (hlen : vs.length = ps.length)
    (gl : base.Ns mainGlobals mg) (bl : base.Ns builtinsNs mb) (lim : base.NoLimit)
    (hco : fd.scope.isCoroutine = false) (hgen : fd.scope.isGenerator = false) (hk : fd.scope.kind = .function)
    (hX : ∀ A fls P₀ L, CfgOk (callCfg prog w base mg mb A fls P₀ fd L fa) → Room (A.deeper (callEnvC fd L fa)) lvl → (∀ b, P₀ b → b < L) → XS (callCfg prog w base mg mb A fls P₀ fd L fa) ⟨ps.zip vs, []⟩ body (fun f _ => f = .ret v) (fun _ _ => False)) :
    FnOk prog w base fa (lvl + 1) vs v := fun A fls P₀ s args R hR hfr hbase hff hdicts hP hPn hV k => by
  have hal : args.length = ps.length := hV.length.trans hlen
  refine codeAny_call_cells (Nat.lt_of_le_of_lt (Nat.le_add_right _ _) hR.depth) (hbase _ _ ho) hfd (lim.keeps hbase) (hcd.keeps hbase) hbody (hbind args hal) hclo (fun x hx => .inl (hloc _ (List.of_mem_zip hx).1)) (fun s₁ x => ?_) hco hgen hk
  generalize hL : s.heap.objs.size = L at x
  obtain ⟨⟨⟨h₁, tk₁, hs₁⟩, hns, hkeep, hfresh⟩, hcell, hapart, habove⟩ := x
  have hLnew : ∀ b, L ≤ b → s.heap.get? b = none := fun b hb => Heap.get?_none_of_le (hL ▸ hb)
  have hbnew : ∀ b, L ≤ b → base.get? b = none := fun b hb => by
    cases e : base.get? b with
    | none => rfl
    | some o => have := hbase b o e; rw [hLnew b hb] at this; cases this
  have wmem : ∀ c, c ∈ (callCfg prog w base mg mb A fls P₀ fd L fa).wc → ∃ x, (callEnvC fd L fa).cells.lookup x = some c := fun c hc => by
    obtain ⟨x, _, q⟩ := List.mem_filterMap.mp hc; exact ⟨x, q⟩
  have K : CfgOk (callCfg prog w base mg mb A fls P₀ fd L fa) := {
    kind := hk, globals := hgl, builtins := hbl
    frames := by show (A.frames.map ((callEnvC fd L fa) :: ·)) = some (callEnvC fd L fa :: fls); rw [hfr]; rfl
    apart := fun x y c h1 h2 => PySem.name_of_addr hapart (PySem.mem_of_lookup h1) (PySem.mem_of_lookup h2), lnew := hbnew _ (Nat.le_refl _)
    wnew := fun c hc => by obtain ⟨x, q⟩ := wmem c hc; exact hbnew _ (Nat.le_of_lt (habove x c (PySem.mem_of_lookup q)))
    wcell := wmem
    gl, bl, lim, pnew := hPn }
  have hlocs : (callEnvC fd L fa).locals = L := rfl
  have hP' : ∀ b, P₀ b → b < L := fun b hb => by obtain ⟨o, e⟩ := hP b hb; rw [← hL]; exact Heap.lt_size e
  have hroom : Room (A.deeper (callEnvC fd L fa)) lvl := ⟨hR.handled, by have := hR.depth; show A.depth + 1 + lvl < _; lia, by have := hR.units; show A.units + 3 + 3 * lvl + 100 < _; lia⟩
  obtain ⟨oL, esL, epL, hoL, hdL, hrL⟩ := id hns
  have hns' : s₁.heap.Ns L (bindL (callEnvC fd L fa).kindOf (ps.zip args) fun _ => none) := hns
  have R0 : Rel (callCfg prog w base mg mb A fls P₀ fd L fa) ⟨ps.zip vs, []⟩ (fun _ => 0) s₁ := by
    refine ⟨_, {
      base := fun b o e => hkeep b o (hbase b o e)
      frames := ?_
      dicts := ?_
      p0 := fun b hb => let ⟨o, e⟩ := hP b hb; ⟨o, hkeep b o e⟩
      ns := hns'
      cells := fun x c hc => ⟨_, hcell x c hc⟩
      fr := ?_
      ow := fun x v hx => (nomatch hx)
      inj := fun p hp => (nomatch hp)
      hdl := fun q => (nomatch q) }⟩
    · refine ⟨by rw [show (callEnvC fd L fa).scope.kind = _ from hk]; decide, ⟨L, oL, rfl, hbnew _ (Nat.le_refl _), hoL, fun vs q => by rw [hdL] at q; cases q⟩, ?_⟩
      exact hff.of_keeps fun b o e _ => ⟨o, hkeep b o e, rfl⟩
    · rintro b ⟨e, he, hf⟩
      rcases List.mem_cons.mp he with rfl | he
      · have : L = b := Option.some.inj hf
        subst this; exact ⟨oL, hoL, esL, epL, hdL⟩
      · obtain ⟨o, ho, hd⟩ := hdicts b ⟨e, he, hf⟩
        exact ⟨o, hkeep b o ho, hd⟩
    · intro x u hx
      obtain ⟨i, hi⟩ := List.getElem?_of_mem hx
      have hx1 : ps[i]? = some x := by
        have := congrArg (Option.map Prod.fst) hi
        rw [← List.getElem?_map, List.map_fst_zip (by lia)] at this
        simpa using this
      have hu1 : vs[i]? = some u := by
        have := congrArg (Option.map Prod.snd) hi
        rw [← List.getElem?_map, List.map_snd_zip (by lia)] at this
        simpa using this
      obtain ⟨cv, hcv, hV'⟩ := hV.get i u hu1
      refine ⟨cv, .inl ⟨hloc x (List.mem_of_getElem? hx1), bindL_locals ps args _ hloc hnd i x cv hx1 hcv⟩, ?_⟩
      refine VR.mono (fun b o e _ hp => ⟨fun q => ?_, hkeep b o e⟩) _ _ hV'
      rcases q with q | ⟨p, hp', _⟩
      · exact hp q
      · exact nomatch hp'
  refine wpAny_mono (hX A fls P₀ L K hroom hP' (fun _ => 0) s₁ R0) (fun f s₂ q => ?_) fun e s₂ q => ?_
  · obtain ⟨σ₂, g₂, f', R₂, S₂, F₂, rfl⟩ := q
    obtain ⟨cv, rfl, V⟩ := F₂
    refine k cv s₂ ⟨by rw [S₂.eq, hs₁], fun b o e => ?_⟩ (VR.mono (fun b o e _ hp => ⟨fun q => hp (.inl q), e⟩) _ _ V)
    have hlt : b < L := by rw [← hL]; exact Heap.lt_size e
    have kk := S₂.keep b o (hkeep b o e) fun q => by
      rcases q with q | q | ⟨p, hp', _⟩
      · rw [hlocs.symm.trans q.symm |>.symm] at hlt; exact Nat.lt_irrefl _ hlt
      · obtain ⟨x, r⟩ := wmem b q
        exact absurd (habove x b (PySem.mem_of_lookup r)) (Nat.lt_asymm hlt)
      · exact nomatch hp'
    rcases kk with kk | ⟨⟨e', he', hf⟩, hd, hsl⟩
    · exact .inl kk
    · rcases List.mem_cons.mp he' with rfl | he'
      · have : L = b := Option.some.inj hf
        subst this; exact absurd hlt (Nat.lt_irrefl _)
      · exact .inr ⟨⟨e', he', hf⟩, hd, hsl⟩
  · obtain ⟨_, _, _, _, _, _, hF⟩ := q; exact hF.elim
end Mine

end
section
open PySem PyProof.Rows
set_option Elab.async false
set_option autoImplicit false
set_option linter.unusedVariables false
namespace Mine

/-! comprehensions -/
theorem lookup_cellsFrom : ∀ (names : List (Str × NameKind)) (n : Nat) (acc : List (Str × Addr)) (x : Str) (c : Addr), (cellsFrom n names acc).lookup x = some c → (n ≤ c ∧ (x, NameKind.cell) ∈ names) ∨ acc.lookup x = some c
  | [], n, acc, x, c, h => .inr h
  | (y, k) :: r, n, acc, x, c, h => by
    unfold cellsFrom at h
    split at h
    · rename_i hk
      rcases lookup_cellsFrom r (n + 1) _ x c h with ⟨h1, h2⟩ | h1
      · exact .inl ⟨by exact Nat.le_of_succ_le h1, .tail _ h2⟩
      · rw [List.lookup_cons] at h1
        cases hb : x == y with
        | true =>
          rw [hb] at h1; cases h1
          refine .inl ⟨Nat.le_refl _, ?_⟩
          have e1 : x = y := beq_iff_eq.mp hb
          have e2 : k = NameKind.cell := by cases k <;> first | rfl | (exact absurd hk (by decide))
          rw [e1, e2]; exact .head _
        | false => rw [hb] at h1; exact .inr h1
    · rcases lookup_cellsFrom r n _ x c h with ⟨h1, h2⟩ | h1
      · exact .inl ⟨h1, .tail _ h2⟩
      · exact .inr h1
theorem apart_cellsFrom : ∀ (names : List (Str × NameKind)) (n : Nat) (acc : List (Str × Addr)), (∀ x c, acc.lookup x = some c → c < n) → (∀ x y c, acc.lookup x = some c → acc.lookup y = some c → x = y) →
    ∀ x y c, (cellsFrom n names acc).lookup x = some c → (cellsFrom n names acc).lookup y = some c → x = y
  | [], n, acc, _, h, x, y, c, h1, h2 => h x y c h1 h2
  | (z, k) :: r, n, acc, hlt, h, x, y, c, h1, h2 => by
    unfold cellsFrom at h1 h2
    split at h1
    · rename_i hk
      rw [if_pos hk] at h2
      refine apart_cellsFrom r (n + 1) _ (fun u d hd => ?_) (fun u v d hd hd' => ?_) x y c h1 h2
      · rw [List.lookup_cons] at hd
        split at hd
        · cases hd; exact Nat.lt_succ_self _
        · exact Nat.lt_succ_of_lt (hlt u d hd)
      · rw [List.lookup_cons] at hd hd'
        cases a : (u == z) <;> cases b : (v == z) <;> rw [a] at hd <;> rw [b] at hd'
        · exact h u v d hd hd'
        · cases hd'; exact absurd (hlt u _ hd) (Nat.lt_irrefl _)
        · cases hd; exact absurd (hlt v _ hd') (Nat.lt_irrefl _)
        · rw [beq_iff_eq.mp a, beq_iff_eq.mp b]
    · rename_i hk
      rw [if_neg hk] at h2
      exact apart_cellsFrom r n acc hlt h x y c h1 h2
theorem isCell_pushCells : ∀ (names : List (Str × NameKind)) (h : Heap) (acc : List (Str × Addr)) (x : Str) (c : Addr), (cellsFrom h.objs.size names acc).lookup x = some c → h.objs.size ≤ c → (∀ y d, acc.lookup y = some d → d < h.objs.size) → (pushCells h names).IsCell c none
  | [], h, acc, x, c, e, hc, ha => absurd (ha x c e) (Nat.not_lt.mpr hc)
  | (y, k) :: r, h, acc, x, c, e, hc, ha => by
    unfold cellsFrom at e
    unfold pushCells
    split at e
    · rename_i hk
      rw [if_pos hk]
      have hsz : (h.push { cls := .type "cell", data := .cell none }).objs.size = h.objs.size + 1 := Heap.size_push ..
      by_cases hcc : c = h.objs.size
      · subst hcc
        exact ⟨_, pushCells_keeps r _ _ _ (Heap.get?_push_size _ rfl), rfl⟩
      · have hc' : h.objs.size + 1 ≤ c := Nat.lt_of_le_of_ne hc (Ne.symm hcc)
        by_cases hin : ∃ d, ((y, h.objs.size) :: acc).lookup x = some d ∧ d = c
        · obtain ⟨d, hd, rfl⟩ := hin
          rw [List.lookup_cons] at hd
          split at hd
          · cases hd; exact absurd rfl hcc
          · exact absurd (ha x d hd) (Nat.not_lt.mpr hc)
        · rw [← hsz] at e hc'
          refine isCell_pushCells r _ ((y, h.objs.size) :: acc) x c (by rw [hsz] at e ⊢; exact e) hc' fun z d hd => ?_
          rw [hsz]
          rw [List.lookup_cons] at hd
          split at hd
          · cases hd; exact Nat.lt_succ_self _
          · exact Nat.lt_succ_of_lt (ha z d hd)
    · rename_i hk
      rw [if_neg hk]
      exact isCell_pushCells r h acc x c e hc ha

/-- the cells that a comprehension takes over -/
def closL (cells : List (Str × Addr)) : List (Str × NameKind) → List (Str × Addr) → List (Str × Addr)
  | [], acc => acc
  | (n, k) :: r, acc => if k == .free then closL cells r ((n, (cells.lookup n).getD 0) :: acc) else closL cells r acc
theorem closureFor_closL {scope : Scope} {env : Env} (h : ∀ n, (n, NameKind.free) ∈ scope.names → ∃ c, env.cells.lookup n = some c) : closureFor scope env = pure (closL env.cells scope.names []) := by
  unfold closureFor
  have key : ∀ (names : List (Str × NameKind)) (acc : List (Str × Addr)), (∀ n, (n, NameKind.free) ∈ names → ∃ c, env.cells.lookup n = some c) →
      (forIn names acc (fun (x : Str × NameKind) (cs : List (Str × Addr)) => (if (x.2 == NameKind.free) = true then do let a ← cellOf env x.1; pure (ForInStep.yield ((x.1, a) :: cs)) else pure (ForInStep.yield cs) : Sem _)) : Sem (List (Str × Addr))) = pure (closL env.cells names acc) := by
    intro names
    induction names with
    | nil => intro acc _; rfl
    | cons p r ih =>
      intro acc hn
      obtain ⟨n, k⟩ := p
      rw [List.forIn_cons]
      by_cases hk : (k == NameKind.free) = true
      · have e2 : k = NameKind.free := by cases k <;> first | rfl | (exact absurd hk (by decide))
        subst e2
        obtain ⟨c, hc⟩ := hn n (.head _)
        simp only [closL, hk, if_true, cellOf, hc, Option.getD_some]
        show (pure (ForInStep.yield ((n, c) :: acc)) >>= _) = _
        rw [pure_bind]
        exact ih _ fun m hm => hn m (.tail _ hm)
      · simp only [closL, hk, if_false, Bool.false_eq_true]
        rw [pure_bind]
        exact ih _ fun m hm => hn m (.tail _ hm)
  have := key scope.names [] h
  refine Eq.trans ?_ this
  exact bind_pure _
theorem lookup_closL {cells : List (Str × Addr)} : ∀ (names : List (Str × NameKind)) (acc : List (Str × Addr)) (x : Str) (c : Addr), (∀ n, (n, NameKind.free) ∈ names → ∃ c, cells.lookup n = some c) → (closL cells names acc).lookup x = some c →
    cells.lookup x = some c ∨ acc.lookup x = some c
  | [], acc, x, c, _, h => .inr h
  | (n, k) :: r, acc, x, c, hn, h => by
    unfold closL at h
    split at h
    · rename_i hk
      have e2 : k = NameKind.free := by cases k <;> first | rfl | (exact absurd hk (by decide))
      subst e2
      obtain ⟨d, hd⟩ := hn n (.head _)
      rcases lookup_closL r _ x c (fun m hm => hn m (.tail _ hm)) h with h1 | h1
      · exact .inl h1
      · rw [List.lookup_cons] at h1
        split at h1
        · rename_i hb
          rw [hd] at h1; cases h1
          rw [beq_iff_eq.mp hb]; exact .inl hd
        · exact .inr h1
    · exact lookup_closL r _ x c (fun m hm => hn m (.tail _ hm)) h
end Mine

end
section
open PySem PyProof.Rows
set_option Elab.async false
set_option autoImplicit false
set_option linter.unusedVariables false
namespace Mine

def compCells (scope : Scope) (env : Env) (L : Addr) : List (Str × Addr) := cellsFrom (L + 1) scope.names (closL env.cells scope.names [])
def compEnvX (scope : Scope) (env : Env) (L : Addr) : Env :=
  { scope := relabel scope env, locals := L, globals := env.globals, cells := compCells scope env L, qual := env.qual, func := none, code := env.code, frame := env.frame, builtins := env.builtins }
def compCfg (C : Cfg) (scope : Scope) (P : Addr → Prop) (L : Addr) : Cfg :=
  { C with env := compEnvX scope C.env L, P₀ := P, wc := (((compCells scope C.env L).map (·.1)).filterMap fun x => (compCells scope C.env L).lookup x).filter fun c => decide (L < c), rz := false }
theorem compWc_of {C : Cfg} {scope : Scope} {P : Addr → Prop} {L c : Addr} (h : c ∈ (compCfg C scope P L).wc) : (∃ x, (compCells scope C.env L).lookup x = some c) ∧ L < c := by
  obtain ⟨h1, h2⟩ := List.mem_filter.mp h
  obtain ⟨x, _, h3⟩ := List.mem_filterMap.mp h1
  exact ⟨⟨x, h3⟩, by simpa using h2⟩

def EBs (C : Cfg) (σ : St) (ifs : List Expr) (b : Bool) : Prop :=
  ∀ g s E (Q : Bool → Shared → Prop), Rel C σ g s → (∀ s', Grow C.fls s s' → Q b s') →
    wpAny (model C.prog C.w) C.A (forIn ifs true fun c r => if r = true then do let ok ← isTrue c C.env (eval c C.env); pure (ForInStep.yield ok) else pure (ForInStep.yield r)) Q E s
theorem ebs_nil {C : Cfg} {σ : St} : EBs C σ [] true := fun g s E Q R k => wpAny_tests_nil (k s (Grow.refl _ _))

theorem compLoop_own {prog : Program} {w : World} {A : Around} {R : Result → Shared → Prop} {s : Shared} {elt target iter : Expr} {ifs : List Expr} {scope : Scope} {pos : Pos} {it acc : Value} {env : Env} (I : Nat → Shared → Prop)
    (turn : ∀ n s, I n s → ∀ E : Value → Shared → Prop, wpAny (model prog w) A (pyNext it) (fun r s₁ => match r with
      | none => R (.ok .next) s₁
      | some v => wpAny (model prog w) A (letOwnedTupleGo target it v) (fun _ s₁' => wpAny (model prog w) A (assign target env v) (fun _ s₂ =>
          wpAny (model prog w) A (forIn ifs true fun c r => if r = true then do let ok ← isTrue c env (eval c env); pure (ForInStep.yield ok) else pure (ForInStep.yield r)) (fun ok s₃ =>
            if ok = true then wpAny (model prog w) A (eval elt env) (fun x s₄ => wpAny (model prog w) A (call (.builtin "list.append") [acc, x]) (fun _ s₅ => ∃ m, m < n ∧ I m s₅) E s₄) E s₃
            else ∃ m, m < n ∧ I m s₃) E s₂) E s₁') E s₁) E s)
    (n : Nat) (h : I n s) : codeAny (model prog w) A (.compLoop (.ListComp elt [⟨target, iter, ifs, 0⟩] scope pos) 0 it acc env) R s := by
  refine codeAny_loop rfl I (fun n s hI => ?_) n h
  show wpAny _ A ((compTurn (.ListComp elt [⟨target, iter, ifs, 0⟩] scope pos) 0 it acc env).onRaise (fun x => do noteFrame x env; theTreesLotGoes x)) _ _ s
  refine wpAny_noted ?_
  rw [compTurn_list]
  refine wpAny_bind (wpAny_standAt (wpAny_bind (wpAny_mono (turn n s hI _) (fun r s₁ h₁ => ?_) fun _ _ h' => h')))
  cases r with
  | none => exact wpAny_pure h₁
  | some v =>
    refine wpAny_bind (wpAny_mono h₁ (fun _ s₁' h₁' => ?_) fun _ _ h' => h')
    refine wpAny_bind (wpAny_mono h₁' (fun _ s₂ h₂ => wpAny_bind (wpAny_mono h₂ (fun ok s₃ h₃ => ?_) fun _ _ h' => h')) fun _ _ h' => h')
    cases ok with
    | false => exact wpAny_pure ⟨rfl, h₃⟩
    | true =>
      exact wpAny_bind (wpAny_bind (wpAny_mono h₃ (fun x s₄ h₄ => wpAny_bind (wpAny_mono h₄ (fun _ s₅ h₅ => wpAny_pure (wpAny_pure ⟨rfl, h₅⟩)) fun _ _ h' => h')) fun _ _ h' => h'))

/-- the state inside a comprehension -/
structure CompAt (C : Cfg) (σ : St) (g : Str → Addr) (scope : Scope) (s₂ : Shared) (I D L : Addr) (S : Nat → Heap → Prop) (i : Nat) (ys : List AVal) (s' : Shared) : Prop where
  eq : s' = { s₂ with heap := s'.heap, toks := s'.toks }
  keep : ∀ b o, b ≠ I → s₂.heap.get? b = some o → Kept C.fls s'.heap b o
  ns : ∃ m, s'.heap.Ns L m
  cells : ∀ x c, (compCells scope C.env L).lookup x = some c → ∃ v, s'.heap.IsCell c v
  acc : ∃ vs, s'.heap.PlainList D vs.toArray ∧ VRs C.prog C.w (fun b => Av C σ g b ∨ b = D) s'.heap ys vs
  st : S i s'.heap

section
variable {C : Cfg} {σ : St} {g : Str → Addr} {scope : Scope} {s₂ : Shared} {I D L : Addr} {S : Nat → Heap → Prop} {fp : List Addr} {Pi : Nat → Value → Prop} {xs : List AVal}

/-- what stands fixed around a comprehension -/
structure CompIn (C : Cfg) (σ : St) (g : Str → Addr) (scope : Scope) (σc : List (Str × AVal)) (s₂ : Shared) (I D L : Addr) (xs : List AVal) (fp : List Addr) (Pi : Nat → Value → Prop) (S : Nat → Heap → Prop) : Prop where
  K : CfgOk C
  hh : C.A.handled = none
  R : Rel C σ g s₂
  it : It C (Av C σ g) s₂ I xs fp Pi S
  ilt : I < s₂.heap.objs.size
  dlt : s₂.heap.objs.size ≤ D
  llt : D < L
  skind : scope.kind = .function
  free : ∀ n, (n, NameKind.free) ∈ scope.names → ∃ c, C.env.cells.lookup n = some c
  ibase : C.base.get? I = none
  iav : ¬ Av C σ g I
  sub : ∀ x v, (x, v) ∈ σc → (x, v) ∈ σ.fr ∧ C.env.kindOf x ≠ some .local ∧ (compCells scope C.env L).lookup x = C.env.cells.lookup x ∧
    ((relabel scope C.env).names.lookup x = some .cell ∨ ((relabel scope C.env).names.lookup x = some .free ∧ (x == ("__classdict__" : Str)) = false))

theorem CompIn.notI {σc : List (Str × AVal)} (H : CompIn C σ g scope σc s₂ I D L xs fp Pi S) {o : Obj} (e : s₂.heap.get? I = some o) : ¬ isVal o ∧ ∃ vs, o.data = .fields vs := by
  obtain ⟨o', vs, nm, ho, hc, hn, hd⟩ := H.it.recd 0 _ H.it.st0
  rw [ho] at e; cases e
  exact ⟨notVal_iter hc hn hd, vs, hd⟩

theorem CompIn.cfgOk {σc : List (Str × AVal)} (H : CompIn C σ g scope σc s₂ I D L xs fp Pi S) (P : Addr → Prop) (hPn : ∀ b, P b → C.base.get? b = none) : CfgOk (compCfg C scope P L) := by
  obtain ⟨m, R⟩ := H.R
  have hbnew : ∀ b, s₂.heap.objs.size ≤ b → C.base.get? b = none := fun b hb => by
    cases e : C.base.get? b with
    | none => rfl
    | some o => have := R.base b o e; rw [Heap.get?_none_of_le hb] at this; cases this
  have hL : s₂.heap.objs.size ≤ L := Nat.le_trans H.dlt (Nat.le_of_lt H.llt)
  have hcl : ∀ x c, (closL C.env.cells scope.names []).lookup x = some c → C.env.cells.lookup x = some c := fun x c h => by
    rcases lookup_closL _ _ x c H.free h with h | h
    · exact h
    · cases h
  refine { kind := H.skind, globals := H.K.globals, builtins := H.K.builtins, frames := H.K.frames, apart := ?_, lnew := hbnew L hL, wnew := fun c hc => hbnew c ?_, wcell := fun c hc => (compWc_of hc).1, gl := H.K.gl, bl := H.K.bl, lim := H.K.lim, pnew := hPn }
  · refine apart_cellsFrom scope.names (L + 1) (closL C.env.cells scope.names []) (fun x c h => ?_) fun x y c h1 h2 => H.K.apart x y c (hcl x c h1) (hcl y c h2)
    obtain ⟨v, o, ho, _⟩ := R.cells x c (hcl x c h)
    exact Nat.lt_succ_of_lt (Nat.lt_of_lt_of_le (Heap.lt_size ho) hL)
  · exact Nat.le_trans hL (Nat.le_of_lt (compWc_of hc).2)

theorem CompIn.pn {σc : List (Str × AVal)} (H : CompIn C σ g scope σc s₂ I D L xs fp Pi S) : ∀ b, (Av C σ g b ∨ b = D) → C.base.get? b = none := fun b hb => by
  obtain ⟨m, R⟩ := H.R
  rcases hb with (hb | ⟨⟨x, u⟩, hp, rfl⟩) | rfl
  · exact H.K.pnew b hb
  · exact (R.ow x u hp).2.2.2
  · cases e : C.base.get? b with
    | none => rfl
    | some o => have := R.base b o e; rw [Heap.get?_none_of_le H.dlt] at this; cases this

theorem CompIn.rel {σc : List (Str × AVal)} (H : CompIn C σ g scope σc s₂ I D L xs fp Pi S) {i : Nat} {ys : List AVal} {s' : Shared} (T : CompAt C σ g scope s₂ I D L S i ys s') :
    Rel (compCfg C scope (fun b => Av C σ g b ∨ b = D) L) ⟨σc, []⟩ (fun _ => 0) s' := by
  obtain ⟨m, R⟩ := H.R
  obtain ⟨m', hns⟩ := T.ns
  have kD : ∀ b o, s₂.heap.get? b = some o → (∃ es ep, o.data = .dict es ep) → Kept C.fls s'.heap b o := fun b o e ⟨es, ep, hd⟩ => T.keep b o (fun q => by
    subst q; obtain ⟨_, vs, q⟩ := H.notI e; rw [hd] at q; cases q) e
  have kV : ∀ b o, s₂.heap.get? b = some o → isVal o → s'.heap.get? b = some o := fun b o e hv => (T.keep b o (fun q => by subst q; exact (H.notI e).1 hv) e).val hv
  have ka : ∀ b, Av C σ g b → ∃ o, s'.heap.get? b = some o := fun b hb => by
    obtain ⟨o, e⟩ := H.R.av_live hb
    obtain ⟨o', e', _⟩ := (T.keep b o (fun q => by subst q; exact H.iav hb) e).data
    exact ⟨o', e'⟩
  refine ⟨m', { base := fun b o e => ?_, frames := ?_, dicts := fun b hb => ?_, p0 := fun b hb => ?_, ns := hns, cells := T.cells, fr := fun x v hx => ?_, ow := fun x v hx => (nomatch hx), inj := fun p hp => (nomatch hp), hdl := fun q => (nomatch q) }⟩
  · exact (T.keep b o (fun q => by subst q; have e' : C.base.get? b = some o := e; rw [H.ibase] at e'; cases e') (R.base b o e)).notFr (R.base_notFr e)
  · exact funFrames_of (fun b o _ e hd => by
      obtain ⟨o', e', _, d, _⟩ := (kD b o e hd).data
      obtain ⟨es, ep, hd⟩ := hd
      exact ⟨o', e', es, ep, d.trans hd⟩) R.dicts R.frames
  · obtain ⟨o, e, es, ep, hd⟩ := R.dicts b hb
    obtain ⟨o', e', _, d, _⟩ := (kD b o e ⟨es, ep, hd⟩).data
    exact ⟨o', e', es, ep, d.trans hd⟩
  · rcases hb with hb | rfl
    · exact ka b hb
    · obtain ⟨vs, ⟨n, ho⟩, _⟩ := T.acc; exact ⟨_, ho⟩
  · obtain ⟨h1, h2, h3, h4⟩ := H.sub x v hx
    obtain ⟨cv, hv, V⟩ := R.fr x v h1
    rcases hv with ⟨q, _⟩ | ⟨_, c, hc, o, ho, hd⟩
    · exact absurd q h2
    · refine ⟨cv, .inr ⟨h4, c, h3.trans hc, ?_⟩, ?_⟩
      · obtain ⟨o', e', _, d, _⟩ := (T.keep c o (fun q => by subst q; obtain ⟨_, vs, q⟩ := H.notI ho; rw [hd] at q; cases q) ho).data
        exact ⟨o', e', d.trans hd⟩
      · refine VR.mono (fun b o e hv hp => ⟨fun q => ?_, kV b o e hv⟩) _ _ V
        rcases q with (q | rfl) | ⟨p, hp', _⟩
        · exact hp q
        · exact absurd (Heap.lt_size e) (Nat.not_lt.mpr H.dlt)
        · exact nomatch hp'

theorem CompAt.grow {σc : List (Str × AVal)} (H : CompIn C σ g scope σc s₂ I D L xs fp Pi S) {i : Nat} {ys : List AVal} {s' s'' : Shared} (T : CompAt C σ g scope s₂ I D L S i ys s') (G : Grow C.fls s' s'') : CompAt C σ g scope s₂ I D L S i ys s'' where
  eq := by rw [G.eq, T.eq]
  keep := fun b o hb e => (T.keep b o hb e).trans fun o' e' => G.keep b o' e'
  ns := let ⟨m, h⟩ := T.ns; ⟨m, ns_kept h fun o e => G.keep _ o e⟩
  cells := fun x c h => let ⟨v, q⟩ := T.cells x c h; ⟨v, isCell_kept q fun o e => G.keep _ o e⟩
  acc := let ⟨vs, ⟨n, ho⟩, V⟩ := T.acc; ⟨vs, ⟨n, (G.keep _ _ ho).val (.inl ⟨_, _, rfl⟩)⟩, V.grow G⟩
  st := H.it.W.frame _ _ _ T.st fun b hb o e => by
    rcases H.it.fps b hb with rfl | ⟨o₂, e₂, hv, _⟩
    · obtain ⟨o', vs, nm, ho, hc, hn, hd⟩ := H.it.recd _ _ T.st
      rw [ho] at e; cases e
      exact (G.keep _ _ ho).fields hd
    · have e3 := (T.keep b o₂ (fun q => by subst q; exact (H.notI e₂).1 hv) e₂).val hv
      rw [e3] at e; cases e
      exact (G.keep _ _ e3).val hv

/-- the binding of the target -/
theorem CompAt.step {σc : List (Str × AVal)} (H : CompIn C σ g scope σc s₂ I D L xs fp Pi S) {i : Nat} {ys : List AVal} {s' s'' : Shared} {σ₁ : St} (T : CompAt C σ g scope s₂ I D L S i ys s')
    (R₁ : Rel (compCfg C scope (fun b => Av C σ g b ∨ b = D) L) σ₁ (fun _ => 0) s'') (X : Step (compCfg C scope (fun b => Av C σ g b ∨ b = D) L) (Ow ⟨σc, []⟩ fun _ => 0) s' (Ow σ₁ fun _ => 0) s'') : CompAt C σ g scope s₂ I D L S i ys s'' := by
  have K' := H.cfgOk (fun b => Av C σ g b ∨ b = D) H.pn
  have R' := H.rel T
  obtain ⟨m', RM'⟩ := R'
  have lo : ∀ b, b < L → ¬ Pm (compCfg C scope (fun b => Av C σ g b ∨ b = D) L) (Ow ⟨σc, []⟩ fun _ => 0) b := fun b hb q => by
    rcases q with q | q | ⟨p, hp, _⟩
    · rw [q] at hb; exact Nat.lt_irrefl _ hb
    · exact absurd (compWc_of q).2 (Nat.lt_asymm hb)
    · exact nomatch hp
  have old : ∀ b o, s₂.heap.get? b = some o → b < L := fun b o e => Nat.lt_of_lt_of_le (Heap.lt_size e) (Nat.le_trans H.dlt (Nat.le_of_lt H.llt))
  have kv : ∀ b o, s'.heap.get? b = some o → isVal o → s''.heap.get? b = some o := fun b o e hv => (X.keep b o e fun q => by
    rcases q with q | q | ⟨p, hp, _⟩
    · exact (RM'.val_notPriv K' e hv).1 q
    · exact (RM'.val_notPriv K' e hv).2 q
    · exact nomatch hp).val hv
  obtain ⟨m₁, RM₁⟩ := R₁
  refine { eq := by rw [X.eq, T.eq], keep := fun b o hb e => (T.keep b o hb e).trans fun o' e' => X.keep b o' e' (lo b (old b o e)), ns := ⟨_, RM₁.ns⟩, cells := RM₁.cells, acc := ?_, st := ?_ }
  · obtain ⟨vs, ⟨n, ho⟩, V⟩ := T.acc
    exact ⟨vs, ⟨n, kv _ _ ho (.inl ⟨_, _, rfl⟩)⟩, VRs.mono (fun b o e hv hp => ⟨hp, kv b o e hv⟩) _ _ V⟩
  · refine H.it.W.frame _ _ _ T.st fun b hb o e => ?_
    rcases H.it.fps b hb with rfl | ⟨o₂, e₂, hv, _⟩
    · obtain ⟨o', vs, nm, ho, hc, hn, hd⟩ := H.it.recd _ _ T.st
      rw [ho] at e; cases e
      exact (X.keep _ _ ho (lo _ (Nat.lt_of_lt_of_le H.ilt (Nat.le_trans H.dlt (Nat.le_of_lt H.llt))))).fields hd
    · have e3 := (T.keep b o₂ (fun q => by subst q; exact (H.notI e₂).1 hv) e₂).val hv
      rw [e3] at e; cases e
      exact kv _ _ e3 hv
end
end Mine

end
section
open PySem PyProof.Rows
set_option Elab.async false
set_option autoImplicit false
set_option linter.unusedVariables false
namespace Mine

theorem wp_compEnv {M : Model} {A : Around} {E : Value → Shared → Prop} {s : Shared} {scope : Scope} {env : Env} {cl : List (Str × Addr)} {Q : Env → Shared → Prop}
    (h : Q { scope, locals := s.heap.objs.size, globals := env.globals, cells := cellsFrom (s.heap.objs.size + 1) scope.names cl, qual := env.qual, func := none, code := env.code, frame := env.frame, builtins := env.builtins }
      { s with heap := pushCells (s.heap.push { cls := .type "dict", data := .dict #[] }) scope.names }) :
    wpAny M A (newFunctionEnv scope env.globals cl [] env.qual none .none (some env)) Q E s := by
  simp only [newFunctionEnv, Option.isSome_some, if_true]
  refine wpAny_bind (wpAny_alloc ?_)
  refine wpAny_bind (wpAny_layCells _ (fun name kind cells => by cases hkc : kind == NameKind.cell <;> simp [hkc]) _ _ _ _ ?_)
  rw [show ({ s with heap := s.heap.push { cls := .type "dict", data := .dict #[] } } : Shared).heap.objs.size = s.heap.objs.size + 1 from Heap.size_push ..]
  exact wpAny_bind (by rw [List.forIn_nil]; exact wpAny_pure (wpAny_pure h))

section
variable {C : Cfg} {σ : St} {g : Str → Addr} {scope : Scope}

theorem CompAt.moved {s₂ : Shared} {I D L : Addr} {S : Nat → Heap → Prop} {fp : List Addr} {Pi : Nat → Value → Prop} {xs : List AVal} {σc : List (Str × AVal)} (H : CompIn C σ g scope σc s₂ I D L xs fp Pi S) {i : Nat} {ys : List AVal} {s' : Shared} {h' : Heap}
    (T : CompAt C σ g scope s₂ I D L S i ys s') (hk : ∀ b o, b ∉ [I] → s'.heap.get? b = some o → h'.get? b = some o) :
    (∀ b o, b ≠ I → s₂.heap.get? b = some o → Kept C.fls h' b o) ∧ (∃ m, h'.Ns L m) ∧ (∀ x c, (compCells scope C.env L).lookup x = some c → ∃ v, h'.IsCell c v) ∧ (∃ vs, h'.PlainList D vs.toArray ∧ VRs C.prog C.w (fun b => Av C σ g b ∨ b = D) h' ys vs) := by
  obtain ⟨oI, vsI, nm, hoI, hcI, hnI, hdI⟩ := H.it.recd _ _ T.st
  have hne : ∀ b o, s'.heap.get? b = some o → (∀ vs, o.data ≠ .fields vs) → h'.get? b = some o := fun b o e hd => hk b o (fun q => by
    simp only [List.mem_singleton] at q; subst q; rw [hoI] at e; cases e; exact hd _ hdI) e
  have hvl : ∀ b o, s'.heap.get? b = some o → isVal o → h'.get? b = some o := fun b o e hv => hk b o (fun q => by
    simp only [List.mem_singleton] at q; subst q; rw [hoI] at e; cases e; exact notVal_iter hcI hnI hdI hv) e
  refine ⟨fun b o hb e => (T.keep b o hb e).trans fun o' e' => .inl (hk b o' (by simpa using hb) e'), ?_, fun x c hx => ?_, ?_⟩
  · obtain ⟨m, o, es, ep, ho, hd, r⟩ := T.ns
    exact ⟨m, o, es, ep, hne _ _ ho fun vs q => by (rw [hd] at q; cases q), hd, r⟩
  · obtain ⟨v, o, ho, hd⟩ := T.cells x c hx
    exact ⟨v, o, hne _ _ ho fun vs q => by (rw [hd] at q; cases q), hd⟩
  · obtain ⟨vs, ⟨n, ho⟩, V⟩ := T.acc
    exact ⟨vs, ⟨n, hvl _ _ ho (.inl ⟨_, _, rfl⟩)⟩, VRs.mono (fun b o e hv hp => ⟨hp, hvl b o e hv⟩) _ _ V⟩

theorem comp_core {α : Type} (K : CfgOk C) (hh : C.A.handled = none) {s : Shared} (R : Rel C σ g s) {elt target iter : Expr} {ifs : List Expr} {pos : Pos} {v : AVal} {l : List α} {inj : α → AVal} (he : EV C σ iter v) (hi : iterItems v = some (l.map inj)) (hlen : l.length ≤ sizeLine)
    (p : α → Bool) (f : α → AVal) (σc : List (Str × AVal)) (hkind : scope.kind = .function) (hfree : ∀ n, (n, NameKind.free) ∈ scope.names → ∃ c, C.env.cells.lookup n = some c)
    (hsub : ∀ L x v, (x, v) ∈ σc → (x, v) ∈ σ.fr ∧ C.env.kindOf x ≠ some .local ∧ (compCells scope C.env L).lookup x = C.env.cells.lookup x ∧
      ((relabel scope C.env).names.lookup x = some .cell ∨ ((relabel scope C.env).names.lookup x = some .free ∧ (x == ("__classdict__" : Str)) = false)))
    (turn : ∀ L P, CfgOk (compCfg C scope P L) → ∀ a ∈ l, ∃ σ₁, ASG (compCfg C scope P L) ⟨σc, []⟩ target (inj a) σ₁ ∧ EBs (compCfg C scope P L) σ₁ ifs (p a) ∧ (p a = true → EV (compCfg C scope P L) σ₁ elt (f a)))
    {RR : Value → Addr → Result → Shared → Prop} {E : Value → Shared → Prop}
    (k : ∀ D L s' m vs, s.heap.get? D = none → s.heap.get? L = none → D ≠ L → Grow C.fls s s' → s'.heap.Ns L m → s'.heap.PlainList D vs.toArray → VRs C.prog C.w (fun b => Av C σ g b ∨ b = D) s'.heap ((l.filter p).map f) vs → RR (.ref D) L (.ok .next) s') :
    wpAny (model C.prog C.w) C.A (eval iter C.env) (fun x s₁ => wpAny (model C.prog C.w) C.A (pyIter x) (fun it s₂ => wpAny (model C.prog C.w) C.A (newList []) (fun acc s₃ =>
      wpAny (model C.prog C.w) C.A (newFunctionEnv scope C.env.globals (closL C.env.cells scope.names []) [] C.env.qual none .none (some C.env)) (fun cenv s₄ =>
        codeAny (model C.prog C.w) C.A (.compStart (.ListComp elt [⟨target, iter, ifs, 0⟩] scope pos) 0 it acc { cenv with scope := relabel scope C.env }) (RR acc cenv.locals) s₄) E s₃) E s₂) E s₁) E s := by
  refine he g s _ _ R fun cv s₁ G1 V1 => wp_iter hh (fun b hb => (R.grow G1).av_live hb) V1 hi fun I s₂ fp Pi S G2 hI it => ?_
  have G := G1.trans G2
  have R₂ := R.grow G
  have nw : ∀ b, s₂.heap.get? b = none → s.heap.get? b = none := fun b e => by
    cases e' : s.heap.get? b with
    | none => rfl
    | some o => obtain ⟨o', e'', _⟩ := (G.keep _ o e').data; rw [e] at e''; cases e''
  have hI0 : s.heap.get? I = none := by
    cases e : s.heap.get? I with
    | none => rfl
    | some o => obtain ⟨o', e', _⟩ := (G1.keep _ o e).data; rw [hI] at e'; cases e'
  refine wpAny_newObj_type ?_
  refine wp_compEnv ?_
  dsimp only
  generalize hH : s₂.heap.push { cls := .type "list", dict := none, data := .seq ([] : List Value).toArray } = H2
  have hsz : H2.objs.size = s₂.heap.objs.size + 1 := by rw [← hH, Heap.size_push]
  have hDL : s₂.heap.objs.size < H2.objs.size := by rw [hsz]; exact Nat.lt_succ_self _
  obtain ⟨oI, vsI, nm, hoI, hcI, hnI, hdI⟩ := it.recd _ _ it.st0
  have CI : CompIn C σ g scope σc s₂ I s₂.heap.objs.size H2.objs.size (l.map inj) fp Pi S := {
    K, hh, R := R₂, it, ilt := Heap.lt_size hoI, dlt := Nat.le_refl _, llt := hDL, skind := hkind, free := hfree
    ibase := by
      cases e : C.base.get? I with
      | none => rfl
      | some o => obtain ⟨m, RM⟩ := id R; have := RM.base I o e; rw [hI0] at this; cases this
    iav := fun q => by obtain ⟨o, e⟩ := R.av_live q; rw [hI0] at e; cases e
    sub := hsub _ }
  have up : ∀ b o, s₂.heap.get? b = some o → (pushCells (H2.push { cls := .type "dict", data := .dict #[] }) scope.names).get? b = some o := fun b o e =>
    pushCells_keeps _ _ b o (Heap.get?_push_of_some _ (hH ▸ Heap.get?_push_of_some _ e))
  have hcl : ∀ x c, (closL C.env.cells scope.names []).lookup x = some c → C.env.cells.lookup x = some c := fun x c h => by
    rcases lookup_closL _ _ x c hfree h with h | h
    · exact h
    · cases h
  have T0 : ∀ s₃ : Shared, s₃ = { s₂ with heap := pushCells (H2.push { cls := .type "dict", data := .dict #[] }) scope.names } → CompAt C σ g scope s₂ I s₂.heap.objs.size H2.objs.size S 0 (((l.take 0).filter p).map f) s₃ := fun s₃ e => by
    subst e
    refine { eq := rfl, keep := fun b o _ e => .inl (up b o e), ns := ⟨_, (Heap.Ns.new H2 (.type "dict")).keeps (pushCells_keeps _ _)⟩, cells := fun x c hx => ?_, acc := ⟨[], ⟨_, pushCells_keeps _ _ _ _ (Heap.get?_push_of_some _ (hH ▸ Heap.get?_push_size _ rfl))⟩, rfl⟩, st := it.W.frame _ _ _ it.st0 fun b _ o e => up b o e }
    obtain ⟨m, RM⟩ := R₂
    have hacc : ∀ y d, (closL C.env.cells scope.names []).lookup y = some d → d < s₂.heap.objs.size := fun y d hd => by
      obtain ⟨v, o, ho, _⟩ := RM.cells y d (hcl y d hd); exact Heap.lt_size ho
    have hsz3 : (H2.push { cls := .type "dict", data := .dict #[] }).objs.size = H2.objs.size + 1 := Heap.size_push ..
    rcases lookup_cellsFrom scope.names (H2.objs.size + 1) _ x c hx with ⟨h1, h2⟩ | h1
    · exact ⟨none, isCell_pushCells scope.names _ (closL C.env.cells scope.names []) x c (by rw [hsz3]; exact hx) (by rw [hsz3]; exact h1) fun y d hd => by rw [hsz3]; exact Nat.lt_succ_of_lt (Nat.lt_trans (hacc y d hd) hDL)⟩
    · obtain ⟨v, o, ho, hd⟩ := RM.cells x c (hcl x c h1)
      exact ⟨v, o, up _ _ ho, hd⟩
  have hfin : ∀ s₃ : Shared, CompAt C σ g scope s₂ I s₂.heap.objs.size H2.objs.size S 0 (((l.take 0).filter p).map f) s₃ →
      codeAny (model C.prog C.w) C.A (.compLoop (.ListComp elt [⟨target, iter, ifs, 0⟩] scope pos) 0 (.ref I) (.ref s₂.heap.objs.size) (compEnvX scope C.env H2.objs.size)) (RR (.ref s₂.heap.objs.size) H2.objs.size) s₃ := fun s₃ T3 => by
    refine compLoop_own (fun n s' => ∃ i, n = l.length + 1 - i ∧ i ≤ l.length ∧ CompAt C σ g scope s₂ I s₂.heap.objs.size H2.objs.size S i (((l.take i).filter p).map f) s') ?_ (l.length + 1) ⟨0, rfl, Nat.zero_le _, T3⟩
    rintro n s₄ ⟨i, rfl, hle, T⟩ E'
    by_cases hlt : i < l.length
    · refine it.W.item i s₄ _ _ (by simpa using hlt) T.st fun cv h' tk hP hst hk => ?_
      obtain ⟨q1, q2, q3, q4⟩ := T.moved CI hk
      have T1 : CompAt C σ g scope s₂ I s₂.heap.objs.size H2.objs.size S (i + 1) (((l.take i).filter p).map f) { s₄ with heap := h', toks := tk } := ⟨by rw [T.eq], q1, q2, q3, q4, hst⟩
      obtain ⟨oJ, vsJ, nmJ, hoJ, hcJ, hnJ, hdJ⟩ := it.recd _ _ hst
      refine wp_letOwned hoJ hcJ hnJ hdJ ?_
      have R1 := CI.rel T1
      have K1 := CI.cfgOk (fun b => Av C σ g b ∨ b = s₂.heap.objs.size) CI.pn
      obtain ⟨σ₁, hA, hB, hE⟩ := turn _ _ K1 l[i] (List.getElem_mem hlt)
      have V : VR C.prog C.w (Av (compCfg C scope (fun b => Av C σ g b ∨ b = s₂.heap.objs.size) H2.objs.size) ⟨σc, []⟩ fun _ => 0) h' (inj l[i]) cv := by
        refine VR.mono (fun b o e hv hp => ⟨fun q => ?_, ?_⟩) _ _ (it.itm i cv hP (inj l[i]) (by simp [hlt]))
        · rcases q with (q | rfl) | ⟨p, hp', _⟩
          · exact hp q
          · exact absurd (Heap.lt_size e) (Nat.lt_irrefl _)
          · exact nomatch hp'
        · exact (q1 b o (fun q => by subst q; exact (CI.notI e).1 hv) e).val hv
      refine hA (fun _ => 0) _ cv _ _ R1 V fun s₅ R5 S5 => ?_
      have T5 := CompAt.step CI T1 R5 S5
      refine hB (fun _ => 0) s₅ _ _ R5 fun s₆ G6 => ?_
      have T6 := CompAt.grow CI T5 G6
      have R6 := R5.grow G6
      have htk : ((l.take (i + 1)).filter p) = (l.take i).filter p ++ (if p l[i] then [l[i]] else []) := take_succ_filter p l i l[i] (by simp [hlt])
      cases hp : p l[i] with
      | false =>
        simp only [Bool.false_eq_true, if_false]
        refine ⟨l.length + 1 - (i + 1), by lia, i + 1, rfl, hlt, ?_⟩
        rw [htk, hp]; simpa using T6
      | true =>
        simp only [if_true]
        refine hE hp (fun _ => 0) s₆ _ _ R6 fun ev s₇ G7 V7 => ?_
        have T7 := CompAt.grow CI T6 G7
        obtain ⟨vs, hpl, hV⟩ := T7.acc
        have hvl : vs.length ≤ sizeLine := by
          rw [hV.length, List.length_map]
          exact Nat.le_trans (List.length_filter_le _ _) (Nat.le_trans (by rw [List.length_take]; exact Nat.min_le_right _ _) hlen)
        refine wpAny_list_append_plain (hsz := by simpa using hvl) hpl fun h₈ hpl₈ hsb => ?_
        refine ⟨l.length + 1 - (i + 1), by lia, i + 1, rfl, hlt, ?_⟩
        have hDs : ∀ b o, s₂.heap.get? b = some o → b ≠ s₂.heap.objs.size := fun b o e => Nat.ne_of_lt (Heap.lt_size e)
        have ho7 := hpl; obtain ⟨nn, ho7⟩ := ho7
        refine { eq := by show _ = _; rw [T7.eq], keep := fun b o hb e => (T7.keep b o hb e).trans fun o' e' => .inl ((hsb.2 b (hDs b o e)).trans e'), ns := ?_, cells := fun x c hx => ?_, acc := ?_, st := ?_ }
        · obtain ⟨m, hn⟩ := T7.ns
          exact ⟨m, hn.sameBut hsb (Ne.symm (Nat.ne_of_lt hDL))⟩
        · obtain ⟨u, o, ho, hd⟩ := T7.cells x c hx
          exact ⟨u, o, (hsb.2 c fun q => by (subst q; rw [ho7] at ho; cases ho; cases hd)).trans ho, hd⟩
        · refine ⟨vs ++ [ev], by simpa using hpl₈, ?_⟩
          rw [htk, hp, List.map_append]
          refine VRs.append (VRs.mono (fun b o e hv hp => ⟨hp, (hsb.2 b fun q => hp (.inr q)).trans e⟩) _ _ hV) ?_
          simp only [if_true, List.map_cons, List.map_nil, VRs]
          exact ⟨ev, [], rfl, VR.mono (fun b o e hv hp => ⟨fun q => hp (.inl q), (hsb.2 b fun q => hp (.inl (.inr q))).trans e⟩) _ _ V7, rfl⟩
        · refine it.W.frame _ _ _ T7.st fun b hb o e => ?_
          refine (hsb.2 b ?_).trans e
          rcases it.fps b hb with rfl | ⟨o₂, e₂, _⟩
          · exact Nat.ne_of_lt CI.ilt
          · exact hDs _ _ e₂
    · have hi' : i = l.length := by lia
      subst hi'
      refine it.W.done s₄ _ _ (by simpa using T.st) fun h' tk hk => ?_
      obtain ⟨q1, ⟨m, q2⟩, q3, vs, hpl, hV⟩ := T.moved CI hk
      refine k _ _ _ m vs (nw _ (Heap.get?_none_of_le (Nat.le_refl _))) (nw _ (Heap.get?_none_of_le (Nat.le_of_lt hDL))) (Nat.ne_of_lt hDL) ⟨by rw [T.eq, G.eq], fun b o e => ?_⟩ q2 hpl ?_
      · exact (G.keep b o e).trans fun o' e' => q1 b o' (fun q => by subst q; rw [hI0] at e; cases e) e'
      · rwa [List.take_length] at hV
  exact codeAny_compStart_list (hfin _ (T0 _ rfl)) (it.W.self 0 _ _ _ (T0 _ rfl).st (hfin _ (T0 _ rfl)))
end
end Mine

end
section
open PySem PyProof.Rows
set_option Elab.async false
set_option autoImplicit false
set_option linter.unusedVariables false
namespace Mine

/-- what a comprehension's scope must be like -/
structure CScope (C : Cfg) (scope : Scope) (σ : St) (σc : List (Str × AVal)) : Prop where
  kind : scope.kind = .function
  free : ∀ n, (n, NameKind.free) ∈ scope.names → ∃ c, C.env.cells.lookup n = some c
  sub : ∀ L x v, (x, v) ∈ σc → (x, v) ∈ σ.fr ∧ C.env.kindOf x ≠ some .local ∧ (compCells scope C.env L).lookup x = C.env.cells.lookup x ∧
      ((relabel scope C.env).names.lookup x = some .cell ∨ ((relabel scope C.env).names.lookup x = some .free ∧ (x == ("__classdict__" : Str)) = false))
  names : ∀ x ∈ scope.names, x.2 = .local → scope.names.lookup x.1 = some .local

def CTurn {α : Type} (C : Cfg) (scope : Scope) (σc : List (Str × AVal)) (target elt : Expr) (ifs : List Expr) (l : List α) (inj : α → AVal) (p : α → Bool) (f : α → AVal) : Prop :=
  ∀ L P, CfgOk (compCfg C scope P L) → ∀ a ∈ l, ∃ σ₁, ASG (compCfg C scope P L) ⟨σc, []⟩ target (inj a) σ₁ ∧ EBs (compCfg C scope P L) σ₁ ifs (p a) ∧ (p a = true → EV (compCfg C scope P L) σ₁ elt (f a))

section
variable {C : Cfg} {σ : St} {scope : Scope} {Q : AFlow → St → Prop} {X : Bool → St → Prop}

/-- a comprehension's variables go -/
theorem Rel.letGo {g : Str → Addr} {s : Shared} {h' : Heap} {L : Addr} {m₀ : Str → Option Value} (R : Rel C σ g s) (hn : s.heap.Ns L m₀) (h1 : C.base.get? L = none) (h2 : ¬ IsFr C.fls L) (h3 : ¬ C.P₀ L) (h4 : L ≠ C.env.locals) (hsb : Heap.SameBut L s.heap h') : Rel C σ g { s with heap := h' } := by
  obtain ⟨m, R⟩ := R
  obtain ⟨oL, es, ep, hoL, hdL, _⟩ := hn
  have kd : ∀ b o, s.heap.get? b = some o → (∀ es ep, o.data ≠ .dict es ep) → h'.get? b = some o := fun b o e hd => (hsb.2 b fun q => by subst q; rw [hoL] at e; cases e; exact hd _ _ hdL).trans e
  have kv : ∀ b o, s.heap.get? b = some o → isVal o → h'.get? b = some o := fun b o e hv => kd b o e (isVal_notDict hv)
  have hc : ∀ c u, s.heap.IsCell c u → h'.IsCell c u := fun c u ⟨o, ho, hd⟩ => ⟨o, kd c o ho fun _ _ q => by (rw [hd] at q; cases q), hd⟩
  exact ⟨m, {
    base := fun b o e => (hsb.2 b fun q => by subst q; rw [h1] at e; cases e).trans (R.base b o e)
    frames := funFrames_of (fun b o hf e hd => ⟨o, (hsb.2 b fun q => by subst q; exact h2 hf).trans e, hd⟩) R.dicts R.frames
    dicts := fun b hb => let ⟨o, e, hd⟩ := R.dicts b hb; ⟨o, (hsb.2 b fun q => by subst q; exact h2 hb).trans e, hd⟩
    p0 := fun b hb => let ⟨o, e⟩ := R.p0 b hb; ⟨o, (hsb.2 b fun q => by subst q; exact h3 hb).trans e⟩
    ns := R.ns.sameBut hsb (Ne.symm h4)
    cells := fun x c hx => let ⟨v, hv⟩ := R.cells x c hx; ⟨v, hc c v hv⟩
    fr := fun y u hy => by
      obtain ⟨cu, h1, h2⟩ := R.fr y u hy
      exact ⟨cu, varAt_of h1 fun c u _ q => hc c u q, VR.mono (fun b o e hv hp => ⟨hp, kv b o e hv⟩) _ _ h2⟩
    ow := fun y u hy => by
      obtain ⟨h1, h2, h3⟩ := R.ow y u hy
      exact ⟨varAt_of h1 fun c u _ q => hc c u q, h2.move (fun b o e hv => kv b o e hv) fun b o _ _ hp => hp, h3⟩
    inj := R.inj
    hdl := fun hz a ha => (R.hdl hz a ha).at fun o vs e hd _ => kd a o e fun _ _ q => by (rw [hd] at q; cases q) }⟩
theorem Step.letGo {O O' : Addr → Prop} {s s' : Shared} {h' : Heap} {L : Addr} (S : Step C O s O' s') (hL : s.heap.get? L = Option.none) (hsb : Heap.SameBut L s'.heap h') : Step C O s O' { s' with heap := h' } :=
  ⟨by rw [S.eq], fun b o e hp => (S.keep b o e hp).trans fun o' e' => .inl ((hsb.2 b fun q => by subst q; rw [hL] at e; cases e).trans e'), S.own, fun b o e => let ⟨o', e'⟩ := S.live b o e; ⟨o', (hsb.2 b fun q => by subst q; rw [hL] at e; cases e).trans e'⟩⟩

theorem x1_ownC {α : Type} (K : CfgOk C) (hh : C.A.handled = none) {x : Str} {px spos : Pos} {elt target iter : Expr} {ifs : List Expr} {pos : Pos} {v : AVal} {l : List α} {inj : α → AVal} (he : EV C σ iter v) (hi : iterItems v = some (l.map inj)) (hlen : l.length ≤ sizeLine)
    (p : α → Bool) (f : α → AVal) (σc : List (Str × AVal)) {σ' : St} (hx : Storable C x) (hσ : σ.own x (.list ((l.filter p).map f)) = σ') (h : Q .next σ') (hc : CScope C scope σ σc) (turn : CTurn C scope σc target elt ifs l inj p f) (hs : ∀ x, foldedSetIterable iter C.env x = pure x)
    (hsw : swapsWith (.ListComp elt [⟨target, iter, ifs, 0⟩] scope pos) (some (.Name x px)) spos.line C.env = pure true) :
    X1 C σ (.Assign [.Name x px] (.ListComp elt [⟨target, iter, ifs, 0⟩] scope pos) spos) Q X := fun g s R => by
  subst hσ
  rw [exec_Assign_Name_used _ _ _ _ hsw]
  refine wpAny_bind (wpAny_standAt (wpAny_bind ?_))
  show wpAny _ C.A (do let _ ← comprehension (.ListComp elt [⟨target, iter, ifs, 0⟩] scope pos) scope C.env _ (newList []) false (eval iter C.env) (some (assign (.Name x px) C.env))) _ _ s
  refine wpAny_bind (wpAny_mono (wpAny_comprehension_free (use := some (assign (.Name x px) C.env)) (Q := fun _ s' => NX C (Ow σ g) s Q .next s') rfl hs (closureFor_closL hc.free) hc.kind hc.names ?_) (fun _ s' hq => wpAny_pure (wpAny_pure hq)) fun _ _ e => e)
  refine comp_core (RR := fun acc L => compPost (model C.prog C.w) C.A _ (some (assign (.Name x px) C.env)) _ acc L) K hh R he hi hlen p f σc hc.kind hc.free hc.sub turn fun D L s' m vs hD hL hDL G hn hpl hV => ?_
  show wpAny _ C.A (assign (.Name x px) C.env (.ref D)) _ _ _
  rw [arm_assign_Name]
  obtain ⟨m₀, RM⟩ := id R
  obtain ⟨oL, es, ep, hoL, hdL, hrL⟩ := id hn
  have hLloc : L ≠ C.env.locals := fun q => by subst q; obtain ⟨o, _, _, e, _⟩ := RM.ns; rw [hL] at e; cases e
  have hLwc : L ∉ C.wc := fun q => by obtain ⟨y, hy⟩ := K.wcell L q; obtain ⟨u, o, e, _⟩ := RM.cells y L hy; rw [hL] at e; cases e
  refine wpAny_bind (wpAny_standAt (wpAny_bindName (wp_ownNew' (v := .list ((l.filter p).map f)) K R G hx hD ⟨vs, hpl, hV⟩ fun s'' R'' S'' hk => ?_)))
  have hn'' : s''.heap.Ns L m := hn.at' fun o e => hk L o e hLloc hLwc
  refine ⟨m, hn'', fun h' hsb => ?_⟩
  refine ⟨_, _, .next, R''.letGo hn'' ?_ ?_ ?_ hLloc hsb, S''.letGo hL hsb, rfl, h⟩
  · cases e : C.base.get? L with
    | none => rfl
    | some o => have := RM.base L o e; rw [hL] at this; cases this
  · intro q; obtain ⟨o, e, _⟩ := RM.dicts L q; rw [hL] at e; cases e
  · intro q; obtain ⟨o, e⟩ := RM.p0 L q; rw [hL] at e; cases e

/-- an owned thing, bound and never changed after -/
theorem own_to_set {st : Stmt} {x : Str} {v : AVal} {σ' : St} (h : ∀ Q' : AFlow → St → Prop, Q' .next (σ.own x v) → X1 C σ st Q' X) (hσ : (σ.own x v).freeze x v = σ') (hQ : Q .next σ') : X1 C σ st Q X := fun g s R => by
  refine wpAny_mono (h (fun f σ₁ => f = .next ∧ σ₁ = σ.own x v) ⟨rfl, rfl⟩ g s R) (fun f s' q => ?_) fun e s' q => q
  obtain ⟨σ₁, g₁, f', R₁, S₁, F₁, rfl, rfl⟩ := q
  subst hσ
  refine ⟨_, g₁, .next, R₁.freeze (.head _), ⟨S₁.eq, S₁.keep, fun b hb => S₁.own b ?_, S₁.live⟩, F₁, hQ⟩
  obtain ⟨p, hp, e⟩ := hb
  exact ⟨p, (List.mem_filter.mp hp).1, e⟩
end
end Mine

end
section
open PySem PyProof.Rows
set_option Elab.async false
set_option autoImplicit false
set_option linter.unusedVariables false
namespace Mine
set_option maxRecDepth 100000

/-! set(list) for any kind of key -/
section
variable {prog : Program} {w : World} {A : Around} {K : Type} [DecidableEq K] {knd : KeyKind prog w K}

theorem setOf_cong {h : Heap} {a : Addr} {S S' : K → Bool} {n : Nat} (hS : h.SetOf knd a S n) (e : ∀ k, S k = S' k) : h.SetOf knd a S' n := by
  have : S = S' := funext e
  subst this; exact hS
theorem setOf_at {h h' : Heap} {a : Addr} {S : K → Bool} {n : Nat} (hS : h.SetOf knd a S n) (k : ∀ o, h.get? a = some o → h'.get? a = some o) : h'.SetOf knd a S n := by
  obtain ⟨o, es, ep, t, ho, r⟩ := hS
  exact ⟨o, es, ep, t, k o ho, r⟩

theorem update_loop {I : Addr} {fp wr : List Addr} {P : Nat → Value → Prop} {St : Nat → Heap → Prop} {ks : List K} {R : Result → Shared → Prop} (W : Walks prog w A.in1 I fp wr ks.length P St) (S : Addr) (hSf : S ∉ fp)
    (hval : ∀ i v k, P i v → ks[i]? = some k → knd.is k v = true ∧ v.scannable = true) (hb : ks.length + 1 < scanBound) :
    ∀ (n i : Nat) (s : Shared), ks.length - i = n → i ≤ ks.length → St i s.heap → (∃ m, m ≤ i ∧ (ks.Nodup → m = i) ∧ s.heap.SetOf knd S (fun k => decide (k ∈ ks.take i)) m) →
      (∀ h' tk, (∀ b o, b ≠ S → b ∉ wr → s.heap.get? b = some o → h'.get? b = some o) → (∃ m, (ks.Nodup → m = ks.length) ∧ h'.SetOf knd S (fun k => decide (k ∈ ks)) m) → R (.ok (.ret .none)) { s with heap := h', toks := tk }) →
      codeAny (model prog w) A (.builtin "set.update.loop" ⟨[.ref S, .ref I], []⟩) R s := by
  have hSw : S ∉ wr := fun h => hSf (W.sub _ h)
  intro n
  induction n with
  | zero =>
    intro i s hn hi hst hS hR
    have hin : i = ks.length := by omega
    subst hin
    obtain ⟨m, _, hnd, hS⟩ := hS
    refine codeAny_builtin PyProof.Rows.F.entry_set_update_loop ?_
    rw [Around.under_plainId PyProof.Rows.F.plain_set_update_loop _]
    show wpAny _ A.in1 (pyNext (.ref I) >>= _) _ _ s
    refine wpAny_bind (W.done s _ _ hst fun h' tk hk => ?_)
    show wpAny _ A.in1 (ret Value.none) _ _ _
    refine wpAny_pure (hR h' tk (fun b o _ hb e => hk b o hb e) ⟨m, hnd, setOf_cong (setOf_at hS fun o e => hk S o hSw e) fun k => by rw [List.take_length]⟩)
  | succ n ih =>
    intro i s hn hi hst hS hR
    have hlt : i < ks.length := by omega
    obtain ⟨m, hm, hnd, hS⟩ := hS
    refine codeAny_builtin PyProof.Rows.F.entry_set_update_loop ?_
    rw [Around.under_plainId PyProof.Rows.F.plain_set_update_loop _]
    show wpAny _ A.in1 (pyNext (.ref I) >>= _) _ _ s
    refine wpAny_bind (W.item i s _ _ hlt hst fun v h' tk hP hst' hk => ?_)
    have hget : ks[i]? = some ks[i] := by simp [hlt]
    obtain ⟨hkey, hsc⟩ := hval i v ks[i] hP hget
    have hS' : ({ s with heap := h', toks := tk } : Shared).heap.SetOf knd S (fun k => decide (k ∈ ks.take i)) m := setOf_at hS fun o e => hk S o hSw e
    show wpAny _ A.in1 (holding [v] (setAdd S v) >>= _) _ _ _
    refine wpAny_bind (wpAny_holding ?_)
    unfold setAdd
    refine wpAny_holding ?_
    refine wpAny_bind (knd.pyHash hkey ?_)
    refine wpAny_setAddHashed_of (s := { s with heap := h', toks := tk + 1 }) hkey hsc hS' (by omega) fun h₂ hsb hS2 => ?_
    have e1 : ks.take (i + 1) = ks.take i ++ [ks[i]] := by rw [List.take_add_one, hget]; rfl
    refine wpAny_pure ⟨plainId_quiet PyProof.Rows.F.plain_set_update_loop _, ih (i + 1) _ (by omega) hlt (W.frame _ _ _ hst' fun b hb o e => ?_) ⟨_, ?_, fun hN => ?_, setOf_cong hS2 fun k => ?_⟩ fun h₃ tk₃ hk₃ hS₃ => ?_⟩
    · exact (hsb.2 b (fun q => hSf (q ▸ hb))).trans e
    · split <;> omega
    · have hno : ks[i] ∉ ks.take i := fun q => by
        obtain ⟨j, hj⟩ := List.getElem?_of_mem q
        obtain ⟨hj1, hj2⟩ := List.getElem?_eq_some_iff.mp hj
        rw [List.length_take] at hj1
        rw [List.getElem_take] at hj2
        exact (List.pairwise_iff_getElem.mp hN j i (by omega) hlt (by omega)) hj2
      rw [decide_eq_false hno, hnd hN]; rfl
    · rw [e1]; simp only [List.mem_append, List.mem_singleton, Bool.decide_or]
    · exact hR h₃ tk₃ (fun b o hbS hbw e => hk₃ b o hbS hbw ((hsb.2 b hbS).trans (hk b o hbw e))) hS₃

set_option maxHeartbeats 3200000 in
theorem call_setK {E : Value → Shared → Prop} {s : Shared} {l : Addr} {items : Array Value} {ks : List K} {Q : Value → Shared → Prop}
    (hh : A.handled = none) (hl : s.heap.IsList l items) (hsz : items.size = ks.length) (hval : ∀ (i : Nat) (v : Value) (k : K), items[i]? = some v → ks[i]? = some k → knd.is k v = true ∧ v.scannable = true) (hb : ks.length + 1 < scanBound)
    (h : ∀ (h' : Heap) (tk : Nat), (∃ n, (ks.Nodup → n = ks.length) ∧ h'.SetOf knd s.heap.objs.size (fun k => decide (k ∈ ks)) n) → (∀ b o, s.heap.get? b = some o → h'.get? b = some o) → Q (.ref s.heap.objs.size) { s with heap := h', toks := tk }) :
    wpAny (model prog w) A (call (.type "set") [.ref l]) Q E s := by
  obtain ⟨c, tl, hmro⟩ := PySem.F.called_set.mro
  have hmade := PySem.F.called_set.made
  have hsub := PySem.F.called_set.sub
  refine wpAny_call (codeAny_of_tree ?_)
  show wpAny _ _ (callAny (.type "set") _) _ _ _
  refine wpAny_pure ⟨Code.quiet_builtin _ (by decide +kernel), codeAny_builtin PySem.F.entry_type_call ?_⟩
  rw [Around.under_plain (weight_type_call_type "set" [.ref l] []) rfl]
  have h1 := PySem.F.called_set.notType
  have h2 := PySem.F.called_set.canCreate
  have hct := PySem.F.typeCall_set_1 (.ref l)
  repeat (any_goals (first | assumption | wp_step))
  refine codeAny_mono (code_set_new_1 (.ref l) (E := E) (Q₁ := fun obj s₁ => ∃ led : Bool, obj = .ref s.heap.objs.size ∧ s₁ = { s with heap := s.heap.push { cls := .type "set", dict := none, data := .set #[] 0 (.fresh 0 0 led) } }) fun led => ⟨led, rfl, rfl⟩) fun r s₁ hr => ?_
  cases r with
  | error e => exact hr
  | ok fl =>
    cases fl with
    | ret obj =>
      obtain ⟨led, rfl, rfl⟩ := hr
      generalize hOb : ({ cls := .type "set", dict := none, data := .set #[] 0 (.fresh 0 0 led) } : Obj) = ob
      have hS : (s.heap.push ob).get? s.heap.objs.size = some ob := Heap.get?_push_size _ (by rw [← hOb]; rfl)
      have hT : Shared.TypeIs { s with heap := s.heap.push ob } (.ref s.heap.objs.size) "set" := ⟨_, hS, by rw [← hOb]⟩
      have hli := PySem.F.called_set.init.lookup
      have hbi := PySem.F.called_set.init.bind (.ref s.heap.objs.size)
      repeat (any_goals (first | assumption | wp_step))
      refine codeAny_mono (codeAny_call_builtin (R := wants (fun r s₂ => r = .none ∧ ∃ h' tk, s₂ = { s with heap := h', toks := tk } ∧ (∃ n, (ks.Nodup → n = ks.length) ∧ h'.SetOf knd s.heap.objs.size (fun k => decide (k ∈ ks)) n) ∧
          (∀ b o, s.heap.get? b = some o → h'.get? b = some o)) E) PySem.F.called_set.init.plain PySem.F.entry_set_init (check_set_init_1 hT ?_)) fun r₂ s₂ hr₂ => ?_
      · obtain ⟨⟨ocls, odict, odata, oslots⟩, hol, hcl, nl, hdl⟩ := hl
        simp only at hcl hdl
        subst hcl; subst hdl
        have hol' : (s.heap.push ob).get? l = some { cls := .type "list", dict := odict, data := .seq items nl, slots := oslots } := Heap.get?_push_of_some _ hol
        have hsls := PySem.F.sub_list_set
        have hslf := PySem.F.sub_list_frozenset
        have hne : (Value.type "list" == Value.type "dict") = false := by decide
        have hl1 : (s.heap.push ob).IsList l items := ⟨_, hol', rfl, nl, rfl⟩
        subst hOb
        unfold Builtin.«set.__init__» noKeywords Builtin.Frozenset.updateFrom
        generalize hPI : pyIter = PI
        wp_walk
        subst hPI
        refine wpAny_pyIter_list hl1 ?_
        refine wpAny_bind (wpAny_runValue ?_)
        have hlS : l < s.heap.objs.size := Heap.lt_size hol
        have hsz' : (s.heap.push { cls := .type "set", dict := none, data := .set #[] 0 (.fresh 0 0 led) }).objs.size = s.heap.objs.size + 1 := Heap.size_push ..
        have hneI : l ≠ (s.heap.push { cls := .type "set", dict := none, data := .set #[] 0 (.fresh 0 0 led) }).objs.size := by rw [hsz']; exact Nat.ne_of_lt (Nat.lt_succ_of_lt hlS)
        have W := Walks.list (prog := prog) (w := w) (A := A.in1.in1.in1) (by simp [hh]) (s.heap.push { cls := .type "set", dict := none, data := .set #[] 0 (.fresh 0 0 led) }).objs.size l hneI items
        rw [hsz] at W
        refine update_loop (knd := knd) (ks := ks) W s.heap.objs.size ?_ hval hb (ks.length - 0) 0 _ rfl (Nat.zero_le _) ⟨⟨_, Heap.get?_push_size _ rfl, rfl, rfl⟩, hl1.push _⟩ ⟨0, Nat.le_refl _, fun _ => rfl, ?_⟩ fun h' tk hk hS' => ?_
        · rw [hsz']; simp only [List.mem_cons, List.mem_singleton, List.not_mem_nil, or_false, not_or]
          exact ⟨Nat.ne_of_lt (Nat.lt_succ_self _), Nat.ne_of_gt hlS⟩
        · have hget : ((s.heap.push { cls := .type "set", dict := none, data := .set #[] 0 (.fresh 0 0 led) }).push { cls := .type "list_iterator", data := .fields #[.ref l, .int 0 0] }).get? s.heap.objs.size = some { cls := .type "set", dict := none, data := .set #[] 0 (.fresh 0 0 led) } := by
            exact Heap.get?_push_of_some _ hS
          exact setOf_cong ((PyProof.Rows.setObjOf_fresh (knd := knd) led).setOf hget (by unfold scanBound; omega)) fun k => by simp
        · show wpAny _ _ _ _ _ _
          refine wpAny_pure ?_
          show wpAny _ _ (ret Value.none) _ _ _
          refine wpAny_pure ⟨rfl, h', tk, rfl, hS', fun b o e => ?_⟩
          have hb := Heap.lt_size e
          refine hk b o (Nat.ne_of_lt hb) ?_ (Heap.get?_push_of_some _ (Heap.get?_push_of_some _ e))
          rw [hsz']; simp only [List.mem_singleton]; exact Nat.ne_of_lt (Nat.lt_succ_of_lt hb)
      · cases r₂ with
        | error e => exact hr₂
        | ok fl₂ =>
          cases fl₂ with
          | ret r =>
            obtain ⟨rfl, h', tk, rfl, hS', hk'⟩ := hr₂
            repeat (any_goals (first | assumption | wp_step))
            exact h _ _ hS' hk'
          | _ => exact hr₂
    | _ => exact hr
end
end Mine

end
section
open PySem PyProof.Rows PySem.SeqAt
set_option Elab.async false
set_option autoImplicit false
set_option linter.unusedVariables false
namespace Mine
section
variable {C : Cfg} {σ : St} {a b : Int} {x y : Str}

theorem newList_op {P : Addr → Prop} {s : Shared} (hL : Lives P s.heap) {xs : List AVal} {vs : List Value} {n : Nat} {tk : Nat} (V : VRs C.prog C.w P s.heap xs vs) :
    Grow C.fls s { s with heap := s.heap.push { cls := Value.type "list", data := Data.seq vs.toArray n }, toks := tk } ∧ VR C.prog C.w P (s.heap.push { cls := Value.type "list", data := Data.seq vs.toArray n }) (.list xs) (.ref s.heap.objs.size) := by
  have G : Grow C.fls s { s with heap := s.heap.push { cls := Value.type "list", data := Data.seq vs.toArray n }, toks := tk } := Grow.of fun b o e => Heap.get?_push_of_some _ e
  refine ⟨G, ?_⟩
  simp only [VR]
  exact ⟨_, vs, rfl, fun q => by obtain ⟨o, e⟩ := hL _ q; exact absurd (Heap.lt_size e) (Nat.lt_irrefl _), ⟨_, Heap.get?_push_size _ rfl, rfl, _, rfl⟩, V.grow G⟩

theorem bin_addl {xs ys : List AVal} (hsz : xs.length + ys.length ≤ sizeLine) : BinOk C .Add (.list xs) (.list ys) (.list (xs ++ ys)) := by
  intro P s va vb hL h1 h2
  simp only [VR] at h1 h2
  obtain ⟨l, vs, rfl, hp, hl, hv⟩ := h1
  obtain ⟨k, us, rfl, hq, hk, hu⟩ := h2
  intro E Q kk
  obtain ⟨⟨cls, dd, data, sl⟩, ho, hc, n, hd⟩ := id hl
  obtain ⟨⟨cls2, dd2, data2, sl2⟩, ho2, hc2, n2, hd2⟩ := id hk
  simp only at hc hd hc2 hd2
  subst hc hd hc2 hd2
  refine concat_meets ⟨_, ho, rfl⟩ ⟨_, ho2, rfl⟩ noFill_list_add seq_list_add PySem.F.slot_list_add PySem.F.entry_list_add (PySem.F.args_list_add_2 _ _) (list_addW l k vs.toArray us.toArray n n2 dd dd2 sl sl2 (by simpa [hv.length, hu.length] using hsz)) ⟨ho, ho2, ?_⟩
  have e : vs.toArray ++ us.toArray = (vs ++ us).toArray := by simp
  rw [e]
  obtain ⟨G, V⟩ := newList_op (C := C) (n := 0) (tk := s.toks) hL (VRs.append hv hu)
  exact kk _ _ G V
theorem cmp_inSetI {ks : List Int} : CmpOk C .In (.int a) (.setI ks) (decide (a ∈ ks)) := by
  intro s va vb h1 h2; simp only [VR] at h1 h2; obtain ⟨t, rfl⟩ := h1; obtain ⟨u, n, rfl, _, hS⟩ := h2
  intro E Q k; exact wpAny_inSet_of (intKind_is _ _ _ _) rfl hS (k _ Grow.toks)
theorem cmp_neI (hu : C.A.units + 64 < cLine) {ns ms : List Int} : CmpOk C .NotEq (.list (ns.map .int)) (.list (ms.map .int)) (!decide (ns = ms)) := by
  intro s va vb h1 h2; simp only [VR] at h1 h2; obtain ⟨l, vs, rfl, _, hl, hv⟩ := h1; obtain ⟨l', vs', rfl, _, hl', hv'⟩ := h2
  intro E Q k; exact PySem.W.ne_intsK hl (vrs_ints.mp hv) hl' (vrs_ints.mp hv') hu (k _ (Grow.refl _ _))
theorem call_setI (hh : C.A.handled = none) {ks : List Int} (hb : ks.length + 1 < scanBound) {P : Addr → Prop} {s : Shared} {l : Addr} {vs : List Value} (hl : s.heap.IsList l vs.toArray) (hv : VRs C.prog C.w P s.heap (ks.map .int) vs) {E Q : Value → Shared → Prop}
    (k : ∀ s', Grow C.fls s s' → (∃ n, (ks.Nodup → n = ks.length) ∧ s'.heap.SetOf (intKind C.prog C.w) s.heap.objs.size (fun k => decide (k ∈ ks)) n) → Q (.ref s.heap.objs.size) s') : wpAny (model C.prog C.w) C.A (call (.type "set") [.ref l]) Q E s := by
  refine call_setK (knd := intKind C.prog C.w) (ks := ks) hh hl (by simpa using hv.length) (fun i v key h1 h2 => ?_) hb fun h' tk hS hk => k _ (Grow.of hk) hS
  obtain ⟨c, hc, V⟩ := hv.get i (.int key) (by simp [h2])
  have h1' : vs[i]? = some v := by simpa using h1
  rw [hc] at h1'; cases h1'
  simp only [VR] at V; obtain ⟨t, rfl⟩ := V
  exact ⟨intKind_is _ _ _ _, rfl⟩

/-- ''.join(e) -/
theorem ev_join {sep : Str} {e : Expr} {ap pos p : Pos} {kk : Nat} {ys : List Str} (he : EV0 C σ e (.list (ys.map .str))) (hn : notStar e) (hline : (ap.endLine == pos.line) = true) (hok : (ys.map (·.length)).sum + ys.length * sep.length ≤ 16777216) :
    EV C σ (.Call (.Attribute (.Constant (.str sep) kk p) "join" ap) [e] [] pos) (.str (Txt.join sep ys)) := fun g s E Q R k => by
  refine wpAny_Call_method1_late rfl hline (by rw [hn]; rfl) ?_
  refine Calls.Constant_str ?_
  refine ⟨"str", "str.join", PySem.F.plainAttrs_str, PySem.F.slot_str_join, PySem.F.type_str_join, typeIs_str _ _ _, (fun a q => (nomatch q)), ?_⟩
  refine Calls.callWith_builtin rfl (Calls.evalArgs_plain (Calls.spliced_cons (he g _ _ _ (R.grow Grow.toks) fun cv s₁ G V => Calls.spliced_nil ?_)))
  simp only [VR] at V
  obtain ⟨b, us, rfl, _, hl, hv⟩ := V
  show wpAny _ _ (call (.builtin "str.join") [.str sep _, .ref b]) _ _ _
  exact join_list hl (by simpa using vrs_strs.mp hv) hok fun t' k' => k _ _ ((Grow.toks.trans G).trans Grow.toks) (by simp only [VR]; exact ⟨_, rfl⟩)
end
end Mine

end
section
open PySem PyProof.Rows
set_option Elab.async false
set_option autoImplicit false
set_option linter.unusedVariables false
namespace Mine

/-! the program's functions by their place in the text -/
def nthS : List Stmt → Nat → Stmt
  | [], _ => .Pass ⟨0, 0, 0, 0⟩
  | x :: _, 0 => x
  | _ :: r, n + 1 => nthS r n
def fnSt (p : Program) (i : Nat) : Stmt := nthS p.main.body i
def fnBody : Stmt → List Stmt
  | .FunctionDef (body := b) .. => b
  | _ => []
def noScope : Scope := { kind := .module, names := [], isGenerator := false, isCoroutine := false, more := [] }
def fnScope : Stmt → Scope
  | .FunctionDef (scope := b) .. => b
  | _ => noScope

structure FdRest where
  name : Str
  qualname : Str
  params : Arguments
  defaults : Value
  kwdefaults : Value
  doc : Value
  pyModule : Value
  annotations : Option Addr
  code : Value
  closureTuple : Value
def mkFd (st : Stmt) (r : FdRest) : FuncData :=
  { name := r.name, qualname := r.qualname, params := r.params, body := .stmts (fnBody st), scope := fnScope st, globals := mainGlobals, closure := [], defaults := r.defaults, kwdefaults := r.kwdefaults, doc := r.doc, pyModule := r.pyModule, annotations := r.annotations, code := r.code, closureTuple := r.closureTuple, builtins := builtinsNs }

/-- the function stands in the base -/
structure FnAt (base : Heap) (mg : Str → Option Value) (st : Stmt) (nm : Str) (ps : List Str) (fa : Addr) (o : Obj) (r : FdRest) : Prop where
  glob : mg nm = some (.ref fa)
  at' : base.get? fa = some o
  data : o.data = .func (mkFd st r)
  code : base.CodeRec r.code r.qualname
  bind : ∀ args : List Value, args.length = ps.length → bindArgs (mkFd st r) ⟨args, []⟩ = pure (ps.zip args)

abbrev fnCfg (prog : Program) (w : World) (base : Heap) (mg mb : Str → Option Value) (A : Around) (fls : List Env) (P₀ : Addr → Prop) (st : Stmt) (r : FdRest) (L fa : Addr) : Cfg := callCfg prog w base mg mb A fls P₀ (mkFd st r) L fa

theorem FnAt.ok {prog : Program} {w : World} {base : Heap} {mg mb : Str → Option Value} {fa : Addr} {o : Obj} {st : Stmt} {nm : Str} {ps : List Str} {r : FdRest} {lvl : Nat} {vs : List AVal} {v : AVal} (F : FnAt base mg st nm ps fa o r)
    (gl : base.Ns mainGlobals mg) (bl : base.Ns builtinsNs mb) (lim : base.NoLimit) (hloc : ∀ x ∈ ps, (fnScope st).names.lookup x = some .local) (hnd : ps.Nodup) (hlen : vs.length = ps.length)
    (hco : (fnScope st).isCoroutine = false) (hgen : (fnScope st).isGenerator = false) (hk : (fnScope st).kind = .function)
    (hX : ∀ A fls P₀ L, CfgOk (fnCfg prog w base mg mb A fls P₀ st r L fa) → Room (fnCfg prog w base mg mb A fls P₀ st r L fa).A lvl → XS (fnCfg prog w base mg mb A fls P₀ st r L fa) ⟨ps.zip vs, []⟩ (fnBody st) (fun f _ => f = .ret v) (fun _ _ => False)) :
    FnOk prog w base fa (lvl + 1) vs v :=
  fnOk_of F.at' F.data F.code rfl rfl rfl rfl F.bind hloc hnd hlen gl bl lim hco hgen hk fun A fls P₀ L K R _ => hX A fls P₀ L K R
end Mine

end
section
open PySem PyProof.Rows
set_option Elab.async false
set_option autoImplicit false
set_option linter.unusedVariables false
namespace Mine
section
variable {α : Type} {a b c d e f g h i j k : α} {l : List α}
theorem m0 : a ∈ a :: l := .head _
theorem m1 : a ∈ b :: a :: l := .tail _ m0
theorem m2 : a ∈ b :: c :: a :: l := .tail _ m1
theorem m3 : a ∈ b :: c :: d :: a :: l := .tail _ m2
theorem m4 : a ∈ b :: c :: d :: e :: a :: l := .tail _ m3
theorem m5 : a ∈ b :: c :: d :: e :: f :: a :: l := .tail _ m4
theorem m6 : a ∈ b :: c :: d :: e :: f :: g :: a :: l := .tail _ m5
theorem m7 : a ∈ b :: c :: d :: e :: f :: g :: h :: a :: l := .tail _ m6
theorem m8 : a ∈ b :: c :: d :: e :: f :: g :: h :: i :: a :: l := .tail _ m7
theorem m9 : a ∈ b :: c :: d :: e :: f :: g :: h :: i :: j :: a :: l := .tail _ m8
end

theorem er_itemSN {C : Cfg} {σ : St} (hH : HdC C) {e i : Expr} {pos : Pos} {x : Str} {k : Nat} (he : EV C σ e (.str x)) (hi : EV C σ i (.int (k : Int))) (hk : k < 2 ^ 62) (hs : plainSub i) :
    ER C σ (.Subscript e i pos) (x.cps[k]?.map fun c => .str ⟨#[c]⟩) := by
  have := er_itemS (pos := pos) hH he hi (Int.natCast_nonneg k) (by lia) hs
  rwa [Int.toNat_natCast] at this
theorem er_itemN {C : Cfg} {σ : St} (hH : HdC C) {e i : Expr} {pos : Pos} {xs : List AVal} {k : Nat} (he : EV C σ e (.list xs)) (hi : EV C σ i (.int (k : Int))) (hk : k < 2 ^ 62) (hs : plainSub i) :
    ER C σ (.Subscript e i pos) xs[k]? := by
  have := er_item (pos := pos) hH he hi (Int.natCast_nonneg k) (by lia) hs
  rwa [Int.toNat_natCast] at this
/-- what of the builtins is read -/
structure Names (mg mb : Str → Option Value) : Prop where
  idx : mg "IndexError" = none ∧ mb "IndexError" = some (.type "IndexError")

/-! skip_chars by value -/
def inCs (cs : Str) (c : Nat) : Bool := !(Builtin.Str.occurrences cs ⟨#[c]⟩ 0 cs.length 1).isEmpty
def skipN (t cs : Str) (p : Nat) : Nat := p + ((t.cps.toList.drop p).takeWhile (inCs cs)).length
theorem skipN_in {t cs : Str} {p c : Nat} (h : t.cps[p]? = some c) (hi : inCs cs c = true) : skipN t cs p = skipN t cs (p + 1) := by
  have hl : p < t.cps.toList.length := by have := (Array.getElem?_eq_some_iff.mp h).1; simpa using this
  have hd : t.cps.toList.drop p = c :: t.cps.toList.drop (p + 1) := by
    rw [List.drop_eq_getElem_cons hl]
    have : t.cps.toList[p] = c := by have := (Array.getElem?_eq_some_iff.mp h).2; simpa using this
    rw [this]
  unfold skipN
  rw [hd, List.takeWhile_cons, if_pos hi, List.length_cons]; lia
theorem skipN_out {t cs : Str} {p c : Nat} (h : t.cps[p]? = some c) (hi : inCs cs c = false) : skipN t cs p = p := by
  have hl : p < t.cps.toList.length := by have := (Array.getElem?_eq_some_iff.mp h).1; simpa using this
  have hd : t.cps.toList.drop p = c :: t.cps.toList.drop (p + 1) := by
    rw [List.drop_eq_getElem_cons hl]
    have : t.cps.toList[p] = c := by have := (Array.getElem?_eq_some_iff.mp h).2; simpa using this
    rw [this]
  unfold skipN
  rw [hd, List.takeWhile_cons, hi]; simp
theorem skipN_end {t cs : Str} {p : Nat} (h : t.cps[p]? = none) : skipN t cs p = p := by
  have hl : t.cps.toList.length ≤ p := by simpa using h
  unfold skipN
  rw [List.drop_eq_nil_of_le hl]; simp
end Mine

end
section
open PySem PyProof.Rows
set_option Elab.async false
set_option autoImplicit false
set_option linter.unusedVariables false
namespace Mine
section
variable {C : Cfg} {σ : St} {Q : AFlow → St → Prop} {X : Bool → St → Prop}
theorem Rel.forget {σ' : St} {g : Str → Addr} {s : Shared} (R : Rel C σ g s) (hfr : ∀ p ∈ σ'.fr, p ∈ σ.fr) (how : σ'.ow = σ.ow) : Rel C σ' g s := by
  obtain ⟨f, o⟩ := σ'
  obtain ⟨f', o'⟩ := σ
  simp only at how hfr
  subst how
  obtain ⟨m, R⟩ := R
  exact ⟨m, ⟨R.base, R.frames, R.dicts, R.p0, R.ns, R.cells, fun x v hx => R.fr x v (hfr _ hx), R.ow, R.inj, R.hdl⟩⟩
theorem xs_forget {σ' : St} {body : List Stmt} (hfr : ∀ p ∈ σ'.fr, p ∈ σ.fr) (how : σ'.ow = σ.ow) (h : XS C σ' body Q X) : XS C σ body Q X := fun g s R => by
  have hO : Ow σ' g = Ow σ g := by unfold Ow; rw [how]
  have := h g s (R.forget hfr how)
  rw [hO] at this
  exact this
end

theorem ev_sliceFromN {C : Cfg} {σ : St} {e u : Expr} {p pos : Pos} {xs : List AVal} {k : Nat} (he : EV C σ e (.list xs)) (hu : EV C σ u (.int (k : Int))) (hsz : xs.length ≤ sizeLine) (ht : ∀ o r, letTemporaryGo e o r = pure ()) :
    EV C σ (.Subscript e (.Slice (some u) none none p) pos) (.list (xs.drop k)) := by
  have := ev_sliceFrom (z := true) (p := p) (pos := pos) he hu (Int.natCast_nonneg k) hsz ht
  rw [Int.toNat_natCast] at this
  exact this
/-! sorted_list_difference by value -/
section
variable {α : Type} (lt : α → α → Bool)
def dif : List α → List α → List α × List α
  | [], b => ([], b)
  | x :: a, [] => (x :: a, [])
  | x :: a, y :: b => if lt x y then (x :: (dif a (y :: b)).1, (dif a (y :: b)).2) else if lt y x then ((dif (x :: a) b).1, y :: (dif (x :: a) b).2) else dif a b
termination_by a b => a.length + b.length
theorem dif_nil (b : List α) : dif lt [] b = ([], b) := by rw [dif]
theorem dif_nil' (a : List α) : dif lt a [] = (a, []) := by cases a <;> rw [dif]
theorem dif_cons (x y : α) (a b : List α) : dif lt (x :: a) (y :: b) = if lt x y then (x :: (dif lt a (y :: b)).1, (dif lt a (y :: b)).2) else if lt y x then ((dif lt (x :: a) b).1, y :: (dif lt (x :: a) b).2) else dif lt a b := by
  conv => lhs; rw [dif]
end
theorem drop_at {α : Type} {l : List α} {i : Nat} {x : α} (h : l[i]? = some x) : l.drop i = x :: l.drop (i + 1) := by
  obtain ⟨hl, rfl⟩ := List.getElem?_eq_some_iff.mp h
  exact List.drop_eq_getElem_cons hl
theorem drop_none {α : Type} {l : List α} {i : Nat} (h : l[i]? = none) : l.drop i = [] := List.drop_eq_nil_of_le (by simpa using h)
theorem nodup_next {α : Type} {l : List α} {i : Nat} {x y : α} (hn : l.Nodup) (h : l[i]? = some x) (h' : l[i + 1]? = some y) : y ≠ x := by
  obtain ⟨h1, rfl⟩ := List.getElem?_eq_some_iff.mp h
  obtain ⟨h2, rfl⟩ := List.getElem?_eq_some_iff.mp h'
  intro q
  exact (List.pairwise_iff_getElem.mp hn i (i + 1) h1 h2 (Nat.lt_succ_self _)) q.symm
end Mine

end
section
open PySem PyProof.Rows
set_option Elab.async false
set_option autoImplicit false
set_option linter.unusedVariables false
namespace Mine
set_option maxRecDepth 100000

section
variable {prog : Program} {w : World} {A : Around} {E : Value → Shared → Prop} {s : Shared}
theorem nextT_item {it t : Addr} {i : Nat} {items : Array Value} {x : Value} {Q : Value → Shared → Prop} (hit : s.heap.IsTupleIter it t i) (ht : s.heap.IsTuple t items) (hx : items[i]? = some x)
    (hQ : ∀ h', h'.IsTupleIter it t (i + 1) → Heap.SameBut it s.heap h' → Q x { s with heap := h' }) : wpAny (model prog w) A (Builtin.SmallTypes.nextOf (.ref it)) Q E s := by
  obtain ⟨o, ho, hc, hd⟩ := id hit
  obtain ⟨ol, hol, _, nl, hdl⟩ := ht
  unfold Builtin.SmallTypes.nextOf
  refine wpAny_bind (wpAny_callSpecial?_slot (name := Str.ofString "__next__") hit.typeIs PySem.F.slot_tuple_iterator_next
    (wpAny_call_entry PySem.F.slot_tuple_iterator_next hit.typeIs PySem.F.entry_tuple_iterator_next ?_ (PySem.F.args_tuple_iterator_next_1 _)))
  show wpAny _ _ (field (.ref it) 0 >>= _) _ _ s
  refine wpAny_bind (wpAny_field ho hd (x := .ref t) rfl ?_)
  show wpAny _ _ (if (Value.ref t == Value.none) = true then _ else _) _ _ s
  rw [if_neg (show ¬ ((Value.ref t == Value.none) = true) from Bool.false_ne_true)]
  show wpAny _ _ (field (.ref it) 1 >>= _) _ _ s
  refine wpAny_bind (wpAny_field ho hd (x := .int i 0) rfl ?_)
  show wpAny _ _ (seqItems? (.ref t) >>= _) _ _ s
  refine wpAny_bind (wpAny_seqItems hol hdl ?_)
  simp only [Int.toNat_natCast, hx]
  refine wpAny_bind (wpAny_setField ho hd (by simp) (wpAny_pure ⟨x, rfl, wpAny_pure (hQ _ ?_ (Heap.SameBut.update ..))⟩))
  exact ⟨_, Heap.get?_update_self _ ho (Obj.isFreed_of_fields (Obj.data_mapFields hd _)), (Obj.cls_mapFields ..).trans hc, by
    rw [Obj.data_mapFields hd]; simp [rawInt]⟩
theorem nextT_end {it t : Addr} {i : Nat} {items : Array Value} {Q : Value → Shared → Prop} (hh : A.handled = none) (hit : s.heap.IsTupleIter it t i) (ht : s.heap.IsTuple t items) (hx : items[i]? = none)
    (hE : ∀ h' e, Heap.ExtBut it s.heap h' → (∃ o, h'.get? e = some o ∧ o.cls = .type "StopIteration") → E (.ref e) { s with heap := h' }) : wpAny (model prog w) A (Builtin.SmallTypes.nextOf (.ref it)) Q E s := by
  obtain ⟨o, ho, hc, hd⟩ := id hit
  obtain ⟨ol, hol, _, nl, hdl⟩ := ht
  unfold Builtin.SmallTypes.nextOf
  refine wpAny_bind (wpAny_callSpecial?_slot (name := Str.ofString "__next__") hit.typeIs PySem.F.slot_tuple_iterator_next
    (wpAny_call_entry PySem.F.slot_tuple_iterator_next hit.typeIs PySem.F.entry_tuple_iterator_next ?_ (PySem.F.args_tuple_iterator_next_1 _)))
  show wpAny _ _ (field (.ref it) 0 >>= _) _ _ s
  refine wpAny_bind (wpAny_field ho hd (x := .ref t) rfl ?_)
  show wpAny _ _ (if (Value.ref t == Value.none) = true then _ else _) _ _ s
  rw [if_neg (show ¬ ((Value.ref t == Value.none) = true) from Bool.false_ne_true)]
  show wpAny _ _ (field (.ref it) 1 >>= _) _ _ s
  refine wpAny_bind (wpAny_field ho hd (x := .int i 0) rfl ?_)
  show wpAny _ _ (seqItems? (.ref t) >>= _) _ _ s
  refine wpAny_bind (wpAny_seqItems hol hdl ?_)
  simp only [Int.toNat_natCast, hx]
  refine wpAny_bind (wpAny_rule (wpAny_bind (wpAny_setField ho hd (by simp) ?_)))
  show wpAny _ _ (newExc (.type "StopIteration") [] >>= _) _ _ _
  refine wpAny_bind ?_
  simp only [newExc, newTuple]
  refine wpAny_bind (wpAny_newObj_type ?_ (by size_fits))
  refine wpAny_bind (m := firstArgMember _ _) (wpAny_of_eq (a := Value.none) (by first | rfl | (simp only [firstArgMember]; rfl)) ?_)
  refine wpAny_newObj_type ?_ (by size_fits)
  simp only [raiseNew]
  refine wpAny_bind (wpAny_handled ?_)
  first | rw [show A.in1.handled = none from hh] | rw [hh]
  refine wpAny_bind (wpAny_pure (wpAny_throw ?_))
  exact hE _ _ (((Heap.SameBut.update ..).extBut.push _).push _) ⟨_, Heap.get?_push_size _ rfl, rfl⟩
end
theorem isTup_at {h h' : Heap} {a : Addr} {items : Array Value} (x : h.IsTuple a items) (k : ∀ o, h.get? a = some o → h'.get? a = some o) : h'.IsTuple a items := let ⟨o, ho, r⟩ := x; ⟨o, k o ho, r⟩
theorem isTupIter_at {h h' : Heap} {a t : Addr} {i : Nat} (x : h.IsTupleIter a t i) (k : ∀ o, h.get? a = some o → h'.get? a = some o) : h'.IsTupleIter a t i := let ⟨o, ho, r⟩ := x; ⟨o, k o ho, r⟩
theorem drawsT {prog : Program} {w : World} {A : Around} (hh : A.handled = none) (it l : Addr) (hne : l ≠ it) (items : Array Value) :
    Draws prog w A it [it, l] items.size (fun i v => items[i]? = some v) (fun i h => h.IsTupleIter it l i ∧ h.IsTuple l items) where
  live := fun _ _ st => let ⟨o, ho, _⟩ := st.1; ⟨o, ho⟩
  frame := fun _ _ _ st hk => ⟨isTupIter_at st.1 fun o e => hk it (by simp) o e, isTup_at st.2 fun o e => hk l (by simp) o e⟩
  item := fun i s Q E hi st hQ => by
    refine nextT_item st.1 st.2 (x := items[i]) (by simp [hi]) fun h' hit' hs' => ?_
    exact hQ _ h' s.toks (by simp [hi]) ⟨hit', st.2.extBut hs'.extBut hne⟩ hs'
  done := fun s Q E st hE => nextT_end hh st.1 st.2 (by simp) hE

theorem enum_newT (l : Addr) (items : Array Value) (n : Nat) (dct : Option Addr) (sl : Array (Option Value)) :
    Meets (Builtin.«enumerate.__new__» ⟨[.type "enumerate", .ref l], []⟩) (fun _ R s => s.heap.get? l = some { cls := .type "tuple", dict := dct, data := .seq items n, slots := sl } ∧
      R (.ok (.ret (.ref (s.heap.push { cls := .type "tuple_iterator", data := .fields #[.ref l, .int 0 0] }).objs.size)))
        { s with heap := (s.heap.push { cls := .type "tuple_iterator", data := .fields #[.ref l, .int 0 0] }).push { cls := .type "enumerate", data := .fields #[.none, .bool false, .ref s.heap.objs.size, rawInt 0, .none, .none] } }) :=
  .of_wp fun prog w A R s h => by
    obtain ⟨hp, g, d, tk, os⟩ := s; obtain ⟨hl, h⟩ := h
    have hsub := sub_enumerate
    have hL : Heap.IsTuple (Shared.heap ⟨hp, g, d, tk, os⟩) l items := ⟨_, hl, rfl, n, rfl⟩
    wp_walk using AutoSeq1.wpAny_loadPart' hl
    refine wpAny_stack_any fun st => wpAny_pure ?_
    split
    · rename_i c _ _ _ _ _
      cases (c == Value.type "enumerate")
      · wp_walk using AutoSeq1.wpAny_loadPart' hl, wpAny_pyIter_tuple hL
        exact ⟨_, rfl, h⟩
      · wp_walk using AutoSeq1.wpAny_loadPart' hl, wpAny_pyIter_tuple hL
        exact ⟨_, rfl, h⟩
    · wp_walk using AutoSeq1.wpAny_loadPart' hl, wpAny_pyIter_tuple hL
      exact ⟨_, rfl, h⟩
theorem call_enumT {prog : Program} {w : World} {A : Around} {E : Value → Shared → Prop} {s : Shared} {l : Addr} {items : Array Value} {Q : Value → Shared → Prop} (hL : s.heap.IsTuple l items)
    (h : ∀ h' e it, e ≠ it → s.heap.get? e = none → s.heap.get? it = none → IsEnum h' e it 0 .none → h'.IsTupleIter it l 0 → (∀ b o, s.heap.get? b = some o → h'.get? b = some o) → Q (.ref e) { s with heap := h' }) :
    wpAny (model prog w) A (call (.type "enumerate") [.ref l]) Q E s := by
  obtain ⟨⟨c, dct, dt, sl⟩, hl, hc, n, hd⟩ := hL
  replace hc : c = .type "tuple" := hc
  replace hd : dt = .seq items n := hd
  subst hc hd
  refine callType_new PySem.F.called_enumerate (by decide) (PySem.F.typeCall_enumerate_1 _) (PySem.F.newCall_enumerate_1 _) (fun obj => PySem.F.args_object_init_2 obj _) PySem.F.entry_enumerate_new
    (enum_newT l items n dct sl) ⟨hl, ?_⟩
  have hz : (s.heap.push { cls := .type "tuple_iterator", data := .fields #[.ref l, .int 0 0] }).objs.size = s.heap.objs.size + 1 := Heap.size_push ..
  show _ ∧ _
  rw [hz]
  have he : IsEnum ((s.heap.push { cls := .type "tuple_iterator", data := .fields #[.ref l, .int 0 0] }).push
      { cls := .type "enumerate", data := .fields #[.none, .bool false, .ref s.heap.objs.size, rawInt 0, .none, .none] }) (s.heap.objs.size + 1) s.heap.objs.size 0 .none := by
    have := Heap.get?_push_size (s.heap.push { cls := .type "tuple_iterator", data := .fields #[.ref l, .int 0 0] })
      (o := { cls := .type "enumerate", data := .fields #[.none, .bool false, .ref s.heap.objs.size, rawInt 0, .none, .none] }) rfl
    rw [hz] at this; exact this
  exact ⟨⟨_, he, rfl⟩, h _ _ _ (Nat.succ_ne_self _) (Heap.get?_none_of_le (Nat.le_succ _)) (Heap.get?_none_of_le (Nat.le_refl _)) he ⟨_, Heap.get?_push_of_some _ (Heap.get?_push_size _ rfl), rfl, rfl⟩ fun b o x => Heap.get?_push_of_some _ (Heap.get?_push_of_some _ x)⟩
end Mine

end
section
open PySem PyProof.Rows
set_option Elab.async false
set_option autoImplicit false
set_option linter.unusedVariables false
namespace Mine
section
variable {C : Cfg} {σ : St} {Q : AFlow → St → Prop} {X : Bool → St → Prop}

/-- a record that is no value outlives a step -/
theorem fields_step (K : CfgOk C) {O' : Addr → Prop} {g : Str → Addr} {s s' : Shared} (R : Rel C σ g s) (S : Step C (Ow σ g) s O' s') {b : Addr} {o : Obj} {vs : Array Value} (e : s.heap.get? b = some o) (hd : o.data = .fields vs) (hnv : ¬ isVal o) : s'.heap.get? b = some o := by
  obtain ⟨m, RM⟩ := R
  refine (S.keep b o e fun q => ?_).fields hd
  rcases q with q | q | ⟨⟨y, u⟩, hy, q⟩
  · obtain ⟨oL, es, ep, ho, hdL, _⟩ := RM.ns
    rw [← q, e] at ho; cases ho; rw [hd] at hdL; cases hdL
  · obtain ⟨y, hy⟩ := K.wcell b q
    obtain ⟨u, oc, ho, hdc⟩ := RM.cells y b hy
    rw [e] at ho; cases ho; rw [hd] at hdc; cases hdc
  · obtain ⟨_, h2, _⟩ := RM.ow y u hy
    obtain ⟨o', ho', hv⟩ := h2.isVal
    simp only at q
    rw [q, e] at ho'; cases ho'
    exact hnv hv

theorem notVal_enum {o : Obj} {vs : Array Value} (hc : o.cls = .type "enumerate") (hd : o.data = .fields vs) : ¬ isVal o := notVal_exc hc (by decide) hd

/-- what a loop over enumerate(tuple) carries -/
structure TurnE (C : Cfg) (O : Addr → Prop) (s : Shared) (e it a : Addr) (vs : List Value) (xs : List AVal) (i : Nat) (σ' : Mine.St) (g' : Str → Addr) (s' : Shared) : Prop where
  R : Rel C σ' g' s'
  S : Step C O s (Ow σ' g') s'
  en : ∃ old, IsEnum s'.heap e it i old
  ti : s'.heap.IsTupleIter it a i
  tu : s'.heap.IsTuple a vs.toArray
  nav : ¬ Av C σ' g' a
  itm : VRs C.prog C.w (Av C σ' g') s'.heap xs vs

theorem TurnE.step (K : CfgOk C) {O : Addr → Prop} {s : Shared} {e it a : Addr} {vs : List Value} {xs : List AVal} {i : Nat} {σ₁ σ₂ : Mine.St} {g₁ g₂ : Str → Addr} {s₁ s₂ : Shared}
    (T : TurnE C O s e it a vs xs i σ₁ g₁ s₁) (R₂ : Rel C σ₂ g₂ s₂) (S₂ : Step C (Ow σ₁ g₁) s₁ (Ow σ₂ g₂) s₂) : TurnE C O s e it a vs xs i σ₂ g₂ s₂ := by
  obtain ⟨old, hen⟩ := T.en
  obtain ⟨oi, hoi, hci, hdi⟩ := T.ti
  obtain ⟨oa, hoa, hca, n, hda⟩ := T.tu
  have hva : isVal oa := .inl ⟨_, _, hda⟩
  have hka := val_step K T.R S₂ hoa hva T.nav
  exact ⟨R₂, T.S.trans S₂, ⟨old, fields_step K T.R S₂ hen rfl (notVal_enum rfl rfl)⟩, ⟨oi, fields_step K T.R S₂ hoi hdi (notVal_iter hci (.inr (.inl rfl)) hdi), hci, hdi⟩, ⟨oa, hka.2, hca, n, hda⟩, hka.1,
    VRs.mono (fun b o e hv hp => val_step K T.R S₂ e hv hp) _ _ T.itm⟩

/-- the iterator's move -/
theorem TurnE.moved (K : CfgOk C) {O : Addr → Prop} {s : Shared} {e it a : Addr} {vs : List Value} {xs : List AVal} {i : Nat} {σ₁ : Mine.St} {g₁ : Str → Addr} {s₁ : Shared} {h' : Heap} {tk : Nat}
    (hB : BaseIn C s) (he0 : s.heap.get? e = none) (hi0 : s.heap.get? it = none) (T : TurnE C O s e it a vs xs i σ₁ g₁ s₁) (hk : ∀ b o, b ≠ e → b ≠ it → s₁.heap.get? b = some o → h'.get? b = some o) :
    Rel C σ₁ g₁ { s₁ with heap := h', toks := tk } ∧ Step C O s (Ow σ₁ g₁) { s₁ with heap := h', toks := tk } ∧ (∀ b o, s₁.heap.get? b = some o → isVal o → h'.get? b = some o) := by
  obtain ⟨old, hen⟩ := T.en
  obtain ⟨oi, hoi, hci, hdi⟩ := T.ti
  have ht : Tch C.fls s.heap s₁.heap h' := fun b o q => by
    by_cases q1 : b = e
    · subst q1; rw [show s₁.heap.get? b = some _ from hen] at q; cases q
      exact .inl ⟨he0, ⟨_, rfl⟩, notVal_enum rfl rfl⟩
    · by_cases q2 : b = it
      · subst q2; rw [hoi] at q; cases q
        exact .inl ⟨hi0, ⟨_, hdi⟩, notVal_iter hci (.inr (.inl rfl)) hdi⟩
      · exact .inr (.inl (hk b o q1 q2 q))
  exact ⟨((T.R.tch ht hB.1 hB.2.1 hB.2.2).toks tk), ((T.S.tch ht).toks tk), fun b o q hv => ht.of_val q hv⟩

theorem x1_forEnum (K : CfgOk C) (hh : C.A.handled = none) {elts : List Expr} {nt : Nat} {pt pe cpos pos : Pos} {te : Expr} {body orelse : List Stmt} {xs : List AVal} (hg : GlobB C "enumerate" (.type "enumerate")) (he : EV C σ te (.tuple xs)) (hn : notStar te) (inv : Nat → St → Prop) (h0 : inv 0 σ)
    (turn : ∀ i x σ', xs[i]? = some x → inv i σ' → ∃ σ₁, ASG C σ' (.Tuple elts nt pt) (.tuple [.int (i : Int), x]) σ₁ ∧ XS C σ₁ body (fun f σ₂ => match f with | .next | .cont => inv (i + 1) σ₂ | .brk => Q .next σ₂ | .ret u => Q (.ret u) σ₂) (fun _ _ => False))
    (done : ∀ σ', inv xs.length σ' → XS C σ' orelse Q (fun _ _ => False)) (hs : ∀ x, foldedSetIterable (.Call (.Name "enumerate" pe) [te] [] cpos) C.env x = pure x) :
    X1 C σ (.For (.Tuple elts nt pt) (.Call (.Name "enumerate" pe) [te] [] cpos) body orelse pos) Q X := fun g s R => by
  have hB := R.baseIn
  refine wpAny_noRaise ?_
  refine wpAny_For ?_ hs
  rw [eval_call_name]
  refine wpAny_bind (wp_globB K R hg (by decide +kernel) ?_)
  rw [hn]
  refine PySem.callWith_type rfl (Calls.evalArgs_plain (Calls.spliced_cons (he g s _ _ R fun cv s₁ G1 V1 => Calls.spliced_nil ?_)))
  simp only [VR] at V1
  obtain ⟨a, vs, rfl, hpa, hta, hvs⟩ := V1
  refine call_enumT hta fun h' e it hne he0 hi0 hen hti hk => ?_
  refine wpAny_pyIter_enum hen ?_
  have G2 : Grow C.fls s₁ { s₁ with heap := h' } := Grow.of (tk := s₁.toks) hk
  have G := G1.trans G2
  have nw : ∀ b, s₁.heap.get? b = none → s.heap.get? b = none := fun b e => by
    cases e' : s.heap.get? b with
    | none => rfl
    | some o => obtain ⟨o', e'', _⟩ := (G1.keep _ o e').data; rw [e] at e''; cases e''
  have T0 : TurnE C (Ow σ g) s e it a vs xs 0 σ g { s₁ with heap := h' } := ⟨R.grow G, G.step, ⟨_, hen⟩, hti, isTup_at hta fun o q => hk _ o q, hpa, hvs.grow G2⟩
  have hai : a ≠ it := fun q => by subst q; obtain ⟨o, ho, _⟩ := hta; rw [hi0] at ho; cases ho
  have hae : a ≠ e := fun q => by subst q; obtain ⟨o, ho, _⟩ := hta; rw [he0] at ho; cases ho
  have D := drawsT (prog := C.prog) (w := C.w) (A := C.A.in1) (by simp [hh]) it a hai vs.toArray
  have hsz : vs.toArray.size = xs.length := by rw [List.size_toArray, hvs.length]
  refine codeAny_forLoop_any (fun n s' => ∃ i σ' g', n = xs.length + 1 - i ∧ i ≤ xs.length ∧ TurnE C (Ow σ g) s e it a vs xs i σ' g' s' ∧ inv i σ') ?_ (xs.length + 1) ⟨0, σ, g, rfl, Nat.zero_le _, T0, h0⟩
  rintro n s₃ ⟨i, σ₃, g₃, rfl, hle, T, hinv⟩
  obtain ⟨old, hen₃⟩ := T.en
  have hef : e ∉ [it, a] := by simp [hne, Ne.symm hae]
  by_cases hlt : i < xs.length
  · refine wpAny_pyNext_enum_itemD D hen₃ ⟨T.ti, T.tu⟩ (by rw [hsz]; exact hlt) hne hef fun x h₄ tk hP ho₄ hst₄ hT₄ hz₄ hk₄ => ?_
    refine wpAny_letOwnedTupleGo_enum ho₄ fun h₅ hen₅ hsb₅ => ?_
    have hTe : s₃.heap.objs.size ≠ e := Nat.ne_of_gt (Heap.lt_size hen₃)
    have hk₅ : ∀ b o, b ≠ e → b ≠ it → s₃.heap.get? b = some o → h₅.get? b = some o := fun b o q1 q2 q => (hsb₅.2 b q1).trans (hk₄ b o q1 q2 q)
    obtain ⟨R₅, S₅, kv₅⟩ := T.moved (tk := tk + 1) K hB (nw _ he0) (nw _ hi0) hk₅
    obtain ⟨oa, hoa, hca, na, hda⟩ := id T.tu
    have T5 : TurnE C (Ow σ g) s e it a vs xs (i + 1) σ₃ g₃ { s₃ with heap := h₅, toks := tk + 1 } :=
      ⟨R₅, S₅, ⟨_, hen₅⟩, isTupIter_at hst₄.1 fun o q => (hsb₅.2 it (Ne.symm hne)).trans q, isTup_at hst₄.2 fun o q => (hsb₅.2 a hae).trans q, T.nav, VRs.mono (fun b o q hv hp => ⟨hp, kv₅ b o q hv⟩) _ _ T.itm⟩
    obtain ⟨σ₄, hA, hX⟩ := turn i xs[i] σ₃ (by simp [hlt]) hinv
    have hV : VR C.prog C.w (Av C σ₃ g₃) h₅ (.tuple [.int (i : Int), xs[i]]) (.ref s₃.heap.objs.size) := by
      simp only [VR]
      refine ⟨_, [.int i tk, x], rfl, fun q => ?_, ⟨_, (hsb₅.2 _ hTe).trans hT₄, rfl, _, rfl⟩, ?_⟩
      · obtain ⟨o, ho⟩ := T.R.av_live q; exact absurd (Heap.lt_size ho) (Nat.lt_irrefl _)
      · obtain ⟨c, hc, V⟩ := T5.itm.get i xs[i] (by simp [hlt])
        have hP' : vs[i]? = some x := by simpa using hP
        rw [hc] at hP'; cases hP'
        simp only [VRs, VR]
        exact ⟨_, _, rfl, ⟨tk, rfl⟩, _, _, rfl, V, rfl⟩
    refine hA g₃ _ _ _ _ T5.R hV fun s₆ R₆ S₆ => ?_
    have T6 := T5.step K R₆ S₆
    refine wpAny_mono (hX g₃ s₆ R₆) (fun f s₇ q => ?_) fun e s₇ q => ?_
    · obtain ⟨σ₇, g₇, f', R₇, S₇, F₇, hQ⟩ := q
      have T7 := T6.step K R₇ S₇
      cases f' with
      | next => simp only [FlowR] at F₇; subst F₇; exact ⟨xs.length + 1 - (i + 1), by lia, i + 1, σ₇, g₇, rfl, hlt, T7, hQ⟩
      | cont => simp only [FlowR] at F₇; subst F₇; exact ⟨xs.length + 1 - (i + 1), by lia, i + 1, σ₇, g₇, rfl, hlt, T7, hQ⟩
      | brk => simp only [FlowR] at F₇; subst F₇; exact ⟨σ₇, g₇, .next, R₇, T7.S, rfl, hQ⟩
      | ret v =>
        have F' := F₇
        simp only [FlowR] at F₇; obtain ⟨cv, rfl, _⟩ := F₇; exact ⟨σ₇, g₇, .ret v, R₇, T7.S, F', hQ⟩
    · obtain ⟨_, _, _, _, _, _, hF⟩ := q; exact hF.elim
  · have hi' : i = xs.length := by lia
    subst hi'
    refine wpAny_pyNext_enum_endD D hen₃ (by rw [hsz]; exact ⟨T.ti, T.tu⟩) fun h₄ hx₄ => ?_
    obtain ⟨R₄, S₄, _⟩ := T.moved (tk := s₃.toks) K hB (nw _ he0) (nw _ hi0) fun b o _ q2 q => hx₄ b o q2 q
    refine wpAny_mono (done σ₃ hinv g₃ _ R₄) (fun f s₅ q => ?_) fun e s₅ q => ?_
    · exact q.pre S₄
    · obtain ⟨_, _, _, _, _, _, hF⟩ := q; exact hF.elim
end
end Mine

end
section
open PySem PyProof.Rows
set_option Elab.async false
set_option autoImplicit false
set_option linter.unusedVariables false
namespace Mine
/-! filemode by value -/
def chS (c : Nat) : Str := ⟨#[c]⟩
def fmTab : List (List (Int × Nat)) :=
  [[(40960, 108), (49152, 115), (32768, 45), (24576, 98), (16384, 100), (8192, 99), (4096, 112)],
   [(256, 114)], [(128, 119)], [(2112, 115), (2048, 83), (64, 120)],
   [(32, 114)], [(16, 119)], [(1032, 115), (1024, 83), (8, 120)],
   [(4, 114)], [(2, 119)], [(513, 116), (512, 84), (1, 120)]]
def fmHit (n : Int) (k : Nat) (p : Int × Nat) : Bool := if k = 0 then Builtin.bitAnd n 61440 == p.1 else Builtin.bitAnd n p.1 == p.1
def fmPick (n : Int) (k : Nat) (t : List (Int × Nat)) : Nat := match t.find? (fmHit n k) with | some p => p.2 | none => if k = 0 then 63 else 45
def fmChars (n : Int) (i : Nat) : List Nat := (List.range i).map fun k => fmPick n k (fmTab.getD k [])
def fmRow (t : List (Int × Nat)) : AVal := .tuple (t.map fun p => .tuple [.int p.1, .str (chS p.2)])
def fmA : AVal := .tuple (fmTab.map fmRow)
def fmStr (n : Int) : Str := Txt.join "" ((fmChars n 10).map chS)
theorem fmChars_succ (n : Int) (i : Nat) : fmChars n (i + 1) = fmChars n i ++ [fmPick n i (fmTab.getD i [])] := by
  unfold fmChars; rw [List.range_succ, List.map_append]; rfl
theorem fmChars_length (n : Int) (i : Nat) : (fmChars n i).length = i := by simp [fmChars]
theorem fmPick_hit {n : Int} {k j : Nat} {t : List (Int × Nat)} {p : Int × Nat} (h : t[j]? = some p) (hp : fmHit n k p = true) (hb : (t.take j).find? (fmHit n k) = none) : fmPick n k t = p.2 := by
  have : t = t.take j ++ p :: t.drop (j + 1) := by rw [← drop_at h, List.take_append_drop]
  unfold fmPick
  rw [this, List.find?_append, hb]
  simp [hp]
theorem fmPick_none {n : Int} {k : Nat} {t : List (Int × Nat)} (hb : t.find? (fmHit n k) = none) : fmPick n k t = if k = 0 then 63 else 45 := by
  unfold fmPick; rw [hb]
theorem find_take_succ {n : Int} {k j : Nat} {t : List (Int × Nat)} {p : Int × Nat} (h : t[j]? = some p) (hp : fmHit n k p = false) (hb : (t.take j).find? (fmHit n k) = none) : (t.take (j + 1)).find? (fmHit n k) = none := by
  rw [List.take_add_one, h, List.find?_append, hb]
  simp [hp]
end Mine

end
section
open PySem PyProof.Rows
set_option Elab.async false
set_option autoImplicit false
set_option linter.unusedVariables false
namespace Mine
theorem compLocal {C : Cfg} {scope : Scope} {P : Addr → Prop} {L : Addr} {x : Str} (h : scope.names.lookup x = some .local) : Storable (compCfg C scope P L) x := .inl (lookup_relabel_local h)

/-! the words of claim 03 by value -/
end Mine

end
section
open PySem PyProof.Rows
set_option Elab.async false
set_option autoImplicit false
set_option linter.unusedVariables false
namespace Mine
theorem x1_ifJ {C : Cfg} {σ : St} {Q : AFlow → St → Prop} {X : Bool → St → Prop} {t : Expr} {b o : List Stmt} {pos : Pos} {c : Bool} (σJ : St) (ht : EB C σ t c) (hb : c = true → XS C σ b (fun f σ' => f = .next ∧ σ' = σJ) X) (ho : c = false → XS C σ o (fun f σ' => f = .next ∧ σ' = σJ) X) (h : Q .next σJ) : X1 C σ (.If t b o pos) Q X :=
  x1_if ht (fun q => (hb q).imp (fun f σ' ⟨h1, h2⟩ => by subst h1 h2; exact h) fun _ _ x => x) (fun q => (ho q).imp (fun f σ' ⟨h1, h2⟩ => by subst h1 h2; exact h) fun _ _ x => x)
theorem iter_range (n : Nat) (h : n < 2 ^ 62) : iterItems (.range 0 (n : Int)) = some ((List.range n).map fun (k : Nat) => AVal.int (k : Int)) := by
  simp only [iterItems]
  rw [if_pos ⟨by lia, by lia, by lia, by lia⟩]
  unfold rangeL
  simp
end Mine

end
section
open PySem PyProof.Rows PySem.Calls
set_option Elab.async false
set_option autoImplicit false
set_option linter.unusedVariables false
namespace Mine
def noArgs : Arguments := { posonlyargs := [], args := [], vararg := none, kwonlyargs := [], kw_defaults := [], kwarg := none, defaults := [] }
def recOf : Stmt → DefRec
  | .FunctionDef (name := n) (args := p) (body := b) (scope := s) (pos := q) .. => ⟨n, p, b, s, q⟩
  | _ => ⟨"", noArgs, [], noScope, ⟨0, 0, 0, 0⟩⟩
theorem recOf_body (st : Stmt) : (recOf st).body = fnBody st := by cases st <;> rfl
theorem recOf_scope (st : Stmt) : (recOf st).scope = fnScope st := by cases st <;> rfl
def restOf (st : Stmt) (pm code doc : Value) : FdRest := ⟨(recOf st).name, (recOf st).name, (recOf st).params, .none, .none, doc, pm, none, code, .none⟩
theorem docDef_mk (st : Stmt) (pm code doc : Value) : docDef (recOf st).name (recOf st).params (recOf st).body (recOf st).scope pm code doc = mkFd st (restOf st pm code doc) := by
  rw [recOf_body, recOf_scope]; rfl
theorem fnAt_top {p : Program} {loose : List Str} {mean : ExcName → Option Value} {mg mb : Str → Option Value} {h : Heap} (T : Top p loose mean mg mb h) {st : Stmt} {nm : Str} {ps : List Str} (k : Nat) (hk : (recsOf p)[k]? = some (recOf st)) (hn : (recOf st).name = nm)
    (hb : ∀ (pm code doc : Value) (args : List Value), args.length = ps.length → bindArgs (mkFd st (restOf st pm code doc)) ⟨args, []⟩ = pure (ps.zip args)) : ∃ fa o r, FnAt h mg st nm ps fa o r := by
  obtain ⟨a, o, pm, code, doc, h1, h2, h3, h4⟩ := T.fn _ (List.mem_of_getElem? hk)
  rw [docDef_mk] at h3
  exact ⟨a, o, restOf st pm code doc, by rw [← hn]; exact h1, h2, h3, h4, hb pm code doc⟩
end Mine

end
section
open PySem PyProof.Rows PySem.W
set_option Elab.async false
set_option autoImplicit false
set_option linter.unusedVariables false
namespace Mine
mutual
def aW : AVal → WData
  | .int i => .int i
  | .str s => .str s
  | .tuple xs => .tuple (aWs xs)
  | _ => .none
def aWs : List AVal → List WData
  | [] => []
  | x :: xs => aW x :: aWs xs
end
mutual
def okA : AVal → Bool
  | .int _ => true
  | .str _ => true
  | .tuple xs => okAs xs
  | _ => false
def okAs : List AVal → Bool
  | [] => true
  | x :: xs => okA x && okAs xs
end
section
variable {prog : Program} {w : World} {R : WRecords} {cl : Str → Option Addr} {h : Heap}
mutual
theorem vr_lit : ∀ (x : AVal) (v : Value) (as : List Addr), okA x = true → ReadsW R cl h v (aW x) as → VR prog w (fun b => h.get? b = none) h x v
  | .int i, v, as, _, r => by simp only [aW] at r; cases r with | int i t => simp only [VR]; exact ⟨t, rfl⟩
  | .str s, v, as, _, r => by simp only [aW] at r; cases r with | str s t => simp only [VR]; exact ⟨t, rfl⟩
  | .tuple xs, v, as, hk, r => by
    simp only [aW] at r
    cases r with
    | @tuple a o vs n _ _ ho hc hd hr =>
      simp only [okA] at hk
      simp only [VR]
      refine ⟨a, vs.toList, rfl, (fun q => by rw [ho] at q; cases q), ⟨o, ho, hc, n, by simpa using hd⟩, vrs_lit xs vs.toList as hk hr⟩
  | .none, _, _, hk, _ => by simp [okA] at hk
  | .bool _, _, _, hk, _ => by simp [okA] at hk
  | .list _, _, _, hk, _ => by simp [okA] at hk
  | .range _ _, _, _, hk, _ => by simp [okA] at hk
  | .setI _, _, _, hk, _ => by simp [okA] at hk
  | .setS _, _, _, hk, _ => by simp [okA] at hk
theorem vrs_lit : ∀ (xs : List AVal) (vs : List Value) (as : List Addr), okAs xs = true → ReadsAllW R cl h vs (aWs xs) as → VRs prog w (fun b => h.get? b = none) h xs vs
  | [], vs, as, _, r => by simp only [aWs] at r; cases r; simp only [VRs]
  | x :: xs, vs, as, hk, r => by
    simp only [aWs] at r
    simp only [okAs, Bool.and_eq_true] at hk
    cases r with
    | cons h1 h2 => simp only [VRs]; exact ⟨_, _, rfl, vr_lit x _ _ hk.1 h1, vrs_lit xs _ _ hk.2 h2⟩
end
end
end Mine

end
section
open PySem PyProof.Rows
set_option Elab.async false
set_option autoImplicit false
set_option linter.unusedVariables false
namespace Mine
/-! sorted lists and their difference -/
section
variable {α : Type} (lt : α → α → Bool)
structure Lin : Prop where
  irr : ∀ x, lt x x = false
  tr : ∀ x y z, lt x y = true → lt y z = true → lt x z = true
  tri : ∀ x y, lt x y = false → lt y x = false → x = y
variable {lt}
theorem dif_sub : ∀ (n : Nat) (a b : List α), a.length + b.length = n → (dif lt a b).1.Sublist a ∧ (dif lt a b).2.Sublist b := by
  intro n
  induction n using Nat.strongRecOn with
  | _ n ih =>
    intro a b hn
    cases a with
    | nil => rw [dif_nil]; exact ⟨.slnil, List.Sublist.refl _⟩
    | cons x a =>
      cases b with
      | nil => rw [dif_nil']; exact ⟨List.Sublist.refl _, .slnil⟩
      | cons y b =>
        simp only [List.length_cons] at hn
        rw [dif_cons]
        split
        · have := ih (n - 1) (by lia) a (y :: b) (by simp only [List.length_cons]; lia)
          exact ⟨this.1.cons_cons _, this.2⟩
        · split
          · have := ih (n - 1) (by lia) (x :: a) b (by simp only [List.length_cons]; lia)
            exact ⟨this.1, this.2.cons_cons _⟩
          · have := ih (n - 2) (by lia) a b (by lia)
            exact ⟨this.1.cons _, this.2.cons _⟩
theorem dif_sub1 (a b : List α) : (dif lt a b).1.Sublist a := (dif_sub _ a b rfl).1
theorem dif_mem (H : Lin lt) : ∀ (n : Nat) (a b : List α), a.length + b.length = n → a.Pairwise (fun x y => lt x y = true) → b.Pairwise (fun x y => lt x y = true) →
    ∀ z, (z ∈ (dif lt a b).1 ↔ z ∈ a ∧ z ∉ b) ∧ (z ∈ (dif lt a b).2 ↔ z ∈ b ∧ z ∉ a) := by
  intro n
  induction n using Nat.strongRecOn with
  | _ n ih =>
    intro a b hn ha hb z
    cases a with
    | nil => rw [dif_nil]; simp
    | cons x a =>
      cases b with
      | nil => rw [dif_nil']; simp
      | cons y b =>
        simp only [List.length_cons] at hn
        rw [dif_cons]
        have ha' := List.pairwise_cons.mp ha
        have hb' := List.pairwise_cons.mp hb
        have ne : ∀ u v, lt u v = true → u ≠ v := fun u v h e => by rw [e, H.irr] at h; cases h
        split
        · rename_i h
          obtain ⟨i1, i2⟩ := ih (n - 1) (by lia) a (y :: b) (by simp only [List.length_cons]; lia) ha'.2 hb z
          have hx : x ∉ y :: b := fun q => by
            rcases List.mem_cons.mp q with q | q
            · exact ne _ _ h q
            · exact ne _ _ (H.tr _ _ _ h (hb'.1 x q)) rfl
          refine ⟨?_, ?_⟩
          · simp only [List.mem_cons (a := z) (b := x)]
            rw [i1]
            constructor
            · rintro (rfl | ⟨h1, h2⟩)
              · exact ⟨.inl rfl, hx⟩
              · exact ⟨.inr h1, h2⟩
            · rintro ⟨rfl | h1, h2⟩
              · exact .inl rfl
              · exact .inr ⟨h1, h2⟩
          · rw [i2]
            constructor
            · rintro ⟨h1, h2⟩
              refine ⟨h1, fun q => ?_⟩
              rcases List.mem_cons.mp q with rfl | q
              · exact hx h1
              · exact h2 q
            · rintro ⟨h1, h2⟩; exact ⟨h1, fun q => h2 (.tail _ q)⟩
        · rename_i h
          split
          · rename_i h'
            obtain ⟨i1, i2⟩ := ih (n - 1) (by lia) (x :: a) b (by simp only [List.length_cons]; lia) ha hb'.2 z
            have hy : y ∉ x :: a := fun q => by
              rcases List.mem_cons.mp q with q | q
              · exact ne _ _ h' q
              · exact ne _ _ (H.tr _ _ _ h' (ha'.1 y q)) rfl
            refine ⟨?_, ?_⟩
            · rw [i1]
              constructor
              · rintro ⟨h1, h2⟩
                refine ⟨h1, fun q => ?_⟩
                rcases List.mem_cons.mp q with rfl | q
                · exact hy h1
                · exact h2 q
              · rintro ⟨h1, h2⟩; exact ⟨h1, fun q => h2 (.tail _ q)⟩
            · simp only [List.mem_cons (a := z) (b := y)]
              rw [i2]
              constructor
              · rintro (rfl | ⟨h1, h2⟩)
                · exact ⟨.inl rfl, hy⟩
                · exact ⟨.inr h1, h2⟩
              · rintro ⟨rfl | h1, h2⟩
                · exact .inl rfl
                · exact .inr ⟨h1, h2⟩
          · rename_i h'
            have e : x = y := H.tri _ _ (eq_false_of_ne_true h) (eq_false_of_ne_true h')
            subst e
            obtain ⟨i1, i2⟩ := ih (n - 2) (by lia) a b (by lia) ha'.2 hb'.2 z
            have hxa : x ∉ a := fun q => ne _ _ (ha'.1 x q) rfl
            have hxb : x ∉ b := fun q => ne _ _ (hb'.1 x q) rfl
            refine ⟨?_, ?_⟩
            · rw [i1]
              constructor
              · rintro ⟨h1, h2⟩
                refine ⟨.tail _ h1, fun q => ?_⟩
                rcases List.mem_cons.mp q with rfl | q
                · exact hxa h1
                · exact h2 q
              · rintro ⟨h1, h2⟩
                rcases List.mem_cons.mp h1 with rfl | h1
                · exact absurd (List.Mem.head _) h2
                · exact ⟨h1, fun q => h2 (.tail _ q)⟩
            · rw [i2]
              constructor
              · rintro ⟨h1, h2⟩
                refine ⟨.tail _ h1, fun q => ?_⟩
                rcases List.mem_cons.mp q with rfl | q
                · exact hxb h1
                · exact h2 q
              · rintro ⟨h1, h2⟩
                rcases List.mem_cons.mp h1 with rfl | h1
                · exact absurd (List.Mem.head _) h2
                · exact ⟨h1, fun q => h2 (.tail _ q)⟩
theorem mem_dif1 (H : Lin lt) {a b : List α} (ha : a.Pairwise (fun x y => lt x y = true)) (hb : b.Pairwise (fun x y => lt x y = true)) {z : α} : z ∈ (dif lt a b).1 ↔ z ∈ a ∧ z ∉ b := (dif_mem H _ a b rfl ha hb z).1
theorem mem_dif2 (H : Lin lt) {a b : List α} (ha : a.Pairwise (fun x y => lt x y = true)) (hb : b.Pairwise (fun x y => lt x y = true)) {z : α} : z ∈ (dif lt a b).2 ↔ z ∈ b ∧ z ∉ a := (dif_mem H _ a b rfl ha hb z).2
/-- put in order -/
def sortL (lt : α → α → Bool) (l : List α) : List α := l.mergeSort fun x y => !lt y x
theorem sortL_perm (l : List α) : (sortL lt l).Perm l := List.mergeSort_perm l _
theorem le_total (H : Lin lt) (x y : α) : (!lt y x || !lt x y) = true := by
  cases h : lt y x with
  | false => rfl
  | true =>
    cases h' : lt x y with
    | false => rfl
    | true => have := H.tr _ _ _ h h'; rw [H.irr] at this; cases this
theorem le_trans' (H : Lin lt) (x y z : α) (h1 : (!lt y x) = true) (h2 : (!lt z y) = true) : (!lt z x) = true := by
  simp only [Bool.not_eq_true'] at *
  cases h : lt z x with
  | false => rfl
  | true =>
    cases h3 : lt x y with
    | true => have := H.tr _ _ _ h h3; rw [h2] at this; cases this
    | false => have := H.tri _ _ h3 h1; subst this; rw [h2] at h; cases h
theorem sortL_le (H : Lin lt) (l : List α) : (sortL lt l).Pairwise fun x y => (!lt y x) = true :=
  List.pairwise_mergeSort (le_trans' H) (le_total H) l
theorem sortL_lt (H : Lin lt) {l : List α} (hn : l.Nodup) : (sortL lt l).Pairwise fun x y => lt x y = true := by
  have h1 := sortL_le H l
  have h2 : (sortL lt l).Nodup := (sortL_perm l).nodup_iff.mpr hn
  refine List.Pairwise.imp (fun {x y} h => ?_) (h1.and h2)
  obtain ⟨q1, q2⟩ := h
  simp only [Bool.not_eq_true'] at q1
  cases h : lt x y with
  | true => rfl
  | false => exact absurd (H.tri _ _ h q1) q2
theorem mem_sortL {l : List α} {x : α} : x ∈ sortL lt l ↔ x ∈ l := (sortL_perm l).mem_iff
theorem sortL_len (l : List α) : (sortL lt l).length = l.length := (sortL_perm l).length_eq
theorem sortL_nodup {l : List α} (hn : l.Nodup) : (sortL lt l).Nodup := (sortL_perm l).nodup_iff.mpr hn
end
/-! the two orders -/
def ltI (x y : Int) : Bool := decide (x < y)
theorem linI : Lin ltI := ⟨fun x => by simp [ltI], fun x y z h1 h2 => by simp only [ltI, decide_eq_true_eq] at *; lia, fun x y h1 h2 => by simp only [ltI, decide_eq_false_iff_not] at *; lia⟩
theorem sortI_pw (l : List Int) : (sortL ltI l).Pairwise (· ≤ ·) := (sortL_le linI l).imp fun {x y} h => by simpa [ltI] using h
end Mine

end
section
open PySem PyProof.Rows
set_option Elab.async false
set_option autoImplicit false
set_option linter.unusedVariables false
namespace Mine
section
variable {C : Cfg} {σ : St} {z : Bool}
/-- a slice of a list that is no variable's -/
theorem ev_sliceToT {e u : Expr} {p pos : Pos} {xs : List AVal} {k : Int} (he : EVz z C σ e (.list xs)) (hu : EV C σ u (.int k)) (h0 : 0 ≤ k) (hsz : xs.length ≤ sizeLine) :
    EVz z C σ (.Subscript e (.Slice none (some u) none p) pos) (.list (xs.take k.toNat)) := fun g s E Q R kk => by
  refine Subscript_ (he g s _ _ R fun ce s₁ G1 V1 => ?_)
  refine wpAny_Slice ?_
  rw [evalPart_none]
  refine wpAny_pure ?_
  rw [evalPart_some]
  refine hu g s₁ _ _ (R.grow G1) fun ci s₂ G2 V2 => ?_
  simp only [VR] at V2; obtain ⟨t, rfl⟩ := V2
  have V1' := V1.grow G2
  simp only [VR] at V1'; obtain ⟨a, vs, rfl, hp, hl, hr⟩ := V1'
  have hk : slicePick vs.toArray none (some k) none = (vs.take k.toNat).toArray := by
    have := slicePick_upto' vs.toArray k.toNat
    rw [show ((k.toNat : Nat) : Int) = k by lia] at this
    simpa using this
  refine wpAny_pure ?_
  refine tail_any (ops := [_, .ref a]) (hl.push _).typeIs slot_list_getitem.lookup (wpAny_getItem_list_slice (hl.push _) (Heap.IsSliceOf.new ..) .none (.int _ _) .none (by simp) ?_ (by simp [hr.length]; exact hsz)) rfl
  rw [Heap.size_push, hk]
  have G3 : Grow C.fls s₂ { s₂ with heap := (s₂.heap.push { cls := .type "slice", data := .fields #[.none, .int k t, .none] }).push { cls := .type "list", data := .seq (vs.take k.toNat).toArray } } :=
    Grow.of (tk := s₂.toks) fun b o e => Heap.get?_push_of_some _ (Heap.get?_push_of_some _ e)
  refine kk _ _ ((G1.trans G2).trans G3) ?_
  simp only [VR]
  refine ⟨_, vs.take k.toNat, rfl, Lives.new (avz_live ((R.grow G1).grow G2)) (Nat.le_succ _), ?_, (hr.take _).grow G3⟩
  rw [← Heap.size_push]; exact isList_push _ _
end
end Mine

end
section
open PySem PyProof.Rows
set_option Elab.async false
set_option autoImplicit false
set_option linter.unusedVariables false
namespace Mine
theorem cmpI_lt (C : Cfg) (x y : Int) : CmpOk C .Lt (.int x) (.int y) (ltI x y) := cmp_lt
theorem cmpI_gt (C : Cfg) (x y : Int) : CmpOk C .Gt (.int x) (.int y) (ltI y x) := cmp_gt
theorem cmpI_eq (C : Cfg) (x y : Int) : CmpOk C .Eq (.int x) (.int y) (decide (x = y)) := by
  have e : decide (x = y) = (x == y) := by
    by_cases h : x = y
    · subst h; simp
    · rw [decide_eq_false h]; exact (beq_eq_false_iff_ne.mpr h).symm
  rw [e]; exact cmp_eq
section
variable {C : Cfg} {σ : St}
theorem ev_itemK {e : Expr} {k : Nat} {kk : Nat} {p pos : Pos} {xs : List AVal} {v : AVal} (he : EV C σ e (.list xs)) (hk : k < 2 ^ 62) (hv : xs[k]? = some v) : EV C σ (.Subscript e (.Constant (.int (k : Int)) kk p) pos) v :=
  (evz_item (z := true) he.z ev_int (Int.natCast_nonneg k) (by lia) (by rwa [Int.toNat_natCast]) (fun _ _ => rfl)).ev
theorem ev_cong {e : Expr} {v u : AVal} (h : EV C σ e v) (q : v = u) : EV C σ e u := q ▸ h
theorem eb_cong {e : Expr} {v u : Bool} (h : EB C σ e v) (q : v = u) : EB C σ e u := q ▸ h
theorem call_sortI {ss : List Int} (h64 : ss.length < 64) : CallOk C (.builtin "sorted") [.list (ss.map .int)] (.list ((sortL ltI ss).map .int)) := call_sortedI (sortL_perm ss) (sortI_pw ss) h64
end
theorem toNat_mod {x : Int} {m : Nat} (hm : 0 < m) : ∃ k : Nat, x.fmod (m : Int) = (k : Int) ∧ k < m := by
  have h1 : x.fmod (m : Int) = x % (m : Int) := Int.fmod_eq_emod_of_nonneg x (by lia)
  have h2 := Int.emod_nonneg x (show (m : Int) ≠ 0 by lia)
  have h3 := Int.emod_lt_of_pos x (show (0 : Int) < m by lia)
  exact ⟨(x % (m : Int)).toNat, by rw [h1]; lia, by lia⟩
theorem fdiv_nat (a b : Nat) : (a : Int).fdiv (b : Int) = ((a / b : Nat) : Int) := by
  rw [Int.fdiv_eq_ediv_of_nonneg _ (Int.natCast_nonneg b)]; exact (Int.natCast_ediv a b).symm
theorem fmod_nat (a b : Nat) : (a : Int).fmod (b : Int) = ((a % b : Nat) : Int) := by
  rw [Int.fmod_eq_emod_of_nonneg _ (Int.natCast_nonneg b)]; exact (Int.natCast_emod a b).symm
theorem eq_nat (a b : Nat) : ((a : Int) == (b : Int)) = (a == b) := by
  by_cases h : a = b
  · subst h; simp
  · rw [beq_eq_false_iff_ne.mpr h, beq_eq_false_iff_ne.mpr (by lia)]
theorem testBit_div (m i : Nat) : (m / 2 ^ i % 2 == 1) = m.testBit i := by
  rw [Nat.testBit_eq_decide_div_mod_eq]
  by_cases h : m / 2 ^ i % 2 = 1
  · rw [h]; rfl
  · rw [decide_eq_false h]; exact beq_eq_false_iff_ne.mpr h
end Mine

end
section
open PySem PyProof.Rows
set_option Elab.async false
set_option autoImplicit false
set_option linter.unusedVariables false
namespace Mine
end Mine

end
section
open PySem PyProof.Rows PySem.SeqAt
set_option Elab.async false
set_option autoImplicit false
set_option linter.unusedVariables false
namespace Mine
set_option maxRecDepth 100000
theorem VRs.repeat {prog : Program} {w : World} {P : Addr → Prop} {h : Heap} {xs : List AVal} {vs : List Value} (H : VRs prog w P h xs vs) : ∀ n : Nat, VRs prog w P h (List.replicate n xs).flatten (List.replicate n vs).flatten
  | 0 => by simp [VRs]
  | n + 1 => by
    rw [List.replicate_succ, List.replicate_succ, List.flatten_cons, List.flatten_cons]
    exact VRs.append H (VRs.repeat H n)
theorem bin_mull {C : Cfg} {xs : List AVal} {x : Int} (hsz : xs.length * x.toNat ≤ 256) (hlo : -(2 ^ 62 : Int) ≤ x) (hhi : x < 2 ^ 62) : BinOk C .Mult (.list xs) (.int x) (.list (List.replicate x.toNat xs).flatten) := by
  intro P s va vb hL h1 h2
  simp only [VR] at h1 h2
  obtain ⟨l, vs, rfl, hp, hl, hv⟩ := h1
  obtain ⟨u, rfl⟩ := h2
  intro E Q kk
  obtain ⟨⟨cls, d, data, sl⟩, ho, hcl, k, hd⟩ := id hl
  simp only at hcl hd
  subst hcl hd
  have hsz' : vs.toArray.size * x.toNat ≤ 256 := by simpa [hv.length] using hsz
  have hsz2 : vs.length * x.toNat ≤ 256 := by rw [hv.length]; exact hsz
  refine wpAny_binaryOp_repeat_ref (T := "list") (U := "int") (by decide) ⟨_, ho, rfl⟩ (fun s' => typeIs_int s' x u) noFill_list_mul PySem.F.fills_int_mul PySem.F.slot_int_rmul repeat_list PySem.F.slot_int_index.lookup
    (call_meets PySem.F.slot_int_rmul (typeIs_int s x u) PySem.F.entry_int_rmul (PySem.F.args_int_rmul_2 _ _) (lm_int_rmul_list_any x u l vs.toArray k d sl)
      ⟨ho, rfl, ⟨_, ho, rfl⟩, call_meets PySem.F.slot_list_mul ⟨_, ho, rfl⟩ PySem.F.entry_list_mul (PySem.F.args_list_mul_2 _ _)
        (lm_list_mul_any l vs.toArray k d sl x u (by simp [Builtin.List.listFitsIndex]; lia) (by lia) (by simp [Builtin.List.listTooLong, sizeLine]; lia))
        ⟨ho, ?_⟩⟩)
  rw [listMul_foldl_if]
  obtain ⟨G, V⟩ := newList_op (C := C) (n := 0) (tk := s.toks) hL (VRs.repeat hv x.toNat)
  exact kk _ _ G V
section
variable {C : Cfg} {σ : St} {z : Bool}
theorem EV0.int {e : Expr} {i : Int} (h : EV0 C σ e (.int i)) : EV C σ e (.int i) := fun g s E Q R k => h g s E Q R fun cv s' G V => k cv s' G (by simp only [VR] at *; exact V)
/-- a comprehension's free variables, cells of the function's -/
structure CVar (C : Cfg) (scope : Scope) (σ : St) (p : Str × AVal) : Prop where
  mem : p ∈ σ.fr
  cell : ∃ c, C.env.cells.lookup p.1 = some c ∧ (∀ L, (compCells scope C.env L).lookup p.1 = some c)
  kind : C.env.kindOf p.1 = some .cell
  re : (relabel scope C.env).names.lookup p.1 = some .cell
theorem cscopeN {scope : Scope} {σc : List (Str × AVal)} (hk : scope.kind = .function) (hn : ∀ x ∈ scope.names, x.2 = .local → scope.names.lookup x.1 = some .local) (hf : scope.names.all (fun p => p.2 != .free || σc.any fun q => q.1 == p.1) = true) (hv : ∀ p ∈ σc, CVar C scope σ p) : CScope C scope σ σc := by
  refine ⟨hk, fun n h => ?_, fun L y u h => ?_, hn⟩
  · have := List.all_eq_true.mp hf _ h
    have e : (σc.any fun q => q.1 == n) = true := by simpa using this
    obtain ⟨q, hq, e⟩ := List.any_eq_true.mp e
    obtain ⟨c, hc, _⟩ := (hv q hq).cell
    exact ⟨c, by rw [← beq_iff_eq.mp e]; exact hc⟩
  · have H := hv _ h
    obtain ⟨c, hc, hl⟩ := H.cell
    exact ⟨H.mem, fun q => (by have := H.kind.symm.trans q; cases this), (hl L).trans hc.symm, .inl H.re⟩
theorem cvars2 {scope : Scope} {p p2 : Str × AVal} (h : CVar C scope σ p) (h2 : CVar C scope σ p2) : ∀ q ∈ [p, p2], CVar C scope σ q := fun q hq => by
  simp only [List.mem_cons, List.not_mem_nil, or_false] at hq
  rcases hq with rfl | rfl
  · exact h
  · exact h2
end
/-! lists of small codes -/
def iN (n : Nat) : AVal := .int (n : Int)
theorem call_lenN {C : Cfg} {l : List Nat} (h : l.length < 2 ^ 62) : CallOk C (.builtin "len") [.list (l.map iN)] (iN l.length) := by
  have := call_len (C := C) (xs := l.map iN) (by rw [List.length_map]; lia)
  rw [List.length_map] at this; exact this
end Mine

end
section
open PySem PyProof.Rows
set_option Elab.async false
set_option autoImplicit false
set_option linter.unusedVariables false
namespace Mine
section
variable {C : Cfg} {σ : St}
theorem ev_itemV {e i : Expr} {k : Nat} {pos : Pos} {xs : List AVal} {v : AVal} (he : EV C σ e (.list xs)) (hi : EV C σ i (.int (k : Int))) (hk : k < 2 ^ 62) (hv : xs[k]? = some v) (hs : plainSub i) : EV C σ (.Subscript e i pos) v :=
  (evz_item (z := true) he.z hi (Int.natCast_nonneg k) (by lia) (by rwa [Int.toNat_natCast]) hs).ev
theorem ev0_itemV {e i : Expr} {k : Nat} {pos : Pos} {xs : List AVal} {v : AVal} (he : EV0 C σ e (.list xs)) (hi : EV C σ i (.int (k : Int))) (hk : k < 2 ^ 62) (hv : xs[k]? = some v) (hs : plainSub i) : EV0 C σ (.Subscript e i pos) v :=
  (evz_item (z := false) he.z hi (Int.natCast_nonneg k) (by lia) (by rwa [Int.toNat_natCast]) hs).ev0
end
theorem iter_range2 (a n : Nat) (ha : a < 2 ^ 61) (h : n < 2 ^ 61) : iterItems (.range (a : Int) (n : Int)) = some ((List.range (n - a)).map fun k => iN (a + k)) := by
  simp only [iterItems]
  rw [if_pos ⟨by lia, by lia, by lia, by lia⟩]
  unfold rangeL
  rw [show ((n : Int) - (a : Int)).toNat = n - a by lia]
  rfl
theorem range_get {n k : Nat} {f : Nat → AVal} {x : AVal} (h : ((List.range n).map f)[k]? = some x) : k < n ∧ x = f k := by
  simp only [List.getElem?_map, Option.map_eq_some_iff] at h
  obtain ⟨k', hk', rfl⟩ := h
  obtain ⟨hlt, e⟩ := List.getElem?_eq_some_iff.mp hk'
  rw [List.getElem_range] at e
  exact ⟨by simpa using hlt, by rw [e]⟩
end Mine

end
section
open PySem PyProof.Rows
set_option Elab.async false
set_option autoImplicit false
set_option linter.unusedVariables false
namespace Mine
section
variable {α : Type} {a b c d e f g h i j k : α} {l : List α} {p q r : α}
theorem m10 : a ∈ b :: c :: d :: e :: f :: g :: h :: i :: j :: k :: a :: l := .tail _ m9
theorem m11 : a ∈ b :: c :: d :: e :: f :: g :: h :: i :: j :: k :: p :: a :: l := .tail _ m10
theorem m12 : a ∈ b :: c :: d :: e :: f :: g :: h :: i :: j :: k :: p :: q :: a :: l := .tail _ m11
end
theorem rep_one (n : Nat) (x : AVal) : (List.replicate n [x]).flatten = List.replicate n x := by
  induction n with
  | zero => rfl
  | succ n ih => rw [List.replicate_succ, List.flatten_cons, ih]; rfl
/-- the script's first four numbers, three at least -/
def numsOf (ns : List Int) : List Int := ns.take 4 ++ List.replicate (3 - ns.length) 0
theorem numsOf_len (ns : List Int) : 3 ≤ (numsOf ns).length ∧ (numsOf ns).length ≤ 4 := by
  unfold numsOf
  rw [List.length_append, List.length_take, List.length_replicate]; omega
theorem numsOf_val (ns : List Int) : (ns.map AVal.int).take (4 : Int).toNat ++ (List.replicate (3 - (ns.length : Int)).toNat [AVal.int 0]).flatten = (numsOf ns).map .int := by
  unfold numsOf
  rw [rep_one, List.map_append, List.map_take, List.map_replicate, show (3 - (ns.length : Int)).toNat = 3 - ns.length by omega]; rfl
def modeOf (bs ns : List Int) (k : Nat) : Nat := ((bs.getD k 0 + ns.getD k 0).fmod 65536).toNat
theorem modeOf_val (bs ns : List Int) (k : Nat) : (bs.getD k 0 + ns.getD k 0).fmod 65536 = ((modeOf bs ns k : Nat) : Int) := by
  obtain ⟨m, hm, _⟩ := toNat_mod (x := bs.getD k 0 + ns.getD k 0) (m := 65536) (by decide)
  unfold modeOf
  rw [show (65536 : Int) = ((65536 : Nat) : Int) from rfl, hm]; rfl
def modesOf (bs ns : List Int) : List Nat := (List.range ns.length).map (modeOf bs ns)
theorem modesOf_len (bs ns : List Int) : (modesOf bs ns).length = ns.length := by simp [modesOf]
theorem getD_map {l : List Int} {k : Nat} (h : k < l.length) : (l.map AVal.int)[k]? = some (.int (l.getD k 0)) := by
  rw [List.getElem?_map, List.getD_eq_getElem?_getD, List.getElem?_eq_getElem h]; rfl
end Mine

end
section
set_option Elab.async false
set_option autoImplicit false
set_option linter.unusedVariables false
namespace Mine
end Mine

end
section
set_option Elab.async false
set_option autoImplicit false
set_option linter.unusedVariables false
namespace Mine
/-! claim 01, the plain law: at least one -/
def impB (p q : Bool) : Bool := !p || q
theorem corner4 : ∀ a b c d ka kb kc kd wa wb wc wd : Bool,
    (impB (a && !b) wb && impB (b && !a) wa && impB (a && !c) wc && impB (c && !a) wa && impB (b && !d) wd && impB (d && !b) wb && impB (c && !d) wd && impB (d && !c) wc &&
     impB (wa && wb) (ka == kb) && impB (wa && wc) (ka == kc) && impB (wa && wd) (ka == kd) && impB (wb && wc) (kb == kc) && impB (wb && wd) (kb == kd) && impB (wc && wd) (kc == kd)) = true →
    ((((a != c) && (if a then kc else ka)) ^^ ((b != d) && (if b then kd else kb))) ^^ (((a != b) && (if a then kb else ka)) ^^ ((c != d) && (if c then kd else kc)))) = false := by decide +kernel
section
open Classical
variable {c : Nat → Nat → Bool} {b : Bool} {k n : Nat} {ways walls : List Nat}
theorem impB_iff {p q : Bool} : impB p q = true ↔ (p = true → q = true) := by cases p <;> cases q <;> decide
end
end Mine

end
section
set_option Elab.async false
set_option autoImplicit false
set_option linter.unusedVariables false
namespace Mine
theorem len_sub {α : Type} [DecidableEq α] : ∀ {l m : List α}, l.Nodup → (∀ x ∈ l, x ∈ m) → l.length ≤ m.length
  | [], m, _, _ => Nat.zero_le _
  | a :: l, m, hn, hs => by
    obtain ⟨h1, h2⟩ := List.nodup_cons.mp hn
    have ha := hs a (.head _)
    have ih := len_sub (l := l) (m := m.erase a) h2 fun x hx => (List.mem_erase_of_ne fun q => h1 (by rw [← q]; exact hx)).mpr (hs x (.tail _ hx))
    rw [List.length_erase_of_mem ha] at ih
    have := List.length_pos_of_mem ha
    rw [List.length_cons]; lia
end Mine

end
section
open PySem PyProof.Rows
set_option Elab.async false
set_option autoImplicit false
set_option linter.unusedVariables false
namespace Mine
set_option maxRecDepth 100000
/-! a set's items taken out -/
theorem eraseAt_toList {α : Type} (xs : Array α) (p : Nat) : (SetTable.eraseAt xs p).toList = xs.toList.eraseIdx p := by
  unfold SetTable.eraseAt
  rw [Array.toList_append, Array.toList_extract, Array.toList_extract, List.eraseIdx_eq_take_drop_succ]
  simp only [List.extract_eq_take_drop, Nat.sub_zero, List.drop_zero]
  congr 1
  exact List.take_of_length_le (by simp)
theorem insertAt_size {α : Type} (xs : Array α) (p : Nat) (x : α) : (SetTable.insertAt xs p x).size = xs.size + 1 := by
  unfold SetTable.insertAt
  simp only [Array.size_append, Array.size_push, Array.size_extract]; lia
theorem drop_fits {t : SetTable} {n i : Nat} (h : t.fits n = true) (hi : i < n) : (t.drop i).fits (n - 1) = true := by
  simp only [SetTable.fits, Bool.and_eq_true, beq_iff_eq, decide_eq_true_eq] at *
  obtain ⟨h1, h2⟩ := h
  unfold SetTable.drop
  have : t.place[i]? = some t.place[i] := by simp [h1, hi]
  rw [this]
  have e : (SetTable.eraseAt t.place i).size = n - 1 := by
    rw [← Array.length_toList, eraseAt_toList, List.length_eraseIdx, Array.length_toList, h1, if_pos hi]
  refine ⟨e, ?_⟩
  unfold SetTable.fill at *
  show (SetTable.eraseAt t.place i).size + (SetTable.insertAt _ _ _).size ≤ t.mask
  rw [e, insertAt_size]; lia
section
variable {prog : Program} {w : World} {A : Around} {E : Value → Shared → Prop} {s : Shared} {K : Type} [DecidableEq K] {knd : KeyKind prog w K}
theorem wp_discard {a : Addr} {ks : List K} {k : K} {x : Value} {Q : Bool → Shared → Prop} (hkey : knd.is k x = true) (hsc : x.scannable = true) (hS : s.heap.SetOf knd a (fun k => decide (k ∈ ks)) ks.length) (hn : ks.Nodup) (hk : k ∈ ks)
    (h : ∀ h', Heap.SameBut a s.heap h' → h'.SetOf knd a (fun k' => decide (k' ∈ ks.erase k)) (ks.erase k).length → Q true { s with heap := h' }) : wpAny (model prog w) A (setDiscardHashed a x (knd.hash k)) Q E s := by
  obtain ⟨o, es, ep, t, ho, hex, hd, hel, hmem, hb, hf, hsz⟩ := hS
  unfold setDiscardHashed setFind setFindIn
  refine wpAny_bind (wpAny_bind (wpAny_setState_of ho hd hf ?_))
  dsimp only
  rw [byScan_of hsc hb hel]
  simp only [↓reduceIte]
  refine wpAny_bind (wpAny_rule ?_)
  refine wpAny_bind (wpAny_setScan_of hkey ho hd hf hel ?_)
  cases hr : List.findIdx? (fun e => knd.is k e.2) es.toList with
  | none =>
    obtain ⟨e, he, hp⟩ := (hmem k).mp (decide_eq_true hk)
    have := List.findIdx?_eq_none_iff.mp hr e he
    rw [hp] at this; exact Bool.noConfusion this
  | some j =>
    obtain ⟨hj, hpj, _⟩ := List.findIdx?_eq_some_iff_getElem.mp hr
    have hjs : j < es.size := by simpa using hj
    have el : (SetTable.eraseAt es j).toList = es.toList.eraseIdx j := eraseAt_toList es j
    have ez : (SetTable.eraseAt es j).size = ks.length - 1 := by rw [← Array.length_toList, el, List.length_eraseIdx, Array.length_toList, if_pos hjs, hsz]
    have elen : (ks.erase k).length = ks.length - 1 := List.length_erase_of_mem hk
    dsimp only
    refine wpAny_pure ?_
    rw [Nat.zero_add]
    refine wpAny_bind (wpAny_setState_of ho hd hf ?_)
    dsimp only
    -- the keys of the entries
    have key : ∀ e ∈ es.toList, ∃ q, ∀ y, knd.is y e.2 = decide (y = q) := fun e he => by
      obtain ⟨⟨q, hq, _⟩, _⟩ := hel e he
      exact ⟨q, KeyKind.is_eq_decide hq⟩
    have kj : ∀ y, knd.is y (es.toList[j]).2 = decide (y = k) := KeyKind.is_eq_decide hpj
    have hsub : ∀ e ∈ es.toList.eraseIdx j, e ∈ es.toList := fun e he => List.mem_of_mem_eraseIdx he
    have hno : ∀ e ∈ es.toList.eraseIdx j, knd.is k e.2 = false := by
      intro e he
      cases hq : knd.is k e.2 with
      | false => rfl
      | true =>
        exfalso
        have hc : ∃ f : Int × Value → K, ∀ e ∈ es.toList, ∀ y, knd.is y e.2 = decide (y = f e) := by
          classical
          refine ⟨fun e => if h : ∃ q, ∀ y, knd.is y e.2 = decide (y = q) then Classical.choose h else k, fun e he => ?_⟩
          have h := key e he
          simp only [dif_pos h]
          exact Classical.choose_spec h
        obtain ⟨f, hf'⟩ := hc
        have hlen := len_sub (l := ks) (m := (es.toList.eraseIdx j).map f) hn fun y hy => by
          by_cases hyk : y = k
          · subst hyk
            refine List.mem_map.mpr ⟨e, he, ?_⟩
            rw [hf' e (hsub e he) y] at hq
            exact (of_decide_eq_true hq).symm
          · obtain ⟨e', he', hp'⟩ := (hmem y).mp (decide_eq_true hy)
            obtain ⟨i, hi⟩ := List.getElem?_of_mem he'
            refine List.mem_map.mpr ⟨e', List.mem_eraseIdx_iff_getElem?.mpr ⟨i, fun q => ?_, hi⟩, ?_⟩
            · subst q
              have : e' = es.toList[i] := by have := List.getElem?_eq_some_iff.mp hi; exact this.2.symm
              rw [this, kj y] at hp'
              exact hyk (of_decide_eq_true hp')
            · rw [hf' e' he' y] at hp'
              exact (of_decide_eq_true hp').symm
        have e1 : es.toList.length = es.size := Array.length_toList
        rw [List.length_map, List.length_eraseIdx, if_pos hj, e1, hsz] at hlen
        have := List.length_pos_of_mem hk
        lia
    have hm' : ∀ y, (fun k' => decide (k' ∈ ks.erase k)) y = true ↔ ∃ e ∈ (SetTable.eraseAt es j).toList, knd.is y e.2 = true := by
      intro y
      rw [el]
      show decide (y ∈ ks.erase k) = true ↔ _
      rw [decide_eq_true_eq, hn.mem_erase_iff]
      constructor
      · rintro ⟨h1, h2⟩
        obtain ⟨e', he', hp'⟩ := (hmem y).mp (decide_eq_true h2)
        obtain ⟨i, hi⟩ := List.getElem?_of_mem he'
        refine ⟨e', List.mem_eraseIdx_iff_getElem?.mpr ⟨i, fun q => ?_, hi⟩, hp'⟩
        subst q
        have : e' = es.toList[i] := by have := List.getElem?_eq_some_iff.mp hi; exact this.2.symm
        rw [this, kj y] at hp'
        exact h1 (of_decide_eq_true hp')
      · rintro ⟨e, he, hp⟩
        refine ⟨fun q => ?_, of_decide_eq_true ((hmem y).mpr ⟨e, hsub e he, hp⟩)⟩
        subst q
        rw [hno e he] at hp; cases hp
    have hst := SetOf_store (knd := knd) (t' := t.drop j) ho hex hd (es' := SetTable.eraseAt es j) (fun e he => hel e (hsub e (el ▸ he))) hm' (by rw [ez]; lia) (by rw [ez, ← hsz]; exact drop_fits hf hjs)
    refine wpAny_bind (wpAny_storeSet_of ho hd ?_ (by rw [ez]; have := fits_of_scanBound hb; lia))
    refine wpAny_bind (wpAny_point (wpAny_pure ?_))
    refine h _ (Heap.SameBut.update _ a _) ?_
    have := hst.2
    rwa [ez, ← elen] at this
theorem call_remove {a : Addr} {ks : List K} {k : K} {x : Value} {Q : Value → Shared → Prop} (hkey : knd.is k x = true) (hsc : x.scannable = true) (hS : s.heap.SetOf knd a (fun k => decide (k ∈ ks)) ks.length) (hn : ks.Nodup) (hk : k ∈ ks)
    (h : ∀ h', Heap.SameBut a s.heap h' → h'.SetOf knd a (fun k' => decide (k' ∈ ks.erase k)) (ks.erase k).length → Q .none { s with heap := h', toks := s.toks + 1 }) : wpAny (model prog w) A (call (.builtin "set.remove") [.ref a, x]) Q E s := by
  refine wpAny_call_entry PySem.F.slot_set_remove hS.typeIs PySem.F.entry_set_remove ?_ (PySem.F.args_set_remove_2 _ _)
  unfold Builtin.«set.remove» Builtin.Frozenset.oneOther
  simp only [List.isEmpty_nil, bind_assoc]
  unfold Builtin.Frozenset.addrOf Builtin.Frozenset.withSetAsKey setDiscard
  refine wpAny_bind (wpAny_pure ?_)
  try dsimp only
  refine wpAny_bind (wpAny_pure ?_)
  try dsimp only
  refine wpAny_bind (wpAny_tryCatch ?_)
  refine wpAny_holding ?_
  refine wpAny_bind (knd.pyHash hkey ?_)
  refine wp_discard (s := { s with toks := s.toks + 1 }) hkey hsc hS hn hk fun h' hsb hS' => ?_
  show wpAny _ _ (ret Value.none) _ _ _
  exact wpAny_pure ⟨_, rfl, h h' hsb hS'⟩
end
section
variable {C : Cfg} {σ : St} {Q : AFlow → St → Prop} {X : Bool → St → Prop}
theorem intKind_ok (prog : Program) (w : World) (k : Int) (t : Tok) : (intKind prog w).is k (.int k t) = true := intKind_is _ _ _ _
/-- set(e), kept by the frame -/
theorem evf_setI (K : CfgOk C) (hh : C.A.handled = none) {p pos : Pos} {e : Expr} {ks : List Int} (hg : GlobB C "set" (.type "set")) (he : EV0 C σ e (.list (ks.map .int))) (hn : notStar e) (hnd : ks.Nodup) (hb : ks.length + 1 < scanBound) :
    EVF C σ (.Call (.Name "set" p) [e] [] pos) (.setI ks) := fun g s E Q R k => by
  rw [eval_call_name]
  refine wpAny_bind (wp_globB K R hg (by decide +kernel) ?_)
  rw [hn]
  refine PySem.callWith_type rfl (Calls.evalArgs_plain (Calls.spliced_cons (he g s _ _ R fun cv s₁ G1 V1 => Calls.spliced_nil ?_)))
  simp only [VR] at V1
  obtain ⟨a, vs, rfl, _, hl, hv⟩ := V1
  refine call_setI (C := C) hh hb hl hv fun s' G ⟨n, hN, hS⟩ => ?_
  refine k _ s' (G1.trans G) ?_ ⟨n, hS, hN hnd, hnd⟩
  cases q : s.heap.get? s₁.heap.objs.size with
  | none => rfl
  | some o =>
    obtain ⟨o', e', _⟩ := (G1.keep _ o q).data
    exact absurd (Heap.lt_size e') (Nat.lt_irrefl _)
/-- x.remove(e) -/
theorem x1_remove (K : CfgOk C) {x : Str} {e : Expr} {ks : List Int} {k : Int} {px ap pos p2 : Pos} {σ' : St} (hx : (x, .setI ks) ∈ σ.ow) (hd : (x == ("__debug__" : Str)) = false) (he : EV C σ e (.int k)) (hn : notStar e) (hk : k ∈ ks)
    (hσ : σ.upd x (.setI (ks.erase k)) = σ') (h : Q .next σ') (hline : (ap.endLine == pos.line) = true)
    (hs : swapsWith (.Call (.Attribute (.Name x px) "remove" ap) [e] [] pos) none p2.line C.env = pure false) : X1 C σ (.Expr (.Call (.Attribute (.Name x px) "remove" ap) [e] [] pos) p2) Q X := fun g s R => by
  subst hσ
  refine wpAny_Expr_any (wpAny_Call_method1_late rfl hline (by rw [hn]; rfl) ?_) (notInteractive K) hs
  obtain ⟨m, RM⟩ := id R
  obtain ⟨hvx, hox, _⟩ := RM.ow x _ hx
  refine wpAny_Name (ev_loadName K RM hvx ?_) hd
  obtain ⟨n, hS, rfl, hnd⟩ := hox
  refine ⟨"set", "set.remove", PySem.F.plainAttrs_set, PySem.F.slot_set_remove, PySem.F.type_set_remove, hS.typeIs, hS.noDict, ?_⟩
  refine Calls.callWith_builtin rfl (Calls.evalArgs_plain (Calls.spliced_cons (he g s _ _ R fun cv s₁ G V => Calls.spliced_nil ?_)))
  have RM₁ := RM.grow G
  obtain ⟨_, hox₁, _⟩ := RM₁.ow x _ hx
  obtain ⟨n₁, hS₁, rfl, _⟩ := hox₁
  simp only [VR] at V
  obtain ⟨t, rfl⟩ := V
  show wpAny _ _ (call (.builtin "set.remove") [.ref (g x), .int k t]) _ _ _
  refine call_remove (intKind_ok _ _ _ _) rfl hS₁ hnd hk fun h' hsb hS' => ?_
  obtain ⟨R2, S2⟩ := RM₁.mut K (tk := s₁.toks + 1) (v' := .setI (ks.erase k)) hx hsb ⟨_, hS', rfl, hnd.erase _⟩
  exact ⟨_, g, .next, ⟨m, R2⟩, (G.step (C := C)).trans S2, rfl, h⟩
end
end Mine

end
section
set_option Elab.async false
set_option autoImplicit false
set_option linter.unusedVariables false
namespace Mine
/-! claim 02, the plain law: parts of a picture, and how their number turns with one place more -/
inductive Conn (P : Int → Prop) (S : List Int) (x : Int) : Int → Prop
  | refl : P x → Conn P S x x
  | step {y z : Int} : Conn P S x y → P z → z - y ∈ S → Conn P S x z
structure Steps (S : List Int) : Prop where
  neg : ∀ s ∈ S, -s ∈ S
section
variable {P P' : Int → Prop} {S : List Int} {x y z p : Int}
theorem Conn.src (h : Conn P S x y) : P x := by induction h <;> assumption
theorem Conn.dst (h : Conn P S x y) : P y := by cases h <;> assumption
theorem Conn.trans (h : Conn P S x y) (h' : Conn P S y z) : Conn P S x z := by
  induction h' with
  | refl _ => exact h
  | step _ h1 h2 ih => exact .step ih h1 h2
theorem Conn.one (hx : P x) (hy : P y) (h : y - x ∈ S) : Conn P S x y := .step (.refl hx) hy h
theorem Steps.sub (H : Steps S) (h : y - x ∈ S) : x - y ∈ S := by have := H.neg _ h; rwa [show -(y - x) = x - y by lia] at this
theorem Conn.symm (H : Steps S) (h : Conn P S x y) : Conn P S y x := by
  induction h with
  | refl h => exact .refl h
  | step h1 h2 h3 ih => exact (Conn.one h2 h1.dst (H.sub h3)).trans ih
theorem Conn.mono (k : ∀ a, P a → P' a) (h : Conn P S x y) : Conn P' S x y := by
  induction h with
  | refl h => exact .refl (k _ h)
  | step _ h2 h3 ih => exact .step ih (k _ h2) h3
/-- the least of its part -/
def IsRep (P : Int → Prop) (S : List Int) (x : Int) : Prop := P x ∧ ∀ y, Conn P S x y → x ≤ y
theorem rep_some (H : Steps S) (h0 : ∀ x, P x → 0 ≤ x) : ∀ (n : Nat) (a : Int), a.toNat = n → P a → ∃ r, IsRep P S r ∧ Conn P S a r := by
  intro n
  induction n using Nat.strongRecOn with
  | _ n ih =>
    intro a ha hp
    by_cases h : ∀ y, Conn P S a y → a ≤ y
    · exact ⟨a, ⟨hp, h⟩, .refl hp⟩
    · obtain ⟨y, hy⟩ := Classical.not_forall.mp h
      obtain ⟨hy, hlt⟩ := Classical.not_imp.mp hy
      have := h0 y hy.dst
      obtain ⟨r, h1, h2⟩ := ih y.toNat (by lia) y rfl hy.dst
      exact ⟨r, h1, hy.trans h2⟩
theorem rep_uniq (H : Steps S) {r r' : Int} (h : IsRep P S r) (h' : IsRep P S r') (c : Conn P S r r') : r = r' := Int.le_antisymm (h.2 _ c) (h'.2 _ (c.symm H))
section
open Classical
noncomputable def cnt (N : Nat) (P : Int → Prop) (S : List Int) : Nat := ((List.range N).filter fun (n : Nat) => decide (IsRep P S (n : Int))).length
theorem filter_one {l : List Nat} {p q : Nat → Bool} {r : Nat} (hn : l.Nodup) (hr : r ∈ l) (h1 : p r = true) (h2 : q r = false) (h : ∀ x, x ≠ r → p x = q x) : (l.filter p).length = (l.filter q).length + 1 := by
  induction l with
  | nil => cases hr
  | cons a l ih =>
    obtain ⟨ha, hn⟩ := List.nodup_cons.mp hn
    by_cases e : a = r
    · subst e
      rw [List.filter_cons, List.filter_cons, if_pos h1, if_neg (by rw [h2]; exact Bool.false_ne_true), List.length_cons]
      have : l.filter p = l.filter q := List.filter_congr fun x hx => h x fun q => ha (by rw [← q]; exact hx)
      rw [this]
    · have := ih hn ((List.mem_cons.mp hr).resolve_left fun q => e q.symm)
      rw [List.filter_cons, List.filter_cons, h a e]
      split
      · rw [List.length_cons, List.length_cons, this]
      · exact this
theorem cnt_same {N : Nat} {S' : List Int} (h : ∀ x, IsRep P S x ↔ IsRep P' S' x) : cnt N P S = cnt N P' S' := by
  unfold cnt
  congr 1
  exact List.filter_congr fun x _ => decide_eq_decide.mpr (h x)
theorem cnt_one {N : Nat} {r : Int} (h0 : 0 ≤ r) (hN : r < N) (h1 : IsRep P S r) (h2 : ¬ IsRep P' S r) (h : ∀ x, x ≠ r → (IsRep P S x ↔ IsRep P' S x)) : cnt N P S = cnt N P' S + 1 := by
  obtain ⟨k, rfl⟩ : ∃ k : Nat, r = (k : Int) := ⟨r.toNat, by lia⟩
  unfold cnt
  refine filter_one (r := k) List.nodup_range (by simp; lia) (decide_eq_true h1) (decide_eq_false h2) fun x hx => decide_eq_decide.mpr (h x (by lia))
end
/-! one place more -/
def Nb (P : Int → Prop) (S : List Int) (p a : Int) : Prop := P a ∧ p - a ∈ S
theorem conn_add (H : Steps S) (hP : ∀ x, P' x ↔ P x ∨ x = p) (h : Conn P' S x y) (hx : x ≠ p) :
    (y ≠ p → Conn P S x y ∨ ∃ a b, Nb P S p a ∧ Nb P S p b ∧ Conn P S x a ∧ Conn P S b y) ∧ (y = p → ∃ a, Nb P S p a ∧ Conn P S x a) := by
  have old : ∀ u, P' u → u ≠ p → P u := fun u hu hn => ((hP u).mp hu).resolve_right hn
  induction h with
  | refl h => exact ⟨fun _ => .inl (.refl (old _ h hx)), fun q => absurd q hx⟩
  | @step y z h1 h2 h3 ih =>
    obtain ⟨i1, i2⟩ := ih
    by_cases hy : y = p
    · obtain ⟨a, ha, hxa⟩ := i2 hy
      refine ⟨fun hz => .inr ⟨a, z, ha, ⟨old _ h2 hz, ?_⟩, hxa, .refl (old _ h2 hz)⟩, fun _ => ⟨a, ha, hxa⟩⟩
      rw [← hy]; exact H.sub h3
    · have hPy := old _ h1.dst hy
      refine ⟨fun hz => ?_, fun hz => ?_⟩
      · rcases i1 hy with c | ⟨a, b, ha, hb, c1, c2⟩
        · exact .inl (.step c (old _ h2 hz) h3)
        · exact .inr ⟨a, b, ha, hb, c1, .step c2 (old _ h2 hz) h3⟩
      · have hny : Nb P S p y := ⟨hPy, by rw [← hz]; exact h3⟩
        rcases i1 hy with c | ⟨a, b, ha, hb, c1, c2⟩
        · exact ⟨y, hny, c⟩
        · exact ⟨a, ha, c1⟩
theorem rep_up (hP : ∀ x, P' x ↔ P x ∨ x = p) (hx : x ≠ p) (h : IsRep P' S x) : IsRep P S x :=
  ⟨((hP x).mp h.1).resolve_right hx, fun y c => h.2 y (c.mono fun a ha => (hP a).mpr (.inl ha))⟩
/-- it touches nothing -/
theorem add_none {N : Nat} (H : Steps S) (hP : ∀ x, P' x ↔ P x ∨ x = p) (hp : ¬ P p) (h0 : 0 ≤ p) (hN : p < N) (hn : ∀ a, ¬ Nb P S p a) : cnt N P' S = cnt N P S + 1 := by
  refine cnt_one h0 hN ⟨(hP p).mpr (.inr rfl), fun y c => ?_⟩ (fun q => hp q.1) fun x hx => ⟨rep_up hP hx, fun h => ⟨(hP x).mpr (.inl h.1), fun y c => ?_⟩⟩
  · by_cases e : y = p
    · lia
    · obtain ⟨a, ha, _⟩ := (conn_add H hP (c.symm H) e).2 rfl
      exact absurd ha (hn a)
  · obtain ⟨i1, i2⟩ := conn_add H hP c hx
    by_cases e : y = p
    · obtain ⟨a, ha, _⟩ := i2 e; exact absurd ha (hn a)
    · rcases i1 e with c | ⟨a, b, ha, _⟩
      · exact h.2 y c
      · exact absurd ha (hn a)
/-- it touches one part alone, and is not its least -/
theorem add_one {N : Nat} {o : Int} (H : Steps S) (hP : ∀ x, P' x ↔ P x ∨ x = p) (hp : ¬ P p) (ho : o < p) (hc : Conn P' S p o) (hn : ∀ a b, Nb P S p a → Nb P S p b → Conn P S a b) : cnt N P' S = cnt N P S := by
  have ho' : o ≠ p := by lia
  obtain ⟨a', ha', co⟩ := (conn_add H hP (hc.symm H) ho').2 rfl
  refine cnt_same fun x => ?_
  by_cases hx : x = p
  · subst hx
    exact ⟨fun h => by have := h.2 o hc; lia, fun h => absurd h.1 hp⟩
  · refine ⟨rep_up hP hx, fun h => ⟨(hP x).mpr (.inl h.1), fun y c => ?_⟩⟩
    obtain ⟨i1, i2⟩ := conn_add H hP c hx
    by_cases e : y = p
    · obtain ⟨a, ha, ca⟩ := i2 e
      have := h.2 o ((ca.trans (hn a a' ha ha')).trans (co.symm H))
      lia
    · rcases i1 e with c | ⟨a, b, ha, hb, c1, c2⟩
      · exact h.2 y c
      · exact h.2 y ((c1.trans (hn a b ha hb)).trans c2)
/-- it joins two parts -/
theorem add_two {N : Nat} {o a b : Int} (H : Steps S) (hP : ∀ x, P' x ↔ P x ∨ x = p) (hp : ¬ P p) (h0 : ∀ x, P x → 0 ≤ x) (hN : ∀ x, P x → x < N) (ho : o < p) (hc : Conn P' S p o) (ha : Nb P S p a) (hb : Nb P S p b) (hab : ¬ Conn P S a b)
    (hn : ∀ c, Nb P S p c → Conn P S c a ∨ Conn P S c b) : cnt N P S = cnt N P' S + 1 := by
  have key : ∀ a b, Nb P S p a → Nb P S p b → (∀ c, Nb P S p c → Conn P S c a ∨ Conn P S c b) → ∀ ra rb, IsRep P S ra → IsRep P S rb → Conn P S a ra → Conn P S b rb → ra < rb → cnt N P S = cnt N P' S + 1 := by
    intro a b ha hb hn ra rb hra hrb ca cb hlt
    have ho' : o ≠ p := by lia
    obtain ⟨a', ha', co⟩ := (conn_add H hP (hc.symm H) ho').2 rfl
    have rap : ra < p := by
      rcases hn a' ha' with c | c
      · have := hra.2 o (((co.trans c).trans ca).symm H); lia
      · have := hrb.2 o (((co.trans c).trans cb).symm H); lia
    have up : ∀ u v, Conn P S u v → Conn P' S u v := fun u v c => c.mono fun a ha => (hP a).mpr (.inl ha)
    have pp : P' p := (hP p).mpr (.inr rfl)
    refine cnt_one (r := rb) (h0 _ hrb.1) (hN _ hrb.1) hrb (fun q => ?_) fun x hx => ?_
    · have c1 : Conn P' S b p := .one (up _ _ (.refl hb.1)).src pp hb.2
      have c2 : Conn P' S a p := .one (up _ _ (.refl ha.1)).src pp ha.2
      have := q.2 ra ((((up _ _ cb).symm H).trans c1).trans ((c2.symm H).trans (up _ _ ca)))
      lia
    · by_cases hxp : x = p
      · subst hxp
        exact ⟨fun h => absurd h.1 hp, fun h => by have := h.2 o hc; lia⟩
      · refine ⟨fun h => ⟨(hP x).mpr (.inl h.1), fun y c => ?_⟩, rep_up hP hxp⟩
        obtain ⟨i1, i2⟩ := conn_add H hP c hxp
        -- a part that is touched has ra or rb as its least
        have side : ∀ u, Nb P S p u → Conn P S x u → x = ra := fun u hu cu => by
          rcases hn u hu with q | q
          · exact rep_uniq H h hra ((cu.trans q).trans ca)
          · exact absurd (rep_uniq H h hrb ((cu.trans q).trans cb)) hx
        by_cases e : y = p
        · obtain ⟨u, hu, cu⟩ := i2 e
          have := side u hu cu; lia
        · rcases i1 e with c | ⟨u, v, hu, hv, c1, c2⟩
          · exact h.2 y c
          · have e1 := side u hu c1
            rcases hn v hv with q | q
            · have := hra.2 y ((ca.symm H).trans ((q.symm H).trans c2)); lia
            · have := hrb.2 y ((cb.symm H).trans ((q.symm H).trans c2)); lia
  obtain ⟨ra, hra, ca⟩ := rep_some H h0 _ a rfl ha.1
  obtain ⟨rb, hrb, cb⟩ := rep_some H h0 _ b rfl hb.1
  rcases Int.lt_trichotomy ra rb with h | h | h
  · exact key a b ha hb hn ra rb hra hrb ca cb h
  · subst h; exact (hab (ca.trans (cb.symm H))).elim
  · exact key b a hb ha (fun c hc => (hn c hc).symm) rb ra hrb hra cb ca h
end
end Mine

end
section
set_option Elab.async false
set_option autoImplicit false
set_option linter.unusedVariables false
namespace Mine
/-! claim 02, the plain law: where land closes a ring -/
def S4 : List Int := [1, -1, 11, -11]
def S8 : List Int := [1, -1, 10, -10, 11, -11, 12, -12]
theorem st4 : Steps S4 := ⟨by decide⟩
theorem st8 : Steps S8 := ⟨by decide⟩
theorem in4 {d : Int} : d ∈ S4 ↔ d = 1 ∨ d = -1 ∨ d = 11 ∨ d = -11 := by simp [S4]
theorem in8 {d : Int} : d ∈ S8 ↔ d = 1 ∨ d = -1 ∨ d = 10 ∨ d = -10 ∨ d = 11 ∨ d = -11 ∨ d = 12 ∨ d = -12 := by simp [S8]
structure Pic (l : Int → Bool) (n : Nat) : Prop where
  low : ∀ c, l c = true → 12 ≤ c ∧ c ≤ 11 * (n : Int) + 9
  col : ∀ c, l c = true → c % 11 ≠ 0
def Lm (l : Int → Bool) (m x : Int) : Prop := l x = true ∧ x < m
def Wm (l : Int → Bool) (n : Nat) (m x : Int) : Prop := 0 ≤ x ∧ x < 11 * ((n : Int) + 2) ∧ ¬ Lm l m x
section
variable {l : Int → Bool} {n : Nat} {p : Int}
/-- what lies behind p is one water -/
theorem out_line (H : Pic l n) (hp : 0 ≤ p) : ∀ (d : Nat) (u : Int), p < u → u + d < 11 * ((n : Int) + 2) → Conn (Wm l n (p + 1)) S8 u (u + d)
  | 0, u, h1, h2 => by rw [Int.natCast_zero, Int.add_zero]; exact .refl ⟨by lia, by lia, fun q => by have := q.2; lia⟩
  | d + 1, u, h1, h2 => by
    refine .step (out_line H hp d u h1 (by lia)) ⟨by lia, by lia, fun q => by have := q.2; lia⟩ (in8.mpr (by lia))
theorem out_col (H : Pic l n) : ∀ j : Nat, 11 * (j : Int) < 11 * ((n : Int) + 2) → Conn (Wm l n (p + 1)) S8 (11 * (j : Int)) 0
  | 0, h => .refl ⟨by lia, by lia, fun q => H.col _ q.1 (by decide)⟩
  | j + 1, h => by
    have w : ∀ k : Nat, k ≤ j + 1 → Wm l n (p + 1) (11 * (k : Int)) := fun k hk => ⟨by lia, by lia, fun q => H.col _ q.1 (by lia)⟩
    exact (Conn.one (w (j + 1) (Nat.le_refl _)) (w j (by lia)) (in8.mpr (by lia))).trans (out_col H j (by lia))
theorem out_conn (H : Pic l n) (hl : l p = true) {q : Int} (h1 : p < q) (h2 : q < 11 * ((n : Int) + 2)) : Conn (Wm l n (p + 1)) S8 q 0 := by
  obtain ⟨p1, p2⟩ := H.low p hl
  have key : ∀ u v : Int, p < u → u ≤ v → v < 11 * ((n : Int) + 2) → Conn (Wm l n (p + 1)) S8 u v := fun u v a1 a2 a3 => by
    have := out_line H (by lia) (v - u).toNat u a1 (by lia)
    rwa [show u + ((v - u).toNat : Int) = v by lia] at this
  have hc := out_col (p := p) H (p / 11 + 1).toNat (by lia)
  have a := key (p + 1) q (by lia) (by lia) h2
  have b := key (p + 1) (11 * ((p / 11 + 1).toNat : Int)) (by lia) (by lia) (by lia)
  exact ((a.symm st8).trans b).trans hc

/-! not both -/
def inM (w y : Int) : Bool := decide ((y - w) % 11 = 0 ∧ w < y)
structure FInv (l : Int → Bool) (p a w : Int) (F : Int → Bool) : Prop where
  i1 : ∀ x, ¬ Lm l p x → (F (x - 1) ^^ F x) = (inM a x ^^ inM w x)
  i2 : ∀ x, ¬ Lm l p x → F (x + 11) = F x
  i3 : ∀ x, ¬ Lm l p x → F (x + 10) = F (x - 1)
theorem inM_shift (w x : Int) : inM (w + 1) x = inM w (x - 1) := decide_eq_decide.mpr (by lia)
theorem inM_11 {w x : Int} (h : x ≠ w) : inM w (x + 11) = inM w x := decide_eq_decide.mpr (by lia)
theorem inM_up {w x : Int} (h : x ≠ w + 11) : inM (w + 11) x = inM w x := decide_eq_decide.mpr (by lia)
theorem finv_all {a w : Int} (h : Conn (Lm l p) S4 a w) : ∃ F, FInv l p a w F := by
  induction h with
  | refl h => exact ⟨fun _ => false, fun x _ => by cases inM a x <;> rfl, fun _ _ => rfl, fun _ _ => rfl⟩
  | @step w z h1 h2 h3 ih =>
    obtain ⟨F, I⟩ := ih
    have hw : ∀ x, ¬ Lm l p x → x ≠ w := fun x hx q => hx (q ▸ h1.dst)
    have hz : ∀ x, ¬ Lm l p x → x ≠ z := fun x hx q => hx (q ▸ h2)
    rcases in4.mp h3 with q | q | q | q
    · have e : z = w + 1 := by lia
      subst e
      refine ⟨fun y => F y ^^ inM w y, fun x hx => ?_, fun x hx => ?_, fun x hx => ?_⟩
      · show ((F (x - 1) ^^ _) ^^ (F x ^^ _)) = _
        rw [inM_shift]
        have := I.i1 x hx
        revert this
        generalize F (x - 1) = b1
        generalize F x = b2
        generalize inM a x = b3
        generalize inM w x = b4
        generalize inM w (x - 1) = b5
        revert b1 b2 b3 b4 b5; decide
      · show (F (x + 11) ^^ _) = (F x ^^ _)
        rw [I.i2 x hx, inM_11 (hw x hx)]
      · show (F (x + 10) ^^ _) = (F (x - 1) ^^ _)
        have := inM_11 (w := w) (x := x - 1) (fun q => hz x hx (by lia))
        rw [show x - 1 + 11 = x + 10 by lia] at this
        rw [I.i3 x hx, this]
    · have e : w = z + 1 := by lia
      subst e
      refine ⟨fun y => F y ^^ inM z y, fun x hx => ?_, fun x hx => ?_, fun x hx => ?_⟩
      · show ((F (x - 1) ^^ _) ^^ (F x ^^ _)) = _
        have := I.i1 x hx
        rw [inM_shift] at this
        revert this
        generalize F (x - 1) = b1
        generalize F x = b2
        generalize inM a x = b3
        generalize inM z x = b4
        generalize inM z (x - 1) = b5
        revert b1 b2 b3 b4 b5; decide
      · show (F (x + 11) ^^ _) = (F x ^^ _)
        rw [I.i2 x hx, inM_11 (hz x hx)]
      · show (F (x + 10) ^^ _) = (F (x - 1) ^^ _)
        have := inM_11 (w := z) (x := x - 1) (fun q => hw x hx (by lia))
        rw [show x - 1 + 11 = x + 10 by lia] at this
        rw [I.i3 x hx, this]
    · have e : z = w + 11 := by lia
      subst e
      exact ⟨F, fun x hx => by rw [I.i1 x hx, inM_up (hz x hx)], I.i2, I.i3⟩
    · have e : w = z + 11 := by lia
      subst e
      exact ⟨F, fun x hx => by rw [I.i1 x hx, inM_up (hw x hx)], I.i2, I.i3⟩
theorem ring_not (H : Pic l n) (hl : l p = true) (hleft : l (p - 1) = true) (hup : l (p - 11) = true) (hul : l (p - 12) = false) (h4 : Conn (Lm l p) S4 (p - 1) (p - 11)) (h8 : Conn (Wm l n (p + 1)) S8 (p - 12) 0) : False := by
  obtain ⟨F, I⟩ := finv_all h4
  obtain ⟨p1, p2⟩ := H.low p hl
  obtain ⟨F', hF⟩ : ∃ F' : Int → Bool, ∀ y, F' y = (F y ^^ inM (p - 1) y) := ⟨_, fun _ => rfl⟩
  have C : ∀ x, ¬ Lm l p x → x ≠ p → F' (x - 1) = F' x := fun x hx hn => by
    have e := I.i1 x hx
    have e1 : inM (p - 1) (x - 1) = inM p x := by rw [← inM_shift, Int.sub_add_cancel]
    have e2 : inM p x = inM (p - 11) x := by
      have := inM_up (w := p - 11) (x := x) (by lia)
      rwa [Int.sub_add_cancel] at this
    rw [hF, hF, e1, e2]
    revert e
    generalize F (x - 1) = b1
    generalize F x = b2
    generalize inM (p - 1) x = b3
    generalize inM (p - 11) x = b4
    revert b1 b2 b3 b4; decide
  have D : ∀ x, ¬ Lm l p x → F' (x + 11) = F' x := fun x hx => by
    have hne : x ≠ p - 1 := fun q => hx (by rw [q]; exact ⟨hleft, by lia⟩)
    rw [hF, hF, I.i2 x hx, inM_11 hne]
  have E : ∀ x, ¬ Lm l p x → x ≠ p → F' (x + 10) = F' (x - 1) := fun x hx hn => by
    have := inM_11 (w := p - 1) (x := x - 1) (by lia)
    rw [show x - 1 + 11 = x + 10 by lia] at this
    rw [hF, hF, I.i3 x hx, this]
  have fit : ∀ x, Wm l n (p + 1) x → ¬ Lm l p x ∧ x ≠ p := fun x hx => ⟨fun q => hx.2.2 ⟨q.1, by have := q.2; lia⟩, fun q => hx.2.2 (by rw [q]; exact ⟨hl, by lia⟩)⟩
  have one : ∀ y z, Wm l n (p + 1) y → Wm l n (p + 1) z → (z = y + 1 ∨ z = y + 10 ∨ z = y + 11 ∨ z = y + 12) → F' y = F' z := by
    intro y z hy hz h
    obtain ⟨y1, y2⟩ := fit y hy
    obtain ⟨z1, z2⟩ := fit z hz
    rcases h with q | q | q | q
    · have := C z z1 z2; rwa [show z - 1 = y by lia] at this
    · rw [q, E y y1 y2, C y y1 y2]
    · rw [q, D y y1]
    · rw [← C z z1 z2, show z - 1 = y + 11 by lia, D y y1]
  have con : ∀ u v, Conn (Wm l n (p + 1)) S8 u v → F' u = F' v := by
    intro u v c
    induction c with
    | refl _ => rfl
    | @step y z h1 h2 h3 ih =>
      rw [ih]
      rcases in8.mp h3 with q | q | q | q | q | q | q | q
      · exact one _ _ h1.dst h2 (by lia)
      · exact (one _ _ h2 h1.dst (by lia)).symm
      · exact one _ _ h1.dst h2 (by lia)
      · exact (one _ _ h2 h1.dst (by lia)).symm
      · exact one _ _ h1.dst h2 (by lia)
      · exact (one _ _ h2 h1.dst (by lia)).symm
      · exact one _ _ h1.dst h2 (by lia)
      · exact (one _ _ h2 h1.dst (by lia)).symm
  have e1 := con _ _ h8
  have e2 := con _ _ (out_conn H hl (q := p + 10) (by lia) (by lia))
  have hn12 : ¬ Lm l p (p - 12) := fun q => by have := q.1; rw [hul] at this; cases this
  have e3 := D (p - 12) hn12
  rw [show p - 12 + 11 = p - 1 by lia] at e3
  have e4 := I.i3 p (fun q => by have := q.2; lia)
  have e5 : F' (p + 10) = !F' (p - 1) := by
    rw [hF, hF, e4, show inM (p - 1) (p + 10) = true from decide_eq_true (by lia), show inM (p - 1) (p - 1) = false from decide_eq_false (by lia)]
    cases F (p - 1) <;> rfl
  rw [e2, e3, e1] at e5
  cases h : F' 0 <;> rw [h] at e5 <;> cases e5
end
end Mine

end
section
set_option Elab.async false
set_option autoImplicit false
set_option linter.unusedVariables false
namespace Mine
/-! at least one: the edge of a part of land, seen from the water at the corner -/
section
open Classical
variable {l : Int → Bool} {n : Nat} {p : Int}
noncomputable def sF (l : Int → Bool) (p x : Int) : Bool := decide (Conn (Lm l p) S4 (p - 1) x)
noncomputable def uF (l : Int → Bool) (n : Nat) (p x : Int) : Bool := decide (Conn (Wm l n (p + 1)) S8 (p - 12) x)
noncomputable def fF (l : Int → Bool) (n : Nat) (p x : Int) : Bool := decide (Wm l n (p + 1) x)
noncomputable def eH (l : Int → Bool) (n : Nat) (p c : Int) : Bool := (sF l p c != sF l p (c + 1)) && (if sF l p c then uF l n p (c + 1) else uF l n p c)
noncomputable def eV (l : Int → Bool) (n : Nat) (p c : Int) : Bool := (sF l p c != sF l p (c + 11)) && (if sF l p c then uF l n p (c + 11) else uF l n p c)
def xs11 (h : Int → Bool) (c : Int) : Nat → Bool
  | 0 => false
  | k + 1 => xs11 h c k ^^ h (c + k)
theorem xs11_shift (h : Int → Bool) (c : Int) : ∀ k, (h c ^^ xs11 h (c + 1) k) = xs11 h c (k + 1)
  | 0 => by
    show (h c ^^ false) = (false ^^ h (c + ((0 : Nat) : Int)))
    rw [show c + ((0 : Nat) : Int) = c by lia]
    cases h c <;> rfl
  | k + 1 => by
    have e := xs11_shift h c k
    show (h c ^^ (xs11 h (c + 1) k ^^ h (c + 1 + (k : Int)))) = (xs11 h c (k + 1) ^^ h (c + ((k + 1 : Nat) : Int)))
    rw [show c + 1 + (k : Int) = c + ((k + 1 : Nat) : Int) by lia, ← e]
    cases h c <;> cases xs11 h (c + 1) k <;> cases h (c + ((k + 1 : Nat) : Int)) <;> rfl
noncomputable def xF (l : Int → Bool) (n : Nat) (p c : Int) : Bool := eV l n p c ^^ xs11 (eH l n p) c 11
theorem xF_next (c : Int) : xF l n p (c + 1) = (xF l n p c ^^ ((eV l n p c ^^ eV l n p (c + 1)) ^^ (eH l n p c ^^ eH l n p (c + 11)))) := by
  have e := xs11_shift (eH l n p) c 11
  have e2 : xs11 (eH l n p) c 12 = (xs11 (eH l n p) c 11 ^^ eH l n p (c + 11)) := rfl
  rw [e2] at e
  unfold xF
  revert e
  generalize xs11 (eH l n p) c 11 = b1
  generalize xs11 (eH l n p) (c + 1) 11 = b2
  generalize eH l n p c = b3
  generalize eH l n p (c + 11) = b4
  generalize eV l n p c = b5
  generalize eV l n p (c + 1) = b6
  revert b1 b2 b3 b4 b5 b6
  decide
theorem sF_in {x : Int} (h : sF l p x = true) : Lm l p x := (of_decide_eq_true h).dst
theorem sF_no {x : Int} (h : ¬ Lm l p x) : sF l p x = false := decide_eq_false fun c => h c.dst
theorem xF_far (H : Pic l n) {c : Int} (h : c + 30 < 0 ∨ p ≤ c) : xF l n p c = false := by
  have s0 : ∀ d : Int, 0 ≤ d → d ≤ 30 → sF l p (c + d) = false := fun d h1 h2 => sF_no fun q => by
    have := H.low _ q.1; have := q.2; lia
  have hv : eV l n p c = false := by
    unfold eV
    have a := s0 0 (by lia) (by lia); rw [Int.add_zero] at a
    rw [a, s0 11 (by lia) (by lia)]; rfl
  have hh : ∀ k : Nat, k ≤ 11 → xs11 (eH l n p) c k = false := by
    intro k
    induction k with
    | zero => intro _; rfl
    | succ k ih =>
      intro hk
      show (xs11 (eH l n p) c k ^^ eH l n p (c + k)) = false
      have : eH l n p (c + k) = false := by
        unfold eH
        rw [s0 k (by lia) (by lia), show c + (k : Int) + 1 = c + ((k : Int) + 1) by lia, s0 ((k : Int) + 1) (by lia) (by lia)]; rfl
      rw [ih (by lia), this]; rfl
  unfold xF
  rw [hv, hh 11 (Nat.le_refl _)]; rfl
theorem sfit (H : Pic l n) (hl : l p = true) {x y : Int} (hd : y = x + 1 ∨ y = x - 1 ∨ y = x + 11 ∨ y = x - 11) (hp : y ≠ p) : impB (sF l p x && !sF l p y) (fF l n p y) = true := by
  rw [impB_iff, Bool.and_eq_true, Bool.not_eq_true']
  rintro ⟨h1, h2⟩
  obtain ⟨q1, q2⟩ := H.low _ (sF_in h1).1
  obtain ⟨q3, q4⟩ := H.low p hl
  refine decide_eq_true ⟨by lia, by lia, fun q => ?_⟩
  have : sF l p y = true := decide_eq_true (.step (of_decide_eq_true h1) ⟨q.1, by have := q.2; lia⟩ (in4.mpr (by lia)))
  rw [h2] at this; cases this
theorem kfit1 {x y : Int} (hd : y - x ∈ S8) (hx : fF l n p x = true) (hy : fF l n p y = true) (h : uF l n p x = true) : uF l n p y = true :=
  decide_eq_true (.step (of_decide_eq_true h) (of_decide_eq_true hy) hd)
theorem kfit {x y : Int} (hd : y - x ∈ S8) : impB (fF l n p x && fF l n p y) (uF l n p x == uF l n p y) = true := by
  rw [impB_iff, Bool.and_eq_true, beq_iff_eq]
  rintro ⟨w1, w2⟩
  cases q1 : uF l n p x <;> cases q2 : uF l n p y
  · rfl
  · have := kfit1 (st8.sub hd) w2 w1 q2; rw [q1] at this; cases this
  · have := kfit1 hd w1 w2 q1; rw [q2] at this; cases this
  · rfl
theorem ring_some (H : Pic l n) (hl : l p = true) (hleft : l (p - 1) = true) (hup : l (p - 11) = true) (hul : l (p - 12) = false) (h4 : ¬ Conn (Lm l p) S4 (p - 1) (p - 11)) (h8 : ¬ Conn (Wm l n (p + 1)) S8 (p - 12) 0) : False := by
  obtain ⟨p1, p2⟩ := H.low p hl
  have k1 : ∀ y, p ≤ y → y < 11 * ((n : Int) + 2) → uF l n p y = false := fun y h1 h2 => decide_eq_false fun c => by
    by_cases e : y = p
    · subst e; exact c.dst.2.2 ⟨hl, by lia⟩
    · exact h8 (c.trans (out_conn H hl (by lia) h2))
  have s1 : ∀ y, p ≤ y → sF l p y = false := fun y h => sF_no fun q => by have := q.2; lia
  have sl : sF l p (p - 1) = true := decide_eq_true (.refl ⟨hleft, by lia⟩)
  have su : sF l p (p - 11) = false := decide_eq_false h4
  have sul : sF l p (p - 12) = false := sF_no fun q => by have := q.1; rw [hul] at this; cases this
  have kul : uF l n p (p - 12) = true := decide_eq_true (.refl ⟨by lia, by lia, fun q => by have := q.1; rw [hul] at this; cases this⟩)
  have gen : ∀ c, c ≠ p → c ≠ p - 1 → c ≠ p - 11 → c ≠ p - 12 → ((eV l n p c ^^ eV l n p (c + 1)) ^^ (eH l n p c ^^ eH l n p (c + 11))) = false := by
    intro c c1 c2 c3 c4
    have := corner4 (sF l p c) (sF l p (c + 1)) (sF l p (c + 11)) (sF l p (c + 12)) (uF l n p c) (uF l n p (c + 1)) (uF l n p (c + 11)) (uF l n p (c + 12)) (fF l n p c) (fF l n p (c + 1)) (fF l n p (c + 11)) (fF l n p (c + 12)) (by
      simp only [Bool.and_eq_true]
      refine ⟨⟨⟨⟨⟨⟨⟨⟨⟨⟨⟨⟨⟨?_, ?_⟩, ?_⟩, ?_⟩, ?_⟩, ?_⟩, ?_⟩, ?_⟩, ?_⟩, ?_⟩, ?_⟩, ?_⟩, ?_⟩, ?_⟩
      all_goals first | exact sfit H hl (by lia) (by lia) | exact kfit (in8.mpr (by lia)))
    unfold eV eH
    rw [show c + 1 + 11 = c + 12 by lia, show c + 11 + 1 = c + 12 by lia]
    exact this
  have step : ∀ c, c ≠ p - 12 → xF l n p (c + 1) = xF l n p c := by
    intro c hc
    rw [xF_next]
    have : ((eV l n p c ^^ eV l n p (c + 1)) ^^ (eH l n p c ^^ eH l n p (c + 11))) = false := by
      by_cases e1 : c = p
      · subst e1
        unfold eV eH
        rw [s1 c (by lia), s1 (c + 1) (by lia), s1 (c + 11) (by lia), s1 (c + 1 + 11) (by lia), s1 (c + 11 + 1) (by lia)]; rfl
      · by_cases e2 : c = p - 1
        · subst e2
          unfold eV eH
          rw [show p - 1 + 1 = p by lia, show p - 1 + 11 = p + 10 by lia, sl, s1 p (by lia), s1 (p + 10) (by lia), s1 (p + 11) (by lia), s1 (p + 10 + 1) (by lia), k1 p (by lia) (by lia), k1 (p + 10) (by lia) (by lia)]; rfl
        · by_cases e3 : c = p - 11
          · subst e3
            have sur : sF l p (p - 10) = false := decide_eq_false fun q => h4 (.step q ⟨hup, by lia⟩ (in4.mpr (by lia)))
            unfold eV eH
            rw [show p - 11 + 1 = p - 10 by lia, show p - 11 + 11 = p by lia, show p - 10 + 11 = p + 1 by lia, su, sur, s1 p (by lia), s1 (p + 1) (by lia)]; rfl
          · exact gen c e1 e2 e3 hc
    rw [this, Bool.xor_false]
  have odd : xF l n p (p - 12 + 1) = !xF l n p (p - 12) := by
    rw [xF_next]
    have : ((eV l n p (p - 12) ^^ eV l n p (p - 12 + 1)) ^^ (eH l n p (p - 12) ^^ eH l n p (p - 12 + 11))) = true := by
      unfold eV eH
      rw [show p - 12 + 1 = p - 11 by lia, show p - 12 + 11 = p - 1 by lia, show p - 11 + 11 = p by lia, show p - 1 + 1 = p by lia, sul, su, sl, s1 p (by lia), kul, k1 p (by lia) (by lia)]; rfl
    rw [this, Bool.xor_true]
  have below : ∀ k : Nat, -100 + (k : Int) ≤ p - 12 → xF l n p (-100 + k) = false := by
    intro k
    induction k with
    | zero => intro _; exact xF_far H (by lia)
    | succ k ih =>
      intro hk
      have := step (-100 + (k : Int)) (by lia)
      rw [show -100 + ((k + 1 : Nat) : Int) = -100 + (k : Int) + 1 by lia, this]
      exact ih (by lia)
  have above : ∀ k : Nat, xF l n p (p - 11 + k) = xF l n p (p - 11) := by
    intro k
    induction k with
    | zero => rw [Int.natCast_zero, Int.add_zero]
    | succ k ih =>
      have := step (p - 11 + (k : Int)) (by lia)
      rw [show p - 11 + ((k + 1 : Nat) : Int) = p - 11 + (k : Int) + 1 by lia, this]
      exact ih
  have b := below (p - 12 + 100).toNat (by lia)
  rw [show -100 + ((p - 12 + 100).toNat : Int) = p - 12 by lia] at b
  have a := above 11
  rw [xF_far H (by lia), show p - 11 = p - 12 + 1 by lia, odd, b] at a
  cases a
end
end Mine

end
section
set_option Elab.async false
set_option autoImplicit false
set_option linter.unusedVariables false
namespace Mine
/-! Euler's formula, place by place -/
def eAt (l : Int → Bool) (c : Int) : Int := (if l (c - 1) = true then 0 else 1) - (if l (c - 11) = true then (if (l (c - 1) && l (c - 12)) = true then 0 else 1) else 0)
def eSum (l : Int → Bool) : Nat → Int
  | 0 => 0
  | m + 1 => eSum l m + if l (m : Int) = true then eAt l (m : Int) else 0
def sizeZ (n : Nat) : Nat := 11 * (n + 2)
section
variable {l : Int → Bool} {n : Nat}
theorem euler_step (H : Pic l n) {p : Int} (hl : l p = true) :
    (cnt (sizeZ n) (Lm l (p + 1)) S4 : Int) - (cnt (sizeZ n) (Wm l n (p + 1)) S8 : Int) = (cnt (sizeZ n) (Lm l p) S4 : Int) - (cnt (sizeZ n) (Wm l n p) S8 : Int) + eAt l p := by
  obtain ⟨p1, p2⟩ := H.low p hl
  have hZ : ((sizeZ n : Nat) : Int) = 11 * ((n : Int) + 2) := by unfold sizeZ; lia
  have hP4 : ∀ x, Lm l (p + 1) x ↔ Lm l p x ∨ x = p := fun x => by
    constructor
    · rintro ⟨h1, h2⟩
      by_cases e : x = p
      · exact .inr e
      · exact .inl ⟨h1, by lia⟩
    · rintro (⟨h1, h2⟩ | rfl)
      · exact ⟨h1, by lia⟩
      · exact ⟨hl, by lia⟩
  have np4 : ¬ Lm l p p := fun q => by have := q.2; lia
  have hP8 : ∀ x, Wm l n p x ↔ Wm l n (p + 1) x ∨ x = p := fun x => by
    constructor
    · rintro ⟨h1, h2, h3⟩
      by_cases e : x = p
      · exact .inr e
      · exact .inl ⟨h1, h2, fun q => h3 ⟨q.1, by have := q.2; lia⟩⟩
    · rintro (⟨h1, h2, h3⟩ | rfl)
      · exact ⟨h1, h2, fun q => h3 ⟨q.1, by have := q.2; lia⟩⟩
      · exact ⟨by lia, by lia, np4⟩
  have np8 : ¬ Wm l n (p + 1) p := fun q => q.2.2 ⟨hl, by lia⟩
  have wUp : ∀ u v, Conn (Wm l n (p + 1)) S8 u v → Conn (Wm l n p) S8 u v := fun u v c => c.mono fun a ha => (hP8 a).mpr (.inl ha)
  have hc8 : Conn (Wm l n p) S8 p 0 := by
    have c := wUp _ _ (out_conn H hl (q := p + 1) (by lia) (by lia))
    exact (Conn.one ((hP8 p).mpr (.inr rfl)) c.src (in8.mpr (by lia))).trans c
  have out : ∀ q, p < q → q < 11 * ((n : Int) + 2) → Conn (Wm l n (p + 1)) S8 q 0 := fun q h1 h2 => out_conn H hl h1 h2
  have nb8 : ∀ a, Nb (Wm l n (p + 1)) S8 p a → a ≠ p - 12 → Conn (Wm l n (p + 1)) S8 a 0 := by
    rintro a ⟨ha, hd⟩ hne
    by_cases e : p < a
    · exact out a e ha.2.1
    · have e' : a ≠ p := fun q => np8 (q ▸ ha)
      rcases in8.mp hd with q | q | q | q | q | q | q | q
      · have c := out (p + 10) (by lia) (by lia)
        exact (Conn.one ha c.src (in8.mpr (by lia))).trans c
      · lia
      · have c := out (p + 1) (by lia) (by lia)
        exact (Conn.one ha c.src (in8.mpr (by lia))).trans c
      · lia
      · have c := out (p + 1) (by lia) (by lia)
        exact (Conn.one ha c.src (in8.mpr (by lia))).trans c
      · lia
      · lia
      · lia
  -- the water stays as it is, if the corner hangs together with what lies around
  have stay : (Wm l n (p + 1) (p - 12) → Conn (Wm l n (p + 1)) S8 (p - 12) 0) → cnt (sizeZ n) (Wm l n p) S8 = cnt (sizeZ n) (Wm l n (p + 1)) S8 := fun hul =>
    add_one (o := 0) st8 hP8 np8 (by lia) hc8 fun a b ha hb => by
      have k : ∀ a, Nb (Wm l n (p + 1)) S8 p a → Conn (Wm l n (p + 1)) S8 a 0 := fun a ha => by
        by_cases e : a = p - 12
        · subst e; exact hul ha.1
        · exact nb8 a ha e
      exact (k a ha).trans ((k b hb).symm st8)
  have wet : ∀ q, 0 ≤ q → q < p → l q = false → Wm l n (p + 1) q := fun q h1 h2 h3 => ⟨h1, by lia, fun r => by have := r.1; rw [h3] at this; cases this⟩
  have nb4 : ∀ a, Nb (Lm l p) S4 p a → (a = p - 1 ∧ l (p - 1) = true) ∨ (a = p - 11 ∧ l (p - 11) = true) := by
    rintro a ⟨ha, hd⟩
    have := ha.2
    rcases in4.mp hd with q | q | q | q
    · exact .inl ⟨by lia, by rw [show p - 1 = a by lia]; exact ha.1⟩
    · lia
    · exact .inr ⟨by lia, by rw [show p - 11 = a by lia]; exact ha.1⟩
    · lia
  have pp4 : Lm l (p + 1) p := (hP4 p).mpr (.inr rfl)
  have up4 : ∀ x, Lm l p x → Lm l (p + 1) x := fun x h => (hP4 x).mpr (.inl h)
  unfold eAt
  cases hL : l (p - 1) with
  | false =>
    have cL : Conn (Wm l n (p + 1)) S8 (p - 1) 0 := by
      have c := out (p + 10) (by lia) (by lia)
      exact (Conn.one (wet (p - 1) (by lia) (by lia) hL) c.src (in8.mpr (by lia))).trans c
    have e8 := stay fun h => (Conn.one h cL.src (in8.mpr (by lia))).trans cL
    cases hU : l (p - 11) with
    | false =>
      have e4 : cnt (sizeZ n) (Lm l (p + 1)) S4 = cnt (sizeZ n) (Lm l p) S4 + 1 := add_none st4 hP4 np4 (by lia) (by rw [hZ]; lia) fun a ha => by
        rcases nb4 a ha with ⟨_, q⟩ | ⟨_, q⟩
        · rw [hL] at q; cases q
        · rw [hU] at q; cases q
      rw [e4, e8]
      simp only [Bool.false_eq_true, if_false]
      lia
    | true =>
      have nu : Lm l p (p - 11) := ⟨hU, by lia⟩
      have e4 : cnt (sizeZ n) (Lm l (p + 1)) S4 = cnt (sizeZ n) (Lm l p) S4 := add_one (o := p - 11) st4 hP4 np4 (by lia) (.one pp4 (up4 _ nu) (in4.mpr (by lia))) fun a b ha hb => by
        have k : ∀ a, Nb (Lm l p) S4 p a → a = p - 11 := fun a ha => by
          rcases nb4 a ha with ⟨_, q⟩ | ⟨q, _⟩
          · rw [hL] at q; cases q
          · exact q
        rw [k a ha, k b hb]; exact .refl nu
      rw [e4, e8]
      simp only [Bool.false_and, Bool.false_eq_true, if_false, if_true]
      lia
  | true =>
    have nl : Lm l p (p - 1) := ⟨hL, by lia⟩
    have hcl : Conn (Lm l (p + 1)) S4 p (p - 1) := .one pp4 (up4 _ nl) (in4.mpr (by lia))
    cases hU : l (p - 11) with
    | false =>
      have cU : Conn (Wm l n (p + 1)) S8 (p - 11) 0 := by
        have c := out (p + 1) (by lia) (by lia)
        exact (Conn.one (wet (p - 11) (by lia) (by lia) hU) c.src (in8.mpr (by lia))).trans c
      have e8 := stay fun h => (Conn.one h cU.src (in8.mpr (by lia))).trans cU
      have e4 : cnt (sizeZ n) (Lm l (p + 1)) S4 = cnt (sizeZ n) (Lm l p) S4 := add_one (o := p - 1) st4 hP4 np4 (by lia) hcl fun a b ha hb => by
        have k : ∀ a, Nb (Lm l p) S4 p a → a = p - 1 := fun a ha => by
          rcases nb4 a ha with ⟨q, _⟩ | ⟨_, q⟩
          · exact q
          · rw [hU] at q; cases q
        rw [k a ha, k b hb]; exact .refl nl
      rw [e4, e8]
      simp only [Bool.false_eq_true, if_false, if_true]
      lia
    | true =>
      have nu : Lm l p (p - 11) := ⟨hU, by lia⟩
      have join : Conn (Lm l p) S4 (p - 1) (p - 11) → cnt (sizeZ n) (Lm l (p + 1)) S4 = cnt (sizeZ n) (Lm l p) S4 := fun hc => add_one (o := p - 1) st4 hP4 np4 (by lia) hcl fun a b ha hb => by
        rcases nb4 a ha with ⟨rfl, _⟩ | ⟨rfl, _⟩ <;> rcases nb4 b hb with ⟨rfl, _⟩ | ⟨rfl, _⟩
        · exact .refl nl
        · exact hc
        · exact hc.symm st4
        · exact .refl nu
      cases hD : l (p - 12) with
      | true =>
        have nd : Lm l p (p - 12) := ⟨hD, by lia⟩
        have e4 := join ((Conn.one nl nd (in4.mpr (by lia))).trans (.one nd nu (in4.mpr (by lia))))
        have e8 := stay fun h => absurd ⟨hD, by lia⟩ h.2.2
        rw [e4, e8]
        simp only [Bool.and_self, if_true]
        lia
      | false =>
        have wd := wet (p - 12) (by lia) (by lia) hD
        by_cases c8 : Conn (Wm l n (p + 1)) S8 (p - 12) 0
        · have c4 : ¬ Conn (Lm l p) S4 (p - 1) (p - 11) := fun q => ring_not H hl hL hU hD q c8
          have e8 := stay fun _ => c8
          have e4 : cnt (sizeZ n) (Lm l p) S4 = cnt (sizeZ n) (Lm l (p + 1)) S4 + 1 := add_two (o := p - 1) (a := p - 1) (b := p - 11) st4 hP4 np4 (fun x h => by have := H.low x h.1; lia) (fun x h => by have := h.2; rw [hZ]; lia) (by lia) hcl ⟨nl, in4.mpr (by lia)⟩ ⟨nu, in4.mpr (by lia)⟩ c4 fun c hc => by
            rcases nb4 c hc with ⟨rfl, _⟩ | ⟨rfl, _⟩
            · exact .inl (.refl nl)
            · exact .inr (.refl nu)
          rw [e4, e8]
          simp only [Bool.and_false, Bool.false_eq_true, if_false, if_true]
          lia
        · have c4 : Conn (Lm l p) S4 (p - 1) (p - 11) := Classical.byContradiction fun q => ring_some H hl hL hU hD q c8
          have e4 := join c4
          have cr := out (p + 1) (by lia) (by lia)
          have e8 : cnt (sizeZ n) (Wm l n (p + 1)) S8 = cnt (sizeZ n) (Wm l n p) S8 + 1 := add_two (o := 0) (a := p - 12) (b := p + 1) st8 hP8 np8 (fun x h => h.1) (fun x h => by have := h.2.1; rw [hZ]; lia) (by lia) hc8 ⟨wd, in8.mpr (by lia)⟩ ⟨cr.src, in8.mpr (by lia)⟩ (fun q => c8 (q.trans cr)) fun c hc => by
            by_cases e : c = p - 12
            · subst e; exact .inl (.refl wd)
            · exact .inr ((nb8 c hc e).trans (cr.symm st8))
          rw [e4, e8]
          simp only [Bool.and_false, Bool.false_eq_true, if_false, if_true]
          lia
open Classical in
theorem cnt_none (N : Nat) (S : List Int) : cnt N (fun _ => False) S = 0 := by
  unfold cnt
  rw [List.length_eq_zero_iff, List.filter_eq_nil_iff]
  intro x _ h
  exact (of_decide_eq_true h).1
theorem euler (H : Pic l n) : ∀ m : Nat, (cnt (sizeZ n) (Lm l (m : Int)) S4 : Int) - ((cnt (sizeZ n) (Wm l n (m : Int)) S8 : Int) - 1) = eSum l m
  | 0 => by
    have e4 : Lm l ((0 : Nat) : Int) = fun _ => False := funext fun x => propext ⟨fun h => by have := H.low x h.1; have := h.2; lia, False.elim⟩
    have line : ∀ d : Nat, (d : Int) < 11 * ((n : Int) + 2) → Conn (Wm l n ((0 : Nat) : Int)) S8 0 d := by
      intro d
      induction d with
      | zero => intro _; exact .refl ⟨by lia, by lia, fun q => by rw [e4] at q; exact q⟩
      | succ d ih =>
        intro hd
        exact .step (ih (by lia)) ⟨by lia, by lia, fun q => by rw [e4] at q; exact q⟩ (in8.mpr (by lia))
    have e8 : cnt (sizeZ n) (Wm l n ((0 : Nat) : Int)) S8 = cnt (sizeZ n) (fun _ => False) S8 + 1 := by
      refine cnt_one (r := 0) (by lia) (by unfold sizeZ; lia) ⟨(line 0 (by lia)).src, fun y c => c.dst.1⟩ (fun q => q.1) fun x hx => ⟨fun h => ?_, fun h => h.1.elim⟩
      exfalso
      have h1 := h.1.1
      have c := line x.toNat (by have := h.1.2.1; lia)
      rw [show ((x.toNat : Nat) : Int) = x by lia] at c
      have := h.2 0 (c.symm st8)
      lia
    rw [e4, e8, cnt_none, cnt_none]; rfl
  | m + 1 => by
    have ih := euler H m
    show _ = eSum l m + _
    rw [show ((m + 1 : Nat) : Int) = (m : Int) + 1 by lia]
    cases hl : l (m : Int) with
    | true =>
      have := euler_step H hl
      rw [if_pos rfl]; lia
    | false =>
      have e4 : Lm l ((m : Int) + 1) = Lm l (m : Int) := funext fun x => propext ⟨fun h => ⟨h.1, by
        have := h.2
        by_cases e : x = m
        · have q := h.1; rw [e, hl] at q; cases q
        · lia⟩, fun h => ⟨h.1, by have := h.2; lia⟩⟩
      have e8 : Wm l n ((m : Int) + 1) = Wm l n (m : Int) := by unfold Wm; rw [e4]
      rw [e4, e8, if_neg Bool.false_ne_true]; lia
end
end Mine

end
section
open PySem PyProof.Rows
set_option Elab.async false
set_option autoImplicit false
set_option linter.unusedVariables false
namespace Mine
def nextAt (row : List Bool) (b : Bool) (p : Nat) : Nat := p + ((row.drop (p - 1)).takeWhile fun c => c != b).length
theorem and_one (r k : Nat) : (r &&& 2 ^ k == 2 ^ k) = r.testBit k := by
  cases h : r.testBit k with
  | true =>
    refine beq_iff_eq.mpr (Nat.eq_of_testBit_eq fun i => ?_)
    rw [Nat.testBit_and, Nat.testBit_two_pow]
    by_cases e : k = i
    · subst e; simp [h]
    · simp [e]
  | false =>
    refine beq_eq_false_iff_ne.mpr fun q => ?_
    have := congrArg (fun x => Nat.testBit x k) q
    simp [Nat.testBit_and, h] at this
theorem and_two (r a b : Nat) : (r &&& (2 ^ a ||| 2 ^ b) == (2 ^ a ||| 2 ^ b)) = (r.testBit a && r.testBit b) := by
  cases h : (r.testBit a && r.testBit b) with
  | true =>
    rw [Bool.and_eq_true] at h
    refine beq_iff_eq.mpr (Nat.eq_of_testBit_eq fun i => ?_)
    rw [Nat.testBit_and, Nat.testBit_or, Nat.testBit_two_pow, Nat.testBit_two_pow]
    by_cases e : a = i
    · subst e; simp [h.1]
    · by_cases e' : b = i
      · subst e'; simp [h.2]
      · simp [e, e']
  | false =>
    refine beq_eq_false_iff_ne.mpr fun q => ?_
    have h1 := congrArg (fun x => Nat.testBit x a) q
    have h2 := congrArg (fun x => Nat.testBit x b) q
    simp [Nat.testBit_and, Nat.testBit_or] at h1 h2
    rw [h1, h2] at h; cases h
end Mine

end
section
open PySem PyProof.Rows
set_option Elab.async false
set_option autoImplicit false
set_option linter.unusedVariables false
namespace Mine
theorem bitAnd_nat (n b : Nat) : Builtin.bitAnd (n : Int) (b : Int) = ((n &&& b : Nat) : Int) := by
  show PySem.Spec.bitAnd (n : Int) (b : Int) = _
  unfold PySem.Spec.bitAnd
  rw [decide_eq_true (Int.natCast_nonneg n), decide_eq_true (Int.natCast_nonneg b)]
  rfl
theorem and_low (n b : Nat) (hb : b < 4096) : n &&& b = (n % 4096) &&& b := by
  have h1 := Nat.and_mod_two_pow (n := 12) (a := n) (b := b)
  have h2 : n &&& b < 2 ^ 12 := Nat.lt_of_le_of_lt Nat.and_le_right hb
  rw [Nat.mod_eq_of_lt h2, Nat.mod_eq_of_lt (show b < 2 ^ 12 from hb)] at h1
  exact h1
theorem hit_low (n : Nat) (k : Nat) (hk : k ≠ 0) (b c : Nat) (hb : b < 4096) : fmHit (n : Int) k ((b : Int), c) = ((n % 4096) &&& b == b) := by
  unfold fmHit
  rw [if_neg hk, bitAnd_nat, and_low n b hb]
  show decide _ = decide _
  congr 1
  exact propext ⟨fun h => Int.ofNat.inj h, fun h => congrArg Int.ofNat h⟩
def lowOk (r : Nat) : Bool :=
  ((r &&& 256 == 256) == r.testBit 8) && ((r &&& 128 == 128) == r.testBit 7) && ((r &&& 64 == 64) == r.testBit 6) && ((r &&& 32 == 32) == r.testBit 5) && ((r &&& 16 == 16) == r.testBit 4) && ((r &&& 8 == 8) == r.testBit 3) &&
  ((r &&& 4 == 4) == r.testBit 2) && ((r &&& 2 == 2) == r.testBit 1) && ((r &&& 1 == 1) == r.testBit 0) &&
  ((r &&& 2112 == 2112) == (r.testBit 6 && (r &&& 2048 == 2048))) && ((r &&& 1032 == 1032) == (r.testBit 3 && (r &&& 1024 == 1024))) && ((r &&& 513 == 513) == (r.testBit 0 && (r &&& 512 == 512)))
theorem low_bits (r : Nat) (h : r < 4096) : lowOk r = true := by
  unfold lowOk
  have e8 := and_one r 8; have e7 := and_one r 7; have e6 := and_one r 6; have e5 := and_one r 5; have e4 := and_one r 4; have e3 := and_one r 3; have e2 := and_one r 2; have e1 := and_one r 1; have e0 := and_one r 0
  have eB := and_one r 11; have eA := and_one r 10; have e9 := and_one r 9
  have t1 := and_two r 11 6; have t2 := and_two r 10 3; have t3 := and_two r 9 0
  simp only [show (2 : Nat) ^ 8 = 256 from rfl, show (2 : Nat) ^ 7 = 128 from rfl, show (2 : Nat) ^ 6 = 64 from rfl, show (2 : Nat) ^ 5 = 32 from rfl, show (2 : Nat) ^ 4 = 16 from rfl, show (2 : Nat) ^ 3 = 8 from rfl, show (2 : Nat) ^ 2 = 4 from rfl, show (2 : Nat) ^ 1 = 2 from rfl, show (2 : Nat) ^ 0 = 1 from rfl, show (2 : Nat) ^ 11 = 2048 from rfl, show (2 : Nat) ^ 10 = 1024 from rfl, show (2 : Nat) ^ 9 = 512 from rfl, show (2048 ||| 64 : Nat) = 2112 from rfl, show (1024 ||| 8 : Nat) = 1032 from rfl, show (512 ||| 1 : Nat) = 513 from rfl] at e8 e7 e6 e5 e4 e3 e2 e1 e0 eB eA e9 t1 t2 t3
  rw [e8, e7, e6, e5, e4, e3, e2, e1, e0, eB, eA, e9, t1, t2, t3]
  simp [Bool.and_comm]
end Mine

end
section
open PySem PyProof.Rows
set_option Elab.async false
set_option autoImplicit false
set_option linter.unusedVariables false
namespace Mine
def right1 (c : Nat) : Bool := inCs "rwxst" c
def none1 (c : Nat) : Bool := inCs "-ST" c
theorem pick_one {n : Nat} {k : Nat} (hk : k ≠ 0) (b c : Nat) (hb : b < 4096) : fmPick (n : Int) k [((b : Int), c)] = if (n % 4096 &&& b == b) then c else 45 := by
  unfold fmPick
  rw [List.find?_cons, hit_low n k hk b c hb]
  cases (n % 4096 &&& b == b) <;> simp [hk]
theorem pick_three {n : Nat} {k : Nat} (hk : k ≠ 0) (b1 c1 b2 c2 b3 c3 : Nat) (h1 : b1 < 4096) (h2 : b2 < 4096) (h3 : b3 < 4096) : fmPick (n : Int) k [((b1 : Int), c1), ((b2 : Int), c2), ((b3 : Int), c3)] =
    if (n % 4096 &&& b1 == b1) then c1 else if (n % 4096 &&& b2 == b2) then c2 else if (n % 4096 &&& b3 == b3) then c3 else 45 := by
  unfold fmPick
  rw [List.find?_cons, hit_low n k hk b1 c1 h1, List.find?_cons, hit_low n k hk b2 c2 h2, List.find?_cons, hit_low n k hk b3 c3 h3]
  cases (n % 4096 &&& b1 == b1) <;> cases (n % 4096 &&& b2 == b2) <;> cases (n % 4096 &&& b3 == b3) <;> simp [hk]
theorem rt_all : right1 114 = true ∧ right1 119 = true ∧ right1 120 = true ∧ right1 115 = true ∧ right1 116 = true ∧ right1 45 = false ∧ right1 83 = false ∧ right1 84 = false := by decide +kernel
theorem nn_all : none1 114 = false ∧ none1 119 = false ∧ none1 120 = false ∧ none1 115 = false ∧ none1 116 = false ∧ none1 45 = true ∧ none1 83 = true ∧ none1 84 = true := by decide +kernel
theorem sign_ok (n k : Nat) (h1 : 1 ≤ k) (h9 : k ≤ 9) : right1 (fmPick (n : Int) k (fmTab.getD k [])) = (n % 4096).testBit (9 - k) ∧ none1 (fmPick (n : Int) k (fmTab.getD k [])) = !(n % 4096).testBit (9 - k) := by
  have hl := low_bits (n % 4096) (Nat.mod_lt _ (by decide))
  simp only [lowOk, Bool.and_eq_true, beq_iff_eq] at hl
  obtain ⟨⟨⟨⟨⟨⟨⟨⟨⟨⟨⟨e8, e7⟩, e6⟩, e5⟩, e4⟩, e3⟩, e2⟩, e1⟩, e0⟩, ea⟩, eb⟩, ec⟩ := hl
  obtain ⟨r1, r2, r3, r4, r5, r6, r7, r8⟩ := rt_all
  obtain ⟨s1, s2, s3, s4, s5, s6, s7, s8⟩ := nn_all
  have hk : k = 1 ∨ k = 2 ∨ k = 3 ∨ k = 4 ∨ k = 5 ∨ k = 6 ∨ k = 7 ∨ k = 8 ∨ k = 9 := by lia
  rcases hk with rfl | rfl | rfl | rfl | rfl | rfl | rfl | rfl | rfl
  · rw [show fmTab.getD 1 [] = [(((256 : Nat) : Int), 114)] from rfl, pick_one (by decide) 256 114 (by decide), e8]
    cases (n % 4096).testBit 8 <;> simp_all
  · rw [show fmTab.getD 2 [] = [(((128 : Nat) : Int), 119)] from rfl, pick_one (by decide) 128 119 (by decide), e7]
    cases (n % 4096).testBit 7 <;> simp_all
  · rw [show fmTab.getD 3 [] = [(((2112 : Nat) : Int), 115), (((2048 : Nat) : Int), 83), (((64 : Nat) : Int), 120)] from rfl, pick_three (by decide) 2112 115 2048 83 64 120 (by decide) (by decide) (by decide), ea, e6]
    cases (n % 4096).testBit 6 <;> cases (n % 4096 &&& 2048 == 2048) <;> simp_all
  · rw [show fmTab.getD 4 [] = [(((32 : Nat) : Int), 114)] from rfl, pick_one (by decide) 32 114 (by decide), e5]
    cases (n % 4096).testBit 5 <;> simp_all
  · rw [show fmTab.getD 5 [] = [(((16 : Nat) : Int), 119)] from rfl, pick_one (by decide) 16 119 (by decide), e4]
    cases (n % 4096).testBit 4 <;> simp_all
  · rw [show fmTab.getD 6 [] = [(((1032 : Nat) : Int), 115), (((1024 : Nat) : Int), 83), (((8 : Nat) : Int), 120)] from rfl, pick_three (by decide) 1032 115 1024 83 8 120 (by decide) (by decide) (by decide), eb, e3]
    cases (n % 4096).testBit 3 <;> cases (n % 4096 &&& 1024 == 1024) <;> simp_all
  · rw [show fmTab.getD 7 [] = [(((4 : Nat) : Int), 114)] from rfl, pick_one (by decide) 4 114 (by decide), e2]
    cases (n % 4096).testBit 2 <;> simp_all
  · rw [show fmTab.getD 8 [] = [(((2 : Nat) : Int), 119)] from rfl, pick_one (by decide) 2 119 (by decide), e1]
    cases (n % 4096).testBit 1 <;> simp_all
  · rw [show fmTab.getD 9 [] = [(((513 : Nat) : Int), 116), (((512 : Nat) : Int), 84), (((1 : Nat) : Int), 120)] from rfl, pick_three (by decide) 513 116 512 84 1 120 (by decide) (by decide) (by decide), ec, e0]
    cases (n % 4096).testBit 0 <;> cases (n % 4096 &&& 512 == 512) <;> simp_all
end Mine

end
section
open PySem PyProof.Rows
set_option Elab.async false
set_option autoImplicit false
set_option linter.unusedVariables false
namespace Mine
theorem join_chars (l : List Nat) : Txt.join "" (l.map chS) = ⟨l.toArray⟩ := by
  have h := join_nil_signs ⟨l.toArray⟩
  have e1 : signs ⟨l.toArray⟩ = l.map chS := by
    first
      | rfl
      | (unfold signs; simp; rfl)
  rw [e1] at h
  unfold Txt.join
  rw [show Str.ofString "" = (⟨#[]⟩ : Str) by kernel_rfl, StrLaws.glued_eq_join]
  exact h
theorem takeWhile_map_len {α : Type} (f : α → Bool) : ∀ l : List α, (l.takeWhile f).length = ((l.map f).takeWhile id).length
  | [] => rfl
  | a :: l => by
    rw [List.takeWhile_cons, List.map_cons, List.takeWhile_cons]
    cases h : f a with
    | true => simp [takeWhile_map_len f l]
    | false => simp
theorem fmStr_cps (n : Nat) : (fmStr (n : Int)).cps.toList = fmChars (n : Int) 10 := by
  unfold fmStr; rw [join_chars]
end Mine

end
section
open PySem PyProof.Rows
set_option Elab.async false
set_option autoImplicit false
set_option linter.unusedVariables false
namespace Mine
/-! claim 02: land, row by row -/
def fndT (t cs : Str) : Nat → Nat → List Nat
  | 0, _ => []
  | f + 1, p => if p < 10 then (if p < skipN t cs p then [16 * p + skipN t cs p] else []) ++ fndT t cs f (skipN t cs p + 1) else []
def fndF (row : List Bool) (b : Bool) : Nat → Nat → List Nat
  | 0, _ => []
  | f + 1, p => if p < 10 then (if p < nextAt row (!b) p then [16 * p + nextAt row (!b) p] else []) ++ fndF row b f (nextAt row (!b) p + 1) else []
def bitX (a : Bool) (p : Nat) : Nat := if (a && p % 3 == 0) = true then 12 - p / 3 else 9 - p
def landAt (a t : Bool) (m p : Nat) : Bool := m.testBit (bitX a p) == t
def landRow (a t : Bool) (m : Nat) : List Bool := (List.range 9).map fun p => landAt a t m (p + 1)
def sgX (a t : Bool) : Str := if a then (if t then "rwsStT" else "-x") else (if t then "rwxst" else "-ST")
def above1 (c : Nat) : Bool := inCs "rwsStT" c
def below1 (c : Nat) : Bool := inCs "-x" c
theorem ab_all : above1 114 = true ∧ above1 119 = true ∧ above1 120 = false ∧ above1 115 = true ∧ above1 116 = true ∧ above1 45 = false ∧ above1 83 = true ∧ above1 84 = true := by decide +kernel
theorem be_all : below1 114 = false ∧ below1 119 = false ∧ below1 120 = true ∧ below1 115 = false ∧ below1 116 = false ∧ below1 45 = true ∧ below1 83 = false ∧ below1 84 = false := by decide +kernel
theorem sign_above (n k : Nat) (h1 : 1 ≤ k) (h9 : k ≤ 9) : above1 (fmPick (n : Int) k (fmTab.getD k [])) = (n % 4096).testBit (bitX true k) ∧ below1 (fmPick (n : Int) k (fmTab.getD k [])) = !(n % 4096).testBit (bitX true k) := by
  have hl := low_bits (n % 4096) (Nat.mod_lt _ (by decide))
  simp only [lowOk, Bool.and_eq_true, beq_iff_eq] at hl
  obtain ⟨⟨⟨⟨⟨⟨⟨⟨⟨⟨⟨e8, e7⟩, e6⟩, e5⟩, e4⟩, e3⟩, e2⟩, e1⟩, e0⟩, ea⟩, eb⟩, ec⟩ := hl
  have x11 := and_one (n % 4096) 11
  have x10 := and_one (n % 4096) 10
  have x9 := and_one (n % 4096) 9
  simp only [show (2 : Nat) ^ 11 = 2048 from rfl, show (2 : Nat) ^ 10 = 1024 from rfl, show (2 : Nat) ^ 9 = 512 from rfl] at x11 x10 x9
  obtain ⟨r1, r2, r3, r4, r5, r6, r7, r8⟩ := ab_all
  obtain ⟨s1, s2, s3, s4, s5, s6, s7, s8⟩ := be_all
  have hk : k = 1 ∨ k = 2 ∨ k = 3 ∨ k = 4 ∨ k = 5 ∨ k = 6 ∨ k = 7 ∨ k = 8 ∨ k = 9 := by lia
  rcases hk with rfl | rfl | rfl | rfl | rfl | rfl | rfl | rfl | rfl
  · rw [show fmTab.getD 1 [] = [(((256 : Nat) : Int), 114)] from rfl, pick_one (by decide) 256 114 (by decide), e8, show bitX true 1 = 8 from rfl]
    cases (n % 4096).testBit 8 <;> simp_all
  · rw [show fmTab.getD 2 [] = [(((128 : Nat) : Int), 119)] from rfl, pick_one (by decide) 128 119 (by decide), e7, show bitX true 2 = 7 from rfl]
    cases (n % 4096).testBit 7 <;> simp_all
  · rw [show fmTab.getD 3 [] = [(((2112 : Nat) : Int), 115), (((2048 : Nat) : Int), 83), (((64 : Nat) : Int), 120)] from rfl, pick_three (by decide) 2112 115 2048 83 64 120 (by decide) (by decide) (by decide), ea, e6, x11, show bitX true 3 = 11 from rfl]
    cases (n % 4096).testBit 6 <;> cases (n % 4096).testBit 11 <;> simp_all
  · rw [show fmTab.getD 4 [] = [(((32 : Nat) : Int), 114)] from rfl, pick_one (by decide) 32 114 (by decide), e5, show bitX true 4 = 5 from rfl]
    cases (n % 4096).testBit 5 <;> simp_all
  · rw [show fmTab.getD 5 [] = [(((16 : Nat) : Int), 119)] from rfl, pick_one (by decide) 16 119 (by decide), e4, show bitX true 5 = 4 from rfl]
    cases (n % 4096).testBit 4 <;> simp_all
  · rw [show fmTab.getD 6 [] = [(((1032 : Nat) : Int), 115), (((1024 : Nat) : Int), 83), (((8 : Nat) : Int), 120)] from rfl, pick_three (by decide) 1032 115 1024 83 8 120 (by decide) (by decide) (by decide), eb, e3, x10, show bitX true 6 = 10 from rfl]
    cases (n % 4096).testBit 3 <;> cases (n % 4096).testBit 10 <;> simp_all
  · rw [show fmTab.getD 7 [] = [(((4 : Nat) : Int), 114)] from rfl, pick_one (by decide) 4 114 (by decide), e2, show bitX true 7 = 2 from rfl]
    cases (n % 4096).testBit 2 <;> simp_all
  · rw [show fmTab.getD 8 [] = [(((2 : Nat) : Int), 119)] from rfl, pick_one (by decide) 2 119 (by decide), e1, show bitX true 8 = 1 from rfl]
    cases (n % 4096).testBit 1 <;> simp_all
  · rw [show fmTab.getD 9 [] = [(((513 : Nat) : Int), 116), (((512 : Nat) : Int), 84), (((1 : Nat) : Int), 120)] from rfl, pick_three (by decide) 513 116 512 84 1 120 (by decide) (by decide) (by decide), ec, e0, x9, show bitX true 9 = 9 from rfl]
    cases (n % 4096).testBit 0 <;> cases (n % 4096).testBit 9 <;> simp_all
theorem bitX_lt (a : Bool) (k : Nat) (h1 : 1 ≤ k) (h9 : k ≤ 9) : bitX a k < 12 := by
  unfold bitX; split
  · have : 1 ≤ k / 3 := by
      rename_i h
      rw [Bool.and_eq_true] at h
      have := beq_iff_eq.mp h.2
      lia
    lia
  · lia
theorem sign_X (a t : Bool) (n k : Nat) (h1 : 1 ≤ k) (h9 : k ≤ 9) : inCs (sgX a t) (fmPick (n : Int) k (fmTab.getD k [])) = landAt a t n k := by
  have hb : (n % 4096).testBit (bitX a k) = n.testBit (bitX a k) := by
    rw [show (4096 : Nat) = 2 ^ 12 from rfl, Nat.testBit_mod_two_pow, decide_eq_true (bitX_lt a k h1 h9), Bool.true_and]
  unfold landAt
  rw [← hb]
  cases a
  · have hx : bitX false k = 9 - k := rfl
    obtain ⟨q1, q2⟩ := sign_ok n k h1 h9
    cases t
    · show none1 _ = _
      rw [q2, hx]; cases (n % 4096).testBit (9 - k) <;> rfl
    · show right1 _ = _
      rw [q1, hx]; cases (n % 4096).testBit (9 - k) <;> rfl
  · obtain ⟨q1, q2⟩ := sign_above n k h1 h9
    cases t
    · show below1 _ = _
      rw [q2]; cases (n % 4096).testBit (bitX true k) <;> rfl
    · show above1 _ = _
      rw [q1]; cases (n % 4096).testBit (bitX true k) <;> rfl
theorem sg_X (a t : Bool) (n : Nat) : ((fmChars (n : Int) 10).drop 1).map (inCs (sgX a t)) = landRow a t n := by
  unfold fmChars landRow
  rw [← List.map_drop, List.map_map]
  apply List.ext_getElem
  · simp
  · intro i h1 h2
    have hi : i < 9 := by simpa using h1
    simp only [List.getElem_map, List.getElem_drop, List.getElem_range, Function.comp]
    rw [sign_X a t n (1 + i) (by lia) (by lia), Nat.add_comm 1 i]
theorem skip_X (a t : Bool) (n p : Nat) (h1 : 1 ≤ p) : skipN (fmStr (n : Int)) (sgX a t) p = nextAt (landRow a t n) false p := by
  unfold skipN nextAt
  rw [fmStr_cps, show p = 1 + (p - 1) by lia, ← List.drop_drop, show 1 + (p - 1) - 1 = p - 1 by lia]
  have e := takeWhile_map_len (inCs (sgX a t)) ((List.drop 1 (fmChars (n : Int) 10)).drop (p - 1))
  rw [e, List.map_drop, sg_X]
  congr 3
  funext c; cases c <;> rfl
theorem fnd_X (a t : Bool) (n : Nat) : ∀ f p, 1 ≤ p → fndT (fmStr (n : Int)) (sgX a t) f p = fndF (landRow a t n) true f p
  | 0, p, _ => rfl
  | f + 1, p, h => by
    unfold fndT fndF
    rw [skip_X a t n p h, fnd_X a t n f _ (Nat.le_add_left _ _)]; rfl
/-- the runs of a row, by their first places -/
def rU (f : Nat → Bool) : Nat → Nat
  | 0 => 0
  | j + 1 => rU f j + if (f (j + 1) && !f j) = true then 1 else 0
theorem rU_succ (f : Nat → Bool) (j : Nat) : rU f (j + 1) = rU f j + if (f (j + 1) && !f j) = true then 1 else 0 := rfl
theorem rU_congr {f g : Nat → Bool} : ∀ {n : Nat}, (∀ j, j ≤ n → f j = g j) → rU f n = rU g n
  | 0, _ => rfl
  | n + 1, h => by
    unfold rU
    rw [rU_congr fun j hj => h j (by lia), h (n + 1) (Nat.le_refl _), h n (by lia)]
theorem rU_none : ∀ {n : Nat} {f : Nat → Bool}, (∀ j, j ≤ n → f j = false) → rU f n = 0
  | 0, f, _ => rfl
  | n + 1, f, h => by
    unfold rU
    rw [rU_none fun j hj => h j (by lia), h (n + 1) (Nat.le_refl _)]; rfl
theorem chkRuns : ∀ b1 b2 b3 b4 b5 b6 b7 b8 b9 : Bool, (fndF [b1, b2, b3, b4, b5, b6, b7, b8, b9] true 10 1).length = rU (fun j => [false, b1, b2, b3, b4, b5, b6, b7, b8, b9].getD j false) 9 := by decide +kernel
def lnd (a t : Bool) (m j : Nat) : Bool := decide (1 ≤ j) && landAt a t m j
theorem runs_X (a t : Bool) (m : Nat) : (fndT (fmStr (m : Int)) (sgX a t) 10 1).length = rU (lnd a t m) 9 := by
  rw [fnd_X a t m 10 1 (Nat.le_refl _)]
  have e : landRow a t m = [landAt a t m 1, landAt a t m 2, landAt a t m 3, landAt a t m 4, landAt a t m 5, landAt a t m 6, landAt a t m 7, landAt a t m 8, landAt a t m 9] := rfl
  rw [e, chkRuns]
  refine rU_congr fun j hj => ?_
  have hj' : j = 0 ∨ j = 1 ∨ j = 2 ∨ j = 3 ∨ j = 4 ∨ j = 5 ∨ j = 6 ∨ j = 7 ∨ j = 8 ∨ j = 9 := by lia
  rcases hj' with rfl | rfl | rfl | rfl | rfl | rfl | rfl | rfl | rfl | rfl <;> rfl
theorem lnd_and (a : Bool) (x y j : Nat) : lnd a true (x &&& y) j = (lnd a true x j && lnd a true y j) := by
  unfold lnd landAt
  rw [Nat.testBit_and]
  cases decide (1 ≤ j) <;> cases x.testBit (bitX a j) <;> cases y.testBit (bitX a j) <;> rfl
theorem lnd_or (a : Bool) (x y j : Nat) : lnd a false (x ||| y) j = (lnd a false x j && lnd a false y j) := by
  unfold lnd landAt
  rw [Nat.testBit_or]
  cases decide (1 ≤ j) <;> cases x.testBit (bitX a j) <;> cases y.testBit (bitX a j) <;> rfl
/-- the picture, by codes -/
def lF (a t : Bool) (ms : List Nat) (c : Int) : Bool := decide (12 ≤ c ∧ c ≤ 11 * (ms.length : Int) + 9 ∧ 1 ≤ c % 11 ∧ c % 11 ≤ 9) && landAt a t (ms.getD (c / 11 - 1).toNat 0) (c % 11).toNat
theorem pic_of (a t : Bool) (ms : List Nat) : Pic (lF a t ms) ms.length where
  low := fun c h => by
    unfold lF at h
    rw [Bool.and_eq_true, decide_eq_true_eq] at h
    exact ⟨h.1.1, h.1.2.1⟩
  col := fun c h => by
    unfold lF at h
    rw [Bool.and_eq_true, decide_eq_true_eq] at h
    lia
theorem lF_in (a t : Bool) {ms : List Nat} {k j : Nat} (hk : k < ms.length) (h1 : j ≤ 9) : lF a t ms (11 * ((k : Int) + 1) + (j : Int)) = lnd a t (ms.getD k 0) j := by
  unfold lF lnd
  by_cases h : 1 ≤ j
  · rw [decide_eq_true (show 12 ≤ 11 * ((k : Int) + 1) + (j : Int) ∧ 11 * ((k : Int) + 1) + (j : Int) ≤ 11 * (ms.length : Int) + 9 ∧ 1 ≤ (11 * ((k : Int) + 1) + (j : Int)) % 11 ∧ (11 * ((k : Int) + 1) + (j : Int)) % 11 ≤ 9 by lia), decide_eq_true h,
      show ((11 * ((k : Int) + 1) + (j : Int)) / 11 - 1).toNat = k by lia, show ((11 * ((k : Int) + 1) + (j : Int)) % 11).toNat = j by lia]
  · rw [decide_eq_false h, decide_eq_false (by lia)]; rfl
theorem lF_out (a t : Bool) {ms : List Nat} {c : Int} (h : c < 12 ∨ 11 * (ms.length : Int) + 9 < c ∨ c % 11 = 0 ∨ c % 11 = 10) : lF a t ms c = false := by
  unfold lF
  rw [decide_eq_false (by lia)]; rfl
theorem eSum_row {l : Int → Bool} (q : Nat) (h0 : l (11 * (q : Int)) = false) (h10 : l (11 * (q : Int) + 10) = false) (hb0 : l (11 * (q : Int) - 11) = false) :
    eSum l (11 * q + 11) = eSum l (11 * q) + (rU (fun j => l (11 * (q : Int) + (j : Int))) 9 : Int) - (rU (fun j => l (11 * (q : Int) + (j : Int)) && l (11 * (q : Int) - 11 + (j : Int))) 9 : Int) := by
  have key : ∀ j : Nat, j ≤ 9 → eSum l (11 * q + 1 + j) = eSum l (11 * q) + (rU (fun j => l (11 * (q : Int) + (j : Int))) j : Int) - (rU (fun j => l (11 * (q : Int) + (j : Int)) && l (11 * (q : Int) - 11 + (j : Int))) j : Int) := by
    intro j
    induction j with
    | zero =>
      intro _
      show eSum l (11 * q) + (if l ((11 * q : Nat) : Int) = true then _ else 0) = _
      rw [show ((11 * q : Nat) : Int) = 11 * (q : Int) by lia, h0, if_neg Bool.false_ne_true]
      simp [rU]
    | succ j ih =>
      intro hj
      have e := ih (by lia)
      show eSum l (11 * q + 1 + j) + (if l ((11 * q + 1 + j : Nat) : Int) = true then eAt l ((11 * q + 1 + j : Nat) : Int) else 0) = _
      rw [e]
      rw [rU_succ, rU_succ]
      unfold eAt
      generalize rU (fun j => l (11 * (q : Int) + (j : Int))) j = R1
      generalize rU (fun j => l (11 * (q : Int) + (j : Int)) && l (11 * (q : Int) - 11 + (j : Int))) j = R2
      rw [show ((11 * q + 1 + j : Nat) : Int) = 11 * (q : Int) + ((j + 1 : Nat) : Int) by lia, show 11 * (q : Int) + ((j + 1 : Nat) : Int) - 1 = 11 * (q : Int) + (j : Int) by lia, show 11 * (q : Int) + ((j + 1 : Nat) : Int) - 11 = 11 * (q : Int) - 11 + ((j + 1 : Nat) : Int) by lia, show 11 * (q : Int) + ((j + 1 : Nat) : Int) - 12 = 11 * (q : Int) - 11 + (j : Int) by lia]
      generalize l (11 * (q : Int) + ((j + 1 : Nat) : Int)) = x1
      generalize l (11 * (q : Int) + (j : Int)) = x2
      generalize l (11 * (q : Int) - 11 + ((j + 1 : Nat) : Int)) = x3
      generalize l (11 * (q : Int) - 11 + (j : Int)) = x4
      cases x1 <;> cases x2 <;> cases x3 <;> cases x4 <;> simp <;> lia
  have e9 := key 9 (Nat.le_refl _)
  show eSum l (11 * q + 10) + (if l ((11 * q + 10 : Nat) : Int) = true then _ else 0) = _
  rw [show ((11 * q + 10 : Nat) : Int) = 11 * (q : Int) + 10 by lia, h10, if_neg Bool.false_ne_true, Int.add_zero]
  exact e9
def runsTo (a t : Bool) (ms : List Nat) : Nat → Int
  | 0 => 0
  | k + 1 => runsTo a t ms k + (rU (lnd a t (ms.getD k 0)) 9 : Int) - (if 0 < k then (rU (fun j => lnd a t (ms.getD (k - 1) 0) j && lnd a t (ms.getD k 0) j) 9 : Int) else 0)
theorem eSum_none {l : Int → Bool} (m : Nat) : ∀ d : Nat, (∀ c : Nat, m ≤ c → c < m + d → l (c : Int) = false) → eSum l (m + d) = eSum l m
  | 0, _ => rfl
  | d + 1, h => by
    show eSum l (m + d) + (if l ((m + d : Nat) : Int) = true then _ else 0) = _
    rw [h (m + d) (by lia) (by lia), if_neg Bool.false_ne_true, Int.add_zero]
    exact eSum_none m d fun c h1 h2 => h c h1 (by lia)
theorem eSum_runs (a t : Bool) (ms : List Nat) : ∀ k, k ≤ ms.length → eSum (lF a t ms) (11 * (k + 1)) = runsTo a t ms k
  | 0, _ => by
    have := eSum_none (l := lF a t ms) 0 11 fun c _ h => lF_out a t (by lia)
    rw [Nat.zero_add] at this
    exact this
  | k + 1, h => by
    have ih := eSum_runs a t ms k (by lia)
    have e := eSum_row (l := lF a t ms) (k + 1) (lF_out a t (by lia)) (lF_out a t (by lia)) (lF_out a t (by lia))
    rw [show 11 * (k + 1 + 1) = 11 * (k + 1) + 11 by lia, e, ih, runsTo]
    have e1 : rU (fun j => lF a t ms (11 * ((k + 1 : Nat) : Int) + (j : Int))) 9 = rU (lnd a t (ms.getD k 0)) 9 := rU_congr fun j hj => by
      show lF a t ms (11 * ((k + 1 : Nat) : Int) + (j : Int)) = _
      rw [show 11 * ((k + 1 : Nat) : Int) + (j : Int) = 11 * ((k : Int) + 1) + (j : Int) by lia, lF_in a t (by lia) hj]
    rw [e1]
    by_cases hk : 0 < k
    · rw [if_pos hk]
      have e2 : rU (fun j => lF a t ms (11 * ((k + 1 : Nat) : Int) + (j : Int)) && lF a t ms (11 * ((k + 1 : Nat) : Int) - 11 + (j : Int))) 9 = rU (fun j => lnd a t (ms.getD (k - 1) 0) j && lnd a t (ms.getD k 0) j) 9 := rU_congr fun j hj => by
        show (lF a t ms (11 * ((k + 1 : Nat) : Int) + (j : Int)) && lF a t ms (11 * ((k + 1 : Nat) : Int) - 11 + (j : Int))) = _
        rw [show 11 * ((k + 1 : Nat) : Int) + (j : Int) = 11 * ((k : Int) + 1) + (j : Int) by lia, show 11 * ((k + 1 : Nat) : Int) - 11 + (j : Int) = 11 * (((k - 1 : Nat) : Int) + 1) + (j : Int) by lia, lF_in a t (by lia) hj, lF_in a t (by lia) hj, Bool.and_comm]
      rw [e2]
    · rw [if_neg hk]
      have e2 : rU (fun j => lF a t ms (11 * ((k + 1 : Nat) : Int) + (j : Int)) && lF a t ms (11 * ((k + 1 : Nat) : Int) - 11 + (j : Int))) 9 = 0 := rU_none fun j hj => by
        show (lF a t ms (11 * ((k + 1 : Nat) : Int) + (j : Int)) && lF a t ms (11 * ((k + 1 : Nat) : Int) - 11 + (j : Int))) = _
        rw [lF_out a t (c := 11 * ((k + 1 : Nat) : Int) - 11 + (j : Int)) (by lia), Bool.and_false]
      rw [e2]; rfl
/-- claim 02, the plain law -/
theorem plain02 (a t : Bool) (ms : List Nat) : (cnt (sizeZ ms.length) (Lm (lF a t ms) (sizeZ ms.length : Nat)) S4 : Int) - ((cnt (sizeZ ms.length) (Wm (lF a t ms) ms.length (sizeZ ms.length : Nat)) S8 : Int) - 1) = runsTo a t ms ms.length := by
  rw [euler (pic_of a t ms) (sizeZ ms.length), ← eSum_runs a t ms ms.length (Nat.le_refl _)]
  have := eSum_none (l := lF a t ms) (11 * (ms.length + 1)) 11 fun c h1 _ => lF_out a t (by lia)
  rw [← this]; rfl
end Mine

end
section
open PySem PyProof.Rows PySem.SeqAt PySem.Calls PySem.Spec
set_option Elab.async false
set_option autoImplicit false
set_option linter.unusedVariables false
namespace Mine
set_option maxRecDepth 100000
section
variable {C : Cfg}
theorem call_sum (hh : C.A.handled = none) {ns : List Int} : CallOk C (.builtin "sum") [.list (ns.map .int)] (.int ns.sum) := fun P s cvs hL H => by
  obtain ⟨c, rfl, V⟩ := vrs_one H
  simp only [VR] at V; obtain ⟨l, vs, rfl, _, hl, hv⟩ := V
  have hi := vrs_ints.mp hv
  intro E Q k
  obtain ⟨o, ho, hc, n, hd⟩ := id hl
  obtain ⟨val, hval⟩ : ∃ val : Nat → Int, ∀ i, val i = ns.getD i 0 := ⟨_, fun _ => rfl⟩
  have hpre : ∀ i, i ≤ ns.length → preSum val i = (ns.take i).sum := by
    intro i
    induction i with
    | zero => intro _; rfl
    | succ i ih =>
      intro h
      show preSum val i + val i = _
      rw [ih (by lia), List.take_add_one, hval, List.sum_append, List.getD_eq_getElem?_getD]
      cases ns[i]? <;> simp
  have hne : l ≠ s.heap.objs.size := Nat.ne_of_lt (Heap.lt_size ho)
  have hsz : vs.toArray.size = ns.length := by rw [List.size_toArray, hi.length]
  have W := (Walks.list (prog := C.prog) (w := C.w) (A := C.A.in1) hh s.heap.objs.size l hne vs.toArray).toS
  rw [hsz] at W
  refine call_sum_walkAnyS (wpAny_pyIter_list hl ?_)
  refine ⟨s.heap.objs.size, _, _, _, _, _, _, val, rfl, W, ⟨⟨_, Heap.get?_push_size _ rfl, rfl, rfl⟩, hl.push _⟩, fun b hb => ?_, fun i v hP => ?_, fun s' t' hm => ?_⟩
  · rcases List.mem_cons.mp hb with rfl | hb
    · exact Heap.lt_size (Heap.get?_push_size _ rfl)
    · obtain rfl := List.mem_singleton.mp hb
      exact Heap.lt_size (Heap.get?_push_of_some _ ho)
  · have hP' : vs[i]? = some v := by simpa using hP
    have hlt : i < ns.length := by rw [← hi.length]; exact (List.getElem?_eq_some_iff.mp hP').1
    obtain ⟨c, hc', V⟩ := hv.get i (.int ns[i]) (by simp [hlt])
    rw [hc'] at hP'; cases hP'
    simp only [VR] at V
    obtain ⟨t, rfl⟩ := V
    exact ⟨t, by rw [hval, List.getD_eq_getElem?_getD, List.getElem?_eq_getElem hlt]; rfl⟩
  · have hp := hpre ns.length (Nat.le_refl _)
    rw [List.take_length] at hp
    rw [hp]
    have G : Grow C.fls s { s with heap := s'.heap, toks := s'.toks } := Grow.of fun b o e => hm.heap b o (fun hb => absurd (Heap.lt_size e) ((List.mem_singleton.mp hb) ▸ Nat.lt_irrefl _)) (Heap.get?_push_of_some _ e)
    obtain ⟨h', g', d', tk', os'⟩ := s'
    have e1 : g' = s.gens := hm.gens
    have e2 : d' = s.drawn := hm.drawn
    have e3 : os' = s.os := hm.os
    subst e1 e2 e3
    refine k _ _ G ?_
    simp only [VR]; exact ⟨_, rfl⟩
theorem call_listRange (hh : C.A.handled = none) {n : Nat} (hn : n ≤ 1000) : CallOk C (.type "list") [.range 0 (n : Int)] (.list (((List.range n).map Int.ofNat).map .int)) := fun P s cvs hL H => by
  obtain ⟨c, rfl, V⟩ := vrs_one H
  simp only [VR] at V; obtain ⟨r, t, u, cc, rfl, _, hr⟩ := V
  intro E Q k
  refine call_list_range (n := n) hh hr (small_one (by decide) (by decide) (by lia) (by lia)) (by rw [rangeSize_one]; split <;> lia) (by lia) fun h' tk acc' c' hk hS' hacc => ?_
  refine k _ _ (Grow.of hk) ?_
  simp only [VR]
  refine ⟨_, acc'.toList, rfl, fun q => ?_, ⟨_, hS', rfl, c', by simp⟩, vrs_ints.mpr ?_⟩
  · obtain ⟨o, e⟩ := hL _ q; exact absurd (Heap.lt_size e) (Nat.lt_irrefl _)
  · have key : ∀ (vs : List Value) (ns : List Int), vs.length = ns.length → (∀ (i : Nat) v, vs[i]? = some v → ∃ t x, ns[i]? = some x ∧ v = .int x t) → IntsAre vs ns := by
      intro vs
      induction vs with
      | nil => intro ns hl _; cases ns with
        | nil => exact .nil
        | cons _ _ => cases hl
      | cons v vs ih =>
        intro ns hl hq
        cases ns with
        | nil => cases hl
        | cons x ns =>
          obtain ⟨t, x', h1, rfl⟩ := hq 0 v rfl
          cases h1
          exact .cons _ _ (ih ns (by simpa using hl) fun i v' h => hq (i + 1) v' h)
    refine key _ _ (by rw [Array.length_toList, hacc.1]; simp) fun i v hv => ?_
    have hv' : acc'[i]? = some v := by rwa [← Array.getElem?_toList]
    obtain ⟨t, rfl⟩ := hacc.2 i v hv'
    have hlt : i < n := by have := (Array.getElem?_eq_some_iff.mp hv').1; rw [hacc.1] at this; exact this
    refine ⟨t, (i : Int), by rw [List.getElem?_map, List.getElem?_range hlt]; rfl, ?_⟩
    rw [show (0 : Int) + (i : Int) * 1 = (i : Int) by lia]
end
end Mine

end
section
set_option Elab.async false
set_option autoImplicit false
set_option linter.unusedVariables false
namespace Mine
/-! what holds between the turns of _law_parts -/
theorem pw_ltI {l : List Int} (h : l.Pairwise (· < ·)) : l.Pairwise fun x y => ltI x y = true := h.imp fun {a b} q => decide_eq_true q
theorem pw_nodupI {l : List Int} (h : l.Pairwise (· < ·)) : l.Nodup := h.imp fun {a b} q => Int.ne_of_lt q
section
open Classical
variable {V S : List Int} {N : Nat}
abbrev inV (V : List Int) : Int → Prop := fun x => x ∈ V
noncomputable def cntOut (N : Nat) (V S left : List Int) : Nat := ((List.range N).filter fun (n : Nat) => decide (IsRep (inV V) S (n : Int) ∧ (n : Int) ∉ left)).length
structure PtO (N : Nat) (V S left : List Int) (c : Nat) : Prop where
  srt : left.Pairwise (· < ·)
  sub : ∀ x ∈ left, x ∈ V
  cls : ∀ x ∈ left, ∀ y, Conn (inV V) S x y → y ∈ left
  num : c = cntOut N V S left
structure PtI (V S left : List Int) (x0 : Int) (part free : List Int) (j : Nat) : Prop where
  nd : part.Nodup
  fnd : free.Nodup
  mem : ∀ x, x ∈ free ↔ x ∈ left ∧ x ∉ part
  con : ∀ x ∈ part, Conn (inV V) S x0 x
  fst : x0 ∈ part
  cls : ∀ i y, i < j → part[i]? = some y → ∀ s ∈ S, y + s ∈ V → y + s ∈ part
  le : j ≤ part.length
structure PtJ (V S left : List Int) (x0 : Int) (part free : List Int) (j : Nat) (y : Int) (i : Nat) : Prop where
  pi : PtI V S left x0 part free j
  at' : part[j]? = some y
  new : ∀ s ∈ S.take i, y + s ∈ V → y + s ∈ part
theorem pto_start (hs : V.Pairwise (· < ·)) : PtO N V S V 0 := ⟨hs, fun _ h => h, fun x _ y c => c.dst, by
  unfold cntOut
  symm
  rw [List.length_eq_zero_iff, List.filter_eq_nil_iff]
  intro n _ h
  have := of_decide_eq_true h
  exact this.2 this.1.1⟩
theorem pto_end {c : Nat} (I : PtO N V S [] c) : c = cnt N (inV V) S := by
  rw [I.num]
  unfold cntOut cnt
  congr 1
  exact List.filter_congr fun n _ => decide_eq_decide.mpr ⟨fun h => h.1, fun h => ⟨h, by simp⟩⟩
theorem pti_start {left r : List Int} {x0 : Int} {c : Nat} (I : PtO N V S left c) (e : left = x0 :: r) : PtI V S left x0 [x0] (left.erase x0) 0 where
  nd := List.nodup_cons.mpr ⟨by simp, List.nodup_nil⟩
  fnd := (pw_nodupI I.srt).erase _
  mem := fun x => by rw [(pw_nodupI I.srt).mem_erase_iff, List.mem_singleton]; exact And.comm
  con := fun x hx => by simp only [List.mem_singleton] at hx; subst hx; exact .refl (I.sub _ (by rw [e]; exact .head _))
  fst := .head _
  cls := fun i y h => absurd h (Nat.not_lt_zero _)
  le := Nat.zero_le _
theorem ptj_start {left part free : List Int} {x0 y : Int} {j : Nat} (I : PtI V S left x0 part free j) (h : part[j]? = some y) : PtJ V S left x0 part free j y 0 := ⟨I, h, fun s hs => by rw [List.take_zero] at hs; cases hs⟩
theorem ptj_hit {left part free : List Int} {x0 y s : Int} {j i : Nat} (J : PtJ V S left x0 part free j y i) (hs : S[i]? = some s) (hsub : ∀ x ∈ left, x ∈ V) (h : y + s ∈ free) : PtJ V S left x0 (part ++ [y + s]) (free.erase (y + s)) j y (i + 1) := by
  have hj : j < part.length := (List.getElem?_eq_some_iff.mp J.at').1
  obtain ⟨h1, h2⟩ := (J.pi.mem _).mp h
  refine ⟨⟨?_, J.pi.fnd.erase _, fun x => ?_, fun x hx => ?_, List.mem_append_left _ J.pi.fst, fun i' y' hi hy s' hs' hv => ?_, by rw [List.length_append]; exact Nat.le_trans J.pi.le (Nat.le_add_right _ _)⟩, by rw [List.getElem?_append_left hj]; exact J.at', fun s' hs' hv => ?_⟩
  · rw [List.nodup_append]
    exact ⟨J.pi.nd, List.nodup_cons.mpr ⟨by simp, List.nodup_nil⟩, fun a ha b hb q => h2 (by simp only [List.mem_singleton] at hb; rw [← hb, ← q]; exact ha)⟩
  · rw [J.pi.fnd.mem_erase_iff, J.pi.mem, List.mem_append, List.mem_singleton]
    constructor
    · rintro ⟨a, b, c⟩; exact ⟨b, fun q => q.elim c a⟩
    · rintro ⟨a, b⟩; exact ⟨fun q => b (.inr q), a, fun q => b (.inl q)⟩
  · rcases List.mem_append.mp hx with hx | hx
    · exact J.pi.con x hx
    · simp only [List.mem_singleton] at hx; subst hx
      exact .step (J.pi.con y (List.mem_of_getElem? J.at')) (hsub _ h1) (by rw [show y + s - y = s by lia]; exact List.mem_of_getElem? hs)
  · have : i' < part.length := by have := J.pi.le; lia
    rw [List.getElem?_append_left this] at hy
    exact List.mem_append_left _ (J.pi.cls i' y' hi hy s' hs' hv)
  · rw [List.take_add_one, hs] at hs'
    rcases List.mem_append.mp hs' with hs' | hs'
    · exact List.mem_append_left _ (J.new s' hs' hv)
    · simp only [Option.toList_some, List.mem_singleton] at hs'; subst hs'
      exact List.mem_append_right _ (by simp)
theorem ptj_miss {left part free : List Int} {x0 y s : Int} {j i : Nat} (J : PtJ V S left x0 part free j y i) (hs : S[i]? = some s) (hx0 : x0 ∈ left) (hcls : ∀ x ∈ left, ∀ y, Conn (inV V) S x y → y ∈ left) (h : y + s ∉ free) : PtJ V S left x0 part free j y (i + 1) := by
  refine ⟨J.pi, J.at', fun s' hs' hv => ?_⟩
  rw [List.take_add_one, hs] at hs'
  rcases List.mem_append.mp hs' with hs' | hs'
  · exact J.new s' hs' hv
  · simp only [Option.toList_some, List.mem_singleton] at hs'; subst hs'
    have c : Conn (inV V) S x0 (y + s') := .step (J.pi.con y (List.mem_of_getElem? J.at')) hv (by rw [show y + s' - y = s' by lia]; exact List.mem_of_getElem? hs)
    have hl := hcls x0 hx0 _ c
    exact Classical.byContradiction fun q => h ((J.pi.mem _).mpr ⟨hl, q⟩)
theorem ptj_end {left part free : List Int} {x0 y : Int} {j : Nat} (J : PtJ V S left x0 part free j y S.length) : PtI V S left x0 part free (j + 1) := by
  have hj : j < part.length := (List.getElem?_eq_some_iff.mp J.at').1
  refine ⟨J.pi.nd, J.pi.fnd, J.pi.mem, J.pi.con, J.pi.fst, fun i y' hi hy s hs hv => ?_, hj⟩
  by_cases e : i = j
  · subst e
    have : y' = y := by have := hy.symm.trans J.at'; cases this; rfl
    subst this
    exact J.new s (by rw [List.take_length]; exact hs) hv
  · exact J.pi.cls i y' (by lia) hy s hs hv
theorem pti_all {left part free : List Int} {x0 : Int} (I : PtI V S left x0 part free part.length) (x : Int) : x ∈ part ↔ Conn (inV V) S x0 x := by
  refine ⟨I.con x, fun c => ?_⟩
  induction c with
  | refl _ => exact I.fst
  | @step y z _ h2 h3 ih =>
    obtain ⟨i, hi⟩ := List.getElem?_of_mem ih
    have := I.cls i y (List.getElem?_eq_some_iff.mp hi).1 hi (z - y) h3 (by rw [show y + (z - y) = z by lia]; exact h2)
    rwa [show y + (z - y) = z by lia] at this
theorem pti_len {left part free : List Int} {x0 : Int} {j : Nat} (I : PtI V S left x0 part free j) (hx0 : x0 ∈ left) (hcls : ∀ x ∈ left, ∀ y, Conn (inV V) S x y → y ∈ left) : part.length ≤ left.length := len_sub I.nd fun x hx => hcls x0 hx0 x (I.con x hx)
theorem pto_step (H : Steps S) (h0 : ∀ x ∈ V, 0 ≤ x ∧ x < N) {left r part free : List Int} {x0 : Int} {c : Nat} (O : PtO N V S left c) (e : left = x0 :: r) (I : PtI V S left x0 part free part.length) :
    PtO N V S (dif ltI left (sortL ltI part)).1 (c + 1) ∧ (dif ltI left (sortL ltI part)).2 = [] ∧ (dif ltI left (sortL ltI part)).1.length < left.length := by
  have hx0 : x0 ∈ left := by rw [e]; exact .head _
  have pl : ∀ x ∈ part, x ∈ left := fun x hx => O.cls x0 hx0 x (I.con x hx)
  have sp : (sortL ltI part).Pairwise fun x y => ltI x y = true := sortL_lt linI I.nd
  have k1 : ∀ x, x ∈ (dif ltI left (sortL ltI part)).1 ↔ x ∈ left ∧ x ∉ part := fun x => by rw [mem_dif1 linI (pw_ltI O.srt) sp, mem_sortL]
  have k2 : ∀ x, x ∈ (dif ltI left (sortL ltI part)).2 ↔ x ∈ part ∧ x ∉ left := fun x => by rw [mem_dif2 linI (pw_ltI O.srt) sp, mem_sortL]
  have hs1 := dif_sub1 (lt := ltI) left (sortL ltI part)
  have e2 : (dif ltI left (sortL ltI part)).2 = [] := List.eq_nil_iff_forall_not_mem.mpr fun x hx => by
    obtain ⟨q1, q2⟩ := (k2 x).mp hx; exact q2 (pl x q1)
  generalize (dif ltI left (sortL ltI part)).1 = left' at *
  have al := pti_all I
  refine ⟨⟨O.srt.sublist hs1, fun x hx => O.sub x ((k1 x).mp hx).1, fun x hx y cc => ?_, ?_⟩, e2, ?_⟩
  · obtain ⟨q1, q2⟩ := (k1 x).mp hx
    exact (k1 y).mpr ⟨O.cls x q1 y cc, fun q => q2 ((al x).mpr (((al y).mp q).trans (cc.symm H)))⟩
  · rw [O.num]
    unfold cntOut
    symm
    have r0 : IsRep (inV V) S x0 := ⟨O.sub x0 hx0, fun y cc => by
      have hy := O.cls x0 hx0 y cc
      rw [e] at hy
      rcases List.mem_cons.mp hy with rfl | hy
      · exact Int.le_refl _
      · have := O.srt
        rw [e] at this
        exact Int.le_of_lt ((List.pairwise_cons.mp this).1 y hy)⟩
    have hb := h0 x0 (O.sub x0 hx0)
    refine filter_one (r := x0.toNat) List.nodup_range (by simp; lia) (decide_eq_true ?_) (decide_eq_false ?_) fun n hn => decide_eq_decide.mpr ?_
    · rw [show ((x0.toNat : Nat) : Int) = x0 by lia]
      exact ⟨r0, fun q => ((k1 x0).mp q).2 I.fst⟩
    · rw [show ((x0.toNat : Nat) : Int) = x0 by lia]
      exact fun q => q.2 hx0
    · constructor
      · rintro ⟨a, b⟩
        refine ⟨a, fun q => b ((k1 _).mpr ⟨q, fun qp => ?_⟩)⟩
        have := rep_uniq H r0 a ((al _).mp qp)
        lia
      · rintro ⟨a, b⟩
        exact ⟨a, fun q => b ((k1 _).mp q).1⟩
  · refine Nat.lt_of_le_of_ne hs1.length_le fun q => ?_
    have := hs1.eq_of_length q
    rw [this] at k1
    exact ((k1 x0).mp hx0).2 I.fst
end
end Mine

end
section
open PySem PyProof.Rows
set_option Elab.async false
set_option autoImplicit false
set_option linter.unusedVariables false
namespace Mine
set_option maxRecDepth 100000
abbrev PW := PySem.Challenge.pw_oy0080_02
section
variable {w : World} {base : Heap} {mg mb : Str → Option Value} (gl : base.Ns mainGlobals mg) (bl : base.Ns builtinsNs mb) (lim : base.NoLimit) (N : Names mg mb)
include gl bl lim

theorem f_ifmt {fa : Addr} {o : Obj} {r : FdRest} (F : FnAt base mg (fnSt PW 1) "S_IFMT" ["mode"] fa o r) (n : Int) : FnOk PW w base fa 1 [.int n] (.int (Builtin.bitAnd n 61440)) := by
  refine F.ok gl bl lim (by simp only [List.mem_singleton, forall_eq]; decide +kernel) (by decide +kernel) rfl rfl rfl rfl fun A fls P₀ L K R => ?_
  conv => arg 3; whnf
  exact xs_cons (x1_return (ev_bin (ev_name K m0 (by decide +kernel)) ev_int bin_and) rfl)

include N
theorem f_skip {fa : Addr} {o : Obj} {r : FdRest} (F : FnAt base mg (fnSt PW 24) "skip_chars" ["src", "pos", "chars"] fa o r) (t cs : Str) (p : Nat) (hp : p ≤ t.cps.size) (ht : t.cps.size ≤ 1000) :
    FnOk PW w base fa 1 [.str t, .int p, .str cs] (.int (skipN t cs p)) := by
  refine F.ok gl bl lim (by simp only [List.mem_cons, List.not_mem_nil, or_false, forall_eq_or_imp, forall_eq]; decide +kernel) (by decide +kernel) rfl rfl rfl rfl fun A fls P₀ L K R => ?_
  conv => arg 3; whnf
  have hT : TopFr (fnCfg PW w base mg mb A fls P₀ (fnSt PW 24) r L fa) := ⟨fls, L, rfl, rfl⟩
  have hst : Storable (fnCfg PW w base mg mb A fls P₀ (fnSt PW 24) r L fa) "pos" := .inl (by kernel_rfl)
  refine xs_cons (x1_try (X' := fun _ σ => σ = ⟨[("src", .str t), ("pos", .int (skipN t cs p)), ("chars", .str cs)], []⟩) K hT R.handled ⟨by kernel_rfl, N.idx⟩ (xs_cons ?_) ?_)
  · refine x1_while K (.inr hT) (fun n σ => ∃ q : Nat, q ≤ t.cps.size ∧ n = t.cps.size - q ∧ skipN t cs p = skipN t cs q ∧ σ = ⟨[("src", .str t), ("pos", .int q), ("chars", .str cs)], []⟩) ?_ (t.cps.size - p) ⟨p, hp, rfl, rfl, rfl⟩
    rintro n σ ⟨q, hq, rfl, e, rfl⟩
    refine ⟨(t.cps[q]?.map fun c => inCs cs c), et_cmp (er_itemSN (.inl R.handled) (ev_name K m0 (by decide +kernel)) (ev_name K m1 (by decide +kernel)) (by lia) (fun _ _ => rfl)) (ev_name K m2 (by decide +kernel)).weak ?_ ?_ rfl, ?_, ?_, ?_⟩
    · intro va hva
      cases hc : t.cps[q]? with
      | none => rw [hc] at hva; cases hva
      | some c => rw [hc] at hva; cases hva; exact ⟨_, rfl, cmp_ins⟩
    · intro hn
      cases hc : t.cps[q]? with
      | none => rfl
      | some c => rw [hc] at hn; cases hn
    · intro hb
      cases hc : t.cps[q]? with
      | none => rw [hc] at hb; cases hb
      | some c =>
        rw [hc] at hb
        have hi : inCs cs c = true := Option.some.inj hb
        have hlt : q < t.cps.size := (Array.getElem?_eq_some_iff.mp hc).1
        refine xs_cons (x1_aug (σ' := ⟨[("src", .str t), ("pos", .int ((q + 1 : Nat) : Int)), ("chars", .str cs)], []⟩) K m1 ev_int in_add hst (by kernel_rfl) (xs_nil ⟨t.cps.size - (q + 1), by lia, q + 1, hlt, rfl, ?_, rfl⟩))
        rw [e, skipN_in hc hi]
    · intro hb
      cases hc : t.cps[q]? with
      | none => rw [hc] at hb; cases hb
      | some c =>
        rw [hc] at hb
        have hi : inCs cs c = false := Option.some.inj hb
        rw [skipN_out hc hi] at e
        exact xs_nil (xs_cons (x1_return (ev_name K m1 (by decide +kernel)) (show AFlow.ret _ = AFlow.ret _ by rw [e])))
    · intro hn
      cases hc : t.cps[q]? with
      | none => show _ = _; rw [e, skipN_end hc]
      | some c => rw [hc] at hn; cases hn
  · rintro pl σ a rfl
    exact xs_cons (x1_pass (xs_nil (xs_cons (x1_return (ev_name K m1 (by decide +kernel)) rfl))))
end
end Mine

end
section
open PySem PyProof.Rows
set_option Elab.async false
set_option autoImplicit false
set_option linter.unusedVariables false
namespace Mine
set_option maxRecDepth 100000
section
variable {w : World} {base : Heap} {mg mb : Str → Option Value} (gl : base.Ns mainGlobals mg) (bl : base.Ns builtinsNs mb) (lim : base.NoLimit) (N : Names mg mb)

def slS (E A : List AVal) (i j : Nat) (M U : List AVal) : St := ⟨[("expected", .list E), ("actual", .list A), ("i", .int i), ("j", .int j)], [("unexpected", .list U), ("missing", .list M)]⟩
def slS1 (E A : List AVal) (i j : Nat) (M U : List AVal) (e : AVal) : St := ⟨[("expected", .list E), ("actual", .list A), ("i", .int i), ("j", .int j), ("e", e)], [("unexpected", .list U), ("missing", .list M)]⟩
def slS2 (E A : List AVal) (i j : Nat) (M U : List AVal) (e a : AVal) : St := ⟨[("expected", .list E), ("actual", .list A), ("i", .int i), ("j", .int j), ("e", e), ("a", a)], [("unexpected", .list U), ("missing", .list M)]⟩

include gl bl lim N
theorem f_sld {α : Type} (lt : α → α → Bool) [DecidableEq α] (inj : α → AVal) (hlt : ∀ (C : Cfg) x y, CmpOk C .Lt (inj x) (inj y) (lt x y)) (hgt : ∀ (C : Cfg) x y, CmpOk C .Gt (inj x) (inj y) (lt y x)) (heq : ∀ (C : Cfg) x y, CmpOk C .Eq (inj x) (inj y) (decide (x = y)))
    {fa : Addr} {o : Obj} {r : FdRest} (F : FnAt base mg (fnSt PW 26) "sorted_list_difference" ["expected", "actual"] fa o r) (E A : List α) (hE : E.Nodup) (hA : A.Nodup) (lE : E.length ≤ 1000) (lA : A.length ≤ 1000) :
    FnOk PW w base fa 1 [.list (E.map inj), .list (A.map inj)] (.tuple [.list ((dif lt E A).1.map inj), .list ((dif lt E A).2.map inj)]) := by
  refine F.ok gl bl lim (by simp only [List.mem_cons, List.not_mem_nil, or_false, forall_eq_or_imp, forall_eq]; decide +kernel) (by decide +kernel) rfl rfl rfl rfl fun Ar fls P₀ L K R => ?_
  conv => arg 3; whnf
  have hT : TopFr (fnCfg PW w base mg mb Ar fls P₀ (fnSt PW 26) r L fa) := ⟨fls, L, rfl, rfl⟩
  have st : ∀ x, (fnScope (fnSt PW 26)).names.lookup x = some .local → Storable (fnCfg PW w base mg mb Ar fls P₀ (fnSt PW 26) r L fa) x := fun x h => .inl h
  have sti := st "i" (by decide +kernel)
  have stj := st "j" (by decide +kernel)
  generalize hC : fnCfg PW w base mg mb Ar fls P₀ (fnSt PW 26) r L fa = C at *
  have ste := st "e" (by decide +kernel)
  have sta := st "a" (by decide +kernel)
  have stm := st "missing" (by decide +kernel)
  have stu := st "unexpected" (by decide +kernel)
  have gix : GlobB C "IndexError" (.type "IndexError") := by rw [← hC]; exact ⟨by kernel_rfl, N.idx⟩
  have hH : C.A.handled = none := R.handled
  have sE : (E.map inj).length ≤ 1000 := by simpa using lE
  have sA : (A.map inj).length ≤ 1000 := by simpa using lA
  have nd : ∀ {x : Str}, (x == ("__debug__" : Str)) = false → (x == ("__debug__" : Str)) = false := fun h => h
  have sz : (1000 : Nat) ≤ sizeLine := by decide +kernel
  -- after the loop's end by an IndexError
  refine xs_cons (x1_two (σ' := ⟨[("expected", .list (E.map inj)), ("actual", .list (A.map inj)), ("i", .int 0), ("j", .int 0)], []⟩) K ev_int sti stj (by kernel_rfl) ?_ rfl)
  refine xs_cons (x1_own (σ' := ⟨[("expected", .list (E.map inj)), ("actual", .list (A.map inj)), ("i", .int 0), ("j", .int 0)], [("missing", .list [])]⟩) K (evf_list evs_nil (Nat.zero_le _)) stm (by kernel_rfl) ?_ rfl)
  refine xs_cons (x1_own (σ' := slS (E.map inj) (A.map inj) 0 0 [] []) K (evf_list evs_nil (Nat.zero_le _)) stu (by kernel_rfl) ?_ rfl)
  refine xs_cons (x1_while K (.inl fun _ _ h => h) (fun n σ => ∃ i j M U, i ≤ E.length ∧ j ≤ A.length ∧ M.length ≤ i ∧ U.length ≤ j ∧ n = E.length - i + (A.length - j) ∧ dif lt E A = (M ++ (dif lt (E.drop i) (A.drop j)).1, U ++ (dif lt (E.drop i) (A.drop j)).2) ∧ σ = slS (E.map inj) (A.map inj) i j (M.map inj) (U.map inj)) ?_
    (E.length + A.length) ⟨0, 0, [], [], Nat.zero_le _, Nat.zero_le _, Nat.le_refl _, Nat.le_refl _, rfl, rfl, rfl⟩)
  rintro n σ ⟨i, j, M, U, hi, hj, hM, hU, rfl, hd, rfl⟩
  refine ⟨some true, (eb_of ev_bool (fun _ _ => rfl)).et, fun _ => ?_, fun q => (nomatch q), fun q => (nomatch q)⟩
  refine xs_cons (x1_try (X' := fun _ σ => ∃ i j M U, i ≤ E.length ∧ j ≤ A.length ∧ M.length ≤ i ∧ U.length ≤ j ∧ dif lt E A = (M ++ E.drop i, U ++ A.drop j) ∧ (∀ p ∈ (slS (E.map inj) (A.map inj) i j (M.map inj) (U.map inj)).fr, p ∈ σ.fr) ∧ (slS (E.map inj) (A.map inj) i j (M.map inj) (U.map inj)).ow = σ.ow) K hT hH gix ?_ ?_)
  · -- the body
    refine xs_cons (x1_setR K (er_itemN (.inl hH) (ev_name K m0 (by decide +kernel)) (ev_name K m2 (by decide +kernel)) (by lia) (fun _ _ => rfl)) ste ?_ ?_ rfl)
    rotate_left
    · intro hn
      have hn' : E[i]? = none := by simpa using hn
      exact ⟨i, j, M, U, hi, hj, hM, hU, by rw [hd, drop_none hn', dif_nil], fun p hp => hp, rfl⟩
    intro ve hve
    have hve' : ∃ x, E[i]? = some x ∧ inj x = ve := by simpa using hve
    obtain ⟨x, hx, rfl⟩ := hve'
    rw [show (slS (E.map inj) (A.map inj) i j (M.map inj) (U.map inj)).set "e" (inj x) = slS1 (E.map inj) (A.map inj) i j (M.map inj) (U.map inj) (inj x) by kernel_rfl]
    refine xs_cons (x1_setR K (er_itemN (.inl hH) (ev_name K m1 (by decide +kernel)) (ev_name K m3 (by decide +kernel)) (by lia) (fun _ _ => rfl)) sta ?_ ?_ rfl)
    rotate_left
    · intro hn
      have hn' : A[j]? = none := by simpa using hn
      exact ⟨i, j, M, U, hi, hj, hM, hU, by rw [hd, drop_none hn', dif_nil'], fun p hp => List.mem_append_left [_] hp, rfl⟩
    intro va hva
    have hva' : ∃ y, A[j]? = some y ∧ inj y = va := by simpa using hva
    obtain ⟨y, hy, rfl⟩ := hva'
    have hiE : i < E.length := (List.getElem?_eq_some_iff.mp hx).1
    have hjA : j < A.length := (List.getElem?_eq_some_iff.mp hy).1
    rw [drop_at hx, drop_at hy, dif_cons] at hd
    rw [show (slS1 (E.map inj) (A.map inj) i j (M.map inj) (U.map inj) (inj x)).set "a" (inj y) = slS2 (E.map inj) (A.map inj) i j (M.map inj) (U.map inj) (inj x) (inj y) by kernel_rfl]
    refine xs_cons (x1_if (eb_cmp (ev_name K m4 (by decide +kernel)).weak (ev_name K m5 (by decide +kernel)).weak (hlt C x y) rfl) (fun hlt' => ?_) fun hlt' => ?_)
    · -- e < a
      rw [hlt', if_pos rfl] at hd
      refine xs_cons (x1_append (σ' := slS2 (E.map inj) (A.map inj) i j (M.map inj ++ [inj x]) (U.map inj) (inj x) (inj y)) K m1 (by decide +kernel) (ev_name K m4 (by decide +kernel)) (fun _ _ => rfl) (by kernel_rfl) ?_ rfl (by rw [List.length_map]; lia) rfl)
      refine xs_cons (x1_aug (σ' := slS2 (E.map inj) (A.map inj) (i + 1) j (M.map inj ++ [inj x]) (U.map inj) (inj x) (inj y)) K m2 ev_int in_add sti (by kernel_rfl) ?_)
      have hd' : dif lt E A = ((M ++ [x]) ++ (dif lt (E.drop (i + 1)) (A.drop j)).1, U ++ (dif lt (E.drop (i + 1)) (A.drop j)).2) := by
        rw [hd, drop_at hy]; simp
      have eM : M.map inj ++ [inj x] = (M ++ [x]).map inj := by simp
      refine xs_cons (x1_while K (.inr hT) (fun _ σ => σ = slS2 (E.map inj) (A.map inj) (i + 1) j (M.map inj ++ [inj x]) (U.map inj) (inj x) (inj y)) ?_ 0 rfl)
      rintro n σ rfl
      refine ⟨E[i + 1]?.map fun v => decide (v = x), et_cmp (er_itemN (.inl hH) (ev_name K m0 (by decide +kernel)) (ev_name K m2 (by decide +kernel)) (by lia) (fun _ _ => rfl)) (ev_name K m4 (by decide +kernel)).weak ?_ ?_ rfl, ?_, ?_, ?_⟩
      · intro va hva
        cases hc : E[i + 1]? with
        | none => simp [hc] at hva
        | some v => simp [hc] at hva; subst hva; exact ⟨_, rfl, heq C v x⟩
      · intro hn
        cases hc : E[i + 1]? with
        | none => rfl
        | some v => simp [hc] at hn
      · intro hb
        cases hc : E[i + 1]? with
        | none => simp [hc] at hb
        | some v => simp [hc] at hb; exact absurd hb (nodup_next hE hx hc)
      · intro _
        refine xs_nil (xs_nil (xs_forget (σ' := slS (E.map inj) (A.map inj) (i + 1) j ((M ++ [x]).map inj) (U.map inj)) (fun p hp => List.mem_append_left [_, _] hp) (by rw [← eM]; rfl) (xs_nil ⟨E.length - (i + 1) + (A.length - j), by lia, i + 1, j, M ++ [x], U, hiE, hj, by simp; lia, hU, rfl, hd', rfl⟩)))
      · intro hn
        have hn' : E[i + 1]? = none := by simpa using hn
        exact ⟨i + 1, j, M ++ [x], U, hiE, hj, by simp; lia, hU, by rw [hd', drop_none hn', dif_nil], fun p hp => List.mem_append_left [_, _] hp, by rw [← eM]; rfl⟩
    · -- e >= a
      rw [hlt', if_neg Bool.false_ne_true] at hd
      refine xs_cons (x1_if (eb_cmp (ev_name K m4 (by decide +kernel)).weak (ev_name K m5 (by decide +kernel)).weak (hgt C x y) rfl) (fun hgt' => ?_) fun hgt' => ?_)
      · rw [hgt', if_pos rfl] at hd
        refine xs_cons (x1_append (σ' := slS2 (E.map inj) (A.map inj) i j (M.map inj) (U.map inj ++ [inj y]) (inj x) (inj y)) K m0 (by decide +kernel) (ev_name K m5 (by decide +kernel)) (fun _ _ => rfl) (by kernel_rfl) ?_ rfl (by rw [List.length_map]; lia) rfl)
        refine xs_cons (x1_aug (σ' := slS2 (E.map inj) (A.map inj) i (j + 1) (M.map inj) (U.map inj ++ [inj y]) (inj x) (inj y)) K m3 ev_int in_add stj (by kernel_rfl) ?_)
        have hd' : dif lt E A = (M ++ (dif lt (E.drop i) (A.drop (j + 1))).1, (U ++ [y]) ++ (dif lt (E.drop i) (A.drop (j + 1))).2) := by
          rw [hd, drop_at hx]; simp
        have eU : U.map inj ++ [inj y] = (U ++ [y]).map inj := by simp
        refine xs_cons (x1_while K (.inr hT) (fun _ σ => σ = slS2 (E.map inj) (A.map inj) i (j + 1) (M.map inj) (U.map inj ++ [inj y]) (inj x) (inj y)) ?_ 0 rfl)
        rintro n σ rfl
        refine ⟨A[j + 1]?.map fun v => decide (v = y), et_cmp (er_itemN (.inl hH) (ev_name K m1 (by decide +kernel)) (ev_name K m3 (by decide +kernel)) (by lia) (fun _ _ => rfl)) (ev_name K m5 (by decide +kernel)).weak ?_ ?_ rfl, ?_, ?_, ?_⟩
        · intro va hva
          cases hc : A[j + 1]? with
          | none => simp [hc] at hva
          | some v => simp [hc] at hva; subst hva; exact ⟨_, rfl, heq C v y⟩
        · intro hn
          cases hc : A[j + 1]? with
          | none => rfl
          | some v => simp [hc] at hn
        · intro hb
          cases hc : A[j + 1]? with
          | none => simp [hc] at hb
          | some v => simp [hc] at hb; exact absurd hb (nodup_next hA hy hc)
        · intro _
          refine xs_nil (xs_nil (xs_nil (xs_forget (σ' := slS (E.map inj) (A.map inj) i (j + 1) (M.map inj) ((U ++ [y]).map inj)) (fun p hp => List.mem_append_left [_, _] hp) (by rw [← eU]; rfl) (xs_nil ⟨E.length - i + (A.length - (j + 1)), by lia, i, j + 1, M, U ++ [y], hi, hjA, hM, by simp; lia, rfl, hd', rfl⟩))))
        · intro hn
          have hn' : A[j + 1]? = none := by simpa using hn
          exact ⟨i, j + 1, M, U ++ [y], hi, hjA, hM, by simp; lia, by rw [hd', drop_none hn', dif_nil'], fun p hp => List.mem_append_left [_, _] hp, by rw [← eU]; rfl⟩
      · rw [hgt', if_neg Bool.false_ne_true] at hd
        refine xs_cons (x1_aug (σ' := slS2 (E.map inj) (A.map inj) (i + 1) j (M.map inj) (U.map inj) (inj x) (inj y)) K m2 ev_int in_add sti (by kernel_rfl) ?_)
        refine xs_cons (x1_finally (Qn := fun σ => σ = slS2 (E.map inj) (A.map inj) (i + 1) j (M.map inj) (U.map inj) (inj x) (inj y)) (Xb := fun pl σ => pl = true ∧ E[i + 1]? = none ∧ σ = slS2 (E.map inj) (A.map inj) (i + 1) j (M.map inj) (U.map inj) (inj x) (inj y)) K hT hH ?_ (fun σ h => Bool.false_ne_true h.1) ?_ ?_)
        · refine xs_cons (x1_while K (.inr hT) (fun _ σ => σ = slS2 (E.map inj) (A.map inj) (i + 1) j (M.map inj) (U.map inj) (inj x) (inj y)) ?_ 0 rfl)
          rintro n σ rfl
          refine ⟨E[i + 1]?.map fun v => decide (v = x), et_cmp (er_itemN (.inl hH) (ev_name K m0 (by decide +kernel)) (ev_name K m2 (by decide +kernel)) (by lia) (fun _ _ => rfl)) (ev_name K m4 (by decide +kernel)).weak ?_ ?_ rfl, ?_, ?_, ?_⟩
          · intro va hva
            cases hc : E[i + 1]? with
            | none => simp [hc] at hva
            | some v => simp [hc] at hva; subst hva; exact ⟨_, rfl, heq C v x⟩
          · intro hn
            cases hc : E[i + 1]? with
            | none => rfl
            | some v => simp [hc] at hn
          · intro hb
            cases hc : E[i + 1]? with
            | none => simp [hc] at hb
            | some v => simp [hc] at hb; exact absurd hb (nodup_next hE hx hc)
          · intro _; exact xs_nil ⟨rfl, rfl⟩
          · intro hn
            exact ⟨by rw [hH]; rfl, by simpa using hn, rfl⟩
        · rintro σ rfl
          refine xs_cons (x1_aug (σ' := slS2 (E.map inj) (A.map inj) (i + 1) (j + 1) (M.map inj) (U.map inj) (inj x) (inj y)) K m3 ev_int in_add stj (by kernel_rfl) ?_)
          refine xs_cons (x1_while K (.inr hT) (fun _ σ => σ = slS2 (E.map inj) (A.map inj) (i + 1) (j + 1) (M.map inj) (U.map inj) (inj x) (inj y)) ?_ 0 rfl)
          rintro n σ rfl
          refine ⟨A[j + 1]?.map fun v => decide (v = y), et_cmp (er_itemN (.inl hH) (ev_name K m1 (by decide +kernel)) (ev_name K m3 (by decide +kernel)) (by lia) (fun _ _ => rfl)) (ev_name K m5 (by decide +kernel)).weak ?_ ?_ rfl, ?_, ?_, ?_⟩
          · intro va hva
            cases hc : A[j + 1]? with
            | none => simp [hc] at hva
            | some v => simp [hc] at hva; subst hva; exact ⟨_, rfl, heq C v y⟩
          · intro hn
            cases hc : A[j + 1]? with
            | none => rfl
            | some v => simp [hc] at hn
          · intro hb
            cases hc : A[j + 1]? with
            | none => simp [hc] at hb
            | some v => simp [hc] at hb; exact absurd hb (nodup_next hA hy hc)
          · intro _
            refine xs_nil (xs_nil (xs_nil (xs_nil (xs_forget (σ' := slS (E.map inj) (A.map inj) (i + 1) (j + 1) (M.map inj) (U.map inj)) (fun p hp => List.mem_append_left [_, _] hp) rfl (xs_nil ⟨E.length - (i + 1) + (A.length - (j + 1)), by lia, i + 1, j + 1, M, U, hiE, hjA, by lia, by lia, rfl, hd, rfl⟩)))))
          · intro hn
            have hn' : A[j + 1]? = none := by simpa using hn
            exact ⟨i + 1, j + 1, M, U, hiE, hjA, by lia, by lia, by rw [hd, drop_none hn', dif_nil'], fun p hp => List.mem_append_left [_, _] hp, rfl⟩
        · rintro σ a ⟨_, hn', rfl⟩
          have hfin : ∀ pl : Bool, (∃ i' j' M' U', i' ≤ E.length ∧ j' ≤ A.length ∧ M'.length ≤ i' ∧ U'.length ≤ j' ∧ dif lt E A = (M' ++ E.drop i', U' ++ A.drop j') ∧ (∀ p ∈ (slS (E.map inj) (A.map inj) i' j' (M'.map inj) (U'.map inj)).fr, p ∈ (slS2 (E.map inj) (A.map inj) (i + 1) (j + 1) (M.map inj) (U.map inj) (inj x) (inj y)).fr) ∧ (slS (E.map inj) (A.map inj) i' j' (M'.map inj) (U'.map inj)).ow = (slS2 (E.map inj) (A.map inj) (i + 1) (j + 1) (M.map inj) (U.map inj) (inj x) (inj y)).ow) := fun _ =>
            ⟨i + 1, j + 1, M, U, hiE, hjA, by lia, by lia, by rw [hd, drop_none hn', dif_nil], fun p hp => List.mem_append_left [_, _] hp, rfl⟩
          have K' := mk_ok K a true
          refine xs_cons (x1_aug (σ' := slS2 (E.map inj) (A.map inj) (i + 1) (j + 1) (M.map inj) (U.map inj) (inj x) (inj y)) K' m3 ev_int in_add stj (by kernel_rfl) ?_)
          refine xs_cons (x1_while K' (.inr hT) (fun _ σ => σ = slS2 (E.map inj) (A.map inj) (i + 1) (j + 1) (M.map inj) (U.map inj) (inj x) (inj y)) ?_ 0 rfl)
          rintro n σ rfl
          refine ⟨A[j + 1]?.map fun v => decide (v = y), et_cmp (er_itemN (.inr ⟨a, rfl, rfl⟩) (ev_name K' m1 (by decide +kernel)) (ev_name K' m3 (by decide +kernel)) (by lia) (fun _ _ => rfl)) (ev_name K' m5 (by decide +kernel)).weak ?_ ?_ rfl, ?_, ?_, ?_⟩
          · intro va hva
            cases hc : A[j + 1]? with
            | none => simp [hc] at hva
            | some v => simp [hc] at hva; subst hva; exact ⟨_, rfl, heq _ v y⟩
          · intro hn
            cases hc : A[j + 1]? with
            | none => rfl
            | some v => simp [hc] at hn
          · intro hb
            cases hc : A[j + 1]? with
            | none => simp [hc] at hb
            | some v => simp [hc] at hb; exact absurd hb (nodup_next hA hy hc)
          · intro _; exact xs_nil ⟨rfl, hfin true⟩
          · intro _; exact hfin false
  · -- the handler
    rintro pl σ a ⟨i, j, M, U, hi, hj, hM, hU, hd, hf, ho⟩
    refine xs_forget hf ho ?_
    have K' := mk_ok K a false
    refine xs_cons (x1_extend (ys := (E.map inj).drop i) (σ' := slS (E.map inj) (A.map inj) i j (M.map inj ++ (E.map inj).drop i) (U.map inj)) K' m1 (by decide +kernel) ?_ (fun _ _ => rfl) (by kernel_rfl) ?_ rfl (by rw [List.length_map, List.length_drop]; lia) rfl)
    · exact ev_sliceFromN (ev_name K' m0 (by decide +kernel)) (ev_name K' m2 (by decide +kernel)) (by lia) (fun _ _ => rfl)
    refine xs_cons (x1_extend (ys := (A.map inj).drop j) (σ' := slS (E.map inj) (A.map inj) i j (M.map inj ++ (E.map inj).drop i) (U.map inj ++ (A.map inj).drop j)) K' m0 (by decide +kernel) ?_ (fun _ _ => rfl) (by kernel_rfl) ?_ rfl (by rw [List.length_map, List.length_drop]; lia) rfl)
    · exact ev_sliceFromN (ev_name K' m1 (by decide +kernel)) (ev_name K' m3 (by decide +kernel)) (by lia) (fun _ _ => rfl)
    refine xs_cons (x1_break ?_)
    refine xs_freeze (x := "missing") (v := .list ((dif lt E A).1.map inj)) (σ' := ⟨[("expected", .list (E.map inj)), ("actual", .list (A.map inj)), ("i", .int i), ("j", .int j), ("missing", .list ((dif lt E A).1.map inj))], [("unexpected", .list ((dif lt E A).2.map inj))]⟩) ?_ ?_ ?_
    · rw [hd]; simp only [List.map_append, List.map_drop]; exact m1
    · rw [hd]; simp only [List.map_append, List.map_drop]; kernel_rfl
    refine xs_freeze (x := "unexpected") (v := .list ((dif lt E A).2.map inj)) (σ' := ⟨[("expected", .list (E.map inj)), ("actual", .list (A.map inj)), ("i", .int i), ("j", .int j), ("missing", .list ((dif lt E A).1.map inj)), ("unexpected", .list ((dif lt E A).2.map inj))], []⟩) m0 (by kernel_rfl) ?_
    exact xs_cons (x1_return (ev_tuple (evs_cons (ev_name K m4 (by decide +kernel)) (evs_cons (ev_name K m5 (by decide +kernel)) evs_nil (fun _ _ => rfl)) (fun _ _ => rfl)) (by simp only [List.length_cons, List.length_nil]; lia)) rfl)
end
end Mine

end
section
open PySem PyProof.Rows
set_option Elab.async false
set_option autoImplicit false
set_option linter.unusedVariables false
namespace Mine
set_option maxRecDepth 100000
section
variable {w : World} {base : Heap} {mg mb : Str → Option Value} (gl : base.Ns mainGlobals mg) (bl : base.Ns builtinsNs mb) (lim : base.NoLimit)
include gl bl lim

theorem f_filemode (hen : mg "enumerate" = none ∧ mb "enumerate" = some (.type "enumerate")) {tv : Value} (htb : mg "_filemode_table" = some tv) (hVR : VR PW w (fun b => base.get? b = none) base fmA tv)
    {fa fi : Addr} {o oi : Obj} {r ri : FdRest} (FI : FnAt base mg (fnSt PW 1) "S_IFMT" ["mode"] fi oi ri) (F : FnAt base mg (fnSt PW 22) "filemode" ["mode"] fa o r) (n : Int) :
    FnOk PW w base fa 2 [.int n] (.str (fmStr n)) := by
  refine F.ok gl bl lim (by simp only [List.mem_singleton, forall_eq]; decide +kernel) (by decide +kernel) rfl rfl rfl rfl fun Ar fls P₀ L K R => ?_
  conv => arg 3; whnf
  have st : ∀ x, (fnScope (fnSt PW 22)).names.lookup x = some .local → Storable (fnCfg PW w base mg mb Ar fls P₀ (fnSt PW 22) r L fa) x := fun x h => .inl h
  have gen : GlobB (fnCfg PW w base mg mb Ar fls P₀ (fnSt PW 22) r L fa) "enumerate" (.type "enumerate") := ⟨by kernel_rfl, hen⟩
  have gtb : GlobG (fnCfg PW w base mg mb Ar fls P₀ (fnSt PW 22) r L fa) "_filemode_table" tv := ⟨by kernel_rfl, htb⟩
  have gfi : GlobG (fnCfg PW w base mg mb Ar fls P₀ (fnSt PW 22) r L fa) "S_IFMT" (.ref fi) := ⟨by kernel_rfl, FI.glob⟩
  have hbase : (fnCfg PW w base mg mb Ar fls P₀ (fnSt PW 22) r L fa).base = base := rfl
  have hprog : (fnCfg PW w base mg mb Ar fls P₀ (fnSt PW 22) r L fa).prog = PW := rfl
  have hw : (fnCfg PW w base mg mb Ar fls P₀ (fnSt PW 22) r L fa).w = w := rfl
  generalize hC : fnCfg PW w base mg mb Ar fls P₀ (fnSt PW 22) r L fa = C at *
  have stp := st "perm" (by decide +kernel)
  have sti := st "index" (by decide +kernel)
  have stt := st "table" (by decide +kernel)
  have stb := st "bit" (by decide +kernel)
  have stc := st "char" (by decide +kernel)
  have hH : C.A.handled = none := R.handled
  have sz : (1000 : Nat) ≤ sizeLine := by decide +kernel
  refine xs_cons (x1_own (σ' := ⟨[("mode", .int n)], [("perm", .list [])]⟩) K (evf_list evs_nil (Nat.zero_le _)) stp (by kernel_rfl) ?_ rfl)
  refine xs_cons (x1_forEnum (xs := fmTab.map fmRow) K hH gen (ev_const K gtb (by decide +kernel) (by rw [hprog, hw, hbase]; exact hVR)) (fun _ _ => rfl) (fun i σ => σ = ⟨[("mode", .int n)], [("perm", .list ((fmChars n i).map fun c => .str (chS c)))]⟩) rfl ?_ ?_ (fun _ => rfl))
  · rintro i x σ hx rfl
    simp only [List.getElem?_map, Option.map_eq_some_iff] at hx
    obtain ⟨t, ht, rfl⟩ := hx
    have hi10 : i < 10 := (List.getElem?_eq_some_iff.mp ht).1
    have htd : fmTab.getD i [] = t := by rw [List.getD_eq_getElem?_getD, ht]; rfl
    refine ⟨⟨[("mode", .int n), ("index", .int (i : Int)), ("table", fmRow t)], [("perm", .list ((fmChars n i).map fun c => .str (chS c)))]⟩, asg_pair K hH sti stt (by kernel_rfl), ?_⟩
    have hfin : ∀ (c : Nat) (fr : List (Str × AVal)) (Q' : AFlow → St → Prop) (XX : Bool → St → Prop), Q' .next ⟨[("mode", .int n)], [("perm", .list ((fmChars n (i + 1)).map fun c => .str (chS c)))]⟩ → (("mode", .int n) : Str × AVal) ∈ fr → c = fmPick n i t →
        XS C ⟨fr, [("perm", .list ((fmChars n i).map (fun c => .str (chS c)) ++ [.str (chS c)]))]⟩ [] Q' XX := by
      intro c fr Q' XX hq hm hc
      refine xs_forget (σ' := ⟨[("mode", .int n)], [("perm", .list ((fmChars n (i + 1)).map fun c => .str (chS c)))]⟩) (fun p hp => ?_) ?_ (xs_nil hq)
      · simp only [List.mem_singleton] at hp; subst hp; exact hm
      · rw [fmChars_succ, htd, ← hc, List.map_append]; rfl
    have hlen : ((fmChars n i).map fun c => AVal.str (chS c)).length ≤ sizeLine := by rw [List.length_map, fmChars_length]; omega
    refine xs_cons (x1_for (xs := t.map fun p => .tuple [.int p.1, .str (chS p.2)]) K hH (ev_name K m2 (by decide +kernel)) rfl (fun j σ => σ = ⟨[("mode", .int n), ("index", .int (i : Int)), ("table", fmRow t)], [("perm", .list ((fmChars n i).map fun c => .str (chS c)))]⟩ ∧ (t.take j).find? (fmHit n i) = none) ⟨rfl, rfl⟩ ?_ ?_ (fun _ => rfl))
    · rintro j x σ hx ⟨rfl, hb⟩
      simp only [List.getElem?_map, Option.map_eq_some_iff] at hx
      obtain ⟨p, hp, rfl⟩ := hx
      refine ⟨⟨[("mode", .int n), ("index", .int (i : Int)), ("table", fmRow t), ("bit", .int p.1), ("char", .str (chS p.2))], [("perm", .list ((fmChars n i).map fun c => .str (chS c)))]⟩, asg_pair K hH stb stc (by kernel_rfl), ?_⟩
      have hno : ∀ (Q' : AFlow → St → Prop) (XX : Bool → St → Prop), (∀ σ', (σ' = ⟨[("mode", .int n), ("index", .int (i : Int)), ("table", fmRow t)], [("perm", .list ((fmChars n i).map fun c => .str (chS c)))]⟩) → Q' .next σ') →
          XS C ⟨[("mode", .int n), ("index", .int (i : Int)), ("table", fmRow t), ("bit", .int p.1), ("char", .str (chS p.2))], [("perm", .list ((fmChars n i).map fun c => .str (chS c)))]⟩ [] Q' XX := fun Q' XX h =>
        xs_forget (σ' := ⟨[("mode", .int n), ("index", .int (i : Int)), ("table", fmRow t)], [("perm", .list ((fmChars n i).map fun c => .str (chS c)))]⟩) (fun p hp => List.mem_append_left [_, _] hp) rfl (xs_nil (h _ rfl))
      refine xs_cons (x1_if (eb_cmp (ev_name K m1 (by decide +kernel)).weak ev_int.weak cmp_eq rfl) (fun h0 => ?_) fun h0 => ?_)
      · have hi0 : i = 0 := by have := eq_of_beq h0; omega
        refine xs_cons (x1_if (c := fmHit n i p) (eb_cmp (ev_callF K (lvl := 1) ⟨hH, by have := R.depth; omega, by have := R.units; omega⟩ gfi (by rw [hbase]; exact FI.at') FI.data (by decide +kernel) (evs_cons (ev_name K m0 (by decide +kernel)) evs_nil (fun _ _ => rfl)) (by rw [hprog, hw, hbase]; exact f_ifmt gl bl lim FI n) (fun _ _ => rfl)).weak (ev_name K m3 (by decide +kernel)).weak (by unfold fmHit; rw [if_pos hi0]; exact cmp_eq) rfl) (fun hq => ?_) fun hq => ?_)
        · refine xs_cons (x1_append (σ' := ⟨[("mode", .int n), ("index", .int (i : Int)), ("table", fmRow t), ("bit", .int p.1), ("char", .str (chS p.2))], [("perm", .list ((fmChars n i).map (fun c => .str (chS c)) ++ [.str (chS p.2)]))]⟩) K m0 (by decide +kernel) (ev_name K m4 (by decide +kernel)) (fun _ _ => rfl) (by kernel_rfl) ?_ rfl hlen rfl)
          exact xs_cons (x1_break (hfin p.2 _ _ _ rfl m0 (fmPick_hit hp hq hb).symm))
        · exact xs_nil (xs_nil (hno _ _ fun σ' e => ⟨e, find_take_succ hp hq hb⟩))
      · have hi0 : ¬ i = 0 := fun q => by subst q; exact absurd h0 (by decide)
        refine xs_cons (x1_if (c := fmHit n i p) (eb_cmp (ev_bin (ev_name K m0 (by decide +kernel)) (ev_name K m3 (by decide +kernel)) bin_and).weak (ev_name K m3 (by decide +kernel)).weak (by unfold fmHit; rw [if_neg hi0]; exact cmp_eq) rfl) (fun hq => ?_) fun hq => ?_)
        · refine xs_cons (x1_append (σ' := ⟨[("mode", .int n), ("index", .int (i : Int)), ("table", fmRow t), ("bit", .int p.1), ("char", .str (chS p.2))], [("perm", .list ((fmChars n i).map (fun c => .str (chS c)) ++ [.str (chS p.2)]))]⟩) K m0 (by decide +kernel) (ev_name K m4 (by decide +kernel)) (fun _ _ => rfl) (by kernel_rfl) ?_ rfl hlen rfl)
          exact xs_cons (x1_break (hfin p.2 _ _ _ rfl m0 (fmPick_hit hp hq hb).symm))
        · exact xs_nil (xs_nil (hno _ _ fun σ' e => ⟨e, find_take_succ hp hq hb⟩))
    · rintro σ ⟨rfl, hb⟩
      rw [List.length_map, List.take_length] at hb
      have hpk := fmPick_none hb
      refine xs_cons (x1_if (eb_cmp (ev_name K m1 (by decide +kernel)).weak ev_int.weak cmp_eq rfl) (fun h0 => ?_) fun h0 => ?_)
      · have hi0 : i = 0 := by have := eq_of_beq h0; omega
        rw [if_pos hi0] at hpk
        refine xs_cons (x1_append (σ' := ⟨[("mode", .int n), ("index", .int (i : Int)), ("table", fmRow t)], [("perm", .list ((fmChars n i).map (fun c => .str (chS c)) ++ [.str (chS 63)]))]⟩) K m0 (by decide +kernel) ev_str (fun _ _ => rfl) (by kernel_rfl) ?_ rfl hlen rfl)
        exact xs_nil (xs_nil (hfin 63 _ _ _ rfl m0 hpk.symm))
      · have hi0 : ¬ i = 0 := fun q => by subst q; exact absurd h0 (by decide)
        rw [if_neg hi0] at hpk
        refine xs_cons (x1_append (σ' := ⟨[("mode", .int n), ("index", .int (i : Int)), ("table", fmRow t)], [("perm", .list ((fmChars n i).map (fun c => .str (chS c)) ++ [.str (chS 45)]))]⟩) K m0 (by decide +kernel) ev_str (fun _ _ => rfl) (by kernel_rfl) ?_ rfl hlen rfl)
        exact xs_nil (xs_nil (hfin 45 _ _ _ rfl m0 hpk.symm))
  · rintro σ rfl
    refine xs_nil ?_
    have := (fmChars_length n 10)
    refine xs_cons (x1_return (ev_join (ys := (fmChars n 10).map chS) ?_ (fun _ _ => rfl) rfl ?_) rfl)
    · rw [show ((fmChars n 10).map chS).map AVal.str = (fmChars n 10).map fun c => .str (chS c) by rw [List.map_map]; rfl]; exact ev0_own K m0 (by decide +kernel)
    · rw [List.map_map, List.length_map, fmChars_length]
      have : ((fmChars n 10).map ((fun x : Str => x.length) ∘ chS)).sum = 10 := by
        rw [show ((fun x : Str => x.length) ∘ chS) = fun _ => 1 from rfl, List.map_const', fmChars_length]; decide
      rw [this]; decide +kernel
end
end Mine

end
section
open PySem PyProof.Rows
set_option Elab.async false
set_option autoImplicit false
set_option linter.unusedVariables false
namespace Mine
set_option maxRecDepth 100000
section
variable {σ α β γ δ R V : Type} {M : Model} {A : Around} {E : Value → Shared → Prop} {s : Shared} {st : σ}
theorem wp_ite {c : Prop} {ic : Decidable c} {t e : StateT σ Sem α} {Q : α → σ → Prop} (h1 : c → wpS M A E s t Q st) (h2 : ¬c → wpS M A E s e Q st) : wpS M A E s (ite c t e) Q st := by
  by_cases hc : c
  · rw [if_pos hc]; exact h1 hc
  · rw [if_neg hc]; exact h2 hc
theorem wp_pos {c : Prop} {ic : Decidable c} {t e : StateT σ Sem α} {Q : α → σ → Prop} (hc : c) (h1 : wpS M A E s t Q st) : wpS M A E s (ite c t e) Q st := by
  rw [if_pos hc]; exact h1
theorem wp_neg {c : Prop} {ic : Decidable c} {t e : StateT σ Sem α} {Q : α → σ → Prop} (hc : ¬c) (h1 : wpS M A E s e Q st) : wpS M A E s (ite c t e) Q st := by
  rw [if_neg hc]; exact h1
theorem wp_for {n : Nat} {f : Nat → Option R × V → StateT σ Sem (ForInStep (Option R × V))} {init : V} {Q : Option R × V → σ → Prop} (P : Nat → V → σ → Prop) (G : R → σ → Prop) (B : V → σ → Prop)
    (h0 : P 0 init st) (fin : ∀ v st', P n v st' → B v st')
    (step : ∀ x v st', x < n → P x v st' → ∀ Q' : ForInStep (Option R × V) → σ → Prop, (∀ r v st, G r st → Q' (.done (some r, v)) st) → (∀ v st, B v st → Q' (.done (none, v)) st) → (∀ v st, P (x + 1) v st → Q' (.yield (none, v)) st) → wpS M A E s (f x (none, v)) Q' st')
    (h1 : ∀ r v st, G r st → Q (some r, v) st) (h2 : ∀ v st, B v st → Q (none, v) st) : wpS M A E s (forIn [0:n] (none, init) f) Q st := by
  refine wpS_forRange (I := fun x c st' => c.1 = none ∧ P x c.2 st') ?_ ?_ ⟨rfl, h0⟩
  · rintro x ⟨o, v⟩ st' _ hx ⟨e, hP⟩
    dsimp only at e hP
    subst e
    exact step x v st' hx hP _ (fun r v st hG => h1 r v st hG) (fun v st hB => h2 v st hB) (fun v st hP => ⟨rfl, hP⟩)
  · rintro ⟨o, v⟩ st' ⟨e, hP⟩
    dsimp only at e hP
    subst e
    rw [show max 0 n = n from Nat.max_eq_right (Nat.zero_le _)] at hP
    exact h2 v st' (fin v st' hP)
theorem wp_for2 {T0 T1 : Type} {n : Nat} {f : Nat → Option R × T0 × T1 → StateT σ Sem (ForInStep (Option R × T0 × T1))} {a0' a1' : _} {Q : Option R × T0 × T1 → σ → Prop} (P : Nat → T0 → T1 → σ → Prop) (G : R → σ → Prop) (B : T0 → T1 → σ → Prop)
    (h0 : P 0 a0' a1' st) (fin : ∀ a0 a1 st', P n a0 a1 st' → B a0 a1 st')
    (step : ∀ x a0 a1 st', x < n → P x a0 a1 st' → ∀ Q' : ForInStep (Option R × T0 × T1) → σ → Prop, (∀ r v st, G r st → Q' (.done (some r, v)) st) → (∀ a0 a1 st, B a0 a1 st → Q' (.done (none, a0, a1)) st) → (∀ a0 a1 st, P (x + 1) a0 a1 st → Q' (.yield (none, a0, a1)) st) → wpS M A E s (f x (none, a0, a1)) Q' st')
    (h1 : ∀ r v st, G r st → Q (some r, v) st) (h2 : ∀ a0 a1 st, B a0 a1 st → Q (none, a0, a1) st) : wpS M A E s (forIn [0:n] (none, a0', a1') f) Q st :=
  wp_for (fun x v st => P x v.1 v.2 st) G (fun v st => B v.1 v.2 st) h0 (fun v st' h => fin _ _ st' h) (fun x v st' hx h Q' hR hB hY => step x v.1 v.2 st' hx h Q' hR (fun a0 a1 st h => hB (a0, a1) st h) (fun a0 a1 st h => hY (a0, a1) st h)) h1 (fun v st h => h2 _ _ st h)
theorem wp_for4 {T0 T1 T2 T3 : Type} {n : Nat} {f : Nat → Option R × T0 × T1 × T2 × T3 → StateT σ Sem (ForInStep (Option R × T0 × T1 × T2 × T3))} {a0' a1' a2' a3' : _} {Q : Option R × T0 × T1 × T2 × T3 → σ → Prop} (P : Nat → T0 → T1 → T2 → T3 → σ → Prop) (G : R → σ → Prop) (B : T0 → T1 → T2 → T3 → σ → Prop)
    (h0 : P 0 a0' a1' a2' a3' st) (fin : ∀ a0 a1 a2 a3 st', P n a0 a1 a2 a3 st' → B a0 a1 a2 a3 st')
    (step : ∀ x a0 a1 a2 a3 st', x < n → P x a0 a1 a2 a3 st' → ∀ Q' : ForInStep (Option R × T0 × T1 × T2 × T3) → σ → Prop, (∀ r v st, G r st → Q' (.done (some r, v)) st) → (∀ a0 a1 a2 a3 st, B a0 a1 a2 a3 st → Q' (.done (none, a0, a1, a2, a3)) st) → (∀ a0 a1 a2 a3 st, P (x + 1) a0 a1 a2 a3 st → Q' (.yield (none, a0, a1, a2, a3)) st) → wpS M A E s (f x (none, a0, a1, a2, a3)) Q' st')
    (h1 : ∀ r v st, G r st → Q (some r, v) st) (h2 : ∀ a0 a1 a2 a3 st, B a0 a1 a2 a3 st → Q (none, a0, a1, a2, a3) st) : wpS M A E s (forIn [0:n] (none, a0', a1', a2', a3') f) Q st :=
  wp_for (fun x v st => P x v.1 v.2.1 v.2.2.1 v.2.2.2 st) G (fun v st => B v.1 v.2.1 v.2.2.1 v.2.2.2 st) h0 (fun v st' h => fin _ _ _ _ st' h) (fun x v st' hx h Q' hR hB hY => step x v.1 v.2.1 v.2.2.1 v.2.2.2 st' hx h Q' hR (fun a0 a1 a2 a3 st h => hB (a0, a1, a2, a3) st h) (fun a0 a1 a2 a3 st h => hY (a0, a1, a2, a3) st h)) h1 (fun v st h => h2 _ _ _ _ st h)
theorem wp_for5 {T0 T1 T2 T3 T4 : Type} {n : Nat} {f : Nat → Option R × T0 × T1 × T2 × T3 × T4 → StateT σ Sem (ForInStep (Option R × T0 × T1 × T2 × T3 × T4))} {a0' a1' a2' a3' a4' : _} {Q : Option R × T0 × T1 × T2 × T3 × T4 → σ → Prop} (P : Nat → T0 → T1 → T2 → T3 → T4 → σ → Prop) (G : R → σ → Prop) (B : T0 → T1 → T2 → T3 → T4 → σ → Prop)
    (h0 : P 0 a0' a1' a2' a3' a4' st) (fin : ∀ a0 a1 a2 a3 a4 st', P n a0 a1 a2 a3 a4 st' → B a0 a1 a2 a3 a4 st')
    (step : ∀ x a0 a1 a2 a3 a4 st', x < n → P x a0 a1 a2 a3 a4 st' → ∀ Q' : ForInStep (Option R × T0 × T1 × T2 × T3 × T4) → σ → Prop, (∀ r v st, G r st → Q' (.done (some r, v)) st) → (∀ a0 a1 a2 a3 a4 st, B a0 a1 a2 a3 a4 st → Q' (.done (none, a0, a1, a2, a3, a4)) st) → (∀ a0 a1 a2 a3 a4 st, P (x + 1) a0 a1 a2 a3 a4 st → Q' (.yield (none, a0, a1, a2, a3, a4)) st) → wpS M A E s (f x (none, a0, a1, a2, a3, a4)) Q' st')
    (h1 : ∀ r v st, G r st → Q (some r, v) st) (h2 : ∀ a0 a1 a2 a3 a4 st, B a0 a1 a2 a3 a4 st → Q (none, a0, a1, a2, a3, a4) st) : wpS M A E s (forIn [0:n] (none, a0', a1', a2', a3', a4') f) Q st :=
  wp_for (fun x v st => P x v.1 v.2.1 v.2.2.1 v.2.2.2.1 v.2.2.2.2 st) G (fun v st => B v.1 v.2.1 v.2.2.1 v.2.2.2.1 v.2.2.2.2 st) h0 (fun v st' h => fin _ _ _ _ _ st' h) (fun x v st' hx h Q' hR hB hY => step x v.1 v.2.1 v.2.2.1 v.2.2.2.1 v.2.2.2.2 st' hx h Q' hR (fun a0 a1 a2 a3 a4 st h => hB (a0, a1, a2, a3, a4) st h) (fun a0 a1 a2 a3 a4 st h => hY (a0, a1, a2, a3, a4) st h)) h1 (fun v st h => h2 _ _ _ _ _ st h)
theorem wp_for6 {T0 T1 T2 T3 T4 T5 : Type} {n : Nat} {f : Nat → Option R × T0 × T1 × T2 × T3 × T4 × T5 → StateT σ Sem (ForInStep (Option R × T0 × T1 × T2 × T3 × T4 × T5))} {a0' a1' a2' a3' a4' a5' : _} {Q : Option R × T0 × T1 × T2 × T3 × T4 × T5 → σ → Prop} (P : Nat → T0 → T1 → T2 → T3 → T4 → T5 → σ → Prop) (G : R → σ → Prop) (B : T0 → T1 → T2 → T3 → T4 → T5 → σ → Prop)
    (h0 : P 0 a0' a1' a2' a3' a4' a5' st) (fin : ∀ a0 a1 a2 a3 a4 a5 st', P n a0 a1 a2 a3 a4 a5 st' → B a0 a1 a2 a3 a4 a5 st')
    (step : ∀ x a0 a1 a2 a3 a4 a5 st', x < n → P x a0 a1 a2 a3 a4 a5 st' → ∀ Q' : ForInStep (Option R × T0 × T1 × T2 × T3 × T4 × T5) → σ → Prop, (∀ r v st, G r st → Q' (.done (some r, v)) st) → (∀ a0 a1 a2 a3 a4 a5 st, B a0 a1 a2 a3 a4 a5 st → Q' (.done (none, a0, a1, a2, a3, a4, a5)) st) → (∀ a0 a1 a2 a3 a4 a5 st, P (x + 1) a0 a1 a2 a3 a4 a5 st → Q' (.yield (none, a0, a1, a2, a3, a4, a5)) st) → wpS M A E s (f x (none, a0, a1, a2, a3, a4, a5)) Q' st')
    (h1 : ∀ r v st, G r st → Q (some r, v) st) (h2 : ∀ a0 a1 a2 a3 a4 a5 st, B a0 a1 a2 a3 a4 a5 st → Q (none, a0, a1, a2, a3, a4, a5) st) : wpS M A E s (forIn [0:n] (none, a0', a1', a2', a3', a4', a5') f) Q st :=
  wp_for (fun x v st => P x v.1 v.2.1 v.2.2.1 v.2.2.2.1 v.2.2.2.2.1 v.2.2.2.2.2 st) G (fun v st => B v.1 v.2.1 v.2.2.1 v.2.2.2.1 v.2.2.2.2.1 v.2.2.2.2.2 st) h0 (fun v st' h => fin _ _ _ _ _ _ st' h) (fun x v st' hx h Q' hR hB hY => step x v.1 v.2.1 v.2.2.1 v.2.2.2.1 v.2.2.2.2.1 v.2.2.2.2.2 st' hx h Q' hR (fun a0 a1 a2 a3 a4 a5 st h => hB (a0, a1, a2, a3, a4, a5) st h) (fun a0 a1 a2 a3 a4 a5 st h => hY (a0, a1, a2, a3, a4, a5) st h)) h1 (fun v st h => h2 _ _ _ _ _ _ st h)
theorem wp_fix {m : StateT σ Sem α} {f : α → StateT σ Sem δ} {v : α} {Q : δ → σ → Prop} (hm : ∀ Q' : α → σ → Prop, Q' v st → wpS M A E s m Q' st) (h : wpS M A E s (f v) Q st) : wpS M A E s (m >>= f) Q st := wpS_bind (hm _ h)
theorem wp_mod {g : σ → σ} {k : PUnit → StateT σ Sem δ} {Q : δ → σ → Prop} (P : σ → Prop) (hp : P (g st)) (h : ∀ st', P st' → wpS M A E s (k ⟨⟩) Q st') : wpS M A E s (modify g >>= k) Q st := wpS_bind (wpS_modify (h _ hp))
theorem wp_mg {c : Prop} {ic : Decidable c} {J : γ → StateT σ Sem δ} {y : γ} {Q : δ → σ → Prop} {P : γ → Prop} (R : γ → Prop) (h2 : ∀ x, P x → c → R x) (h3 : ¬c → R y) (hJ : ∀ x, R x → wpS M A E s (J x) Q st) : ∀ x, P x → wpS M A E s (if c then J x else J y) Q st :=
  fun x hP => wp_ite (fun hc => hJ _ (h2 _ hP hc)) fun hc => hJ _ (h3 hc)
variable {c : Prop} {d f : β → γ → Prop} {ic : Decidable c} {id1 : ∀ x y, Decidable (d x y)} {id2 : ∀ x y, Decidable (f x y)}
  {D F J : β → γ → StateT σ Sem δ} {x0 : β} {y0 : γ} {Q : δ → σ → Prop} {P : β → γ → Prop}
theorem wp_join (R : β → γ → Prop) (h1 : ∀ x y, P x y → d x y → wpS M A E s (D x y) Q st) (h2 : ∀ x y, P x y → ¬d x y → R x y) (h3 : ¬c → R x0 y0) (hJ : ∀ x y, R x y → wpS M A E s (J x y) Q st) :
    ∀ x y, P x y → wpS M A E s (if c then if d x y then D x y else J x y else J x0 y0) Q st := fun x y hP =>
  wp_ite (fun hc => wp_ite (fun hd => h1 _ _ hP hd) fun hd => hJ _ _ (h2 _ _ hP hd)) fun hc => hJ _ _ (h3 hc)
theorem wp_join2 (R : β → γ → Prop) (h1 : ∀ x y, P x y → d x y → wpS M A E s (D x y) Q st) (h1' : ∀ x y, P x y → f x y → wpS M A E s (F x y) Q st) (h2 : ∀ x y, P x y → ¬d x y → ¬f x y → R x y) (h3 : ¬c → R x0 y0) (hJ : ∀ x y, R x y → wpS M A E s (J x y) Q st) :
    ∀ x y, P x y → wpS M A E s (if c then if d x y then D x y else if f x y then F x y else J x y else J x0 y0) Q st := fun x y hP =>
  wp_ite (fun hc => wp_ite (fun hd => h1 _ _ hP hd) fun hd => wp_ite (fun hf => h1' _ _ hP hf) fun hf => hJ _ _ (h2 _ _ hP hd hf)) fun hc => hJ _ _ (h3 hc)
end
end Mine

end
section
open PySem PyProof.Rows
set_option Elab.async false
set_option autoImplicit false
set_option linter.unusedVariables false
namespace Mine
set_option maxRecDepth 100000
/-! sorted for more than 63 ints: what a turn of the sort keeps -/
structure SB (a₀ : Array Keyed) (st : SortSt) : Prop where
  perm : (arrOf st).Perm a₀
  kind : kindOf st = oneType'
  failed : failedOf st = none
theorem SB.size {a₀ : Array Keyed} {st : SortSt} (h : SB a₀ st) : (arrOf st).size = a₀.size := h.perm.size_eq
theorem SB.setArr {a₀ : Array Keyed} {st : SortSt} (h : SB a₀ st) {xs : Array Keyed} (hp : xs.Perm (arrOf st)) : SB a₀ (setArr st xs) := ⟨hp.trans h.perm, h.kind, h.failed⟩
def IntK (p : Keyed) : Prop := ∃ n t, p.1 = .int n t
def key (p : Keyed) : Int := numOf p.1
theorem K_key {xs : Array Keyed} {i : Nat} {p : Keyed} (h : xs[i]? = some p) : K xs i = key p := by unfold K key; rw [h]
theorem SB.at {a₀ : Array Keyed} {st : SortSt} (h : SB a₀ st) (h0 : IntKeys a₀) {i : Nat} (hi : i < a₀.size) : ∃ p, (arrOf st)[i]? = some p ∧ IntK p := by
  have hi' : i < (arrOf st).size := by rw [h.size]; exact hi
  have hm : (arrOf st)[i] ∈ a₀.toList := (Array.perm_iff_toList_perm.mp h.perm).mem_iff.mp (by simp)
  exact ⟨_, getElem?_pos _ i hi', h0 _ hm⟩
/-- no two keys are alike -/
def KInj (a₀ : Array Keyed) : Prop := (a₀.toList.map key).Nodup
theorem SB.inj {a₀ : Array Keyed} {st : SortSt} (h : SB a₀ st) (hj : KInj a₀) {i j : Nat} (hi : i < a₀.size) (hjj : j < a₀.size) (e : K (arrOf st) i = K (arrOf st) j) : i = j := by
  have hn : ((arrOf st).toList.map key).Nodup := ((Array.perm_iff_toList_perm.mp h.perm).map key).nodup_iff.mpr hj
  have hs := h.size
  have hi' : i < (arrOf st).size := by lia
  have hj' : j < (arrOf st).size := by lia
  rw [K_key (getElem?_pos _ i hi'), K_key (getElem?_pos _ j hj')] at e
  have hp := List.pairwise_iff_getElem.mp hn
  rcases Nat.lt_trichotomy i j with q | q | q
  · exact absurd (by rw [List.getElem_map, List.getElem_map, Array.getElem_toList, Array.getElem_toList]; exact e) (hp i j (by simpa using hi') (by simpa using hj') q)
  · exact q
  · exact absurd (by rw [List.getElem_map, List.getElem_map, Array.getElem_toList, Array.getElem_toList]; exact e.symm) (hp j i (by simpa using hj') (by simpa using hi') q)
def SegS (xs : Array Keyed) (lo m : Nat) : Prop := ∀ i j, lo ≤ i → i ≤ j → j < lo + m → K xs i ≤ K xs j
section
variable {prog : Program} {w : World} {A : Around} {E : Value → Shared → Prop} {s : Shared} {a₀ : Array Keyed}
theorem wp_elem {arr : Array Keyed} {i : Nat} {p : Keyed} {st : SortSt} {Q : Keyed → SortSt → Prop} (hp : arr[i]? = some p) (h : Q p st) : wpS (model prog w) A E s (elem' arr i) Q st := by
  rw [elem'_eq, hp]; exact wpS_pure h
theorem wp_lt {x y : Keyed} {st : SortSt} {Q : Option Bool → SortSt → Prop} (hk : kindOf st = oneType') (hx : IntK x) (hy : IntK y) (h : Q (some (decide (key x < key y))) st) : wpS (model prog w) A E s (lt' x y) Q st := by
  obtain ⟨n, t, hn⟩ := hx
  obtain ⟨m, u, hm⟩ := hy
  rw [lt'_eq]
  refine wpS_bind (wpS_get ?_)
  rw [hk, keyLt'_oneType, hn, hm]
  unfold key at h
  rw [hn, hm] at h
  refine wpS_bind (wpS_lift (wpAny_attempt (oneLt_int ⟨rfl, ?_⟩)))
  exact wpS_pure h
theorem wp_ltAt {st : SortSt} {i j : Nat} {Q : Option Bool → SortSt → Prop} (hB : SB a₀ st) (h0 : IntKeys a₀) (hi : i < a₀.size) (hj : j < a₀.size)
    (h : Q (some (decide (K (arrOf st) i < K (arrOf st) j))) st) : wpS (model prog w) A E s (ltAt' i j) Q st := by
  obtain ⟨p, e1, p1⟩ := hB.at h0 hi
  obtain ⟨q, e2, q1⟩ := hB.at h0 hj
  rw [ltAt'_eq]
  refine wpS_bind (wpS_get (wpS_bind (wp_elem e1 (wpS_bind (wp_elem e2 (wp_lt hB.kind p1 q1 ?_))))))
  rw [← K_key e1, ← K_key e2]; exact h
theorem wp_rev {st : SortSt} {i j : Nat} {Q : Unit → SortSt → Prop} (h : Q () (setArr st (mirror (arrOf st) i j ((j - i) / 2)))) : wpS (model prog w) A E s (reverseSlice' i j) Q st := by
  rw [reverseSlice'_eq]; exact wpS_modify h

/-- what countRun and binarySort leave as it was -/
structure Left (lo : Nat) (st st' : SortSt) : Prop where
  pend : pendingOf st' = pendingOf st
  low : ∀ i, i < lo → K (arrOf st') i = K (arrOf st) i
theorem Left.refl {lo : Nat} (st : SortSt) : Left lo st st := ⟨rfl, fun _ _ => rfl⟩
theorem wp_forS {R V : Type} {st : SortSt} {a n : Nat} {f : Nat → Option R × V → StateT SortSt Sem (ForInStep (Option R × V))} {v0 : V} {Q : Option R × V → SortSt → Prop} (P : Nat → V → Prop) (B : V → Prop)
    (h0 : P a v0) (fin : ∀ v, P (max a n) v → B v)
    (step : ∀ x v, a ≤ x → x < n → P x v → ∀ Q' : ForInStep (Option R × V) → SortSt → Prop, (∀ v, B v → Q' (.done (none, v)) st) → (∀ v, P (x + 1) v → Q' (.yield (none, v)) st) → wpS (model prog w) A E s (f x (none, v)) Q' st)
    (h : ∀ v, B v → Q (none, v) st) : wpS (model prog w) A E s (forIn [a:n] (none, v0) f) Q st := by
  refine wpS_forRange (I := fun x c st' => st' = st ∧ c.1 = none ∧ P x c.2) ?_ ?_ ⟨rfl, rfl, h0⟩
  · rintro x ⟨o, v⟩ st' ha hx ⟨e, e', hP⟩
    dsimp only at e' hP
    subst e e'
    exact step x v ha hx hP _ (fun v hB => h v hB) fun v hP => ⟨rfl, rfl, hP⟩
  · rintro ⟨o, v⟩ st' ⟨e, e', hP⟩
    dsimp only at e' hP
    subst e e'
    exact h v (fin v hP)
theorem wp_ltB {st : SortSt} {i j : Nat} {δ : Type} {f : Option Bool → StateT SortSt Sem δ} {Q : δ → SortSt → Prop} (hB : SB a₀ st) (h0 : IntKeys a₀) (hi : i < a₀.size) (hj : j < a₀.size)
    (ht : K (arrOf st) i < K (arrOf st) j → wpS (model prog w) A E s (f (some true)) Q st) (hf : ¬K (arrOf st) i < K (arrOf st) j → wpS (model prog w) A E s (f (some false)) Q st) : wpS (model prog w) A E s (ltAt' i j >>= f) Q st := by
  refine wpS_bind (wp_ltAt hB h0 hi hj ?_)
  by_cases hl : K (arrOf st) i < K (arrOf st) j
  · rw [decide_eq_true hl]; exact ht hl
  · rw [decide_eq_false hl]; exact hf hl
theorem pos_up {lo x : Nat} (hx : 1 ≤ x) : 0 < lo + x := Nat.lt_of_lt_of_le hx (Nat.le_add_left x lo)
theorem lt_up {lo x i : Nat} (h : i ≤ lo + x) (e : i ≠ lo + x) : i ≤ lo + x - 1 := Nat.le_sub_one_of_lt (Nat.lt_of_le_of_ne h e)
theorem SegS.one {xs : Array Keyed} {lo : Nat} : SegS xs lo 1 := fun i j a b c => by
  rw [Nat.le_antisymm b (Nat.le_trans (Nat.le_of_lt_succ c) a)]; exact Int.le_refl _
theorem SegS.up {xs : Array Keyed} {lo x : Nat} (h : SegS xs lo x) (hx : 1 ≤ x) (hl : ¬K xs (lo + x) < K xs (lo + x - 1)) : SegS xs lo (x + 1) := fun i j a b c => by
  by_cases e : j < lo + x
  · exact h i j a b e
  · rw [Nat.le_antisymm (Nat.le_of_lt_succ c) (Nat.not_lt.mp e)] at b ⊢
    by_cases e' : i = lo + x
    · rw [e']; exact Int.le_refl _
    · exact Int.le_trans (h i (lo + x - 1) a (lt_up b e') (Nat.sub_one_lt_of_le (pos_up hx) (Nat.le_refl _))) (Int.not_lt.mp hl)
def SegD (xs : Array Keyed) (lo m : Nat) : Prop := ∀ i j, lo ≤ i → i ≤ j → j < lo + m → K xs j ≤ K xs i
theorem SegD.one {xs : Array Keyed} {lo : Nat} : SegD xs lo 1 := fun i j a b c => by
  rw [Nat.le_antisymm b (Nat.le_trans (Nat.le_of_lt_succ c) a)]; exact Int.le_refl _
theorem SegD.up {xs : Array Keyed} {lo x : Nat} (h : SegD xs lo x) (hx : 1 ≤ x) (hl : K xs (lo + x) < K xs (lo + x - 1)) : SegD xs lo (x + 1) := fun i j a b c => by
  by_cases e : j < lo + x
  · exact h i j a b e
  · rw [Nat.le_antisymm (Nat.le_of_lt_succ c) (Nat.not_lt.mp e)] at b ⊢
    by_cases e' : i = lo + x
    · rw [e']; exact Int.le_refl _
    · exact Int.le_trans (Int.le_of_lt hl) (h i (lo + x - 1) a (lt_up b e') (Nat.sub_one_lt_of_le (pos_up hx) (Nat.le_refl _)))
theorem SB.ne {st : SortSt} (hB : SB a₀ st) (hj : KInj a₀) {i j : Nat} (hi : i < a₀.size) (hjj : j < a₀.size) (h : ¬K (arrOf st) i < K (arrOf st) j) (e : i ≠ j) : K (arrOf st) j < K (arrOf st) i := by
  have := fun q => e (hB.inj hj hi hjj q)
  lia
/-- a loop that goes on while the keys rise -/
theorem wp_asc {st : SortSt} {lo a nrem : Nat} {R : Type} {f : Nat → Option R × Nat → StateT SortSt Sem (ForInStep (Option R × Nat))} {Q : Option R × Nat → SortSt → Prop} (ha : 1 ≤ a) (han : a ≤ nrem) (hs : SegS (arrOf st) lo a)
    (hf : ∀ x, 1 ≤ x → x < nrem → ∀ Q' : ForInStep (Option R × Nat) → SortSt → Prop, (K (arrOf st) (lo + x) < K (arrOf st) (lo + x - 1) → Q' (.done (none, x)) st) → (¬K (arrOf st) (lo + x) < K (arrOf st) (lo + x - 1) → Q' (.yield (none, x + 1)) st) → wpS (model prog w) A E s (f x (none, x)) Q' st)
    (h : ∀ n, 1 ≤ n → n ≤ nrem → SegS (arrOf st) lo n → (n = nrem ∨ K (arrOf st) (lo + n) < K (arrOf st) (lo + n - 1)) → Q (none, n) st) : wpS (model prog w) A E s (forIn [a:nrem] (none, a) f) Q st :=
  wp_forS (fun x v => v = x ∧ SegS (arrOf st) lo x) (fun n => 1 ≤ n ∧ n ≤ nrem ∧ SegS (arrOf st) lo n ∧ (n = nrem ∨ K (arrOf st) (lo + n) < K (arrOf st) (lo + n - 1))) ⟨rfl, hs⟩
    (fun v hv => by
      rw [Nat.max_eq_right han] at hv
      rw [hv.1]
      exact ⟨Nat.le_trans ha han, Nat.le_refl _, hv.2, .inl rfl⟩)
    (fun x v hx hxn hP Q' hD hY => by
      rw [hP.1]
      exact hf x (Nat.le_trans ha hx) hxn Q' (fun hl => hD x ⟨Nat.le_trans ha hx, Nat.le_of_lt hxn, hP.2, .inr hl⟩) fun hl => hY _ ⟨rfl, hP.2.up (Nat.le_trans ha hx) hl⟩)
    fun v hv => h v hv.1 hv.2.1 hv.2.2.1 hv.2.2.2
theorem wp_revS {st : SortSt} {lo n : Nat} {δ : Type} {f : Unit → StateT SortSt Sem δ} {Q : δ → SortSt → Prop} (hB : SB a₀ st) (hn : lo + n ≤ a₀.size) (hd : SegD (arrOf st) lo n)
    (h : ∀ st', SB a₀ st' → Left lo st st' → SegS (arrOf st') lo n → wpS (model prog w) A E s (f ()) Q st') : wpS (model prog w) A E s (reverseSlice' lo (lo + n) >>= f) Q st := by
  have hsz : lo + n ≤ (arrOf st).size := by rw [hB.size]; exact hn
  refine wpS_bind (wp_rev (h _ (hB.setArr (mirror_perm _ _ _ _)) ⟨rfl, fun i hi => (K_mirror hsz i).trans (if_neg fun q => Nat.not_lt.mpr q.1 hi)⟩ fun i j a b c => ?_))
  refine (K_mirror hsz i).symm ▸ (K_mirror hsz j).symm ▸ ?_
  rw [if_pos ⟨a, Nat.lt_of_le_of_lt b c⟩, if_pos ⟨Nat.le_trans a b, c⟩]
  refine hd _ _ (Nat.le_sub_of_add_le (Nat.le_sub_one_of_lt (Nat.add_lt_add_left c lo))) (Nat.sub_le_sub_left b _) (Nat.lt_of_le_of_lt (Nat.sub_le_sub_left a _) ?_)
  rw [Nat.sub_right_comm, Nat.add_sub_cancel_left]
  exact Nat.sub_one_lt (Nat.ne_zero_of_lt c)
theorem wp_countRun {st : SortSt} {lo nrem : Nat} {Q : Option Nat → SortSt → Prop} (h0 : IntKeys a₀) (hj : KInj a₀) (hn : lo + nrem ≤ a₀.size) (h1 : 1 ≤ nrem) (hB : SB a₀ st)
    (h : ∀ m st', SB a₀ st' → Left lo st st' → 1 ≤ m → m ≤ nrem → SegS (arrOf st') lo m → Q (some m) st') : wpS (model prog w) A E s (countRun' lo nrem) Q st := by
  have hx : ∀ {x}, x < nrem → lo + x < a₀.size := fun h => Nat.lt_of_lt_of_le (Nat.add_lt_add_left h lo) hn
  have hx' : ∀ {x}, x < nrem → lo + x - 1 < a₀.size := fun h => Nat.lt_of_le_of_lt (Nat.sub_le _ _) (hx h)
  rw [countRun'_eq]
  refine wpS_bind (wp_asc (Nat.le_refl 1) h1 SegS.one (fun x _ hxn Q' h1 h2 => wp_ltB hB h0 (hx hxn) (hx' hxn) (fun hl => wpS_pure (h1 hl)) fun hl => wpS_pure (h2 hl)) fun n n1 n2 hs hor => ?_)
  refine wp_ite (fun _ => wpS_pure (h n st hB (Left.refl _) n1 n2 hs)) fun hnn => ?_
  have hne : n < nrem := Nat.lt_of_le_of_ne n2 fun e => hnn (by rw [e]; exact beq_self_eq_true nrem)
  have hlt := hor.resolve_left (Nat.ne_of_lt hne)
  refine wp_ite (fun hg => wp_ltB hB h0 (by lia) (hx' hne) (fun _ => wpS_pure (h n st hB (Left.refl _) n1 n2 hs)) fun hr => absurd (hB.ne hj (by lia) (hx' hne) hr (by lia)) (Int.not_lt.mpr (hs lo (lo + n - 1) (Nat.le_refl _) (by lia) (by lia)))) fun hg => ?_
  have hd : SegD (arrOf st) lo (n + 1) := by
    have e : n = 1 := by lia
    subst e
    exact SegD.one.up (Nat.le_refl _) hlt
  refine wpS_bind (wpS_lift (wpAny_rule ⟨rfl, ?_⟩))
  refine wpS_bind (wp_forS (fun x v => v = (x, 0) ∧ x ≤ nrem ∧ SegD (arrOf st) lo x) (fun v => v.2 = 0 ∧ 1 ≤ v.1 ∧ v.1 ≤ nrem ∧ SegD (arrOf st) lo v.1) ⟨rfl, hne, hd⟩ (fun v hv => ?fin) (fun x v hx1 hxn hP Q' hD hY => ?step) fun v hv => ?_)
  case fin =>
    rw [hv.1]
    exact ⟨rfl, by lia, hv.2.1, hv.2.2⟩
  case step =>
    rw [hP.1]
    exact wp_ltB hB h0 (hx hxn) (hx' hxn) (fun hl => wp_pos rfl (wp_neg (Nat.lt_irrefl 0) (wpS_pure (hY _ ⟨rfl, hxn, hP.2.2.up (by lia) hl⟩))))
      fun hl => wp_ltB hB h0 (hx' hxn) (hx hxn) (fun _ => wpS_pure (hD _ ⟨rfl, by lia, by lia, hP.2.2⟩)) fun hr => absurd (hB.ne hj (hx' hxn) (hx hxn) hr (by lia)) hl
  have hb : lo + v.1 ≤ a₀.size := by lia
  exact wp_neg (by lia) (wp_revS hB hb hv.2.2.2 fun st3 B3 L3 s3 => wpS_bind (wp_asc hv.2.1 hv.2.2.1 s3 (fun x _ hxn Q' h1 h2 => wp_ltB B3 h0 (hx hxn) (hx' hxn) (fun hl => wpS_pure (h1 hl)) fun hl => wpS_pure (h2 hl)) fun m m1 m2 s4 _ => wpS_pure (h m st3 B3 L3 m1 m2 s4)))
/-- what the search for the place has found -/
structure InsP (xs : Array Keyed) (lo k l r : Nat) : Prop where
  low : ∀ i, lo ≤ i → i < lo + l → K xs i ≤ K xs (lo + k)
  high : ∀ i, lo + r ≤ i → i < lo + k → K xs (lo + k) < K xs i
theorem K_bub {xs : Array Keyed} {p q : Nat} (hq : q < xs.size) (hp : p ≤ q) (i : Nat) : K (bubble xs q (q - p)) i = if i = p then K xs q else if p < i ∧ i ≤ q then K xs (i - 1) else K xs i := by
  rw [K_bubble hq (Nat.sub_le _ _), Nat.sub_sub_self hp]
theorem SegS.ins {xs : Array Keyed} {lo k l : Nat} (hs : SegS xs lo k) (hk : lo + k < xs.size) (hl : l ≤ k) (h : InsP xs lo k l l) : SegS (bubble xs (lo + k) (lo + k - (lo + l))) lo (k + 1) := by
  have hl := Nat.add_le_add_left hl lo
  have hp := Nat.le_add_right lo l
  intro i j a b c
  have c : j ≤ lo + k := Nat.le_of_lt_succ c
  rw [K_bub hk hl, K_bub hk hl]
  have low := h.low
  have high := h.high
  unfold SegS at hs
  generalize lo + l = p at *
  generalize lo + k = q at *
  by_cases i1 : i = p
  · rw [if_pos i1]
    by_cases j1 : j = p
    · rw [if_pos j1]; exact Int.le_refl _
    · have hj : p < j := Nat.lt_of_le_of_ne (i1 ▸ b) (Ne.symm j1)
      rw [if_neg j1, if_pos ⟨hj, c⟩]; exact Int.le_of_lt (high _ (Nat.le_sub_one_of_lt hj) (Nat.sub_one_lt_of_le (Nat.zero_lt_of_lt hj) c))
  · rw [if_neg i1]
    by_cases j1 : j = p
    · have hi : i < p := Nat.lt_of_le_of_ne (j1 ▸ b) i1
      rw [if_pos j1, if_neg fun y => Nat.lt_asymm y.1 hi]; exact low _ a hi
    · rw [if_neg j1]
      by_cases i2 : p < i ∧ i ≤ q
      · have hj : p < j := Nat.lt_of_lt_of_le i2.1 b
        rw [if_pos i2, if_pos ⟨hj, c⟩]; exact hs _ _ (Nat.le_trans hp (Nat.le_sub_one_of_lt i2.1)) (Nat.sub_le_sub_right b 1) (Nat.sub_one_lt_of_le (Nat.zero_lt_of_lt hj) c)
      · have hi : i < p := Nat.lt_of_le_of_ne (Nat.not_lt.mp fun y => i2 ⟨y, Nat.le_trans b c⟩) i1
        rw [if_neg i2]
        by_cases j2 : p < j ∧ j ≤ q
        · rw [if_pos j2]; exact hs _ _ a (Nat.le_sub_one_of_lt (Nat.lt_trans hi j2.1)) (Nat.sub_one_lt_of_le (Nat.zero_lt_of_lt j2.1) c)
        · rw [if_neg j2]; exact hs _ _ a b (Nat.lt_of_lt_of_le (Nat.lt_of_le_of_ne (Nat.not_lt.mp fun y => j2 ⟨y, c⟩) j1) hl)
theorem bubble_low {xs : Array Keyed} {lo k l i : Nat} (hk : lo + k < xs.size) (hl : l ≤ k) (hi : i < lo) : K (bubble xs (lo + k) (lo + k - (lo + l))) i = K xs i := by
  have hp : i < lo + l := Nat.lt_of_lt_of_le hi (Nat.le_add_right lo l)
  rw [K_bub hk (Nat.add_le_add_left hl lo), if_neg (Nat.ne_of_lt hp), if_neg fun y => Nat.lt_asymm y.1 hp]
theorem mid {l r : Nat} (h : l < r) : l ≤ (l + r) / 2 ∧ (l + r) / 2 < r := by lia
theorem mid_up {m r x k l : Nat} (h : m < r) (h2 : r + x ≤ k + l) : m + (x + 1) ≤ k + l := by lia
theorem mid_dn {m r x k l : Nat} (h : l ≤ m) (h2 : r + x ≤ k + l) : r + (x + 1) ≤ k + (m + 1) := by lia
structure BinI (a₀ : Array Keyed) (st : SortSt) (lo n : Nat) (st' : SortSt) : Prop where
  b : SB a₀ st'
  l : Left lo st st'
  s : SegS (arrOf st') lo n
theorem wp_binarySort {st : SortSt} {lo n ok : Nat} {Q : Bool → SortSt → Prop} (h0 : IntKeys a₀) (hn : lo + n ≤ a₀.size) (hok : ok ≤ n) (hB : SB a₀ st) (hs : SegS (arrOf st) lo ok)
    (h : ∀ st', SB a₀ st' → Left lo st st' → SegS (arrOf st') lo n → Q true st') : wpS (model prog w) A E s (binarySort' lo n ok) Q st := by
  rw [binarySort'_eq]
  refine wpS_bind (wpS_mono (wpS_forRange (I := fun k c st' => c = (none, ()) ∧ BinI a₀ st lo (min k n) st')
    (Q := fun c st' => c = (none, ()) ∧ BinI a₀ st lo n st') (fun k c st' hak hkn hI => ?step) (fun c st' hI => ⟨hI.1, ?fin⟩) ⟨rfl, hB, Left.refl _, ?init⟩) fun c st' hI => ?post)
  case post =>
    rw [hI.1]
    exact wpS_pure (h st' hI.2.b hI.2.l hI.2.s)
  case init =>
    by_cases e : ok = 0
    · subst e; exact fun i j a b c => SegS.one i j a b (Nat.lt_of_lt_of_le c (Nat.add_le_add_left (Nat.min_le_left _ _) lo))
    · rw [Nat.max_eq_left (Nat.pos_of_ne_zero e), Nat.min_eq_left hok]; exact hs
  case fin =>
    have := hI.2
    rwa [Nat.min_eq_right (Nat.le_max_right _ _)] at this
  case step =>
    have hS := hI.2.s
    rw [Nat.min_eq_left (Nat.le_of_lt hkn)] at hS
    have hk : lo + k < a₀.size := Nat.lt_of_lt_of_le (Nat.add_lt_add_left hkn lo) hn
    have hk' : lo + k < (arrOf st').size := by rw [hI.2.b.size]; exact hk
    refine wpS_bind (wp_forS (fun x v => v.1 ≤ v.2 ∧ v.2 ≤ k ∧ v.2 + x ≤ k + v.1 ∧ InsP (arrOf st') lo k v.1 v.2) (fun v => v.1 ≤ k ∧ InsP (arrOf st') lo k v.1 v.1)
      ⟨Nat.zero_le _, Nat.le_refl _, Nat.le_refl _, fun i a b => absurd b (Nat.not_lt.mpr a), fun i a b => absurd b (Nat.not_lt.mpr a)⟩ (fun v hv => ?ifin) (fun x v _ hxk hP Q' hD hY => ?istep) fun v hv => ?_)
    case ifin =>
      have e := hv.2.2.1
      rw [Nat.max_eq_right (Nat.zero_le k), Nat.add_comm k] at e
      have e := Nat.le_antisymm (Nat.le_of_add_le_add_right e) hv.1
      have := hv.2.2.2
      rw [e] at this
      exact ⟨Nat.le_trans hv.1 hv.2.1, this⟩
    case istep =>
      refine wp_ite (fun hge => wpS_pure (hD _ ⟨Nat.le_trans hP.1 hP.2.1, ?_⟩)) fun hge => ?_
      · have := hP.2.2.2
        rwa [Nat.le_antisymm hge hP.1] at this
      have m := mid (Nat.not_le.mp hge)
      have m2 := Nat.lt_of_lt_of_le m.2 hP.2.1
      refine wp_ltB hI.2.b h0 hk (Nat.lt_trans (Nat.add_lt_add_left m2 lo) hk) (fun hl => wpS_pure (hY _ ⟨m.1, Nat.le_of_lt m2, mid_up m.2 hP.2.2.1, hP.2.2.2.low, fun i a b => ?_⟩)) fun hl => wpS_pure (hY _ ⟨m.2, hP.2.1, mid_dn m.1 hP.2.2.1, fun i a b => ?_, hP.2.2.2.high⟩)
      · exact Int.lt_of_lt_of_le hl (hS _ _ (Nat.le_add_right _ _) a b)
      · exact Int.le_trans (hS i (lo + (v.1 + v.2) / 2) a (Nat.le_of_lt_succ b) (Nat.add_lt_add_left m2 lo)) (Int.not_lt.mp hl)
    refine wpS_bind ((moveDown'_eq _ _).symm ▸ wpS_modify (wpS_pure ⟨rfl, hI.2.b.setArr (bubble_perm _ _ _), ⟨hI.2.l.pend, fun i hi => (bubble_low hk' hv.1 hi).trans (hI.2.l.low i hi)⟩, ?_⟩))
    rw [Nat.min_eq_left hkn]
    exact hS.ins hk' hv.1 hv.2
end
end Mine

end
section
open PySem PyProof.Rows
set_option Elab.async false
set_option autoImplicit false
set_option linter.unusedVariables false
namespace Mine
set_option maxRecDepth 100000
def gallop' : Bool → Keyed → Array Keyed → Nat → Nat → Nat → StateT SortSt Sem (Option Nat) := sortPriv% PySem.Builtin.gallop
def mergeLo' : Array Keyed → Array Keyed → StateT SortSt Sem (Array Keyed) := sortPriv% PySem.Builtin.mergeLo
def mergeHi' : Array Keyed → Array Keyed → StateT SortSt Sem (Array Keyed) := sortPriv% PySem.Builtin.mergeHi
/-- the key lies behind the item -/
def bey (left : Bool) (k : Int) (x : Int) : Bool := if left then decide (x < k) else !decide (k < x)
theorem bey_mono {left : Bool} {k x y : Int} (h : x ≤ y) (hb : bey left k y = true) : bey left k x = true := by
  unfold bey at *
  cases left
  · simp only [Bool.false_eq_true, if_false, Bool.not_eq_true', decide_eq_false_iff_not] at *; lia
  · simp only [if_true, decide_eq_true_eq] at *; lia
section
variable {prog : Program} {w : World} {A : Around} {E : Value → Shared → Prop} {s : Shared}
set_option maxHeartbeats 2000000 in
theorem wp_gallop {st : SortSt} {left : Bool} {kk : Keyed} {arr : Array Keyed} {base n hint : Nat} {Q : Option Nat → SortSt → Prop} (hk : kindOf st = oneType') (hkk : IntK kk) (hh : hint < n)
    (hat : ∀ i, i < n → ∃ p, arr[base + i]? = some p ∧ IntK p) (hs : ∀ i j, i ≤ j → j < n → K arr (base + i) ≤ K arr (base + j))
    (h : ∀ k, k ≤ n → (∀ i, i < k → bey left (key kk) (K arr (base + i)) = true) → (∀ i, k ≤ i → i < n → bey left (key kk) (K arr (base + i)) = false) → Q (some k) st) :
    wpS (model prog w) A E s (gallop' left kk arr base n hint) Q st := by
  have mono : ∀ i j, i ≤ j → j < n → bey left (key kk) (K arr (base + j)) = true → bey left (key kk) (K arr (base + i)) = true := fun i j h1 h2 => bey_mono (hs i j h1 h2)
  have anti : ∀ i j, i ≤ j → j < n → bey left (key kk) (K arr (base + i)) = false → bey left (key kk) (K arr (base + j)) = false := fun i j h1 h2 hb => by
    cases q : bey left (key kk) (K arr (base + j)) with
    | false => rfl
    | true => rw [mono i j h1 h2 q] at hb; cases hb
  generalize hB : (fun i => bey left (key kk) (K arr (base + i))) = B at *
  have hB' : ∀ i, bey left (key kk) (K arr (base + i)) = B i := fun i => congrFun hB i
  simp only [hB'] at mono anti h
  have cmp : ∀ i st2, i < n → st2 = st → ∀ Q' : Option Bool → SortSt → Prop, Q' (some (B i)) st2 → wpS (model prog w) A E s (elem' arr (base + i) >>= fun x => if left = true then lt' x kk else lt' kk x >>= fun r => pure (r.map fun b => !b)) Q' st2 := fun i st2 hi e Q' hq => by
    obtain ⟨p, hp, ip⟩ := hat i hi
    rw [← hB', K_key hp] at hq
    refine wpS_bind (wp_elem hp ?_)
    cases left with
    | false => exact wpS_bind (wp_lt (e ▸ hk) hkk ip (wpS_pure hq))
    | true => exact wp_lt (e ▸ hk) ip hkk hq
  clear hat hs hB hB' hkk hk
  have e0 : ∀ {st2 : SortSt} {k : Nat}, st2 = st → k ≤ n → (∀ i, i < k → B i = true) → (∀ i, k ≤ i → i < n → B i = false) → Q (some k) st2 := fun {st2 k} e a b c => by rw [e]; exact h k a b c
  clear h
  have stop : ∀ {x lo hi : Nat} {st3 : SortSt}, (st3 = st ∧ lo ≤ hi ∧ hi ≤ n ∧ hi - lo ≤ n - x ∧ (∀ i, i < lo → B i = true) ∧ (∀ i, hi ≤ i → i < n → B i = false)) → lo = hi → st3 = st ∧ hi ≤ n ∧ (∀ i, i < hi → B i = true) ∧ (∀ i, hi ≤ i → i < n → B i = false) :=
    fun {x lo hi st3} hP e => ⟨hP.1, hP.2.2.1, e ▸ hP.2.2.2.2.1, hP.2.2.2.2.2⟩
  have up : ∀ {x lo hi : Nat} {st3 : SortSt}, (st3 = st ∧ lo ≤ hi ∧ hi ≤ n ∧ hi - lo ≤ n - x ∧ (∀ i, i < lo → B i = true) ∧ (∀ i, hi ≤ i → i < n → B i = false)) → lo < hi → x < n → B (lo + (hi - lo) / 2) = true →
      st3 = st ∧ lo + (hi - lo) / 2 + 1 ≤ hi ∧ hi ≤ n ∧ hi - (lo + (hi - lo) / 2 + 1) ≤ n - (x + 1) ∧ (∀ i, i < lo + (hi - lo) / 2 + 1 → B i = true) ∧ (∀ i, hi ≤ i → i < n → B i = false) := fun {x lo hi st3} hP hlt hx hm => by
    have h4 := hP.2.2.2.1
    have hm1 : lo ≤ lo + (hi - lo) / 2 := Nat.le_add_right _ _
    have hm2 : lo + (hi - lo) / 2 < hi := by lia
    have h3 := hP.2.2.1
    generalize lo + (hi - lo) / 2 = m at *
    exact ⟨hP.1, hm2, h3, by lia, fun i hi' => mono i m (Nat.le_of_lt_succ hi') (by lia) hm, hP.2.2.2.2.2⟩
  have dn : ∀ {x lo hi : Nat} {st3 : SortSt}, (st3 = st ∧ lo ≤ hi ∧ hi ≤ n ∧ hi - lo ≤ n - x ∧ (∀ i, i < lo → B i = true) ∧ (∀ i, hi ≤ i → i < n → B i = false)) → lo < hi → x < n → B (lo + (hi - lo) / 2) = false →
      st3 = st ∧ lo ≤ lo + (hi - lo) / 2 ∧ lo + (hi - lo) / 2 ≤ n ∧ lo + (hi - lo) / 2 - lo ≤ n - (x + 1) ∧ (∀ i, i < lo → B i = true) ∧ (∀ i, lo + (hi - lo) / 2 ≤ i → i < n → B i = false) := fun {x lo hi st3} hP hlt hx hm => by
    have h4 := hP.2.2.2.1
    have hm1 : lo ≤ lo + (hi - lo) / 2 := Nat.le_add_right _ _
    have hm2 : lo + (hi - lo) / 2 < hi := by lia
    have h3 := hP.2.2.1
    generalize lo + (hi - lo) / 2 = m at *
    exact ⟨hP.1, hm1, by lia, by lia, hP.2.2.2.2.1, fun i hi1 hi2 => anti m i hi1 hi2 hm⟩
  refine wp_fix (cmp hint st hh rfl) ?_
  refine wp_ite (fun hr => ?_) fun hr => ?_
  · refine wpS_bind (wp_for2 (fun x la of st2 => st2 = st ∧ la < of ∧ x + 1 ≤ of ∧ la < n - hint ∧ B (hint + la) = true) (fun (_ : Option Nat) _ => False) (fun la of st2 => st2 = st ∧ la < n - hint ∧ la < of ∧ B (hint + la) = true ∧ (n - hint ≤ of ∨ (of < n - hint ∧ B (hint + of) = false)))
      ⟨rfl, Nat.one_pos, Nat.le_refl _, Nat.sub_pos_of_lt hh, hr⟩ (fun la of st2 hP => ⟨hP.1, hP.2.2.2.1, hP.2.1, hP.2.2.2.2, .inl (by have := hP.2.2.1; lia)⟩) ?_ (fun _ _ _ hG => hG.elim) ?_)
    · intro x la of st2 hx hP Q' hR hE hY
      refine wp_ite (fun hge => wpS_pure (hE _ _ _ ⟨hP.1, hP.2.2.2.1, hP.2.1, hP.2.2.2.2, .inl hge⟩)) fun hge => ?_
      have hof : of < n - hint := Nat.not_le.mp hge
      refine wp_fix (cmp (hint + of) st2 (by lia) hP.1) ?_
      refine wp_ite (fun hm => wpS_pure (hE _ _ _ ⟨hP.1, hP.2.2.2.1, hP.2.1, hP.2.2.2.2, .inr ⟨hof, by simpa using hm⟩⟩)) fun hm => ?_
      exact wpS_pure (hY _ _ _ ⟨hP.1, by have := hP.2.2.1; lia, by have := hP.2.2.1; lia, hof, by simpa using hm⟩)
    · intro la of st2 hE
      have f1 : hint + la + 1 ≤ hint + min of (n - hint) := by have := hE.2.1; have := hE.2.2.1; lia
      have f2 : hint + min of (n - hint) ≤ n := by lia
      have f3 : ∀ i, i < hint + la + 1 → B i = true := fun i hi => mono i (hint + la) (Nat.le_of_lt_succ hi) (by have := hE.2.1; lia) hE.2.2.2.1
      have f4 : ∀ i, hint + min of (n - hint) ≤ i → i < n → B i = false := fun i h5 h6 => by
        rcases hE.2.2.2.2 with h4 | ⟨h4, h7⟩
        · lia
        · exact anti (hint + of) i (by lia) h6 h7
      refine wpS_bind (wp_for2 (fun x lo hi st3 => st3 = st ∧ lo ≤ hi ∧ hi ≤ n ∧ hi - lo ≤ n - x ∧ (∀ i, i < lo → B i = true) ∧ (∀ i, hi ≤ i → i < n → B i = false)) (fun (_ : Option Nat) _ => False) (fun lo hi st3 => st3 = st ∧ hi ≤ n ∧ (∀ i, i < hi → B i = true) ∧ (∀ i, hi ≤ i → i < n → B i = false))
        ⟨hE.1, f1, f2, by lia, f3, f4⟩ (fun lo hi st3 hP => stop hP (by have := hP.2.1; have := hP.2.2.2.1; lia)) ?_ (fun _ _ _ hG => hG.elim) (fun lo hi st3 hF => wpS_pure (e0 hF.1 hF.2.1 hF.2.2.1 hF.2.2.2)))
      intro x lo hi st3 hx hP Q3 hR3 hE3 hY3
      refine wp_ite (fun hge => wpS_pure (hE3 _ _ _ (stop hP (Nat.le_antisymm hP.2.1 hge)))) fun hge => ?_
      have hlt : lo < hi := Nat.not_le.mp hge
      refine wp_fix (cmp (lo + (hi - lo) / 2) st3 (by have := hP.2.2.1; lia) hP.1) ?_
      refine wp_ite (fun hm => wpS_pure (hY3 _ _ _ (up hP hlt hx hm))) fun hm => wpS_pure (hY3 _ _ _ (dn hP hlt hx (by simpa using hm)))
  · refine wpS_bind (wp_for2 (fun x la of st2 => st2 = st ∧ la < of ∧ x + 1 ≤ of ∧ la < hint + 1 ∧ B (hint - la) = false) (fun (_ : Option Nat) _ => False) (fun la of st2 => st2 = st ∧ la < hint + 1 ∧ la < of ∧ B (hint - la) = false ∧ (hint + 1 ≤ of ∨ (of < hint + 1 ∧ B (hint - of) = true)))
      ⟨rfl, Nat.one_pos, Nat.le_refl _, Nat.succ_pos _, by simpa using hr⟩ (fun la of st2 hP => ⟨hP.1, hP.2.2.2.1, hP.2.1, hP.2.2.2.2, .inl (by have := hP.2.2.1; lia)⟩) ?_ (fun _ _ _ hG => hG.elim) ?_)
    · intro x la of st2 hx hP Q' hR hE hY
      refine wp_ite (fun hge => wpS_pure (hE _ _ _ ⟨hP.1, hP.2.2.2.1, hP.2.1, hP.2.2.2.2, .inl hge⟩)) fun hge => ?_
      have hof : of < hint + 1 := Nat.not_le.mp hge
      refine wp_fix (cmp (hint - of) st2 (by lia) hP.1) ?_
      refine wp_ite (fun hm => wpS_pure (hE _ _ _ ⟨hP.1, hP.2.2.2.1, hP.2.1, hP.2.2.2.2, .inr ⟨hof, hm⟩⟩)) fun hm => ?_
      exact wpS_pure (hY _ _ _ ⟨hP.1, by have := hP.2.2.1; lia, by have := hP.2.2.1; lia, hof, by simpa using hm⟩)
    · intro la of st2 hE
      have f1 : hint + 1 - min of (hint + 1) ≤ hint - la := by have := hE.2.1; have := hE.2.2.1; lia
      have f2 : hint - la ≤ n := by lia
      have f3 : ∀ i, i < hint + 1 - min of (hint + 1) → B i = true := fun i hi => by
        rcases hE.2.2.2.2 with h4 | ⟨h4, h7⟩
        · lia
        · exact mono i (hint - of) (by lia) (by lia) h7
      have f4 : ∀ i, hint - la ≤ i → i < n → B i = false := fun i h5 h6 => anti (hint - la) i h5 h6 hE.2.2.2.1
      refine wpS_bind (wp_for2 (fun x lo hi st3 => st3 = st ∧ lo ≤ hi ∧ hi ≤ n ∧ hi - lo ≤ n - x ∧ (∀ i, i < lo → B i = true) ∧ (∀ i, hi ≤ i → i < n → B i = false)) (fun (_ : Option Nat) _ => False) (fun lo hi st3 => st3 = st ∧ hi ≤ n ∧ (∀ i, i < hi → B i = true) ∧ (∀ i, hi ≤ i → i < n → B i = false))
        ⟨hE.1, f1, f2, by lia, f3, f4⟩ (fun lo hi st3 hP => stop hP (by have := hP.2.1; have := hP.2.2.2.1; lia)) ?_ (fun _ _ _ hG => hG.elim) (fun lo hi st3 hF => wpS_pure (e0 hF.1 hF.2.1 hF.2.2.1 hF.2.2.2)))
      intro x lo hi st3 hx hP Q3 hR3 hE3 hY3
      refine wp_ite (fun hge => wpS_pure (hE3 _ _ _ (stop hP (Nat.le_antisymm hP.2.1 hge)))) fun hge => ?_
      have hlt : lo < hi := Nat.not_le.mp hge
      refine wp_fix (cmp (lo + (hi - lo) / 2) st3 (by have := hP.2.2.1; lia) hP.1) ?_
      refine wp_ite (fun hm => wpS_pure (hY3 _ _ _ (up hP hlt hx hm))) fun hm => wpS_pure (hY3 _ _ _ (dn hP hlt hx (by simpa using hm)))
end
end Mine

end
section
open PySem PyProof.Rows
set_option Elab.async false
set_option autoImplicit false
set_option linter.unusedVariables false
namespace Mine
set_option maxRecDepth 100000
/-! two sorted lists merged: what has been put out, what is left of either -/
structure MS (le : Keyed → Keyed → Prop) (T out ra rb : List Keyed) : Prop where
  perm : (out ++ (ra ++ rb)).Perm T
  so : out.Pairwise le
  sa : ra.Pairwise le
  sb : rb.Pairwise le
  oa : ∀ x ∈ out, ∀ y ∈ ra, le x y
  ob : ∀ x ∈ out, ∀ y ∈ rb, le x y
def GoodR (le : Keyed → Keyed → Prop) (T r : List Keyed) : Prop := r.Perm T ∧ r.Pairwise le
section
variable {le : Keyed → Keyed → Prop} {T out ra rb c : List Keyed}
theorem MS.moveA (h : MS le T out (c ++ ra) rb) (hc : ∀ x ∈ c, ∀ y ∈ rb, le x y) : MS le T (out ++ c) ra rb := by
  obtain ⟨a1, a2, a3⟩ := List.pairwise_append.mp h.sa
  refine ⟨by have := h.perm; rwa [List.append_assoc, ← List.append_assoc c], List.pairwise_append.mpr ⟨h.so, a1, fun x hx y hy => h.oa x hx y (List.mem_append_left _ hy)⟩, a2, h.sb, fun x hx y hy => ?_, fun x hx y hy => ?_⟩
  · rcases List.mem_append.mp hx with hx | hx
    · exact h.oa x hx y (List.mem_append_right _ hy)
    · exact a3 x hx y hy
  · rcases List.mem_append.mp hx with hx | hx
    · exact h.ob x hx y hy
    · exact hc x hx y hy
theorem MS.flip (h : MS le T out ra rb) : MS le T out rb ra := ⟨(List.Perm.append_left _ List.perm_append_comm).trans h.perm, h.so, h.sb, h.sa, h.ob, h.oa⟩
theorem MS.moveB (h : MS le T out ra (c ++ rb)) (hc : ∀ x ∈ c, ∀ y ∈ ra, le x y) : MS le T (out ++ c) ra rb := (h.flip.moveA hc).flip
theorem MS.endA (h : MS le T out [] rb) : GoodR le T (out ++ rb) := ⟨h.perm, List.pairwise_append.mpr ⟨h.so, h.sb, h.ob⟩⟩
theorem MS.endB (h : MS le T out ra []) : GoodR le T (out ++ ra) := h.flip.endA
theorem MS.last {z : Keyed} (h : MS le T out [z] rb) (hz : ∀ y ∈ rb, le y z) : GoodR le T (out ++ rb ++ [z]) := by
  refine ⟨?_, List.pairwise_append.mpr ⟨List.pairwise_append.mpr ⟨h.so, h.sb, h.ob⟩, List.pairwise_singleton _ _, fun x hx y hy => ?_⟩⟩
  · have := h.flip.perm; rwa [List.append_assoc]
  · simp only [List.mem_singleton] at hy; subst hy
    rcases List.mem_append.mp hx with hx | hx
    · exact h.oa x hx _ (.head _)
    · exact hz x hx
end
def leK (x y : Keyed) : Prop := key x ≤ key y
def geK (x y : Keyed) : Prop := key y ≤ key x
theorem ext_toList {α : Type} (a : Array α) (i j : Nat) : (a.extract i j).toList = (a.toList.drop i).take (j - i) := by
  rw [Array.toList_extract, List.extract_eq_take_drop]
theorem ext_from {α : Type} (a : Array α) (i : Nat) : (a.extract i a.size).toList = a.toList.drop i := by
  rw [ext_toList]; exact List.take_of_length_le (by simp)
theorem drop_cons {α : Type} {a : Array α} {i : Nat} {p : α} (h : a[i]? = some p) : a.toList.drop i = p :: a.toList.drop (i + 1) := drop_at (by rw [Array.getElem?_toList]; exact h)
theorem drop_end {α : Type} {a : Array α} {i : Nat} (h : i = a.size) : a.toList.drop i = [] := List.drop_eq_nil_of_le (by rw [Array.length_toList]; lia)
/-- one kind of state of mergeLo -/
abbrev MLo (a b out : Array Keyed) (ia ib : Nat) : Prop := MS leK (a.toList ++ b.toList) out.toList (a.toList.drop ia) (b.toList.drop ib)
abbrev GLo (a b r : Array Keyed) : Prop := GoodR leK (a.toList ++ b.toList) r.toList
section
variable {a b out : Array Keyed} {ia ib : Nat}
theorem lo_pushB {p : Keyed} (h : MLo a b out ia ib) (hp : b[ib]? = some p) (hle : ∀ y ∈ a.toList.drop ia, key p ≤ key y) : MLo a b (out.push p) ia (ib + 1) := by
  unfold MLo at *
  rw [drop_cons hp] at h
  rw [Array.toList_push]
  exact MS.moveB (c := [p]) h fun x hx y hy => by simp only [List.mem_singleton] at hx; subst hx; exact hle y hy
theorem lo_pushA {p : Keyed} (h : MLo a b out ia ib) (hp : a[ia]? = some p) (hle : ∀ y ∈ b.toList.drop ib, key p ≤ key y) : MLo a b (out.push p) (ia + 1) ib := by
  unfold MLo at *
  rw [drop_cons hp] at h
  rw [Array.toList_push]
  exact MS.moveA (c := [p]) h fun x hx y hy => by simp only [List.mem_singleton] at hx; subst hx; exact hle y hy
theorem lo_chunkA {k : Nat} (h : MLo a b out ia ib) (hle : ∀ x ∈ (a.toList.drop ia).take k, ∀ y ∈ b.toList.drop ib, key x ≤ key y) : MLo a b (out ++ a.extract ia (ia + k)) (ia + k) ib := by
  unfold MLo at *
  rw [← List.take_append_drop k (a.toList.drop ia), List.drop_drop] at h
  rw [Array.toList_append, ext_toList, show ia + k - ia = k by lia]
  exact MS.moveA h hle
theorem lo_chunkB {k : Nat} (h : MLo a b out ia ib) (hle : ∀ x ∈ (b.toList.drop ib).take k, ∀ y ∈ a.toList.drop ia, key x ≤ key y) : MLo a b (out ++ b.extract ib (ib + k)) ia (ib + k) := by
  unfold MLo at *
  rw [← List.take_append_drop k (b.toList.drop ib), List.drop_drop] at h
  rw [Array.toList_append, ext_toList, show ib + k - ib = k by lia]
  exact MS.moveB h hle
theorem lo_doneB (h : MLo a b out ia ib) (he : ib = b.size) : GLo a b (out ++ a.extract ia a.size ++ b.extract ib b.size) := by
  unfold MLo GLo at *
  rw [Array.toList_append, Array.toList_append, ext_from, ext_from]
  rw [drop_end he] at h ⊢
  rw [List.append_nil]
  exact h.endB
theorem lo_doneA (h : MLo a b out ia ib) (he : ia = a.size) : GLo a b (out ++ a.extract ia a.size ++ b.extract ib b.size) := by
  unfold MLo GLo at *
  rw [Array.toList_append, Array.toList_append, ext_from, ext_from]
  rw [drop_end he] at h ⊢
  rw [List.append_nil]
  exact h.endA
theorem lo_last {z : Keyed} (h : MLo a b out ia ib) (he : ia + 1 = a.size) (hz : a[ia]? = some z) (hab : ∀ y ∈ b.toList, key y ≤ key z) : GLo a b (out ++ b.extract ib b.size ++ a.extract ia a.size) := by
  unfold MLo GLo at *
  rw [Array.toList_append, Array.toList_append, ext_from, ext_from]
  have e := drop_cons hz
  rw [drop_end he] at e
  rw [e] at h ⊢
  exact h.last fun y hy => hab y (List.mem_of_mem_drop hy)
theorem head_le {p q : Keyed} {l : List Keyed} (h : (q :: l).Pairwise leK) (hpq : key p ≤ key q) : ∀ y ∈ q :: l, key p ≤ key y := fun y hy => by
  rcases List.mem_cons.mp hy with rfl | hy
  · exact hpq
  · exact Int.le_trans hpq ((List.pairwise_cons.mp h).1 y hy)
theorem mem_take_at {l : List Keyed} {k : Nat} {x : Keyed} (h : x ∈ l.take k) : ∃ i, i < k ∧ l[i]? = some x := by
  obtain ⟨i, hi⟩ := List.getElem?_of_mem h
  rw [List.getElem?_take] at hi
  by_cases e : i < k
  · rw [if_pos e] at hi; exact ⟨i, e, hi⟩
  · rw [if_neg e] at hi; cases hi
end
/-- the sort's state, but for the gallop's measure -/
structure SG (st st' : SortSt) : Prop where
  kind : kindOf st' = kindOf st
  arr : arrOf st' = arrOf st
  pend : pendingOf st' = pendingOf st
  failed : failedOf st' = failedOf st
theorem SG.refl (st : SortSt) : SG st st := ⟨rfl, rfl, rfl, rfl⟩
end Mine

end
section
open PySem PyProof.Rows
set_option Elab.async false
set_option autoImplicit false
set_option linter.unusedVariables false
namespace Mine
set_option maxRecDepth 100000
/-! steps that write little: the continuation is one variable, nothing is taken apart -/
theorem K_srt {a : Array Keyed} (hs : a.toList.Pairwise leK) {i j : Nat} (h : i ≤ j) (hj : j < a.size) : K a i ≤ K a j := by
  rw [K_key (getElem?_pos a i (by lia)), K_key (getElem?_pos a j hj)]
  by_cases e : i = j
  · subst e; exact Int.le_refl _
  · have := List.pairwise_iff_getElem.mp hs i j (by rw [Array.length_toList]; lia) (by rw [Array.length_toList]; exact hj) (by lia)
    rw [Array.getElem_toList, Array.getElem_toList] at this
    exact this
theorem at_drop {a : Array Keyed} {i j : Nat} {x : Keyed} (h : (a.toList.drop i)[j]? = some x) : a[i + j]? = some x := by
  rw [List.getElem?_drop, Array.getElem?_toList] at h; exact h
theorem bey_no {k x : Int} : bey false k x = true ↔ x ≤ k := by
  unfold bey
  simp only [Bool.false_eq_true, if_false, Bool.not_eq_true', decide_eq_false_iff_not]; lia
theorem bey_no' {k x : Int} : bey false k x = false ↔ k < x := by
  unfold bey
  simp only [Bool.false_eq_true, if_false, Bool.not_eq_false', decide_eq_true_eq]
theorem bey_yes {k x : Int} : bey true k x = true ↔ x < k := by unfold bey; simp
theorem bey_yes' {k x : Int} : bey true k x = false ↔ k ≤ x := by unfold bey; simp
/-- keys are ints, in order -/
structure Srt (a : Array Keyed) : Prop where
  i : ∀ p ∈ a.toList, IntK p
  s : a.toList.Pairwise leK
theorem Srt.at {a : Array Keyed} (h : Srt a) {i : Nat} (hi : i < a.size) : ∃ p, a[i]? = some p ∧ IntK p := ⟨a[i], by simp [hi], h.i _ (by simp)⟩
section
variable {prog : Program} {w : World} {A : Around} {E : Value → Shared → Prop} {s : Shared}
theorem wp_elemI {st : SortSt} {arr : Array Keyed} {i : Nat} {δ : Type} {f : Keyed → StateT SortSt Sem δ} {Q : δ → SortSt → Prop} (hi : i < arr.size) (h : ∀ p, arr[i]? = some p → wpS (model prog w) A E s (f p) Q st) :
    wpS (model prog w) A E s (elem' arr i >>= f) Q st := wpS_bind (wp_elem (getElem?_pos arr i hi) (h _ (getElem?_pos arr i hi)))
theorem wp_cmpI {st : SortSt} {a b : Array Keyed} {i j : Nat} {δ : Type} {f : Option Bool → StateT SortSt Sem δ} {Q : δ → SortSt → Prop} (hk : kindOf st = oneType') (sb : Srt b) (sa : Srt a) (hi : i < b.size) (hj : j < a.size)
    (h : ∀ p q, b[i]? = some p → a[j]? = some q → wpS (model prog w) A E s (f (some (decide (key p < key q)))) Q st) :
    wpS (model prog w) A E s (elem' b i >>= fun x => elem' a j >>= fun y => lt' x y >>= f) Q st := by
  obtain ⟨p, hp, ip⟩ := sb.at hi
  obtain ⟨q, hq, iq⟩ := sa.at hj
  exact wpS_bind (wp_elem hp (wpS_bind (wp_elem hq (wpS_bind (wp_lt hk ip iq (h p q hp hq))))))
theorem wp_gal {st : SortSt} {left : Bool} {a b : Array Keyed} {i base n hint : Nat} {δ : Type} {f : Option Nat → StateT SortSt Sem δ} {Q : δ → SortSt → Prop} (hk : kindOf st = oneType') (sb : Srt b) (sa : Srt a) (hi : i < b.size) (hn : base + n ≤ a.size) (hh : hint < n)
    (h : ∀ p k, b[i]? = some p → k ≤ n → (∀ i, i < k → bey left (key p) (K a (base + i)) = true) → (∀ i, k ≤ i → i < n → bey left (key p) (K a (base + i)) = false) → wpS (model prog w) A E s (f (some k)) Q st) :
    wpS (model prog w) A E s (elem' b i >>= fun x => gallop' left x a base n hint >>= f) Q st := by
  obtain ⟨p, hp, ip⟩ := sb.at hi
  exact wpS_bind (wp_elem hp (wpS_bind (wp_gallop hk ip hh (fun i hi => sa.at (by lia)) (fun i j hij hj => K_srt sa.s (by lia) (by lia)) fun k k1 k2 k3 => h p k hp k1 k2 k3)))
end
end Mine

end
section
open PySem PyProof.Rows
set_option Elab.async false
set_option autoImplicit false
set_option linter.unusedVariables false
namespace Mine
set_option maxRecDepth 100000
/-- a turn of mergeLo -/
structure LoI (st : SortSt) (a b out : Array Keyed) (ia ib y N : Nat) (st' : SortSt) : Prop where
  sg : SG st st'
  m : MLo a b out ia ib
  n1 : ia + 1 < a.size
  n2 : ib < b.size
  ms : N + y ≤ ia + ib
section
variable {st st' : SortSt} {a b out : Array Keyed} {ia ib y N : Nat}
theorem LoI.one (h : LoI st a b out ia ib (y + 1) N st') : LoI st a b out ia ib 1 N st' := ⟨h.sg, h.m, h.n1, h.n2, Nat.le_trans (Nat.add_le_add_left (Nat.le_add_left 1 y) N) h.ms⟩
theorem lo_winB {p q : Keyed} (h : MLo a b out ia ib) (hp : b[ib]? = some p) (hq : a[ia]? = some q) (hl : key p < key q) {p' : Keyed} (hp' : b[ib]? = some p') : MLo a b (out.push p') ia (ib + 1) := by
  have e := Option.some.inj (hp.symm.trans hp')
  subst e
  exact lo_pushB h hp (by have := h.sa; rw [drop_cons hq] at this ⊢; exact head_le this (Int.le_of_lt hl))
theorem lo_winA {p q : Keyed} (h : MLo a b out ia ib) (hp : b[ib]? = some p) (hq : a[ia]? = some q) (hl : ¬key p < key q) {q' : Keyed} (hq' : a[ia]? = some q') : MLo a b (out.push q') (ia + 1) ib := by
  have e := Option.some.inj (hq.symm.trans hq')
  subst e
  exact lo_pushA h hq (by have := h.sb; rw [drop_cons hp] at this ⊢; exact head_le this (Int.not_lt.mp hl))
/-- what a gallop for b's head in a gives -/
def LoA (a b out : Array Keyed) (ia ib ia0 : Nat) : Prop := MLo a b out ia ib ∧ ia0 ≤ ia ∧ ia ≤ a.size ∧ ∀ p, b[ib]? = some p → ∀ y ∈ a.toList.drop ia, key p ≤ key y
def LoB (a b out : Array Keyed) (ia ib ib0 : Nat) : Prop := MLo a b out ia ib ∧ ib0 ≤ ib ∧ ib ≤ b.size ∧ ∀ q, a[ia]? = some q → ∀ y ∈ b.toList.drop ib, key q ≤ key y
theorem lo_galA {p : Keyed} {k n : Nat} (h : MLo a b out ia ib) (hp : b[ib]? = some p) (hn : n = a.size - ia) (hi : ia < a.size) (k1 : k ≤ n) (k2 : ∀ i, i < k → bey false (key p) (K a (ia + i)) = true) (k3 : ∀ i, k ≤ i → i < n → bey false (key p) (K a (ia + i)) = false) :
    LoA a b (out ++ a.extract ia (ia + k)) (ia + k) ib ia := by
  refine ⟨lo_chunkA h fun x hx y hy => ?_, Nat.le_add_right _ _, by lia, fun p' hp' y hy => ?_⟩
  · obtain ⟨i, hi, hxi⟩ := mem_take_at hx
    have := bey_no.mp (k2 i hi)
    rw [K_key (at_drop hxi)] at this
    have sb' := h.sb
    rw [drop_cons hp] at sb' hy
    exact head_le sb' this y hy
  · have e := Option.some.inj (hp.symm.trans hp')
    subst e
    obtain ⟨i, hi⟩ := List.getElem?_of_mem hy
    have hi' := at_drop hi
    have hlt : ia + k + i < a.size := (Array.getElem?_eq_some_iff.mp hi').1
    have := bey_no'.mp (k3 (k + i) (Nat.le_add_right _ _) (by lia))
    rw [← Nat.add_assoc, K_key hi'] at this
    exact Int.le_of_lt this
theorem lo_galB {q : Keyed} {k n : Nat} (h : MLo a b out ia ib) (hq : a[ia]? = some q) (hn : n = b.size - ib) (hi : ib < b.size) (k1 : k ≤ n) (k2 : ∀ i, i < k → bey true (key q) (K b (ib + i)) = true) (k3 : ∀ i, k ≤ i → i < n → bey true (key q) (K b (ib + i)) = false) :
    LoB a b (out ++ b.extract ib (ib + k)) ia (ib + k) ib := by
  refine ⟨lo_chunkB h fun x hx y hy => ?_, Nat.le_add_right _ _, by lia, fun q' hq' y hy => ?_⟩
  · obtain ⟨i, hi, hxi⟩ := mem_take_at hx
    have := bey_yes.mp (k2 i hi)
    rw [K_key (at_drop hxi)] at this
    have sa' := h.sa
    rw [drop_cons hq] at sa' hy
    exact head_le sa' (Int.le_of_lt this) y hy
  · have e := Option.some.inj (hq.symm.trans hq')
    subst e
    obtain ⟨i, hi⟩ := List.getElem?_of_mem hy
    have hi' := at_drop hi
    have hlt : ib + k + i < b.size := (Array.getElem?_eq_some_iff.mp hi').1
    have := bey_yes'.mp (k3 (k + i) (Nat.le_add_right _ _) (by lia))
    rw [← Nat.add_assoc, K_key hi'] at this
    exact this
theorem LoA.none {k : Nat} (hk : ¬k > 0) (h : MLo a b out ia ib) {X : Array Keyed} (hm : LoA a b X (ia + k) ib ia) : LoA a b out ia ib ia := by
  have e : k = 0 := by lia
  subst e
  exact ⟨h, Nat.le_refl _, hm.2.2.1, hm.2.2.2⟩
theorem LoB.none {k : Nat} (hk : ¬k > 0) (h : MLo a b out ia ib) {X : Array Keyed} (hm : LoB a b X ia (ib + k) ib) : LoB a b out ia ib ib := by
  have e : k = 0 := by lia
  subst e
  exact ⟨h, Nat.le_refl _, hm.2.2.1, hm.2.2.2⟩
end
theorem beq_yes {m n : Nat} (h : (m == n) = true) : m = n := eq_of_beq h
theorem beq_no {m n : Nat} (h : ¬(m == n) = true) : m ≠ n := fun e => h (by rw [e]; exact beq_self_eq_true n)
theorem SG.gal {st st' : SortSt} (h : SG st st') (g : Nat) : SG st (SortSt.mk' (kindOf st') (arrOf st') (pendingOf st') g (failedOf st')) := ⟨h.kind, h.arr, h.pend, h.failed⟩
section
variable {prog : Program} {w : World} {A : Around} {E : Value → Shared → Prop} {s : Shared}
theorem wp_mergeLo {st : SortSt} {a b : Array Keyed} {Q : Array Keyed → SortSt → Prop} (hk : kindOf st = oneType') (sa : Srt a) (sb : Srt b)
    (ha : 1 ≤ a.size) (hb : 1 ≤ b.size) (hb0 : ∀ y ∈ a.toList, K b 0 ≤ key y) (hab : ∀ y ∈ b.toList, key y ≤ K a (a.size - 1)) (h : ∀ r st', SG st st' → GLo a b r → Q r st') : wpS (model prog w) A E s (mergeLo' a b) Q st := by
  have last : ∀ {out ia ib}, MLo a b out ia ib → ia + 1 = a.size → GLo a b (out ++ b.extract ib b.size ++ a.extract ia a.size) := fun {out ia ib} m e => by
    obtain ⟨z, hz, _⟩ := sa.at (i := ia) (by lia)
    refine lo_last m e hz fun y hy => ?_
    have := hab y hy
    rwa [show a.size - 1 = ia by lia, K_key hz] at this
  have M : ∀ p0, b[0]? = some p0 → MLo a b #[p0] 0 1 := fun p0 hp0 => by
    have m : MLo a b #[] 0 0 := ⟨by simp, List.Pairwise.nil, by simpa using sa.s, by simpa using sb.s, fun x hx => by simp at hx, fun x hx => by simp at hx⟩
    exact lo_pushB m hp0 fun y hy => by rw [← K_key hp0]; exact hb0 y (by simpa using hy)
  refine wpS_bind (wpS_lift (wpAny_rule ⟨rfl, ?_⟩))
  refine wp_elemI (arr := b) (i := 0) hb fun p0 hp0 => ?_
  refine wp_ite (fun e1 => wpS_pure (h _ _ (SG.refl _) (lo_doneB (M p0 hp0) (beq_yes e1)))) fun e1 => ?_
  refine wp_ite (fun e2 => wpS_pure (h _ _ (SG.refl _) (last (M p0 hp0) (beq_yes e2)))) fun e2 => ?_
  refine wpS_bind (wpS_get (wpS_bind ?_))
  have i1 := beq_no e1
  have i2 := beq_no e2
  refine wp_for4 (fun x out ia ib mg st' => LoI st a b out ia ib x 1 st') (fun r st' => SG st st' ∧ GLo a b r) (fun _ _ _ _ _ => False) ⟨SG.refl _, M p0 hp0, by lia, by lia, Nat.le_refl _⟩
    (fun out ia ib mg st' hP => by have u1 := hP.n1; have u2 := hP.n2; have u3 := hP.ms; lia) ?_ (fun r v st' hG => wpS_pure (h r st' hG.1 hG.2)) (fun _ _ _ _ _ hB => hB.elim)
  intro x out ia ib mg st' hx hP Q' hR hB hY
  refine wpS_bind (wp_for5 (fun y out ia' ib' ac bc st2 => LoI st a b out ia' ib' y (ia + ib) st2) (fun r st' => SG st st' ∧ GLo a b r) (fun out ia' ib' ac bc st2 => LoI st a b out ia' ib' 1 (ia + ib) st2)
    ⟨hP.sg, hP.m, hP.n1, hP.n2, Nat.le_refl _⟩ (fun out ia' ib' ac bc st2 hu => ⟨hu.sg, hu.m, hu.n1, hu.n2, by have := hu.ms; lia⟩) ?_ (fun r u st2 hG => wpS_pure (hR r _ st2 hG)) ?_)
  · intro y out' ia' ib' ac bc st2 hy hu Q2 hR2 hB2 hY2
    refine wp_cmpI (hu.sg.kind.trans hk) sb sa hu.n2 (Nat.lt_of_succ_lt hu.n1) fun p q hp hq => ?_
    refine wp_ite (fun hl => ?_) fun hl => ?_
    · refine wp_elemI hu.n2 fun p' hp' => ?_
      have m2 := lo_winB hu.m hp hq (of_decide_eq_true hl) hp'
      refine wp_ite (fun e => wpS_pure (hR2 _ _ _ ⟨hu.sg, lo_doneB m2 (beq_yes e)⟩)) fun e => ?_
      have hh : LoI st a b (out'.push p') ia' (ib' + 1) (y + 1) (ia + ib) st2 := ⟨hu.sg, m2, hu.n1, Nat.lt_of_le_of_ne hu.n2 (beq_no e), Nat.succ_le_succ hu.ms⟩
      exact wp_ite (fun _ => wpS_pure (hB2 _ _ _ _ _ _ hh.one)) fun _ => wpS_pure (hY2 _ _ _ _ _ _ hh)
    · refine wp_elemI (Nat.lt_of_succ_lt hu.n1) fun q' hq' => ?_
      have m2 := lo_winA hu.m hp hq (fun c => hl (decide_eq_true c)) hq'
      refine wp_ite (fun e => wpS_pure (hR2 _ _ _ ⟨hu.sg, last m2 (beq_yes e)⟩)) fun e => ?_
      have hh : LoI st a b (out'.push q') (ia' + 1) ib' (y + 1) (ia + ib) st2 := ⟨hu.sg, m2, Nat.lt_of_le_of_ne hu.n1 (beq_no e), hu.n2, by have := hu.ms; lia⟩
      exact wp_ite (fun _ => wpS_pure (hB2 _ _ _ _ _ _ hh.one)) fun _ => wpS_pure (hY2 _ _ _ _ _ _ hh)
  · intro out1 ia1 ib1 ac1 bc1 st2 hu
    refine wpS_bind (wpS_lift (wpAny_rule ⟨rfl, ?_⟩))
    refine wpS_bind (wp_for6 (fun y out' ia' ib' mg ac bc st3 => 1 ≤ mg ∧ LoI st a b out' ia' ib' 1 (ia + ib) st3) (fun r st' => SG st st' ∧ GLo a b r) (fun out' ia' ib' mg ac bc st3 => LoI st a b out' ia' ib' 1 (ia + ib) st3)
      ⟨Nat.le_add_left _ _, hu⟩ (fun out' ia' ib' mg ac bc st3 hz => hz.2) ?_ (fun r z st3 hG => wpS_pure (hR r _ st3 hG))
      (fun out' ia' ib' mg ac bc st3 hz => wpS_bind (wpS_modify (wpS_pure (hY _ _ _ _ _ ⟨hz.sg.gal _, hz.m, hz.n1, hz.n2, by have u1 := hz.ms; have u2 := hP.ms; lia⟩)))))
    intro y out2 ia2 ib2 mg2 ac2 bc2 st3 hy hz Q3 hR3 hB3 hY3
    dsimp only
    have hm : mg2 > 1 → 1 ≤ mg2 - 1 := fun h => Nat.le_sub_of_add_le h
    generalize mg2 - 1 = x at hm ⊢
    revert hm
    revert x
    refine wp_mg (fun g => 1 ≤ g) (fun x h c => h c) (fun _ => hz.1) ?_
    intro g hg
    refine wp_mod (SG st) (hz.2.sg.gal g) fun st4 g4 => ?_
    refine wp_gal (g4.kind.trans hk) sb sa hz.2.n2 (by have := hz.2.n1; lia) (by have := hz.2.n1; lia) fun p k hp k1 k2 k3 => ?_
    dsimp only
    have hP := lo_galA hz.2.m hp rfl (Nat.lt_of_succ_lt hz.2.n1) k1 k2 k3
    have hn : ¬k > 0 → LoA a b out2 ia2 ib2 ia2 := fun h => LoA.none h hz.2.m hP
    generalize out2 ++ a.extract ia2 (ia2 + k) = X at hP ⊢
    generalize ia2 + k = ix at hP ⊢
    revert hP
    revert ix
    revert X
    refine wp_join2 (fun out i => LoA a b out i ib2 ia2 ∧ i + 1 < a.size) (fun X ix h e => wpS_pure (hR3 _ _ _ ⟨g4, last h.1 (beq_yes e)⟩)) (fun X ix h e => wpS_pure (hR3 _ _ _ ⟨g4, lo_doneA h.1 (beq_yes e)⟩))
      (fun X ix h e1 e2 => ⟨h, by have u1 := beq_no e1; have u2 := beq_no e2; have u3 := h.2.2.1; lia⟩) (fun e => ⟨hn e, hz.2.n1⟩) fun out3 ia3 hA => ?_
    refine wp_elemI hz.2.n2 fun p' hp' => ?_
    have m4 := lo_pushB hA.1.1 hp' (hA.1.2.2.2 p' hp')
    refine wp_ite (fun e => wpS_pure (hR3 _ _ _ ⟨g4, lo_doneB m4 (beq_yes e)⟩)) fun e => ?_
    have n4 : ib2 + 1 < b.size := Nat.lt_of_le_of_ne hz.2.n2 (beq_no e)
    refine wp_gal (g4.kind.trans hk) sa sb (Nat.lt_of_succ_lt hA.2) (by lia) (by lia) fun q kk hq kk1 kk2 kk3 => ?_
    dsimp only
    have hP := lo_galB m4 hq rfl n4 kk1 kk2 kk3
    have hn2 : ¬kk > 0 → LoB a b (out3.push p') ia3 (ib2 + 1) (ib2 + 1) := fun h => LoB.none h m4 hP
    generalize out3.push p' ++ b.extract (ib2 + 1) (ib2 + 1 + kk) = Y at hP ⊢
    generalize ib2 + 1 + kk = iy at hP ⊢
    revert hP
    revert iy
    revert Y
    refine wp_join (fun out i => LoB a b out ia3 i (ib2 + 1) ∧ i < b.size) (fun Y iy h e => wpS_pure (hR3 _ _ _ ⟨g4, lo_doneB h.1 (beq_yes e)⟩))
      (fun Y iy h e1 => ⟨h, Nat.lt_of_le_of_ne h.2.2.1 (beq_no e1)⟩) (fun e => ⟨hn2 e, n4⟩) fun out4 ib4 hB4 => ?_
    refine wp_elemI (Nat.lt_of_succ_lt hA.2) fun q' hq' => ?_
    have m6 := lo_pushA hB4.1.1 hq' (hB4.1.2.2.2 q' hq')
    refine wp_ite (fun e => wpS_pure (hR3 _ _ _ ⟨g4, last m6 (beq_yes e)⟩)) fun e => ?_
    have hh : LoI st a b (out4.push q') (ia3 + 1) ib4 1 (ia + ib) st4 := ⟨g4, m6, Nat.lt_of_le_of_ne hA.2 (beq_no e), hB4.2, by have u1 := hz.2.ms; have u2 := hA.1.2.1; have u3 := hB4.1.2.1; lia⟩
    exact wp_ite (fun _ => wpS_pure (hB3 _ _ _ _ _ _ _ hh)) fun _ => wpS_pure (hY3 _ _ _ _ _ _ _ ⟨hg, hh⟩)
end
end Mine

end
section
open PySem PyProof.Rows
set_option Elab.async false
set_option autoImplicit false
set_option linter.unusedVariables false
namespace Mine
set_option maxRecDepth 100000
theorem take_rev {a : Array Keyed} {n : Nat} {p : Keyed} (h1 : 1 ≤ n) (hp : a[n - 1]? = some p) : (a.toList.take n).reverse = p :: (a.toList.take (n - 1)).reverse := by
  obtain ⟨m, rfl⟩ : ∃ m, n = m + 1 := ⟨n - 1, by lia⟩
  rw [Nat.add_sub_cancel] at *
  rw [List.take_add_one, Array.getElem?_toList, hp]
  simp
theorem take_split {α : Type} (l : List α) {i n : Nat} (h : i ≤ n) : l.take n = l.take i ++ (l.take n).drop i := by
  have := List.take_append_drop i (l.take n)
  rw [List.take_take, Nat.min_eq_left h] at this
  exact this.symm
abbrev MHi (a b out : Array Keyed) (na nb : Nat) : Prop := MS geK (a.toList ++ b.toList) out.toList (a.toList.take na).reverse (b.toList.take nb).reverse
theorem good_rev {T r : List Keyed} (h : GoodR geK T r.reverse) : GoodR leK T r := ⟨(List.reverse_perm r).symm.trans h.1, List.pairwise_reverse.mp h.2⟩
theorem head_ge {p q : Keyed} {l : List Keyed} (h : (q :: l).Pairwise geK) (hpq : key q ≤ key p) : ∀ y ∈ q :: l, key y ≤ key p := fun y hy => by
  rcases List.mem_cons.mp hy with rfl | hy
  · exact hpq
  · exact Int.le_trans ((List.pairwise_cons.mp h).1 y hy) hpq
section
variable {a b out : Array Keyed} {na nb : Nat}
theorem hi_pushA {p : Keyed} (h : MHi a b out na nb) (h1 : 1 ≤ na) (hp : a[na - 1]? = some p) (hle : ∀ y ∈ (b.toList.take nb).reverse, key y ≤ key p) : MHi a b (out.push p) (na - 1) nb := by
  unfold MHi at *
  rw [take_rev h1 hp] at h
  rw [Array.toList_push]
  exact MS.moveA (c := [p]) h fun x hx y hy => by simp only [List.mem_singleton] at hx; subst hx; exact hle y hy
theorem hi_pushB {p : Keyed} (h : MHi a b out na nb) (h1 : 1 ≤ nb) (hp : b[nb - 1]? = some p) (hle : ∀ y ∈ (a.toList.take na).reverse, key y ≤ key p) : MHi a b (out.push p) na (nb - 1) := by
  unfold MHi at *
  rw [take_rev h1 hp] at h
  rw [Array.toList_push]
  exact MS.moveB (c := [p]) h fun x hx y hy => by simp only [List.mem_singleton] at hx; subst hx; exact hle y hy
theorem hi_chunkA {i : Nat} (h : MHi a b out na nb) (hi : i ≤ na) (hle : ∀ x ∈ (a.toList.take na).drop i, ∀ y ∈ (b.toList.take nb).reverse, key y ≤ key x) : MHi a b (out ++ (a.extract i na).reverse) i nb := by
  unfold MHi at *
  rw [take_split a.toList hi, List.reverse_append] at h
  rw [Array.toList_append, Array.toList_reverse, ext_toList, ← List.drop_take]
  exact MS.moveA h fun x hx y hy => hle x (List.mem_reverse.mp hx) y hy
theorem hi_chunkB {i : Nat} (h : MHi a b out na nb) (hi : i ≤ nb) (hle : ∀ x ∈ (b.toList.take nb).drop i, ∀ y ∈ (a.toList.take na).reverse, key y ≤ key x) : MHi a b (out ++ (b.extract i nb).reverse) na i := by
  unfold MHi at *
  rw [take_split b.toList hi, List.reverse_append] at h
  rw [Array.toList_append, Array.toList_reverse, ext_toList, ← List.drop_take]
  exact MS.moveB h fun x hx y hy => hle x (List.mem_reverse.mp hx) y hy
theorem ext0 (a : Array Keyed) (n : Nat) : (a.extract 0 n).toList = a.toList.take n := by rw [ext_toList]; simp
theorem hi_doneA (h : MHi a b out na nb) (he : na = 0) : GLo a b (a.extract 0 na ++ b.extract 0 nb ++ out.reverse) := by
  unfold MHi GLo at *
  rw [Array.toList_append, Array.toList_append, ext0, ext0, Array.toList_reverse]
  subst he
  rw [List.take_zero] at h ⊢
  refine good_rev ?_
  rw [List.nil_append, List.reverse_append, List.reverse_reverse]
  exact h.endA
theorem hi_doneB (h : MHi a b out na nb) (he : nb = 0) : GLo a b (a.extract 0 na ++ b.extract 0 nb ++ out.reverse) := by
  unfold MHi GLo at *
  rw [Array.toList_append, Array.toList_append, ext0, ext0, Array.toList_reverse]
  subst he
  rw [List.take_zero] at h ⊢
  refine good_rev ?_
  rw [List.append_nil, List.reverse_append, List.reverse_reverse]
  exact h.endB
theorem hi_first {z : Keyed} (h : MHi a b out na nb) (he : nb = 1) (hz : b[0]? = some z) (hab : ∀ y ∈ a.toList, key z ≤ key y) : GLo a b (b.extract 0 nb ++ a.extract 0 na ++ out.reverse) := by
  unfold MHi GLo at *
  rw [Array.toList_append, Array.toList_append, ext0, ext0, Array.toList_reverse]
  subst he
  have e := take_rev (n := 1) (Nat.le_refl _) hz
  rw [Nat.sub_self, List.take_zero, List.reverse_nil] at e
  refine good_rev ?_
  rw [List.reverse_append, List.reverse_append, List.reverse_reverse, e]
  rw [e] at h
  rw [← List.append_assoc]
  exact h.flip.last fun y hy => hab y (List.mem_of_mem_take (List.mem_reverse.mp hy))
theorem mem_dt {l : List Keyed} {k n : Nat} {x : Keyed} (h : x ∈ (l.take n).drop k) : ∃ i, k ≤ i ∧ i < n ∧ l[i]? = some x := by
  obtain ⟨i, hi⟩ := List.getElem?_of_mem h
  rw [List.getElem?_drop, List.getElem?_take] at hi
  by_cases e : k + i < n
  · rw [if_pos e] at hi; exact ⟨k + i, by lia, e, hi⟩
  · rw [if_neg e] at hi; cases hi
theorem mem_rt {l : List Keyed} {n : Nat} {x : Keyed} (h : x ∈ (l.take n).reverse) : ∃ i, i < n ∧ l[i]? = some x := mem_take_at (List.mem_reverse.mp h)
end
/-- a turn of mergeHi -/
structure HiI (st : SortSt) (a b out : Array Keyed) (na nb y N : Nat) (st' : SortSt) : Prop where
  sg : SG st st'
  m : MHi a b out na nb
  n1 : 1 ≤ na
  n2 : 2 ≤ nb
  la : na ≤ a.size
  lb : nb ≤ b.size
  ms : na + nb + y ≤ N
section
variable {st st' : SortSt} {a b out : Array Keyed} {na nb y N : Nat}
theorem HiI.one (h : HiI st a b out na nb (y + 1) N st') : HiI st a b out na nb 1 N st' := ⟨h.sg, h.m, h.n1, h.n2, h.la, h.lb, by have := h.ms; lia⟩
theorem hi_winA {p q : Keyed} (h : MHi a b out na nb) (h1 : 1 ≤ na) (h2 : 1 ≤ nb) (hp : b[nb - 1]? = some p) (hq : a[na - 1]? = some q) (hl : key p < key q) {q' : Keyed} (hq' : a[na - 1]? = some q') : MHi a b (out.push q') (na - 1) nb := by
  have e := Option.some.inj (hq.symm.trans hq')
  subst e
  exact hi_pushA h h1 hq (by have := h.sb; rw [take_rev h2 hp] at this ⊢; exact head_ge this (Int.le_of_lt hl))
theorem hi_winB {p q : Keyed} (h : MHi a b out na nb) (h1 : 1 ≤ na) (h2 : 1 ≤ nb) (hp : b[nb - 1]? = some p) (hq : a[na - 1]? = some q) (hl : ¬key p < key q) {p' : Keyed} (hp' : b[nb - 1]? = some p') : MHi a b (out.push p') na (nb - 1) := by
  have e := Option.some.inj (hp.symm.trans hp')
  subst e
  exact hi_pushB h h2 hp (by have := h.sa; rw [take_rev h1 hq] at this ⊢; exact head_ge this (Int.not_lt.mp hl))
def HiA (a b out : Array Keyed) (na nb na0 : Nat) : Prop := MHi a b out na nb ∧ na ≤ na0 ∧ ∀ p, b[nb - 1]? = some p → ∀ y ∈ (a.toList.take na).reverse, key y ≤ key p
def HiB (a b out : Array Keyed) (na nb nb0 : Nat) : Prop := MHi a b out na nb ∧ nb ≤ nb0 ∧ ∀ q, a[na - 1]? = some q → ∀ y ∈ (b.toList.take nb).reverse, key y ≤ key q
theorem hi_galA {p : Keyed} {k : Nat} (h : MHi a b out na nb) (h2 : 1 ≤ nb) (hp : b[nb - 1]? = some p) (k1 : k ≤ na) (k2 : ∀ i, i < k → bey false (key p) (K a (0 + i)) = true) (k3 : ∀ i, k ≤ i → i < na → bey false (key p) (K a (0 + i)) = false) :
    HiA a b (out ++ (a.extract k na).reverse) k nb na := by
  refine ⟨hi_chunkA h k1 fun x hx y hy => ?_, k1, fun p' hp' y hy => ?_⟩
  · obtain ⟨i, hi, hi2, hxi⟩ := mem_dt hx
    have := bey_no'.mp (k3 i hi hi2)
    rw [Nat.zero_add, K_key (by rw [← Array.getElem?_toList]; exact hxi)] at this
    have sb' := h.sb
    rw [take_rev h2 hp] at sb' hy
    exact head_ge sb' (Int.le_of_lt this) y hy
  · have e := Option.some.inj (hp.symm.trans hp')
    subst e
    obtain ⟨i, hi, hyi⟩ := mem_rt hy
    have := bey_no.mp (k2 i hi)
    rw [Nat.zero_add, K_key (by rw [← Array.getElem?_toList]; exact hyi)] at this
    exact this
theorem hi_galB {q : Keyed} {k : Nat} (h : MHi a b out na nb) (h1 : 1 ≤ na) (hq : a[na - 1]? = some q) (k1 : k ≤ nb) (k2 : ∀ i, i < k → bey true (key q) (K b (0 + i)) = true) (k3 : ∀ i, k ≤ i → i < nb → bey true (key q) (K b (0 + i)) = false) :
    HiB a b (out ++ (b.extract k nb).reverse) na k nb := by
  refine ⟨hi_chunkB h k1 fun x hx y hy => ?_, k1, fun q' hq' y hy => ?_⟩
  · obtain ⟨i, hi, hi2, hxi⟩ := mem_dt hx
    have := bey_yes'.mp (k3 i hi hi2)
    rw [Nat.zero_add, K_key (by rw [← Array.getElem?_toList]; exact hxi)] at this
    have sa' := h.sa
    rw [take_rev h1 hq] at sa' hy
    exact head_ge sa' this y hy
  · have e := Option.some.inj (hq.symm.trans hq')
    subst e
    obtain ⟨i, hi, hyi⟩ := mem_rt hy
    have := bey_yes.mp (k2 i hi)
    rw [Nat.zero_add, K_key (by rw [← Array.getElem?_toList]; exact hyi)] at this
    exact Int.le_of_lt this
theorem HiA.none {k : Nat} (hk : ¬na - k > 0) (h : MHi a b out na nb) {X : Array Keyed} (hm : HiA a b X k nb na) : HiA a b out na nb na := by
  have e : k = na := by have := hm.2.1; lia
  rw [e] at hm
  exact ⟨h, Nat.le_refl _, hm.2.2⟩
theorem HiB.none {k : Nat} (hk : ¬nb - k > 0) (h : MHi a b out na nb) {X : Array Keyed} (hm : HiB a b X na k nb) : HiB a b out na nb nb := by
  have e : k = nb := by have := hm.2.1; lia
  rw [e] at hm
  exact ⟨h, Nat.le_refl _, hm.2.2⟩
end
section
variable {prog : Program} {w : World} {A : Around} {E : Value → Shared → Prop} {s : Shared}
theorem wp_mergeHi {st : SortSt} {a b : Array Keyed} {Q : Array Keyed → SortSt → Prop} (hk : kindOf st = oneType') (sa : Srt a) (sb : Srt b)
    (ha : 1 ≤ a.size) (hb : 1 ≤ b.size) (hb0 : ∀ y ∈ a.toList, K b 0 ≤ key y) (hab : ∀ y ∈ b.toList, key y ≤ K a (a.size - 1)) (h : ∀ r st', SG st st' → GLo a b r → Q r st') : wpS (model prog w) A E s (mergeHi' a b) Q st := by
  have first : ∀ {out na nb}, MHi a b out na nb → nb = 1 → GLo a b (b.extract 0 nb ++ a.extract 0 na ++ out.reverse) := fun {out na nb} m e => by
    obtain ⟨z, hz, _⟩ := sb.at (i := 0) hb
    refine hi_first m e hz fun y hy => ?_
    rw [← K_key hz]; exact hb0 y hy
  have M : ∀ p0, a[a.size - 1]? = some p0 → MHi a b #[p0] (a.size - 1) b.size := fun p0 hp0 => by
    have m : MHi a b #[] a.size b.size := by
      have ea : a.toList.take a.size = a.toList := List.take_of_length_le (by simp)
      have eb : b.toList.take b.size = b.toList := List.take_of_length_le (by simp)
      unfold MHi
      rw [ea, eb]
      exact ⟨by rw [show (#[] : Array Keyed).toList = [] from rfl, List.nil_append]; exact List.Perm.append (List.reverse_perm _) (List.reverse_perm _), List.Pairwise.nil, List.pairwise_reverse.mpr sa.s, List.pairwise_reverse.mpr sb.s, fun x hx => by simp at hx, fun x hx => by simp at hx⟩
    exact hi_pushA m ha hp0 fun y hy => by rw [← K_key hp0]; exact hab y (List.mem_of_mem_take (List.mem_reverse.mp hy))
  refine wpS_bind (wpS_lift (wpAny_rule ⟨rfl, ?_⟩))
  refine wp_elemI (arr := a) (i := a.size - 1) (Nat.sub_lt ha Nat.one_pos) fun p0 hp0 => ?_
  refine wp_ite (fun e1 => wpS_pure (h _ _ (SG.refl _) (hi_doneA (M p0 hp0) (beq_yes e1)))) fun e1 => ?_
  refine wp_ite (fun e2 => wpS_pure (h _ _ (SG.refl _) (first (M p0 hp0) (beq_yes e2)))) fun e2 => ?_
  refine wpS_bind (wpS_get (wpS_bind ?_))
  have i1 := beq_no e1
  have i2 := beq_no e2
  refine wp_for4 (fun x na nb out mg st' => HiI st a b out na nb x (a.size + b.size - 1) st') (fun r st' => SG st st' ∧ GLo a b r) (fun _ _ _ _ _ => False) ⟨SG.refl _, M p0 hp0, by lia, by lia, by lia, Nat.le_refl _, by lia⟩
    (fun na nb out mg st' hP => by have u1 := hP.n1; have u2 := hP.n2; have u3 := hP.ms; lia) ?_ (fun r v st' hG => wpS_pure (h r st' hG.1 hG.2)) (fun _ _ _ _ _ hB => hB.elim)
  intro x na nb out mg st' hx hP Q' hR hB hY
  refine wpS_bind (wp_for5 (fun y na' nb' out' ac bc st2 => HiI st a b out' na' nb' y (na + nb) st2) (fun r st' => SG st st' ∧ GLo a b r) (fun na' nb' out' ac bc st2 => HiI st a b out' na' nb' 1 (na + nb) st2)
    ⟨hP.sg, hP.m, hP.n1, hP.n2, hP.la, hP.lb, Nat.le_refl _⟩ (fun na' nb' out' ac bc st2 hu => ⟨hu.sg, hu.m, hu.n1, hu.n2, hu.la, hu.lb, by have := hu.ms; lia⟩) ?_ (fun r u st2 hG => wpS_pure (hR r _ st2 hG)) ?_)
  · intro y na' nb' out' ac bc st2 hy hu Q2 hR2 hB2 hY2
    have n0 : 1 ≤ nb' := Nat.le_of_succ_le hu.n2
    have l1 : nb' - 1 < b.size := by have := hu.lb; lia
    have l2 : na' - 1 < a.size := by have := hu.la; have := hu.n1; lia
    refine wp_cmpI (hu.sg.kind.trans hk) sb sa l1 l2 fun p q hp hq => ?_
    refine wp_ite (fun hl => ?_) fun hl => ?_
    · refine wp_elemI l2 fun q' hq' => ?_
      have m2 := hi_winA hu.m hu.n1 n0 hp hq (of_decide_eq_true hl) hq'
      refine wp_ite (fun e => wpS_pure (hR2 _ _ _ ⟨hu.sg, hi_doneA m2 (beq_yes e)⟩)) fun e => ?_
      have hh : HiI st a b (out'.push q') (na' - 1) nb' (y + 1) (na + nb) st2 := ⟨hu.sg, m2, Nat.pos_of_ne_zero (beq_no e), hu.n2, Nat.le_trans (Nat.sub_le _ _) hu.la, hu.lb, by have := hu.ms; have := hu.n1; lia⟩
      exact wp_ite (fun _ => wpS_pure (hB2 _ _ _ _ _ _ hh.one)) fun _ => wpS_pure (hY2 _ _ _ _ _ _ hh)
    · refine wp_elemI l1 fun p' hp' => ?_
      have m2 := hi_winB hu.m hu.n1 n0 hp hq (fun c => hl (decide_eq_true c)) hp'
      refine wp_ite (fun e => wpS_pure (hR2 _ _ _ ⟨hu.sg, first m2 (beq_yes e)⟩)) fun e => ?_
      have hh : HiI st a b (out'.push p') na' (nb' - 1) (y + 1) (na + nb) st2 := ⟨hu.sg, m2, hu.n1, by have u1 : nb' - 1 ≠ 1 := beq_no e; have u2 := hu.n2; lia, hu.la, Nat.le_trans (Nat.sub_le _ _) hu.lb, by have := hu.ms; have := hu.n2; lia⟩
      exact wp_ite (fun _ => wpS_pure (hB2 _ _ _ _ _ _ hh.one)) fun _ => wpS_pure (hY2 _ _ _ _ _ _ hh)
  · intro na1 nb1 out1 ac1 bc1 st2 hu
    refine wpS_bind (wpS_lift (wpAny_rule ⟨rfl, ?_⟩))
    refine wpS_bind (wp_for6 (fun y na' nb' out' mg ac bc st3 => 1 ≤ mg ∧ HiI st a b out' na' nb' 1 (na + nb) st3) (fun r st' => SG st st' ∧ GLo a b r) (fun na' nb' out' mg ac bc st3 => HiI st a b out' na' nb' 1 (na + nb) st3)
      ⟨Nat.le_add_left _ _, hu⟩ (fun na' nb' out' mg ac bc st3 hz => hz.2) ?_ (fun r z st3 hG => wpS_pure (hR r _ st3 hG))
      (fun na' nb' out' mg ac bc st3 hz => wpS_bind (wpS_modify (wpS_pure (hY _ _ _ _ _ ⟨hz.sg.gal _, hz.m, hz.n1, hz.n2, hz.la, hz.lb, by have u1 := hz.ms; have u2 := hP.ms; lia⟩)))))
    intro y na2 nb2 out2 mg2 ac2 bc2 st3 hy hz Q3 hR3 hB3 hY3
    dsimp only
    have hm : mg2 > 1 → 1 ≤ mg2 - 1 := fun h => Nat.le_sub_of_add_le h
    generalize mg2 - 1 = x at hm ⊢
    revert hm
    revert x
    refine wp_mg (fun g => 1 ≤ g) (fun x h c => h c) (fun _ => hz.1) ?_
    intro g hg
    have n0 : 1 ≤ nb2 := Nat.le_of_succ_le hz.2.n2
    have l1 : nb2 - 1 < b.size := by have := hz.2.lb; lia
    refine wp_mod (SG st) (hz.2.sg.gal g) fun st4 g4 => ?_
    refine wp_gal (g4.kind.trans hk) sb sa l1 (by have := hz.2.la; lia) (Nat.sub_lt hz.2.n1 Nat.one_pos) fun p k hp k1 k2 k3 => ?_
    dsimp only
    have hP := hi_galA hz.2.m n0 hp k1 k2 k3
    have hn : ¬na2 - k > 0 → HiA a b out2 na2 nb2 na2 := fun h => HiA.none h hz.2.m hP
    generalize na2 - k = ac at hn ⊢
    generalize out2 ++ (a.extract k na2).reverse = X at hP ⊢
    clear k1 k2 k3
    revert hP
    revert k
    revert X
    refine wp_join (fun out i => HiA a b out i nb2 na2 ∧ 1 ≤ i) (fun X k h e => wpS_pure (hR3 _ _ _ ⟨g4, hi_doneA h.1 (beq_yes e)⟩))
      (fun X k h e => ⟨h, Nat.pos_of_ne_zero (beq_no e)⟩) (fun e => ⟨hn e, hz.2.n1⟩) fun out3 na3 hA => ?_
    refine wp_elemI l1 fun p' hp' => ?_
    have m4 := hi_pushB hA.1.1 n0 hp' (hA.1.2.2 p' hp')
    refine wp_ite (fun e => wpS_pure (hR3 _ _ _ ⟨g4, first m4 (beq_yes e)⟩)) fun e => ?_
    have n4 : 2 ≤ nb2 - 1 := by have u1 := beq_no e; have u2 := hz.2.n2; lia
    have l3 : na3 - 1 < a.size := by have := hz.2.la; have := hA.1.2.1; have := hA.2; lia
    refine wp_gal (g4.kind.trans hk) sa sb l3 (by have := hz.2.lb; lia) (Nat.sub_lt (Nat.le_of_succ_le n4) Nat.one_pos) fun q kk hq kk1 kk2 kk3 => ?_
    dsimp only
    have hP := hi_galB m4 hA.2 hq kk1 kk2 kk3
    have hn2 : ¬nb2 - 1 - kk > 0 → HiB a b (out3.push p') na3 (nb2 - 1) (nb2 - 1) := fun h => HiB.none h m4 hP
    generalize nb2 - 1 - kk = bc at hn2 ⊢
    generalize out3.push p' ++ (b.extract kk (nb2 - 1)).reverse = Y at hP ⊢
    clear kk1 kk2 kk3
    revert hP
    revert kk
    revert Y
    refine wp_join2 (fun out i => HiB a b out na3 i (nb2 - 1) ∧ 2 ≤ i) (fun Y kk h e => wpS_pure (hR3 _ _ _ ⟨g4, first h.1 (beq_yes e)⟩)) (fun Y kk h e => wpS_pure (hR3 _ _ _ ⟨g4, hi_doneB h.1 (beq_yes e)⟩))
      (fun Y kk h e1 e2 => ⟨h, by have u1 := beq_no e1; have u2 := beq_no e2; lia⟩) (fun e => ⟨hn2 e, n4⟩) fun out4 nb4 hB4 => ?_
    refine wp_elemI l3 fun q' hq' => ?_
    have m6 := hi_pushA hB4.1.1 hA.2 hq' (hB4.1.2.2 q' hq')
    refine wp_ite (fun e => wpS_pure (hR3 _ _ _ ⟨g4, hi_doneA m6 (beq_yes e)⟩)) fun e => ?_
    have hh : HiI st a b (out4.push q') (na3 - 1) nb4 1 (na + nb) st4 := ⟨g4, m6, Nat.pos_of_ne_zero (beq_no e), hB4.2, Nat.le_of_lt l3, by have u1 := hB4.1.2.1; have u2 := hz.2.lb; lia, by have u1 := hz.2.ms; have u2 := hA.1.2.1; have u3 := hB4.1.2.1; lia⟩
    exact wp_ite (fun _ => wpS_pure (hB3 _ _ _ _ _ _ _ hh)) fun _ => wpS_pure (hY3 _ _ _ _ _ _ _ ⟨hg, hh⟩)
end
end Mine

end
section
open PySem PyProof.Rows
set_option Elab.async false
set_option autoImplicit false
set_option linter.unusedVariables false
namespace Mine
set_option maxRecDepth 100000
theorem getI {a : Array Keyed} {i : Nat} (h : i < a.size) (hi : ∀ p ∈ a.toList, IntK p) : ∃ p, a[i]? = some p ∧ IntK p := ⟨a[i], by simp [h], hi _ (by simp)⟩
theorem wr_list (o : Nat) : ∀ (l : List Keyed) (a : Array Keyed) (j : Nat), o + j + l.length ≤ a.size →
    ((l.zipIdx j).foldl (fun a (p, j) => a.setIfInBounds (o + j) p) a).toList = a.toList.take (o + j) ++ (l ++ a.toList.drop (o + j + l.length))
  | [], a, j, _ => by simp
  | p :: l, a, j, h => by
    rw [List.length_cons] at h
    rw [List.zipIdx_cons, List.foldl_cons]
    have hl : o + j < a.toList.length := by rw [Array.length_toList]; lia
    rw [wr_list o l (a.setIfInBounds (o + j) p) (j + 1) (by rw [Array.size_setIfInBounds]; lia), Array.toList_setIfInBounds, List.drop_set_of_lt (by lia), ← Nat.add_assoc o j 1,
      List.take_add_one, List.getElem?_set_self hl, List.take_set_of_le (Nat.le_refl _), List.length_cons, show o + j + 1 + l.length = o + j + (l.length + 1) by lia]
    simp
theorem pw_seg {xs : Array Keyed} {lo hi : Nat} (h : ∀ i j, lo ≤ i → i ≤ j → j < hi → K xs i ≤ K xs j) (hh : hi ≤ xs.size) : ((xs.toList.take hi).drop lo).Pairwise leK := by
  refine List.pairwise_iff_getElem.mpr fun i j hi' hj' hij => ?_
  rw [List.length_drop, List.length_take, Array.length_toList] at hi' hj'
  have := h (lo + i) (lo + j) (by lia) (by lia) (by lia)
  rw [K_key (getElem?_pos xs _ (by lia)), K_key (getElem?_pos xs _ (by lia))] at this
  unfold leK
  rw [List.getElem_drop, List.getElem_drop, List.getElem_take, List.getElem_take, Array.getElem_toList, Array.getElem_toList]
  exact this
theorem ext_td (xs : Array Keyed) (i j : Nat) : (xs.extract i j).toList = (xs.toList.take j).drop i := by rw [ext_toList, List.drop_take]
theorem K_ext {xs : Array Keyed} {i j q : Nat} (h : i + q < j) (hj : j ≤ xs.size) : K (xs.extract i j) q = K xs (i + q) := by
  unfold K
  rw [Array.getElem?_extract, if_pos (by lia)]
theorem K_l {xs : Array Keyed} {i : Nat} {x : Keyed} (h : xs.toList[i]? = some x) : K xs i = key x := K_key (by rw [← Array.getElem?_toList]; exact h)
/-- what mergeAt writes back -/
theorem wr_all {xs r ys : Array Keyed} {k n1 m n : Nat} (hn : n = xs.size) (hk : k ≤ n1) (hm : n1 + m ≤ n) (he : ys.toList = xs.toList.take k ++ (r.toList ++ xs.toList.drop (n1 + m)))
    (hr : GLo (xs.extract k n1) (xs.extract n1 (n1 + m)) r) (c1 : ∀ i j, i < k → i ≤ j → j < n → K xs i ≤ K xs j) (c2 : ∀ i j, n1 + m ≤ j → i ≤ j → j < n → K xs i ≤ K xs j) :
    ys.Perm xs ∧ ys.toList.Pairwise leK := by
  subst hn
  have hmid : (xs.extract k n1).toList ++ (xs.extract n1 (n1 + m)).toList = (xs.toList.take (n1 + m)).drop k := by
    rw [ext_td, ext_td]
    conv => rhs; rw [take_split xs.toList (show n1 ≤ n1 + m by lia)]
    rw [List.drop_append_of_le_length]
    rw [List.length_take, Array.length_toList]; lia
  unfold GLo at hr
  rw [hmid] at hr
  obtain ⟨hp, hs⟩ := hr
  have hall : xs.toList = xs.toList.take k ++ ((xs.toList.take (n1 + m)).drop k ++ xs.toList.drop (n1 + m)) := by
    rw [← List.append_assoc, ← take_split xs.toList (show k ≤ n1 + m by lia), List.take_append_drop]
  constructor
  · refine Array.perm_iff_toList_perm.mpr ?_
    rw [he]
    conv => rhs; rw [hall]
    exact List.Perm.append_left _ (List.Perm.append_right _ hp)
  · rw [he]
    have hmem : ∀ x ∈ r.toList, ∃ i, k ≤ i ∧ i < n1 + m ∧ xs.toList[i]? = some x := fun x hx => mem_dt (hp.mem_iff.mp hx)
    have s1 : (xs.toList.take k).Pairwise leK := by
      have := pw_seg (xs := xs) (lo := 0) (hi := k) (fun i j _ h2 h3 => c1 i j (by lia) h2 (by lia)) (by lia)
      rwa [List.drop_zero] at this
    have s2 : (xs.toList.drop (n1 + m)).Pairwise leK := by
      have := pw_seg (xs := xs) (lo := n1 + m) (hi := xs.size) (fun i j h1 h2 h3 => c2 i j (by lia) h2 h3) (Nat.le_refl _)
      rwa [List.take_of_length_le (by simp)] at this
    have hdr : ∀ y ∈ xs.toList.drop (n1 + m), ∃ j, n1 + m ≤ j ∧ j < xs.size ∧ xs.toList[j]? = some y := fun y hy => by
      obtain ⟨i, hi⟩ := List.getElem?_of_mem hy
      rw [List.getElem?_drop] at hi
      exact ⟨n1 + m + i, by lia, by have := (List.getElem?_eq_some_iff.mp hi).1; rwa [Array.length_toList] at this, hi⟩
    refine List.pairwise_append.mpr ⟨s1, List.pairwise_append.mpr ⟨hs, s2, fun x hx y hy => ?_⟩, fun x hx y hy => ?_⟩
    · obtain ⟨i, h1, h2, h3⟩ := hmem x hx
      obtain ⟨j, g1, g2, g3⟩ := hdr y hy
      have := c2 i j g1 (by lia) g2
      rwa [K_l h3, K_l g3] at this
    · obtain ⟨i, h1, h2⟩ := mem_take_at hx
      rcases List.mem_append.mp hy with hy | hy
      · obtain ⟨j, g1, g2, g3⟩ := hmem y hy
        have := c1 i j h1 (by lia) (by lia)
        rwa [K_l h2, K_l g3] at this
      · obtain ⟨j, g1, g2, g3⟩ := hdr y hy
        have := c1 i j h1 (by lia) g2
        rwa [K_l h2, K_l g3] at this
theorem wpS_set' {σ : Type} {M : Model} {A : Around} {E : Value → Shared → Prop} {s : Shared} {x st : σ} {Q : PUnit → σ → Prop} (h : Q ⟨⟩ x) : wpS M A E s (set x : StateT σ Sem PUnit) Q st :=
  wpS_modify (f := fun _ => x) h
theorem wpS_set2 {σ : Type} {M : Model} {A : Around} {E : Value → Shared → Prop} {s : Shared} {x st : σ} {Q : PUnit → σ → Prop} (h : ∀ y, y = x → Q ⟨⟩ y) : wpS M A E s (set x : StateT σ Sem PUnit) Q st :=
  wpS_set' (h x rfl)
section
variable {prog : Program} {w : World} {A : Around} {E : Value → Shared → Prop} {s : Shared} {a₀ : Array Keyed}
theorem wp_mergeAt {st : SortSt} {n1 n2 pw p2 : Nat} {Q : Bool → SortSt → Prop} (h0 : IntKeys a₀) (hB : SB a₀ st) (hp : pendingOf st = #[(0, n1, pw), (n1, n2, p2)]) (h1 : 1 ≤ n1) (h2 : 1 ≤ n2) (hn : n1 + n2 = a₀.size)
    (s1 : SegS (arrOf st) 0 n1) (s2 : SegS (arrOf st) n1 n2) (h : ∀ st', SB a₀ st' → (pendingOf st').size = 1 → SegS (arrOf st') 0 a₀.size → Q true st') : wpS (model prog w) A E s (mergeAt' 0) Q st := by
  have hsz := hB.size
  have hI : ∀ p ∈ (arrOf st).toList, IntK p := fun p hp => h0 p ((Array.perm_iff_toList_perm.mp hB.perm).mem_iff.mp hp)
  refine wpS_bind (wpS_get ?_)
  have hp' := hp
  unfold pendingOf at hp'
  rw [hp']
  dsimp only
  refine wpS_bind (wpS_set2 fun st1 hst1 => ?_)
  have k1 : kindOf st1 = oneType' := by rw [hst1]; exact hB.kind
  have a1 : arrOf st1 = arrOf st := by rw [hst1]
  have f1 : failedOf st1 = none := by rw [hst1]; exact hB.failed
  have q1 : (pendingOf st1).size = 1 := by rw [hst1]; show Array.size (Array.eraseIdxIfInBounds _ _) = 1; unfold Array.eraseIdxIfInBounds; simp
  have B1 : SB a₀ st1 := ⟨by rw [a1]; exact hB.perm, k1, f1⟩
  obtain ⟨p, hpp, ip⟩ := getI (a := arrOf st) (i := n1) (by lia) hI
  refine wpS_bind (wp_elem hpp ?_)
  refine wpS_bind (wp_gallop k1 ip (by lia) (fun i hi => getI (a := arrOf st) (i := 0 + i) (by lia) hI) (fun i j hij hj => s1 _ _ (by lia) (by lia) (by lia)) fun k g1 g2 g3 => ?_)
  dsimp only
  rw [Nat.zero_add]
  simp only [Nat.zero_add, bey_no, bey_no', ← K_key hpp] at g2 g3
  have c1 : ∀ i j, i < k → i ≤ j → j < a₀.size → K (arrOf st) i ≤ K (arrOf st) j := fun i j hi hij hj => by
    by_cases e : j < n1
    · exact s1 i j (by lia) hij (by lia)
    · exact Int.le_trans (g2 i hi) (s2 n1 j (by lia) (by lia) (by lia))
  by_cases e1 : n1 - k = 0
  · rw [if_pos (by simpa using e1)]
    refine wpS_pure (h st1 B1 q1 fun i j _ hij hj => ?_)
    rw [a1]
    by_cases e : i < n1
    · exact c1 i j (by lia) hij (by lia)
    · exact s2 i j (by lia) hij (by lia)
  · rw [if_neg (by simpa using e1)]
    rw [show k + (n1 - k) - 1 = n1 - 1 by lia]
    obtain ⟨q, hq, iq⟩ := getI (a := arrOf st) (i := n1 - 1) (by lia) hI
    refine wpS_bind (wp_elem hq ?_)
    refine wpS_bind (wp_gallop k1 iq (by lia) (fun i hi => getI (a := arrOf st) (i := n1 + i) (by lia) hI) (fun i j hij hj => s2 _ _ (by lia) (by lia) (by lia)) fun m j1 j2 j3 => ?_)
    dsimp only
    simp only [bey_yes, bey_yes', ← K_key hq] at j2 j3
    have c2 : ∀ i j, n1 + m ≤ j → i ≤ j → j < a₀.size → K (arrOf st) i ≤ K (arrOf st) j := fun i j hi hij hj => by
      by_cases e : n1 ≤ i
      · exact s2 i j e hij (by lia)
      · refine Int.le_trans (s1 i (n1 - 1) (by lia) (by lia) (by lia)) ?_
        have := j3 (j - n1) (by lia) (by lia)
        rwa [show n1 + (j - n1) = j by lia] at this
    by_cases e2 : m = 0
    · rw [if_pos (by simpa using e2)]
      refine wpS_pure (h st1 B1 q1 fun i j _ hij hj => ?_)
      rw [a1]
      by_cases e : n1 ≤ j
      · exact c2 i j (by lia) hij (by lia)
      · exact s1 i j (by lia) hij (by lia)
    · rw [if_neg (by simpa using e2)]
      have hmem : ∀ {x : Keyed} {i j : Nat}, x ∈ ((arrOf st).extract i j).toList → ∃ q, i ≤ q ∧ q < j ∧ (arrOf st).toList[q]? = some x := fun {x i j} hx => by
        rw [ext_td] at hx; exact mem_dt hx
      have hint : ∀ {i j : Nat}, ∀ p ∈ ((arrOf st).extract i j).toList, IntK p := fun {i j} p hp => by
        obtain ⟨q, _, _, hq⟩ := hmem hp
        exact hI p (List.mem_of_getElem? hq)
      have sA : ((arrOf st).extract k n1).toList.Pairwise leK := by rw [ext_td]; exact pw_seg (fun i j g h g' => s1 i j (by lia) h (by lia)) (by lia)
      have sB : ((arrOf st).extract n1 (n1 + m)).toList.Pairwise leK := by rw [ext_td]; exact pw_seg (fun i j g h g' => s2 i j (by lia) h (by lia)) (by lia)
      have zA : ((arrOf st).extract k n1).size = n1 - k := by rw [Array.size_extract]; lia
      have zB : ((arrOf st).extract n1 (n1 + m)).size = m := by rw [Array.size_extract]; lia
      have hb0 : ∀ y ∈ ((arrOf st).extract k n1).toList, K ((arrOf st).extract n1 (n1 + m)) 0 ≤ key y := fun y hy => by
        obtain ⟨i, u1, u2, u3⟩ := hmem hy
        rw [K_ext (by lia) (by lia), ← K_l u3]
        exact Int.le_of_lt (g3 i u1 u2)
      have hab : ∀ y ∈ ((arrOf st).extract n1 (n1 + m)).toList, key y ≤ K ((arrOf st).extract k n1) (((arrOf st).extract k n1).size - 1) := fun y hy => by
        obtain ⟨i, u1, u2, u3⟩ := hmem hy
        rw [zA, K_ext (by lia) (by lia), ← K_l u3, show k + (n1 - k - 1) = n1 - 1 by lia]
        have := j2 (i - n1) (by lia)
        rw [show n1 + (i - n1) = i by lia] at this
        exact Int.le_of_lt this
      have fin : ∀ r st', SG st1 st' → GLo ((arrOf st).extract k n1) ((arrOf st).extract n1 (n1 + m)) r →
          Q (failedOf (setArr st' (r.toList.zipIdx.foldl (fun a (p, j) => a.setIfInBounds (k + j) p) (arrOf st')))).isNone (setArr st' (r.toList.zipIdx.foldl (fun a (p, j) => a.setIfInBounds (k + j) p) (arrOf st'))) := fun r st' hg hr => by
        have e1 : arrOf st' = arrOf st := hg.arr.trans a1
        have hlen : r.toList.length = n1 + m - k := by
          rw [hr.1.length_eq, List.length_append, Array.length_toList, Array.length_toList, zA, zB]; lia
        have he := wr_list k r.toList (arrOf st) 0 (by lia)
        rw [Nat.add_zero, hlen, show k + (n1 + m - k) = n1 + m by lia] at he
        obtain ⟨w1, w2⟩ := wr_all (n := a₀.size) (by lia) (by lia) (by lia) he hr c1 c2
        rw [e1]
        have fn : failedOf st' = none := hg.failed.trans f1
        have hf : ∀ xs, (failedOf (setArr st' xs)).isNone = true := fun xs => by show (failedOf st').isNone = true; rw [fn]; rfl
        rw [hf]
        refine h _ ⟨w1.trans hB.perm, hg.kind.trans k1, fn⟩ (by show (pendingOf st').size = 1; rw [hg.pend, q1]) fun i j _ hij hj => ?_
        refine K_srt w2 hij ?_
        have := w1.size_eq
        show j < Array.size _
        lia
      by_cases hle : n1 - k ≤ m
      · rw [if_pos hle]
        exact wpS_bind (wp_mergeLo (a := (arrOf st).extract k n1) (b := (arrOf st).extract n1 (n1 + m)) k1 ⟨hint, sA⟩ ⟨hint, sB⟩ (by lia) (by lia) hb0 hab fun r st' hg hr => wpS_bind (wpS_modify (wpS_bind (wpS_get (wpS_pure (fin r st' hg hr))))))
      · rw [if_neg hle]
        exact wpS_bind (wp_mergeHi (a := (arrOf st).extract k n1) (b := (arrOf st).extract n1 (n1 + m)) k1 ⟨hint, sA⟩ ⟨hint, sB⟩ (by lia) (by lia) hb0 hab fun r st' hg hr => wpS_bind (wpS_modify (wpS_bind (wpS_get (wpS_pure (fin r st' hg hr))))))
end
end Mine

end
section
open PySem PyProof.Rows
set_option Elab.async false
set_option autoImplicit false
set_option linter.unusedVariables false
namespace Mine
set_option maxRecDepth 100000
theorem minrun66 {n : Nat} (h1 : 64 ≤ n) (h2 : n ≤ 66) : ∃ m, minRun' n n 0 = m ∧ 2 ≤ m ∧ m ≤ n ∧ n ≤ m + m := by
  have hc : n = 64 ∨ n = 65 ∨ n = 66 := by lia
  rcases hc with rfl | rfl | rfl
  · exact ⟨32, by rw [minRun'_succ, if_neg (by lia), minRun'_succ, if_pos (by lia)]; decide, by lia, by lia, by lia⟩
  · exact ⟨33, by rw [minRun'_succ, if_neg (by lia), minRun'_succ, if_pos (by lia)]; decide, by lia, by lia, by lia⟩
  · exact ⟨33, by rw [minRun'_succ, if_neg (by lia), minRun'_succ, if_pos (by lia)]; decide, by lia, by lia, by lia⟩
theorem SegS.keep {xs ys : Array Keyed} {m lo : Nat} (h : SegS xs 0 m) (hm : m ≤ lo) (he : ∀ i, i < lo → K ys i = K xs i) : SegS ys 0 m := fun i j a b c => by
  rw [he i (by lia), he j (by lia)]; exact h i j a b c
theorem SB.setP {a₀ : Array Keyed} {st : SortSt} (h : SB a₀ st) {p : Array (Nat × Nat × Nat)} : SB a₀ (setPending st p) := ⟨h.perm, h.kind, h.failed⟩
theorem pend_two (n pw q N : Nat) : ((#[(0, n, pw)] : Array (Nat × Nat × Nat)).modify ((#[(0, n, pw)] : Array (Nat × Nat × Nat)).size - 1) fun x => (x.1, x.2.1, q)).push (n, N, 0) = #[(0, n, q), (n, N, 0)] := by
  simp
/-- ahead of a turn of the run loop, and behind the loop -/
def Two (a₀ : Array Keyed) (mr : Nat) (st : SortSt) : Prop := ∃ n n2 pw p2, mr ≤ n ∧ 1 ≤ n2 ∧ n + n2 = a₀.size ∧ pendingOf st = #[(0, n, pw), (n, n2, p2)] ∧ SegS (arrOf st) 0 n ∧ SegS (arrOf st) n n2
def One (mr lo : Nat) (st : SortSt) : Prop := mr ≤ lo ∧ ∃ pw, pendingOf st = #[(0, lo, pw)] ∧ SegS (arrOf st) 0 lo
def RunP (a₀ : Array Keyed) (mr x lo : Nat) (st : SortSt) : Prop := SB a₀ st ∧ lo ≤ a₀.size ∧ ((x = 0 ∧ lo = 0 ∧ pendingOf st = #[]) ∨ (x = 1 ∧ One mr lo st) ∨ (lo = a₀.size ∧ Two a₀ mr st))
def RunE (a₀ : Array Keyed) (mr : Nat) (st : SortSt) : Prop := SB a₀ st ∧ (One mr a₀.size st ∨ Two a₀ mr st)
theorem RunP.stop {a₀ : Array Keyed} {mr x lo : Nat} {st : SortSt} (h : RunP a₀ mr x lo st) (hge : lo ≥ a₀.size) (h64 : 64 ≤ a₀.size) : RunE a₀ mr st := by
  obtain ⟨B, hl, ⟨_, e, _⟩ | ⟨_, o⟩ | ⟨_, t⟩⟩ := h
  · lia
  · have e : lo = a₀.size := Nat.le_antisymm hl hge
    subst e
    exact ⟨B, .inl o⟩
  · exact ⟨B, .inr t⟩
theorem RunP.fin {a₀ : Array Keyed} {mr lo : Nat} {st : SortSt} (h : RunP a₀ mr a₀.size lo st) (h64 : 64 ≤ a₀.size) : RunE a₀ mr st := by
  obtain ⟨B, hl, ⟨e, _⟩ | ⟨e, o⟩ | ⟨_, t⟩⟩ := h
  · lia
  · lia
  · exact ⟨B, .inr t⟩
/-- a run of n items from lo is there -/
structure Run (a₀ : Array Keyed) (mr lo n : Nat) (st st' : SortSt) : Prop where
  b : SB a₀ st'
  l : Left lo st st'
  s : SegS (arrOf st') lo n
  g : mr ≤ n ∨ lo + n = a₀.size
  h : lo + n ≤ a₀.size
  p : 1 ≤ n
theorem Run.first {a₀ : Array Keyed} {mr n : Nat} {st st' : SortSt} (h : Run a₀ mr 0 n st st') (hm : mr ≤ a₀.size) (hp : pendingOf st = #[]) : RunP a₀ mr 1 (0 + n) (setPending st' ((pendingOf st').push (0, n, 0))) := by
  refine ⟨h.b.setP, h.h, .inr (.inl ⟨rfl, by have := h.g; lia, 0, ?_, by rw [Nat.zero_add]; exact h.s⟩)⟩
  show (pendingOf st').push _ = _
  rw [h.l.pend, hp, Nat.zero_add]; rfl
theorem Run.second {a₀ : Array Keyed} {mr lo n x pw q : Nat} {st st' : SortSt} (h : Run a₀ mr lo n st st') (hm : a₀.size ≤ mr + mr) (hlo : mr ≤ lo) (hp : pendingOf st = #[(0, lo, pw)]) (s1 : SegS (arrOf st) 0 lo) :
    RunP a₀ mr x (lo + n) (setPending (setPending st' ((pendingOf st').modify ((pendingOf st').size - 1) fun x => (x.1, x.2.1, q))) (((pendingOf st').modify ((pendingOf st').size - 1) fun x => (x.1, x.2.1, q)).push (lo, n, 0))) := by
  have e : lo + n = a₀.size := by have := h.g; have := h.h; lia
  refine ⟨h.b.setP.setP, h.h, .inr (.inr ⟨e, lo, n, q, 0, hlo, h.p, e, ?_, s1.keep (Nat.le_refl _) h.l.low, h.s⟩)⟩
  show ((pendingOf st').modify ((pendingOf st').size - 1) _).push _ = _
  rw [h.l.pend, hp]
  exact pend_two _ _ _ _
section
variable {prog : Program} {w : World} {A : Around} {E : Value → Shared → Prop} {s : Shared} {a₀ : Array Keyed}
theorem wp_ins {δ : Type} {st st2 : SortSt} {mr lo : Nat} {r : String} {J : Nat → StateT SortSt Sem δ} {D : StateT SortSt Sem δ} {Q : δ → SortSt → Prop} (h0 : IntKeys a₀) (hB : SB a₀ st2) (hL : Left lo st st2) (hlo : lo < a₀.size) (hm : 1 ≤ mr)
    (hJ : ∀ y st', Run a₀ mr lo y st st' → wpS (model prog w) A E s (J y) Q st') : ∀ n m, n = min (a₀.size - lo) mr ∧ 1 ≤ m ∧ m ≤ a₀.size - lo ∧ SegS (arrOf st2) lo m →
    wpS (model prog w) A E s (if m < mr then (liftM (rule r) : StateT SortSt Sem PUnit) >>= fun _ => binarySort' lo n m >>= fun b => if (!b) = true then D else J n else J m) Q st2 := fun n m ⟨en, u1, u2, u3⟩ => by
  refine wp_ite (fun hlt => ?_) fun hge => ?_
  · exact wpS_bind (wpS_lift (wpAny_rule ⟨rfl, wpS_bind (wp_binarySort h0 (by lia) (by lia) hB u3 fun st3 B3 L3 s3 => wp_neg (by simp) (hJ n st3 ⟨B3, ⟨L3.pend.trans hL.pend, fun i hi => (L3.low i hi).trans (hL.low i hi)⟩, s3, by lia, by lia, by lia⟩))⟩))
  · exact hJ m st2 ⟨hB, hL, u3, .inl (Nat.not_lt.mp hge), by lia, u1⟩
theorem wp_sortRuns66 {st : SortSt} {Q : Unit → SortSt → Prop} (h0 : IntKeys a₀) (hj : KInj a₀) (hB : SB a₀ st) (hp : pendingOf st = #[]) (h64 : 64 ≤ a₀.size) (h66 : a₀.size ≤ 66)
    (h : ∀ st', (arrOf st').Perm a₀ → failedOf st' = none → SortedTo (arrOf st') a₀.size → Q () st') : wpS (model prog w) A E s sortRuns' Q st := by
  obtain ⟨mr, em, m1, m2, m3⟩ := minrun66 h64 h66
  rw [sortRuns'_eq]
  refine wpS_bind (wpS_get ?_)
  dsimp only
  simp only [hB.size, em]
  refine wpS_bind (wp_for (fun x lo st' => RunP a₀ mr x lo st') (fun _ _ => False) (fun lo st' => RunE a₀ mr st') ⟨hB, Nat.zero_le _, .inl ⟨rfl, rfl, hp⟩⟩ (fun lo st' hP => hP.fin h64) ?_ (fun _ _ _ hG => hG.elim) ?_)
  · intro x lo st1 hx hP Q' hR hB' hY
    dsimp only
    refine wp_ite (fun hge => wpS_pure (hB' _ _ (hP.stop hge h64))) fun hlt => ?_
    have hlo : lo < a₀.size := Nat.not_le.mp hlt
    refine wpS_bind (wp_countRun h0 hj (by lia) (by lia) hP.1 fun m st2 B2 L2 j1 j2 s2 => ?_)
    dsimp only
    have hq : min (a₀.size - lo) mr = min (a₀.size - lo) mr ∧ 1 ≤ m ∧ m ≤ a₀.size - lo ∧ SegS (arrOf st2) lo m := ⟨rfl, j1, j2, s2⟩
    clear j1 j2 s2
    generalize hf : min (a₀.size - lo) mr = force at ⊢
    have hq' : force = min (a₀.size - lo) mr ∧ 1 ≤ m ∧ m ≤ a₀.size - lo ∧ SegS (arrOf st2) lo m := ⟨hf.symm, hq.2⟩
    clear hf hq
    revert hq'
    revert m
    revert force
    refine wp_ins h0 B2 L2 hlo (Nat.le_of_succ_le m1) fun n st3 hr => ?_
    clear B2 L2
    refine wpS_bind (wpS_get ?_)
    rcases hP.2.2 with ⟨ex, el, ep⟩ | ⟨ex, hlo2, pw, ep, s1⟩ | ⟨el, _⟩
    · subst el
      have hb : (pendingOf st3).back? = none := by rw [hr.l.pend, ep]; rfl
      rw [hb]
      have hh := hr.first m2 ep
      rw [ex] at hY
      exact wpS_bind (wpS_modify (wpS_pure (hY _ _ hh)))
    · have hb : (pendingOf st3).back? = some (0, lo, pw) := by rw [hr.l.pend, ep]; rfl
      rw [hb]
      refine wpS_bind (wp_for (fun _ _ st4 => st4 = st3) (fun _ _ => False) (fun _ st4 => st4 = st3) rfl (fun _ _ h => h) ?_ (fun _ _ _ hG => hG.elim) ?_)
      · intro y v st4 _ e Q4 _ hB4 _
        subst e
        refine wpS_bind (wpS_get ?_)
        rw [if_neg (by rw [hr.l.pend, ep]; show ¬ 1 > 1; lia)]
        exact wpS_pure (hB4 _ _ rfl)
      · intro v st4 e
        subst e
        exact wpS_bind (wpS_modify (wpS_bind (wpS_modify (wpS_pure (hY _ _ (hr.second m3 hlo2 ep s1))))))
    · exact absurd el (Nat.ne_of_lt hlo)
  · intro lo st1 hE
    refine wpS_bind (wp_for (fun x _ st2 => SB a₀ st2 ∧ (((pendingOf st2).size ≤ 1 ∧ SegS (arrOf st2) 0 a₀.size) ∨ (x = 0 ∧ Two a₀ mr st2))) (fun _ _ => False) (fun _ st2 => SB a₀ st2 ∧ SegS (arrOf st2) 0 a₀.size) ?_ (fun _ st2 hP => ⟨hP.1, ?_⟩) ?_ (fun _ _ _ hG => hG.elim) ?_)
    · rcases hE with ⟨B, ⟨_, pw, ep, s1⟩ | ht⟩
      · exact ⟨B, .inl ⟨by rw [ep]; exact Nat.le_refl 1, s1⟩⟩
      · exact ⟨B, .inr ⟨rfl, ht⟩⟩
    · rcases hP.2 with ⟨_, s2⟩ | ⟨e, _⟩
      · exact s2
      · exfalso; lia
    · intro x v st2 hx hP Q2 hR2 hB2 hY2
      refine wpS_bind (wpS_get ?_)
      rcases hP.2 with ⟨hz, s2⟩ | ⟨_, n, n2, pw, p2, g1, g2, g3, ep, s1, s2⟩
      · exact wp_pos hz (wpS_pure (hB2 _ _ ⟨hP.1, s2⟩))
      · refine wp_neg (by rw [ep]; show ¬ 2 ≤ 1; lia) ?_
        simp only [ep]
        refine wpS_bind (?_ : wpS _ _ _ _ (mergeAt' 0) _ st2)
        exact wp_mergeAt h0 hP.1 ep (by lia) g2 g3 s1 s2 fun st3 B3 z3 s3 => wpS_pure (hY2 _ _ ⟨B3, .inl ⟨Nat.le_of_eq z3, s3⟩⟩)
    · intro v st2 hE2
      exact wpS_pure (h st2 hE2.1.perm hE2.1.failed fun i j hij hj => hE2.2 i j (Nat.zero_le _) hij (by rw [Nat.zero_add]; exact hj))
end
end Mine

end
section
open PySem PyProof.Rows
set_option Elab.async false
set_option autoImplicit false
set_option linter.unusedVariables false
namespace Mine
set_option maxRecDepth 100000
theorem kinj_of {vs : List Value} {ns : List Int} (hI : IntsAre vs ns) (hn : ns.Nodup) : KInj (pairsOf vs) := by
  unfold KInj
  have e : (pairsOf vs).toList.map key = ns := by
    rw [pairsOf_toList, ← hI.nums]
    have h2 : ((vs.zip vs).map Prod.fst).map numOf = vs.map numOf := by rw [List.map_fst_zip (Nat.le_refl _)]
    rw [List.map_map] at h2
    exact h2
  rw [e]; exact hn
section
variable {prog : Program} {w : World} {A : Around} {E : Value → Shared → Prop} {s : Shared}
/-- the list's own sort, from 64 to 66 ints, no two alike -/
theorem sort66 {a : Addr} {vs : List Value} {ns : List Int} {n : Nat} {P : Fin → Shared → Prop} (ho : s.heap.get? a = some (seqObj "list" vs.toArray n)) (hI : IntsAre vs ns) (hn : ns.Nodup) (h64 : 64 ≤ vs.length) (h66 : vs.length ≤ 66)
    (h : ∀ (out : Array Value) (ns' : List Int), IntsAre out.toList ns' → ns'.Perm ns → ns'.Pairwise (· ≤ ·) → P (.done (.ret .none)) { s with heap := sortedHeap s.heap a vs out }) :
    wpAny (model prog w) A (Builtin.«list.sort» ⟨[.ref a], []⟩) P E s := by
  have sl : (66 : Nat) ≤ sizeLine := by decide +kernel
  have ha : a < s.heap.objs.size := Heap.lt_size ho
  rw [list_sort_plain]
  obtain ⟨e1, h1⟩ : ∃ e1, (s.heap.update a (Obj.mapSeq fun _ => #[])).get? a = some (seqObj "list" #[] e1) := ⟨_, get?_update_seq ho (fun _ => #[])⟩
  have h3 : (((s.heap.update a (Obj.mapSeq fun _ => #[])).push (seqObj "tuple" vs.toArray 0)).push (seqObj "list" #[] 0)).get? a = some (seqObj "list" #[] e1) :=
    Heap.get?_push_of_some _ (Heap.get?_push_of_some _ h1)
  refine wpAny_bind (listItems_at ho rfl (wpAny_bind (listUpdate_at ho rfl (wpAny_bind (seqEpoch_at h1 rfl (wpAny_bind (wpAny_newTuple (wpAny_bind (wpAny_newList (wpAny_holding ?_)))))))
    (hsz := by rw [List.size_toArray]; lia) (hsz2 := Nat.zero_le _))))
  show wpAny (model prog w) A _ P E { s with heap := ((s.heap.update a (Obj.mapSeq fun _ => #[])).push (seqObj "tuple" vs.toArray 0)).push (seqObj "list" #[] 0) }
  dsimp only
  have hsz : vs.toArray.size = vs.length := List.size_toArray ..
  rw [if_neg (by lia), if_neg (by lia)]
  have hkk : keyKind' vs.toArray = pure oneType' := by
    match vs, h64, hI with
    | v :: u :: r, _, hI => exact keyKind_ints hI
  rw [hkk]
  refine wpAny_bind (wpAny_pure ?_)
  refine wpAny_bind (wpAny_mono (wp_sortRuns66 (a₀ := pairsOf vs) (st := SortSt.mk' oneType' (vs.toArray.zip vs.toArray) #[] 7 none)
    (Q := fun _ st' => (arrOf st').Perm (pairsOf vs) ∧ failedOf st' = none ∧ SortedTo (arrOf st') (pairsOf vs).size)
    hI.intKeys (kinj_of hI hn) ⟨Array.Perm.refl _, rfl, rfl⟩ rfl (by rw [pairsOf_size]; exact h64) (by rw [pairsOf_size]; exact h66) fun st' a1 a2 a3 => ⟨a1, a2, a3⟩) ?_ fun _ _ e => e)
  rintro ⟨⟨⟩, st'⟩ s' ⟨rfl, hp, hf, hs⟩
  dsimp only
  obtain ⟨ns', q1, q2, q3⟩ := sorted_out hI hp hs
  have hsm : ((arrOf st').map (·.2)).size ≤ sizeLine + 1 := by
    rw [Array.size_map, hp.size_eq, pairsOf_size]; lia
  refine wpAny_bind (seqEpoch_at h3 rfl (wpAny_bind (listUpdate_at h3 rfl ?_ (hsz := Nat.zero_le _) (hsz2 := hsm))))
  rw [hf]
  simp only [bne_self_eq_false, Bool.false_eq_true, if_false]
  exact wpAny_pure (h _ ns' q1 q2 q3)
theorem sorted66 {l : Addr} {vs : List Value} {ns : List Int} {Q : Value → Shared → Prop} (hl : s.heap.IsList l vs.toArray) (hI : IntsAre vs ns) (hn : ns.Nodup) (h64 : 64 ≤ vs.length) (h66 : vs.length ≤ 66)
    (h : ∀ (out : Array Value) (ns' : List Int), IntsAre out.toList ns' → ns'.Perm ns → ns'.Pairwise (· ≤ ·) → Q (.ref (s.heap.objs.size + 1)) { s with heap := sortedAll s.heap vs out }) :
    wpAny (model prog w) A (call (.builtin "sorted") [.ref l]) Q E s := by
  have sl : (66 : Nat) ≤ sizeLine := by decide +kernel
  have hsz : ((s.heap.push (seqObj "list" #[] 0)).update s.heap.objs.size (Obj.mapSeq (· ++ vs.toArray))).objs.size = s.heap.objs.size + 1 := by
    rw [Heap.size_update, size_push']
  have ho : (((s.heap.push (seqObj "list" #[] 0)).update s.heap.objs.size (Obj.mapSeq (· ++ vs.toArray))).push (seqObj "list" vs.toArray 0)).get? (s.heap.objs.size + 1) = some (seqObj "list" vs.toArray 0) := by
    rw [← hsz]; exact Heap.get?_push_size _ rfl
  refine Calls.call_function_entry kind_sorted plain_sorted entry_sorted (args_sorted1 _) ?_
  unfold Builtin.«sorted»
  refine wpAny_bind (m := checkCount "sorted" 1 1 _) (wpAny_pure (wpAny_bind (collect_list hl (wpAny_bind (wpAny_newList ?_)) (by lia))))
  show wpAny _ _ _ _ _ { s with heap := ((s.heap.push (seqObj "list" #[] 0)).update s.heap.objs.size (Obj.mapSeq (· ++ vs.toArray))).push (seqObj "list" vs.toArray 0) }
  rw [hsz]
  exact wpAny_bind (wpAny_holding (wpAny_call_entry slot_list_sort ⟨_, ho, rfl⟩ entry_list_sort (sort66 ho hI hn h64 h66 fun out ns' a1 a2 a3 => ⟨_, rfl, wpAny_pure ⟨_, rfl, h out ns' a1 a2 a3⟩⟩) (args_list_sort _)))
end
theorem sortedTo66 (C : Cfg) (l : List Int) (hn : l.Nodup) (h66 : l.length ≤ 66) : CallOk C (.builtin "sorted") [.list (l.map .int)] (.list ((sortL ltI l).map .int)) := by
  by_cases h64 : l.length < 64
  · exact call_sortI h64
  intro P s cvs hL H
  obtain ⟨c, rfl, V⟩ := vrs_one H
  simp only [VR] at V; obtain ⟨a, vs, rfl, _, hl, hr⟩ := V
  have hI := vrs_ints.mp hr
  intro E Q k
  refine sorted66 hl hI hn (by rw [hI.length]; lia) (by rw [hI.length]; lia) fun out ns'' a1 a2 a3 => ?_
  have e : ns'' = sortL ltI l := List.Perm.eq_of_pairwise (fun x y _ _ h1 h2 => Int.le_antisymm h1 h2) a3 (sortI_pw l) (a2.trans (sortL_perm l).symm)
  subst e
  obtain ⟨ep, he⟩ := sortedAll_at s.heap vs out
  refine k _ _ (Grow.of (tk := s.toks) fun b o e => sortedAll_old e) ?_
  simp only [VR]; exact ⟨_, out.toList, rfl, hL.new (Nat.le_succ _), ⟨_, he, rfl, _, rfl⟩, vrs_ints.mpr a1⟩
end Mine

end
section
open PySem PyProof.Rows
set_option Elab.async false
set_option autoImplicit false
set_option linter.unusedVariables false
namespace Mine
set_option maxRecDepth 100000
section
variable {w : World} {base : Heap} {mg mb : Str → Option Value} (gl : base.Ns mainGlobals mg) (bl : base.Ns builtinsNs mb) (lim : base.NoLimit) (N : Names mg mb)
include gl bl lim N
theorem f_parts (hso : mg "sorted" = none ∧ mb "sorted" = some (.builtin "sorted")) (hse : mg "set" = none ∧ mb "set" = some (.type "set")) (hln : mg "len" = none ∧ mb "len" = some (.builtin "len"))
    {fa fd : Addr} {o od : Obj} {r rd : FdRest} (FD : FnAt base mg (fnSt PW 26) "sorted_list_difference" ["expected", "actual"] fd od rd) (F : FnAt base mg (fnSt PW 29) "_law_parts" ["places", "steps"] fa o r)
    (V S : List Int) (M : Nat) (hS : Steps S) (hV : V.Pairwise (· < ·)) (h0 : ∀ x ∈ V, 0 ≤ x ∧ x < M) (hVl : V.length ≤ 66) (hSl : S.length ≤ 8) : FnOk PW w base fa 2 [.list (V.map .int), .tuple (S.map .int)] (iN (cnt M (inV V) S)) := by
  refine F.ok gl bl lim (by simp only [List.mem_cons, List.not_mem_nil, or_false, forall_eq_or_imp, forall_eq]; decide +kernel) (by decide +kernel) rfl rfl rfl rfl fun Ar fls P₀ L K R => ?_
  conv => arg 3; whnf
  have st : ∀ x, (fnScope (fnSt PW 29)).names.lookup x = some .local → Storable (fnCfg PW w base mg mb Ar fls P₀ (fnSt PW 29) r L fa) x := fun x h => .inl h
  have gso : GlobB (fnCfg PW w base mg mb Ar fls P₀ (fnSt PW 29) r L fa) "sorted" (.builtin "sorted") := ⟨by kernel_rfl, hso⟩
  have gse : GlobB (fnCfg PW w base mg mb Ar fls P₀ (fnSt PW 29) r L fa) "set" (.type "set") := ⟨by kernel_rfl, hse⟩
  have gln : GlobB (fnCfg PW w base mg mb Ar fls P₀ (fnSt PW 29) r L fa) "len" (.builtin "len") := ⟨by kernel_rfl, hln⟩
  have gsd : GlobG (fnCfg PW w base mg mb Ar fls P₀ (fnSt PW 29) r L fa) "sorted_list_difference" (.ref fd) := ⟨by kernel_rfl, FD.glob⟩
  have hbase : (fnCfg PW w base mg mb Ar fls P₀ (fnSt PW 29) r L fa).base = base := rfl
  have hprog : (fnCfg PW w base mg mb Ar fls P₀ (fnSt PW 29) r L fa).prog = PW := rfl
  have hw : (fnCfg PW w base mg mb Ar fls P₀ (fnSt PW 29) r L fa).w = w := rfl
  generalize hC : fnCfg PW w base mg mb Ar fls P₀ (fnSt PW 29) r L fa = C at *
  have stc := st "count" (by decide +kernel)
  have stl := st "left" (by decide +kernel)
  have stf := st "free" (by decide +kernel)
  have stp := st "part" (by decide +kernel)
  have stj := st "j" (by decide +kernel)
  have sts := st "step" (by decide +kernel)
  have stg := st "strange" (by decide +kernel)
  have hH : C.A.handled = none := R.handled
  have sz : (1000 : Nat) ≤ sizeLine := by decide +kernel
  have sb : (200 : Nat) + 1 < scanBound := by decide +kernel
  have rm1 : Room C.A 1 := ⟨hH, by have := R.depth; lia, by have := R.units; lia⟩
  have hu : C.A.units + 64 < cLine := by have := R.units; lia
  refine xs_cons (x1_set (v := iN 0) (σ' := ⟨[("places", .list (V.map .int)), ("steps", .tuple (S.map .int)), ("count", iN 0)], []⟩) K ev_int stc (by kernel_rfl) ?_ rfl)
  refine xs_cons (x1_set (σ' := ⟨[("places", .list (V.map .int)), ("steps", .tuple (S.map .int)), ("count", iN 0), ("left", .list (V.map .int))], []⟩) K (ev_name K m0 (by decide +kernel)) stl (by kernel_rfl) ?_ rfl)
  refine xs_cons (x1_while K (.inl fun _ _ h => h) (fun n σ => ∃ left c, PtO M V S left c ∧ left.length ≤ 66 ∧ n = left.length ∧ σ = ⟨[("places", .list (V.map .int)), ("steps", .tuple (S.map .int)), ("count", iN c), ("left", .list (left.map .int))], []⟩) ?_ _ ⟨V, 0, pto_start hV, hVl, rfl, rfl⟩)
  rintro n σ ⟨left, c, O, hll, rfl, rfl⟩
  refine ⟨some (!decide (left = [])), (eb_cmp (ev_name K m3 (by decide +kernel)).weak (ev_list evs_nil (Nat.zero_le _)).weak (cmp_neI (ms := []) hu) rfl).et, fun hb => ?_, fun hb => ?_, fun q => (nomatch q)⟩
  · have hne : left ≠ [] := fun q => by rw [q] at hb; cases hb
    obtain ⟨x0, rl, el⟩ := List.exists_cons_of_ne_nil hne
    have hx0 : x0 ∈ left := by rw [el]; exact .head _
    have g0 : (left.map AVal.int)[0]? = some (.int x0) := by rw [el]; rfl
    have I0 := pti_start O el
    have nl : left.Nodup := pw_nodupI O.srt
    refine xs_cons (x1_own (σ' := ⟨[("places", .list (V.map .int)), ("steps", .tuple (S.map .int)), ("count", iN c), ("left", .list (left.map .int))], [("free", .setI left)]⟩) K (evf_setI K hH gse (ev_name K m3 (by decide +kernel)).weak (fun _ _ => rfl) nl (by lia)) stf (by kernel_rfl) ?_ rfl)
    refine xs_cons (x1_own (v := .list ([x0].map .int)) (σ' := ⟨[("places", .list (V.map .int)), ("steps", .tuple (S.map .int)), ("count", iN c), ("left", .list (left.map .int))], [("part", .list ([x0].map .int)), ("free", .setI left)]⟩) K (evf_list (evs_cons (ev_itemK (k := 0) (ev_name K m3 (by decide +kernel)) (by decide) g0) evs_nil (fun _ _ => rfl)) (by simp only [List.map_cons, List.map_nil, List.length_cons, List.length_nil]; lia)) stp (by kernel_rfl) ?_ rfl)
    refine xs_cons (x1_remove (σ' := ⟨[("places", .list (V.map .int)), ("steps", .tuple (S.map .int)), ("count", iN c), ("left", .list (left.map .int))], [("part", .list ([x0].map .int)), ("free", .setI (left.erase x0))]⟩) K m1 (by decide +kernel) (ev_itemK (k := 0) (ev_name K m3 (by decide +kernel)) (by decide) g0) (fun _ _ => rfl) hx0 (by kernel_rfl) ?_ rfl rfl)
    refine xs_cons (x1_set (v := iN 0) (σ' := ⟨[("places", .list (V.map .int)), ("steps", .tuple (S.map .int)), ("count", iN c), ("left", .list (left.map .int)), ("j", iN 0)], [("part", .list ([x0].map .int)), ("free", .setI (left.erase x0))]⟩) K ev_int stj (by kernel_rfl) ?_ rfl)
    refine xs_cons (x1_while K (.inl fun _ _ h => h) (fun m σ => ∃ part free j, PtI V S left x0 part free j ∧ m = 67 - j ∧ σ = ⟨[("places", .list (V.map .int)), ("steps", .tuple (S.map .int)), ("count", iN c), ("left", .list (left.map .int)), ("j", iN j)], [("part", .list (part.map .int)), ("free", .setI free)]⟩) ?_ _ ⟨[x0], left.erase x0, 0, I0, rfl, rfl⟩)
    rintro m σ ⟨part, free, j, I, rfl, rfl⟩
    have hpl := pti_len I hx0 O.cls
    refine ⟨some (decide (j < part.length)), (eb_cong (eb_cmp (ev_name K m4 (by decide +kernel)).weak (ev_callB K gln (by decide +kernel) (evs_cons (ev0_own K m0 (by decide +kernel)).z evs_nil (fun _ _ => rfl)) (call_len (by rw [List.length_map]; lia)) (fun _ _ => rfl) (fun _ => rfl)).weak cmp_lt rfl) (decide_eq_decide.mpr (by rw [List.length_map]; lia))).et, fun hb => ?_, fun hb => ?_, fun q => (nomatch q)⟩
    · have hj : j < part.length := of_decide_eq_true (Option.some.inj hb)
      obtain ⟨y, hy⟩ : ∃ y, part[j]? = some y := ⟨part[j], by simp [hj]⟩
      refine xs_cons (x1_for (xs := S.map AVal.int) K hH (ev_name K m1 (by decide +kernel)) rfl (fun i σ => ∃ part free, i ≤ S.length ∧ PtJ V S left x0 part free j y i ∧ σ = ⟨[("places", .list (V.map .int)), ("steps", .tuple (S.map .int)), ("count", iN c), ("left", .list (left.map .int)), ("j", iN j)], [("part", .list (part.map .int)), ("free", .setI free)]⟩) ⟨part, free, Nat.zero_le _, ptj_start I hy, rfl⟩ ?_ ?_ (fun _ => rfl))
      · rintro i x σ hx ⟨part, free, _, J, rfl⟩
        simp only [List.getElem?_map, Option.map_eq_some_iff] at hx
        obtain ⟨s, hs, rfl⟩ := hx
        have hi : i < S.length := (List.getElem?_eq_some_iff.mp hs).1
        have hpl := pti_len J.pi hx0 O.cls
        have hj' : j < part.length := (List.getElem?_eq_some_iff.mp J.at').1
        refine ⟨⟨[("places", .list (V.map .int)), ("steps", .tuple (S.map .int)), ("count", iN c), ("left", .list (left.map .int)), ("j", iN j), ("step", .int s)], [("part", .list (part.map .int)), ("free", .setI free)]⟩, asg_name K sts (by kernel_rfl), ?_⟩
        have hval : ∀ (ow : List (Str × AVal)) p1 p2 p3 p4 p5, (("part", .list (part.map .int)) : Str × AVal) ∈ ow → EV C ⟨[("places", .list (V.map .int)), ("steps", .tuple (S.map .int)), ("count", iN c), ("left", .list (left.map .int)), ("j", iN j), ("step", .int s)], ow⟩ (.BinOp (.Subscript (.Name "part" p1) (.Name "j" p2) p3) .Add (.Name "step" p4) p5) (.int (y + s)) := fun ow p1 p2 p3 p4 p5 hm =>
          ev_bin (EV0.int (ev0_itemV (k := j) (ev0_own K hm (by decide +kernel)) (ev_name K m4 (by decide +kernel)) (by lia) (by rw [List.getElem?_map, J.at']; rfl) (fun _ _ => rfl))) (ev_name K m5 (by decide +kernel)) bin_add
        refine xs_cons (x1_if (c := decide (y + s ∈ free)) (eb_cmp (hval _ _ _ _ _ _ m0).weak (ev0_own K m1 (by decide +kernel)) cmp_inSetI rfl) (fun hc => ?_) (fun hc => ?_))
        · have hc' := of_decide_eq_true hc
          refine xs_cons (x1_remove (σ' := ⟨[("places", .list (V.map .int)), ("steps", .tuple (S.map .int)), ("count", iN c), ("left", .list (left.map .int)), ("j", iN j), ("step", .int s)], [("part", .list (part.map .int)), ("free", .setI (free.erase (y + s)))]⟩) K m1 (by decide +kernel) (hval _ _ _ _ _ _ m0) (fun _ _ => rfl) hc' (by kernel_rfl) ?_ rfl rfl)
          refine xs_cons (x1_append (v := .int (y + s)) (σ' := ⟨[("places", .list (V.map .int)), ("steps", .tuple (S.map .int)), ("count", iN c), ("left", .list (left.map .int)), ("j", iN j), ("step", .int s)], [("part", .list (part.map .int ++ [.int (y + s)])), ("free", .setI (free.erase (y + s)))]⟩) K m0 (by decide +kernel) (hval _ _ _ _ _ _ m0) (fun _ _ => rfl) (by kernel_rfl) ?_ rfl (by rw [List.length_map]; lia) rfl)
          refine xs_nil (xs_forget (σ' := ⟨[("places", .list (V.map .int)), ("steps", .tuple (S.map .int)), ("count", iN c), ("left", .list (left.map .int)), ("j", iN j)], [("part", .list ((part ++ [y + s]).map .int)), ("free", .setI (free.erase (y + s)))]⟩) (fun p hp => List.mem_append_left [_] hp) (by rw [List.map_append]; rfl) (xs_nil ⟨_, _, hi, ptj_hit J hs O.sub hc', rfl⟩))
        · have hc' := of_decide_eq_false hc
          exact xs_nil (xs_forget (σ' := ⟨[("places", .list (V.map .int)), ("steps", .tuple (S.map .int)), ("count", iN c), ("left", .list (left.map .int)), ("j", iN j)], [("part", .list (part.map .int)), ("free", .setI free)]⟩) (fun p hp => List.mem_append_left [_] hp) rfl (xs_nil ⟨_, _, hi, ptj_miss J hs hx0 O.cls hc', rfl⟩))
      · rintro σ ⟨part, free, _, J, rfl⟩
        rw [List.length_map] at J
        refine xs_nil (xs_cons (x1_aug (σ' := ⟨[("places", .list (V.map .int)), ("steps", .tuple (S.map .int)), ("count", iN c), ("left", .list (left.map .int)), ("j", iN (j + 1))], [("part", .list (part.map .int)), ("free", .setI free)]⟩) K m4 ev_int in_add stj (by kernel_rfl) (xs_nil ⟨_, ?_, part, free, j + 1, ptj_end J, rfl, rfl⟩)))
        have := pti_len J.pi hx0 O.cls
        have := J.pi.le
        lia
    · have hj : ¬ j < part.length := of_decide_eq_false (Option.some.inj hb)
      have : j = part.length := by have := I.le; lia
      subst this
      obtain ⟨O', e2, hlt⟩ := pto_step hS h0 O el I
      have hcall : ∀ p p1 p2 p3 p4 pos, EV C ⟨[("places", .list (V.map .int)), ("steps", .tuple (S.map .int)), ("count", iN c), ("left", .list (left.map .int)), ("j", iN part.length)], [("part", .list (part.map .int)), ("free", .setI free)]⟩ (.Call (.Name "sorted_list_difference" p) [.Name "left" p1, .Call (.Name "sorted" p2) [.Name "part" p3] [] p4] [] pos) (.tuple [.list ((dif ltI left (sortL ltI part)).1.map .int), .list ((dif ltI left (sortL ltI part)).2.map .int)]) :=
        fun p p1 p2 p3 p4 pos => ev_callF K rm1 gsd (by rw [hbase]; exact FD.at') FD.data (by decide +kernel) (evs_cons (ev_name K m3 (by decide +kernel)) (evs_cons (ev_callB K gso (by decide +kernel) (evs_cons (ev0_own K m0 (by decide +kernel)).z evs_nil (fun _ _ => rfl)) (sortedTo66 C part I.nd (by lia)) (fun _ _ => rfl) (fun _ => rfl)) evs_nil (fun _ _ => rfl)) (fun _ _ => rfl)) (by rw [hprog, hw, hbase]; exact f_sld gl bl lim N ltI AVal.int cmpI_lt cmpI_gt cmpI_eq FD _ _ nl (sortL_nodup I.nd) (by lia) (by rw [sortL_len]; lia)) (fun _ _ => rfl)
      generalize hD : dif ltI left (sortL ltI part) = D at *
      rw [e2] at hcall
      refine xs_cons (x1_pair (v := .list (D.1.map .int)) (u := .list (([] : List Int).map .int)) (σ' := ⟨[("places", .list (V.map .int)), ("steps", .tuple (S.map .int)), ("count", iN c), ("left", .list (D.1.map .int)), ("j", iN part.length), ("strange", .list (([] : List Int).map .int))], [("part", .list (part.map .int)), ("free", .setI free)]⟩) K hH (hcall _ _ _ _ _ _) stl stg (by kernel_rfl) ?_ rfl rfl)
      refine xs_cons (x1_if (c := false) (eb_cmp (ev_name K m5 (by decide +kernel)).weak (ev_list evs_nil (Nat.zero_le _)).weak (cmp_neI (ns := []) (ms := []) hu) rfl) (fun h => (nomatch h)) (fun _ => xs_nil ?_))
      refine xs_cons (x1_aug (σ' := ⟨[("places", .list (V.map .int)), ("steps", .tuple (S.map .int)), ("count", iN (c + 1)), ("left", .list (D.1.map .int)), ("j", iN part.length), ("strange", .list (([] : List Int).map .int))], [("part", .list (part.map .int)), ("free", .setI free)]⟩) K m2 ev_int in_add stc (by kernel_rfl) ?_)
      refine xs_freeze (x := "part") (v := .list (part.map .int)) (σ' := ⟨[("places", .list (V.map .int)), ("steps", .tuple (S.map .int)), ("count", iN (c + 1)), ("left", .list (D.1.map .int)), ("j", iN part.length), ("strange", .list (([] : List Int).map .int)), ("part", .list (part.map .int))], [("free", .setI free)]⟩) m0 (by kernel_rfl) ?_
      refine xs_freeze (x := "free") (v := .setI free) (σ' := ⟨[("places", .list (V.map .int)), ("steps", .tuple (S.map .int)), ("count", iN (c + 1)), ("left", .list (D.1.map .int)), ("j", iN part.length), ("strange", .list (([] : List Int).map .int)), ("part", .list (part.map .int)), ("free", .setI free)], []⟩) m0 (by kernel_rfl) ?_
      exact xs_forget (σ' := ⟨[("places", .list (V.map .int)), ("steps", .tuple (S.map .int)), ("count", iN (c + 1)), ("left", .list (D.1.map .int))], []⟩) (fun p hp => List.mem_append_left [_, _, _, _] hp) rfl (xs_nil ⟨_, hlt, D.1, c + 1, O', by lia, rfl, rfl⟩)
  · have he : left = [] := by
      have := Option.some.inj hb
      rw [Bool.not_eq_false', decide_eq_true_eq] at this; exact this
    subst he
    rw [← pto_end O]
    exact xs_cons (x1_return (ev_name K m2 (by decide +kernel)) rfl)
end
end Mine

end
section
open PySem PyProof.Rows
set_option Elab.async false
set_option autoImplicit false
set_option linter.unusedVariables false
namespace Mine
set_option maxRecDepth 100000
theorem skipN_ge (t cs : Str) (p : Nat) : p ≤ skipN t cs p := Nat.le_add_right _ _
theorem skipN_le {t cs : Str} {p : Nat} (h : p ≤ t.cps.size) : skipN t cs p ≤ t.cps.size := by
  unfold skipN
  have h1 := (List.takeWhile_sublist (inCs cs) (l := t.cps.toList.drop p)).length_le
  rw [List.length_drop] at h1
  have h2 : t.cps.toList.length = t.cps.size := Array.length_toList
  lia
theorem fndT_end {t cs : Str} {p : Nat} (h : ¬ p < 10) : ∀ f, fndT t cs f p = []
  | 0 => rfl
  | f + 1 => by unfold fndT; rw [if_neg h]
theorem fmStr_size (n : Nat) : (fmStr (n : Int)).cps.size = 10 := by
  rw [← Array.length_toList, fmStr_cps, fmChars_length]
section
variable {w : World} {base : Heap} {mg mb : Str → Option Value} (gl : base.Ns mainGlobals mg) (bl : base.Ns builtinsNs mb) (lim : base.NoLimit) (N : Names mg mb)
include gl bl lim N
theorem f_runs (hen : mg "enumerate" = none ∧ mb "enumerate" = some (.type "enumerate")) {tv : Value} (htb : mg "_filemode_table" = some tv) (hVR : VR PW w (fun b => base.get? b = none) base fmA tv)
    {fa fs fm fi : Addr} {o os om oi : Obj} {r rs rm ri : FdRest} (FI : FnAt base mg (fnSt PW 1) "S_IFMT" ["mode"] fi oi ri) (FM : FnAt base mg (fnSt PW 22) "filemode" ["mode"] fm om rm) (FS : FnAt base mg (fnSt PW 24) "skip_chars" ["src", "pos", "chars"] fs os rs)
    (F : FnAt base mg (fnSt PW 28) "_law_runs" ["mode", "signs"] fa o r) (m : Nat) (cs : Str) : FnOk PW w base fa 3 [iN m, .str cs] (iN (fndT (fmStr (m : Int)) cs 10 1).length) := by
  refine F.ok gl bl lim (by simp only [List.mem_cons, List.not_mem_nil, or_false, forall_eq_or_imp, forall_eq]; decide +kernel) (by decide +kernel) rfl rfl rfl rfl fun Ar fls P₀ L K R => ?_
  conv => arg 3; whnf
  have st : ∀ x, (fnScope (fnSt PW 28)).names.lookup x = some .local → Storable (fnCfg PW w base mg mb Ar fls P₀ (fnSt PW 28) r L fa) x := fun x h => .inl h
  have gsk : GlobG (fnCfg PW w base mg mb Ar fls P₀ (fnSt PW 28) r L fa) "skip_chars" (.ref fs) := ⟨by kernel_rfl, FS.glob⟩
  have gfm : GlobG (fnCfg PW w base mg mb Ar fls P₀ (fnSt PW 28) r L fa) "filemode" (.ref fm) := ⟨by kernel_rfl, FM.glob⟩
  have hbase : (fnCfg PW w base mg mb Ar fls P₀ (fnSt PW 28) r L fa).base = base := rfl
  have hprog : (fnCfg PW w base mg mb Ar fls P₀ (fnSt PW 28) r L fa).prog = PW := rfl
  have hw : (fnCfg PW w base mg mb Ar fls P₀ (fnSt PW 28) r L fa).w = w := rfl
  generalize hC : fnCfg PW w base mg mb Ar fls P₀ (fnSt PW 28) r L fa = C at *
  have stt := st "text" (by decide +kernel)
  have stc := st "count" (by decide +kernel)
  have stp := st "pos" (by decide +kernel)
  have stb := st "behind" (by decide +kernel)
  have hH : C.A.handled = none := R.handled
  have rm1 : Room C.A 1 := ⟨hH, by have := R.depth; lia, by have := R.units; lia⟩
  have rm2 : Room C.A 2 := ⟨hH, by have := R.depth; lia, by have := R.units; lia⟩
  have ht := fmStr_size m
  refine xs_cons (x1_set (v := .str (fmStr (m : Int))) (σ' := ⟨[("mode", iN m), ("signs", .str cs), ("text", .str (fmStr (m : Int)))], []⟩) K
    (ev_callF K rm2 gfm (by rw [hbase]; exact FM.at') FM.data (by decide +kernel) (evs_cons (ev_name K m0 (by decide +kernel)) evs_nil (fun _ _ => rfl)) (by rw [hprog, hw, hbase]; exact f_filemode gl bl lim hen htb hVR FI FM (m : Int)) (fun _ _ => rfl)) stt (by kernel_rfl) ?_ rfl)
  generalize fmStr (m : Int) = t at *
  refine xs_cons (x1_set (v := iN 0) (σ' := ⟨[("mode", iN m), ("signs", .str cs), ("text", .str t), ("count", iN 0)], []⟩) K ev_int stc (by kernel_rfl) ?_ rfl)
  refine xs_cons (x1_set (v := iN 1) (σ' := ⟨[("mode", iN m), ("signs", .str cs), ("text", .str t), ("count", iN 0), ("pos", iN 1)], []⟩) K ev_int stp (by kernel_rfl) ?_ rfl)
  refine xs_cons (x1_while K (.inl fun _ _ h => h) (fun n σ => ∃ (p f c : Nat), 1 ≤ p ∧ p ≤ 11 ∧ 11 ≤ f + p ∧ n = 11 - p ∧ (fndT t cs 10 1).length = c + (fndT t cs f p).length ∧ σ = ⟨[("mode", iN m), ("signs", .str cs), ("text", .str t), ("count", iN c), ("pos", iN p)], []⟩) ?_ 10 ⟨1, 10, 0, by lia, by lia, by lia, rfl, (Nat.zero_add _).symm, rfl⟩)
  rintro n σ ⟨p, f, c, h1, h11, hf, rfl, e, rfl⟩
  refine ⟨some (decide (p < 10)), (eb_cong (eb_cmp (ev_name K m4 (by decide +kernel)).weak ev_int.weak cmp_lt rfl) (decide_eq_decide.mpr (by lia))).et, fun hb => ?_, fun hb => ?_, fun q => (nomatch q)⟩
  · have hp : p < 10 := of_decide_eq_true (Option.some.inj hb)
    have s1 := skipN_ge t cs p
    have s2 : skipN t cs p ≤ 10 := by rw [← ht]; exact skipN_le (by lia)
    obtain ⟨f, rfl⟩ : ∃ f', f = f' + 1 := ⟨f - 1, by lia⟩
    have ef : fndT t cs (f + 1) p = (if p < skipN t cs p then [16 * p + skipN t cs p] else []) ++ fndT t cs f (skipN t cs p + 1) := by
      conv => lhs; unfold fndT
      rw [if_pos hp]
    have hcall : ∀ q1 q2 q3 q4 pos, EV C ⟨[("mode", iN m), ("signs", .str cs), ("text", .str t), ("count", iN c), ("pos", iN p)], []⟩ (.Call (.Name "skip_chars" q1) [.Name "text" q2, .Name "pos" q3, .Name "signs" q4] [] pos) (iN (skipN t cs p)) := fun q1 q2 q3 q4 pos =>
      ev_callF K rm1 gsk (by rw [hbase]; exact FS.at') FS.data (by decide +kernel) (evs_cons (ev_name K m2 (by decide +kernel)) (evs_cons (ev_name K m4 (by decide +kernel)) (evs_cons (ev_name K m1 (by decide +kernel)) evs_nil (fun _ _ => rfl)) (fun _ _ => rfl)) (fun _ _ => rfl)) (by rw [hprog, hw, hbase]; exact f_skip gl bl lim N FS t cs p (by lia) (by lia)) (fun _ _ => rfl)
    generalize hs : skipN t cs p = s at *
    refine xs_cons (x1_set (v := iN s) (σ' := ⟨[("mode", iN m), ("signs", .str cs), ("text", .str t), ("count", iN c), ("pos", iN p), ("behind", iN s)], []⟩) K (hcall _ _ _ _ _) stb (by kernel_rfl) ?_ rfl)
    refine xs_cons (x1_ifJ ⟨[("mode", iN m), ("signs", .str cs), ("text", .str t), ("count", iN (c + if p < s then 1 else 0)), ("pos", iN p), ("behind", iN s)], []⟩ (c := decide (p < s)) (eb_cong (eb_cmp (ev_name K m5 (by decide +kernel)).weak (ev_name K m4 (by decide +kernel)).weak cmp_gt rfl) (decide_eq_decide.mpr (by lia))) (fun hc => ?_) (fun hc => ?_) ?_)
    · rw [if_pos (of_decide_eq_true hc)]
      exact xs_cons (x1_aug (σ' := ⟨[("mode", iN m), ("signs", .str cs), ("text", .str t), ("count", iN (c + 1)), ("pos", iN p), ("behind", iN s)], []⟩) K m3 ev_int in_add stc (by kernel_rfl) (xs_nil ⟨rfl, rfl⟩))
    · rw [if_neg (of_decide_eq_false hc), Nat.add_zero]
      exact xs_nil ⟨rfl, rfl⟩
    · refine xs_cons (x1_set (v := iN (s + 1)) (σ' := ⟨[("mode", iN m), ("signs", .str cs), ("text", .str t), ("count", iN (c + if p < s then 1 else 0)), ("pos", iN (s + 1)), ("behind", iN s)], []⟩) K (ev_bin (ev_name K m5 (by decide +kernel)) ev_int bin_add) stp (by kernel_rfl) ?_ rfl)
      refine xs_forget (σ' := ⟨[("mode", iN m), ("signs", .str cs), ("text", .str t), ("count", iN (c + if p < s then 1 else 0)), ("pos", iN (s + 1))], []⟩) (fun q hq => List.mem_append_left [_] hq) rfl (xs_nil ⟨11 - (s + 1), by lia, s + 1, f, _, by lia, by lia, by lia, rfl, ?_, rfl⟩)
      rw [e, ef, List.length_append]
      split <;> simp only [List.length_cons, List.length_nil] <;> lia
  · have hp : ¬ p < 10 := of_decide_eq_false (Option.some.inj hb)
    rw [fndT_end hp, List.length_nil, Nat.add_zero] at e
    rw [e]
    exact xs_cons (x1_return (ev_name K m3 (by decide +kernel)) rfl)
end
end Mine

end
section
open PySem PyProof.Rows
set_option Elab.async false
set_option autoImplicit false
set_option linter.unusedVariables false
namespace Mine
set_option maxRecDepth 100000
def bs02 : List Int := [35318, 20245, 44029, 13495]
def bN (b : Bool) : Nat := if b then 1 else 0
theorem mod_two (x : Int) : ∃ b, x.fmod 2 = ((bN b : Nat) : Int) := by
  obtain ⟨k, hk, hlt⟩ := toNat_mod (x := x) (m := 2) (by decide)
  have h : k = 0 ∨ k = 1 := by lia
  rw [show (2 : Int) = ((2 : Nat) : Int) from rfl, hk]
  rcases h with rfl | rfl
  · exact ⟨false, rfl⟩
  · exact ⟨true, rfl⟩
theorem bitOr_nat (n b : Nat) : Builtin.bitOr (n : Int) (b : Int) = ((n ||| b : Nat) : Int) := by
  show PySem.Spec.bitOr (n : Int) (b : Int) = _
  have e : ∀ m : Nat, PySem.Spec.bitNot (PySem.Spec.bitNot (m : Int)) = (m : Int) := fun m => by unfold PySem.Spec.bitNot; lia
  have f : ∀ m : Nat, decide (0 ≤ PySem.Spec.bitNot (m : Int)) = false := fun m => decide_eq_false (by unfold PySem.Spec.bitNot; lia)
  unfold PySem.Spec.bitOr PySem.Spec.bitAnd
  rw [f n, f b]
  show PySem.Spec.bitNot (PySem.Spec.bitNot ((((PySem.Spec.bitNot (PySem.Spec.bitNot (n : Int))).toNat ||| (PySem.Spec.bitNot (PySem.Spec.bitNot (b : Int))).toNat : Nat)) : Int)) = _
  rw [e, e, e, Int.toNat_natCast, Int.toNat_natCast]
def landUp (l : Int → Bool) (c : Nat) : List Int := ((List.range c).filter fun (n : Nat) => l (n : Int)).map Int.ofNat
theorem landUp_succ (l : Int → Bool) (c : Nat) : landUp l (c + 1) = landUp l c ++ (if l (c : Int) = true then [(c : Int)] else []) := by
  unfold landUp
  rw [List.range_succ, List.filter_append, List.map_append]
  congr 1
  rw [List.filter_cons]
  split <;> rfl
theorem landUp_nil {l : Int → Bool} : ∀ c : Nat, (∀ n : Nat, n < c → l (n : Int) = false) → landUp l c = []
  | 0, _ => rfl
  | c + 1, h => by rw [landUp_succ, landUp_nil c (fun n hn => h n (by lia)), h c (by lia)]; rfl
theorem mem_landUp {l : Int → Bool} {c : Nat} {x : Int} : x ∈ landUp l c ↔ 0 ≤ x ∧ x < c ∧ l x = true := by
  unfold landUp
  rw [List.mem_map]
  constructor
  · rintro ⟨n, hn, rfl⟩
    obtain ⟨h1, h2⟩ := List.mem_filter.mp hn
    have h1' : n < c := by simpa using h1
    exact ⟨Int.natCast_nonneg n, Int.ofNat_lt.mpr h1', h2⟩
  · rintro ⟨h1, h2, h3⟩
    refine ⟨x.toNat, List.mem_filter.mpr ⟨by simp; lia, ?_⟩, ?_⟩
    · rw [show ((x.toNat : Nat) : Int) = x by lia]; exact h3
    · show ((x.toNat : Nat) : Int) = x; lia
theorem landUp_srt (l : Int → Bool) (c : Nat) : (landUp l c).Pairwise (· < ·) := by
  unfold landUp
  refine List.Pairwise.map _ (fun a b h => Int.ofNat_lt.mpr h) (List.Pairwise.filter _ ?_)
  exact List.pairwise_lt_range
theorem landUp_len (l : Int → Bool) (c : Nat) : (landUp l c).length ≤ c := by
  unfold landUp
  rw [List.length_map]
  exact Nat.le_trans (List.length_filter_le _ _) (by simp)
theorem codes_srt (c : Nat) : ((List.range c).map Int.ofNat).Pairwise (· < ·) := List.Pairwise.map _ (fun a b h => Int.ofNat_lt.mpr h) List.pairwise_lt_range
theorem mem_codes {c : Nat} {x : Int} : x ∈ (List.range c).map Int.ofNat ↔ 0 ≤ x ∧ x < c := by
  rw [List.mem_map]
  constructor
  · rintro ⟨n, hn, rfl⟩
    have h1' : n < c := by simpa using hn
    exact ⟨Int.natCast_nonneg n, Int.ofNat_lt.mpr h1'⟩
  · rintro ⟨h1, h2⟩
    exact ⟨x.toNat, by simp; lia, by show ((x.toNat : Nat) : Int) = x; lia⟩
section
variable {w : World} {base : Heap} {mg mb : Str → Option Value} (gl : base.Ns mainGlobals mg) (bl : base.Ns builtinsNs mb) (lim : base.NoLimit) (N : Names mg mb)
include gl bl lim N
set_option maxHeartbeats 4000000 in
theorem f_law (hso : mg "sorted" = none ∧ mb "sorted" = some (.builtin "sorted")) (hrg : mg "range" = none ∧ mb "range" = some (.type "range")) (hln : mg "len" = none ∧ mb "len" = some (.builtin "len")) (hen : mg "enumerate" = none ∧ mb "enumerate" = some (.type "enumerate"))
    (hse : mg "set" = none ∧ mb "set" = some (.type "set")) (hsu : mg "sum" = none ∧ mb "sum" = some (.builtin "sum")) (hli : mg "list" = none ∧ mb "list" = some (.type "list"))
    {tv : Value} (htb : mg "_filemode_table" = some tv) (hVR : VR PW w (fun b => base.get? b = none) base fmA tv)
    {f1 f22 f24 f26 f28 f29 f30 : Addr} {o1 o22 o24 o26 o28 o29 o30 : Obj} {r1 r22 r24 r26 r28 r29 r30 : FdRest}
    (F1 : FnAt base mg (fnSt PW 1) "S_IFMT" ["mode"] f1 o1 r1) (F22 : FnAt base mg (fnSt PW 22) "filemode" ["mode"] f22 o22 r22) (F24 : FnAt base mg (fnSt PW 24) "skip_chars" ["src", "pos", "chars"] f24 o24 r24)
    (F26 : FnAt base mg (fnSt PW 26) "sorted_list_difference" ["expected", "actual"] f26 o26 r26) (F28 : FnAt base mg (fnSt PW 28) "_law_runs" ["mode", "signs"] f28 o28 r28) (F29 : FnAt base mg (fnSt PW 29) "_law_parts" ["places", "steps"] f29 o29 r29)
    (F30 : FnAt base mg (fnSt PW 30) "law" ["script"] f30 o30 r30) (ns : List Int) (hns : ns.length ≤ 63) : FnOk PW w base f30 4 [.list (ns.map .int)] (.bool true) := by
  refine F30.ok gl bl lim (by simp only [List.mem_cons, List.not_mem_nil, or_false, forall_eq_or_imp, forall_eq]; decide +kernel) (by decide +kernel) rfl rfl rfl rfl fun Ar fls P₀ L K R => ?_
  conv => arg 3; whnf
  have st : ∀ x, (fnScope (fnSt PW 30)).names.lookup x = some .local → Storable (fnCfg PW w base mg mb Ar fls P₀ (fnSt PW 30) r30 L f30) x := fun x h => .inl h
  have grg : GlobB (fnCfg PW w base mg mb Ar fls P₀ (fnSt PW 30) r30 L f30) "range" (.type "range") := ⟨by kernel_rfl, hrg⟩
  have gln : GlobB (fnCfg PW w base mg mb Ar fls P₀ (fnSt PW 30) r30 L f30) "len" (.builtin "len") := ⟨by kernel_rfl, hln⟩
  have gsu : GlobB (fnCfg PW w base mg mb Ar fls P₀ (fnSt PW 30) r30 L f30) "sum" (.builtin "sum") := ⟨by kernel_rfl, hsu⟩
  have gli : GlobB (fnCfg PW w base mg mb Ar fls P₀ (fnSt PW 30) r30 L f30) "list" (.type "list") := ⟨by kernel_rfl, hli⟩
  have gru : GlobG (fnCfg PW w base mg mb Ar fls P₀ (fnSt PW 30) r30 L f30) "_law_runs" (.ref f28) := ⟨by kernel_rfl, F28.glob⟩
  have gpa : GlobG (fnCfg PW w base mg mb Ar fls P₀ (fnSt PW 30) r30 L f30) "_law_parts" (.ref f29) := ⟨by kernel_rfl, F29.glob⟩
  have gsd : GlobG (fnCfg PW w base mg mb Ar fls P₀ (fnSt PW 30) r30 L f30) "sorted_list_difference" (.ref f26) := ⟨by kernel_rfl, F26.glob⟩
  have stb : Storable (fnCfg PW w base mg mb Ar fls P₀ (fnSt PW 30) r30 L f30) "bases" := .inr ⟨by kernel_rfl, _, by rfl, by exact .head _⟩
  have stn : Storable (fnCfg PW w base mg mb Ar fls P₀ (fnSt PW 30) r30 L f30) "numbers" := .inr ⟨by kernel_rfl, _, by rfl, by exact .tail _ (.head _)⟩
  have hbase : (fnCfg PW w base mg mb Ar fls P₀ (fnSt PW 30) r30 L f30).base = base := rfl
  have hprog : (fnCfg PW w base mg mb Ar fls P₀ (fnSt PW 30) r30 L f30).prog = PW := rfl
  have hw : (fnCfg PW w base mg mb Ar fls P₀ (fnSt PW 30) r30 L f30).w = w := rfl
  generalize hC : fnCfg PW w base mg mb Ar fls P₀ (fnSt PW 30) r30 L f30 = C at *
  have stm := st "modes" (by decide +kernel)
  have stk := st "k" (by decide +kernel)
  have stth := st "there" (by decide +kernel)
  have stab := st "above" (by decide +kernel)
  have stsi := st "signs" (by decide +kernel)
  have stru := st "runs" (by decide +kernel)
  have stbo := st "both" (by decide +kernel)
  have stla := st "land" (by decide +kernel)
  have stpl := st "place" (by decide +kernel)
  have stbi := st "bit" (by decide +kernel)
  have stwa := st "water" (by decide +kernel)
  have stst := st "strange" (by decide +kernel)
  have stis := st "islands" (by decide +kernel)
  have stws := st "waters" (by decide +kernel)
  have hH : C.A.handled = none := R.handled
  have sz : (1000 : Nat) ≤ sizeLine := by decide +kernel
  have rm1 : Room C.A 1 := ⟨hH, by have := R.depth; lia, by have := R.units; lia⟩
  have rm2 : Room C.A 2 := ⟨hH, by have := R.depth; lia, by have := R.units; lia⟩
  have rm3 : Room C.A 3 := ⟨hH, by have := R.depth; lia, by have := R.units; lia⟩
  have hu : C.A.units + 64 < cLine := by have := R.units; lia
  have ft : ∀ {α : Type} (l : List α), l.filter (fun _ => true) = l := fun l => List.filter_eq_self.mpr fun _ _ => rfl
  obtain ⟨n3, n4⟩ := numsOf_len ns
  -- numbers
  refine xs_cons (x1_set (σ' := ⟨[("script", .list (ns.map .int)), ("numbers", .list ((numsOf ns).map .int))], []⟩) K
    (ev_cong (ev_bin (ev_sliceToT (z := true) (k := 4) (ev_name K m0 (by decide +kernel)) ev_int (by decide) (by rw [List.length_map]; lia)).ev (ev_bin (ev_list (evs_cons ev_int evs_nil (fun _ _ => rfl)) (Nat.le_trans (by decide) sz)) (ev_bin ev_int (ev_callB K gln (by decide +kernel) (evs_cons (ev_name K m0 (by decide +kernel)).weak evs_nil (fun _ _ => rfl)) (call_len (by rw [List.length_map]; lia)) (fun _ _ => rfl) (fun _ => rfl)) bin_sub) (bin_mull (by rw [List.length_map]; simp only [List.length_cons, List.length_nil]; lia) (by rw [List.length_map]; lia) (by rw [List.length_map]; lia))) (bin_addl (by rw [List.length_take, List.length_map, rep_one, List.length_replicate]; lia))) (by rw [List.length_map, numsOf_val])) stn (by kernel_rfl) ?_ rfl)
  -- bases
  refine xs_cons (x1_set (v := .list (bs02.map .int)) (σ' := ⟨[("script", .list (ns.map .int)), ("numbers", .list ((numsOf ns).map .int)), ("bases", .list (bs02.map .int))], []⟩) K (ev_list (evs_cons ev_int (evs_cons ev_int (evs_cons ev_int (evs_cons ev_int evs_nil (fun _ _ => rfl)) (fun _ _ => rfl)) (fun _ _ => rfl)) (fun _ _ => rfl)) (Nat.le_trans (by decide) sz)) stb (by kernel_rfl) ?_ rfl)
  -- modes
  have hml : (modesOf bs02 (numsOf ns)).length ≤ 4 := by rw [modesOf_len]; exact n4
  have hmv : ((List.range (numsOf ns).length).filter fun _ => true).map (fun k => iN (modeOf bs02 (numsOf ns) k)) = (modesOf bs02 (numsOf ns)).map iN := by unfold modesOf; rw [ft, List.map_map]; rfl
  refine xs_cons (own_to_set (x := "modes") (v := .list ((modesOf bs02 (numsOf ns)).map iN)) (σ' := ⟨[("script", .list (ns.map .int)), ("numbers", .list ((numsOf ns).map .int)), ("bases", .list (bs02.map .int)), ("modes", .list ((modesOf bs02 (numsOf ns)).map iN))], []⟩) (fun Q' hq => ?_) (by kernel_rfl) ?_)
  · refine x1_ownC (l := List.range (numsOf ns).length) (inj := fun (k : Nat) => AVal.int (k : Int)) K hH (ev_callT K grg (by decide +kernel) (evs_cons (ev_callB K gln (by decide +kernel) (evs_cons (ev_name K m1 (by decide +kernel)).weak evs_nil (fun _ _ => rfl)) (call_len (by rw [List.length_map]; lia)) (fun _ _ => rfl) (fun _ => rfl)).weak evs_nil (fun _ _ => rfl)) call_range1 (fun _ _ => rfl) (fun _ => rfl)) (by rw [List.length_map]; exact iter_range _ (by lia)) (by rw [List.length_range]; lia) (fun _ => true) (fun k => iN (modeOf bs02 (numsOf ns) k))
      [("bases", .list (bs02.map .int)), ("numbers", .list ((numsOf ns).map .int))] stm rfl (by rw [hmv]; exact hq) (cscopeN rfl (by decide +kernel) (by kernel_rfl) (cvars2 ⟨m2, ⟨L + 2, by rw [← hC]; rfl, fun _ => by rw [← hC]; rfl⟩, by rw [← hC]; kernel_rfl, by rw [← hC]; kernel_rfl⟩ ⟨m1, ⟨L + 1, by rw [← hC]; rfl, fun _ => by rw [← hC]; rfl⟩, by rw [← hC]; kernel_rfl, by rw [← hC]; kernel_rfl⟩)) ?_ (fun _ => rfl) (by rw [← hC]; rfl)
    intro L2 P2 KC k hk
    have hk' : k < (numsOf ns).length := by simpa using hk
    refine ⟨⟨[("bases", .list (bs02.map .int)), ("numbers", .list ((numsOf ns).map .int)), ("k", iN k)], []⟩, asg_name KC (compLocal (by decide +kernel)) (by kernel_rfl), ebs_nil, fun _ => ?_⟩
    exact ev_cong (ev_bin (ev_bin (ev_itemV (k := k) (ev_name KC m0 (by decide +kernel)) (ev_name KC m2 (by decide +kernel)) (by lia) (getD_map (by show k < 4; lia)) (fun _ _ => rfl)) (ev_itemV (k := k) (ev_name KC m1 (by decide +kernel)) (ev_name KC m2 (by decide +kernel)) (by lia) (getD_map hk') (fun _ _ => rfl)) bin_add) ev_int (bin_mod (by decide))) (congrArg AVal.int (modeOf_val _ _ _))
  have hm3 : 3 ≤ (modesOf bs02 (numsOf ns)).length := by rw [modesOf_len]; exact n3
  generalize modesOf bs02 (numsOf ns) = ms at *
  -- there, above, signs
  have hsum : ∀ σ' p1 p2 p3, (("script", .list (ns.map .int)) : Str × AVal) ∈ σ' → EV C ⟨σ', []⟩ (.Call (.Name "sum" p1) [.Name "script" p2] [] p3) (.int ns.sum) := fun σ' p1 p2 p3 h => ev_callB K gsu (by decide +kernel) (evs_cons (ev_name K h (by decide +kernel)).weak evs_nil (fun _ _ => rfl)) (call_sum hH) (fun _ _ => rfl) (fun _ => rfl)
  obtain ⟨t, ht⟩ : ∃ t, 1 - ns.sum.fmod 2 = ((bN t : Nat) : Int) := by
    obtain ⟨b, hb⟩ := mod_two ns.sum
    exact ⟨!b, by rw [hb]; cases b <;> rfl⟩
  obtain ⟨a, ha⟩ := mod_two (ns.sum.fdiv 2)
  refine xs_cons (x1_set (v := iN (bN t)) (σ' := ⟨[("script", .list (ns.map .int)), ("numbers", .list ((numsOf ns).map .int)), ("bases", .list (bs02.map .int)), ("modes", .list (ms.map iN)), ("there", iN (bN t))], []⟩) K (ev_cong (ev_bin ev_int (ev_bin (hsum _ _ _ _ m0) ev_int (bin_mod (by decide))) bin_sub) (congrArg AVal.int ht)) stth (by kernel_rfl) ?_ rfl)
  refine xs_cons (x1_set (v := iN (bN a)) (σ' := ⟨[("script", .list (ns.map .int)), ("numbers", .list ((numsOf ns).map .int)), ("bases", .list (bs02.map .int)), ("modes", .list (ms.map iN)), ("there", iN (bN t)), ("above", iN (bN a))], []⟩) K (ev_cong (ev_bin (ev_bin (hsum _ _ _ _ m0) ev_int (bin_div (by decide) (by decide))) ev_int (bin_mod (by decide))) (congrArg AVal.int ha)) stab (by kernel_rfl) ?_ rfl)
  refine xs_cons (x1_set (v := .str (sgX a t)) (σ' := ⟨[("script", .list (ns.map .int)), ("numbers", .list ((numsOf ns).map .int)), ("bases", .list (bs02.map .int)), ("modes", .list (ms.map iN)), ("there", iN (bN t)), ("above", iN (bN a)), ("signs", .str (sgX a t))], []⟩) K
    (ev_itemV (k := bN t) (xs := [.str (sgX a false), .str (sgX a true)]) (ev_itemV (k := bN a) (xs := [.list [.str (sgX false false), .str (sgX false true)], .list [.str (sgX true false), .str (sgX true true)]]) (ev_list (evs_cons (ev_list (evs_cons ev_str (evs_cons ev_str evs_nil (fun _ _ => rfl)) (fun _ _ => rfl)) (Nat.le_trans (by decide) sz)) (evs_cons (ev_list (evs_cons ev_str (evs_cons ev_str evs_nil (fun _ _ => rfl)) (fun _ _ => rfl)) (Nat.le_trans (by decide) sz)) evs_nil (fun _ _ => rfl)) (fun _ _ => rfl)) (Nat.le_trans (by decide) sz)) (ev_name K m5 (by decide +kernel)) (by cases a <;> decide) (by cases a <;> rfl) (fun _ _ => rfl)) (ev_name K m4 (by decide +kernel)) (by cases t <;> decide) (by cases t <;> rfl) (fun _ _ => rfl)) stsi (by kernel_rfl) ?_ rfl)
  -- runs
  have getM : ∀ k, k < ms.length → (ms.map iN)[k]? = some (iN (ms.getD k 0)) := fun k hk => by
    rw [List.getElem?_map, List.getD_eq_getElem?_getD, List.getElem?_eq_getElem hk]; rfl
  have frun : ∀ m, FnOk C.prog C.w C.base f28 3 [iN m, .str (sgX a t)] (iN (rU (lnd a t m) 9)) := fun m => by
    rw [hprog, hw, hbase, ← runs_X]; exact f_runs gl bl lim N hen htb hVR F1 F22 F24 F28 m (sgX a t)
  refine xs_cons (x1_set (v := .int 0) (σ' := ⟨[("script", .list (ns.map .int)), ("numbers", .list ((numsOf ns).map .int)), ("bases", .list (bs02.map .int)), ("modes", .list (ms.map iN)), ("there", iN (bN t)), ("above", iN (bN a)), ("signs", .str (sgX a t)), ("runs", .int (runsTo a t ms 0))], []⟩) K ev_int stru (by kernel_rfl) ?_ rfl)
  refine xs_cons (x1_for K hH (ev_callT K grg (by decide +kernel) (evs_cons (ev_callB K gln (by decide +kernel) (evs_cons (ev_name K m3 (by decide +kernel)).weak evs_nil (fun _ _ => rfl)) (call_lenN (by lia)) (fun _ _ => rfl) (fun _ => rfl)).weak evs_nil (fun _ _ => rfl)) call_range1 (fun _ _ => rfl) (fun _ => rfl)) (iter_range ms.length (by lia))
    (fun k σ => k ≤ ms.length ∧ σ = ⟨[("script", .list (ns.map .int)), ("numbers", .list ((numsOf ns).map .int)), ("bases", .list (bs02.map .int)), ("modes", .list (ms.map iN)), ("there", iN (bN t)), ("above", iN (bN a)), ("signs", .str (sgX a t)), ("runs", .int (runsTo a t ms k))], []⟩) ⟨Nat.zero_le _, rfl⟩ ?_ ?_ (fun _ => rfl))
  · rintro k x σ hx ⟨_, rfl⟩
    obtain ⟨hk, rfl⟩ := range_get hx
    refine ⟨⟨[("script", .list (ns.map .int)), ("numbers", .list ((numsOf ns).map .int)), ("bases", .list (bs02.map .int)), ("modes", .list (ms.map iN)), ("there", iN (bN t)), ("above", iN (bN a)), ("signs", .str (sgX a t)), ("runs", .int (runsTo a t ms k)), ("k", iN k)], []⟩, asg_name K stk (by kernel_rfl), ?_⟩
    refine xs_cons (x1_aug (σ' := ⟨[("script", .list (ns.map .int)), ("numbers", .list ((numsOf ns).map .int)), ("bases", .list (bs02.map .int)), ("modes", .list (ms.map iN)), ("there", iN (bN t)), ("above", iN (bN a)), ("signs", .str (sgX a t)), ("runs", .int (runsTo a t ms k + (rU (lnd a t (ms.getD k 0)) 9 : Int))), ("k", iN k)], []⟩) K m7
      (ev_callF K rm3 gru (by rw [hbase]; exact F28.at') F28.data (by decide +kernel) (evs_cons (ev_itemV (k := k) (ev_name K m3 (by decide +kernel)) (ev_name K m8 (by decide +kernel)) (by lia) (getM k hk) (fun _ _ => rfl)) (evs_cons (ev_name K m6 (by decide +kernel)) evs_nil (fun _ _ => rfl)) (fun _ _ => rfl)) (frun _) (fun _ _ => rfl)) in_add stru (by kernel_rfl) ?_)
    refine xs_cons (x1_if (c := decide (0 < k)) (eb_cong (eb_cmp (ev_name K m8 (by decide +kernel)).weak ev_int.weak cmp_gt rfl) (decide_eq_decide.mpr (by lia))) (fun hc => ?_) (fun hc => ?_))
    · have hk0 := of_decide_eq_true hc
      obtain ⟨both, hboth⟩ : ∃ both, both = if t = true then (ms.getD (k - 1) 0 &&& ms.getD k 0) else (ms.getD (k - 1) 0 ||| ms.getD k 0) := ⟨_, rfl⟩
      have i1 : ∀ p1 p2 p3 p4 p5 q kk, EV C ⟨[("script", .list (ns.map .int)), ("numbers", .list ((numsOf ns).map .int)), ("bases", .list (bs02.map .int)), ("modes", .list (ms.map iN)), ("there", iN (bN t)), ("above", iN (bN a)), ("signs", .str (sgX a t)), ("runs", .int q), ("k", iN k)], []⟩ (.Subscript (.Name "modes" p1) (.BinOp (.Name "k" p2) .Sub (.Constant (.int 1) kk p3) p4) p5) (iN (ms.getD (k - 1) 0)) := fun p1 p2 p3 p4 p5 q kk =>
        ev_itemV (k := k - 1) (ev_name K m3 (by decide +kernel)) (ev_cong (ev_bin (ev_name K m8 (by decide +kernel)) ev_int bin_sub) (congrArg AVal.int (by lia))) (by lia) (getM _ (by lia)) (fun _ _ => rfl)
      refine xs_cons (x1_set (v := iN both) (σ' := ⟨[("script", .list (ns.map .int)), ("numbers", .list ((numsOf ns).map .int)), ("bases", .list (bs02.map .int)), ("modes", .list (ms.map iN)), ("there", iN (bN t)), ("above", iN (bN a)), ("signs", .str (sgX a t)), ("runs", .int (runsTo a t ms k + (rU (lnd a t (ms.getD k 0)) 9 : Int))), ("k", iN k), ("both", iN both)], []⟩) K
        (ev_if (c := t) (eb_cong (eb_cmp (ev_name K m4 (by decide +kernel)).weak ev_int.weak cmp_eq rfl) (by cases t <;> rfl)) (fun h => ?_) (fun h => ?_)) stbo (by kernel_rfl) ?_ rfl)
      · rw [hboth, if_pos h]
        exact ev_cong (ev_bin (i1 _ _ _ _ _ _ _) (ev_itemV (k := k) (ev_name K m3 (by decide +kernel)) (ev_name K m8 (by decide +kernel)) (by lia) (getM k hk) (fun _ _ => rfl)) bin_and) (congrArg AVal.int (bitAnd_nat _ _))
      · rw [hboth, if_neg (by rw [h]; exact Bool.false_ne_true)]
        exact ev_cong (ev_bin (i1 _ _ _ _ _ _ _) (ev_itemV (k := k) (ev_name K m3 (by decide +kernel)) (ev_name K m8 (by decide +kernel)) (by lia) (getM k hk) (fun _ _ => rfl)) bin_or) (congrArg AVal.int (bitOr_nat _ _))
      have hrb : rU (lnd a t both) 9 = rU (fun j => lnd a t (ms.getD (k - 1) 0) j && lnd a t (ms.getD k 0) j) 9 := rU_congr fun j _ => by
        rw [hboth]
        cases t
        · rw [if_neg Bool.false_ne_true, lnd_or]
        · rw [if_pos rfl, lnd_and]
      refine xs_cons (x1_aug (σ' := ⟨[("script", .list (ns.map .int)), ("numbers", .list ((numsOf ns).map .int)), ("bases", .list (bs02.map .int)), ("modes", .list (ms.map iN)), ("there", iN (bN t)), ("above", iN (bN a)), ("signs", .str (sgX a t)), ("runs", .int (runsTo a t ms k + (rU (lnd a t (ms.getD k 0)) 9 : Int) - (rU (lnd a t both) 9 : Int))), ("k", iN k), ("both", iN both)], []⟩) K m7
        (ev_callF K rm3 gru (by rw [hbase]; exact F28.at') F28.data (by decide +kernel) (evs_cons (ev_name K m9 (by decide +kernel)) (evs_cons (ev_name K m6 (by decide +kernel)) evs_nil (fun _ _ => rfl)) (fun _ _ => rfl)) (frun _) (fun _ _ => rfl)) in_sub stru (by kernel_rfl) ?_)
      have e : runsTo a t ms k + (rU (lnd a t (ms.getD k 0)) 9 : Int) - (rU (lnd a t both) 9 : Int) = runsTo a t ms (k + 1) := by rw [runsTo, if_pos hk0, hrb]
      rw [e]
      exact xs_nil (xs_forget (σ' := ⟨[("script", .list (ns.map .int)), ("numbers", .list ((numsOf ns).map .int)), ("bases", .list (bs02.map .int)), ("modes", .list (ms.map iN)), ("there", iN (bN t)), ("above", iN (bN a)), ("signs", .str (sgX a t)), ("runs", .int (runsTo a t ms (k + 1)))], []⟩) (fun p hp => List.mem_append_left [_, _] hp) rfl (xs_nil ⟨hk, rfl⟩))
    · have hk0 := of_decide_eq_false hc
      have e : runsTo a t ms k + (rU (lnd a t (ms.getD k 0)) 9 : Int) = runsTo a t ms (k + 1) := by rw [runsTo, if_neg hk0, Int.sub_zero]
      rw [e]
      exact xs_nil (xs_forget (σ' := ⟨[("script", .list (ns.map .int)), ("numbers", .list ((numsOf ns).map .int)), ("bases", .list (bs02.map .int)), ("modes", .list (ms.map iN)), ("there", iN (bN t)), ("above", iN (bN a)), ("signs", .str (sgX a t)), ("runs", .int (runsTo a t ms (k + 1)))], []⟩) (fun p hp => List.mem_append_left [_] hp) rfl (xs_nil ⟨hk, rfl⟩))
  rintro σ ⟨_, rfl⟩
  rw [List.length_map, List.length_range]
  refine xs_nil ?_
  -- land
  have hl0 : landUp (lF a t ms) (11 * (0 + 1)) = [] := landUp_nil _ fun n hn => lF_out a t (by lia)
  refine xs_cons (x1_own (v := .list ((landUp (lF a t ms) (11 * (0 + 1))).map .int)) (σ' := ⟨[("script", .list (ns.map .int)), ("numbers", .list ((numsOf ns).map .int)), ("bases", .list (bs02.map .int)), ("modes", .list (ms.map iN)), ("there", iN (bN t)), ("above", iN (bN a)), ("signs", .str (sgX a t)), ("runs", .int (runsTo a t ms ms.length))], [("land", .list ((landUp (lF a t ms) (11 * (0 + 1))).map .int))]⟩) K (by rw [hl0]; exact evf_list evs_nil (Nat.zero_le _)) stla (by kernel_rfl) ?_ rfl)
  refine xs_cons (x1_for K hH (ev_callT K grg (by decide +kernel) (evs_cons (ev_callB K gln (by decide +kernel) (evs_cons (ev_name K m3 (by decide +kernel)).weak evs_nil (fun _ _ => rfl)) (call_lenN (by lia)) (fun _ _ => rfl) (fun _ => rfl)).weak evs_nil (fun _ _ => rfl)) call_range1 (fun _ _ => rfl) (fun _ => rfl)) (iter_range ms.length (by lia))
    (fun k σ => k ≤ ms.length ∧ σ = ⟨[("script", .list (ns.map .int)), ("numbers", .list ((numsOf ns).map .int)), ("bases", .list (bs02.map .int)), ("modes", .list (ms.map iN)), ("there", iN (bN t)), ("above", iN (bN a)), ("signs", .str (sgX a t)), ("runs", .int (runsTo a t ms ms.length))], [("land", .list ((landUp (lF a t ms) (11 * (k + 1))).map .int))]⟩) ⟨Nat.zero_le _, rfl⟩ ?_ ?_ (fun _ => rfl))
  · rintro k x σ hx ⟨_, rfl⟩
    obtain ⟨hk, rfl⟩ := range_get hx
    refine ⟨⟨[("script", .list (ns.map .int)), ("numbers", .list ((numsOf ns).map .int)), ("bases", .list (bs02.map .int)), ("modes", .list (ms.map iN)), ("there", iN (bN t)), ("above", iN (bN a)), ("signs", .str (sgX a t)), ("runs", .int (runsTo a t ms ms.length)), ("k", iN k)], [("land", .list ((landUp (lF a t ms) (11 * (k + 1))).map .int))]⟩, asg_name K stk (by kernel_rfl), ?_⟩
    have l0 : landUp (lF a t ms) (11 * (k + 1) + 1 + 0) = landUp (lF a t ms) (11 * (k + 1)) := by
      rw [Nat.add_zero, landUp_succ, lF_out a t (by lia), if_neg Bool.false_ne_true, List.append_nil]
    refine xs_cons (x1_for K hH (ev_callT K grg (by decide +kernel) (evs_cons ev_int.weak (evs_cons ev_int.weak evs_nil (fun _ _ => rfl)) (fun _ _ => rfl)) call_range2 (fun _ _ => rfl) (fun _ => rfl)) (iter_range2 1 10 (by decide) (by decide))
      (fun j σ => j ≤ 9 ∧ σ = ⟨[("script", .list (ns.map .int)), ("numbers", .list ((numsOf ns).map .int)), ("bases", .list (bs02.map .int)), ("modes", .list (ms.map iN)), ("there", iN (bN t)), ("above", iN (bN a)), ("signs", .str (sgX a t)), ("runs", .int (runsTo a t ms ms.length)), ("k", iN k)], [("land", .list ((landUp (lF a t ms) (11 * (k + 1) + 1 + j)).map .int))]⟩) ⟨Nat.zero_le _, by rw [l0]⟩ ?_ ?_ (fun _ => rfl))
    · rintro j x σ hx ⟨_, rfl⟩
      obtain ⟨hj, rfl⟩ := range_get hx
      obtain ⟨p, hp⟩ : ∃ p, p = 1 + j := ⟨_, rfl⟩
      rw [← hp]
      have hp1 : 1 ≤ p := by lia
      have hp9 : p ≤ 9 := by lia
      have hlen : (landUp (lF a t ms) (11 * (k + 1) + 1 + j)).length ≤ 100 := Nat.le_trans (landUp_len _ _) (by lia)
      have hnext := landUp_succ (lF a t ms) (11 * (k + 1) + 1 + j)
      rw [show 11 * (k + 1) + 1 + j + 1 = 11 * (k + 1) + 1 + (j + 1) by lia, show ((11 * (k + 1) + 1 + j : Nat) : Int) = 11 * ((k : Int) + 1) + (p : Int) by lia] at hnext
      have hlF : lF a t ms (11 * ((k : Int) + 1) + (p : Int)) = landAt a t (ms.getD k 0) p := by
        rw [lF_in a t hk hp9]; unfold lnd; rw [decide_eq_true hp1, Bool.true_and]
      rw [hlF] at hnext
      generalize landUp (lF a t ms) (11 * (k + 1) + 1 + j) = LU at *
      have hbx := bitX_lt a p hp1 hp9
      refine ⟨⟨[("script", .list (ns.map .int)), ("numbers", .list ((numsOf ns).map .int)), ("bases", .list (bs02.map .int)), ("modes", .list (ms.map iN)), ("there", iN (bN t)), ("above", iN (bN a)), ("signs", .str (sgX a t)), ("runs", .int (runsTo a t ms ms.length)), ("k", iN k), ("place", iN p)], [("land", .list (LU.map .int))]⟩, asg_name K stpl (by kernel_rfl), ?_⟩
      refine xs_cons (x1_set (v := iN (bitX a p)) (σ' := ⟨[("script", .list (ns.map .int)), ("numbers", .list ((numsOf ns).map .int)), ("bases", .list (bs02.map .int)), ("modes", .list (ms.map iN)), ("there", iN (bN t)), ("above", iN (bN a)), ("signs", .str (sgX a t)), ("runs", .int (runsTo a t ms ms.length)), ("k", iN k), ("place", iN p), ("bit", iN (bitX a p))], [("land", .list (LU.map .int))]⟩) K
        (ev_if (c := a && (p % 3 == 0 && true)) (eb_and_cons (p := a) (eb_cong (eb_cmp (ev_name K m5 (by decide +kernel)).weak ev_int.weak cmp_eq rfl) (by cases a <;> rfl)) (fun _ => eb_and_cons (eb_cong (eb_cmp (ev_bin (ev_name K m9 (by decide +kernel)) ev_int (bin_mod (by decide))).weak ev_int.weak cmp_eq rfl) (by rw [show (3 : Int) = ((3 : Nat) : Int) from rfl, fmod_nat]; exact eq_nat (p % 3) 0)) (fun _ => eb_and_nil))) (fun h => ?_) (fun h => ?_)) stbi (by kernel_rfl) ?_ rfl)
      · rw [Bool.and_true] at h
        refine ev_cong (ev_bin ev_int (ev_bin (ev_name K m9 (by decide +kernel)) ev_int (bin_div (by decide) (by decide))) bin_sub) (congrArg AVal.int ?_)
        rw [show (3 : Int) = ((3 : Nat) : Int) from rfl, fdiv_nat]
        unfold bitX
        rw [if_pos h]
        lia
      · rw [Bool.and_true] at h
        refine ev_cong (ev_bin ev_int (ev_name K m9 (by decide +kernel)) bin_sub) (congrArg AVal.int ?_)
        unfold bitX
        rw [if_neg (by rw [h]; exact Bool.false_ne_true)]
        lia
      have e2 : (2 : Int) ^ ((bitX a p : Nat) : Int).toNat = ((2 ^ bitX a p : Nat) : Int) := by rw [Int.toNat_natCast]; exact (Int.natCast_pow 2 _).symm
      have q1 : (2 : Int) ^ ((bitX a p : Nat) : Int).toNat ≠ 0 := by rw [e2]; have := Nat.pow_pos (a := 2) (n := bitX a p) (by decide); lia
      have q2 : ((2 : Int) ^ ((bitX a p : Nat) : Int).toNat).natAbs < 1073741824 := by
        rw [e2, Int.natAbs_natCast]
        have : 2 ^ bitX a p ≤ 2 ^ 16 := Nat.pow_le_pow_right (by decide) (by lia)
        lia
      refine xs_cons (x1_if (c := landAt a t (ms.getD k 0) p) (eb_cong (eb_cmp (ev_bin (ev_bin (ev_itemV (k := k) (ev_name K m3 (by decide +kernel)) (ev_name K m8 (by decide +kernel)) (by lia) (getM k hk) (fun _ _ => rfl)) (ev_bin ev_int (ev_name K m10 (by decide +kernel)) (bin_pow (by lia) (by lia) (by decide))) (bin_div q1 q2)) ev_int (bin_mod (by decide))).weak (ev_name K m4 (by decide +kernel)).weak cmp_eq rfl) ?_) (fun hc => ?_) (fun hc => ?_))
      · rw [e2, fdiv_nat, show (2 : Int) = ((2 : Nat) : Int) from rfl, fmod_nat]
        unfold landAt
        rw [← testBit_div]
        have h : ms.getD k 0 / 2 ^ bitX a p % 2 = 0 ∨ ms.getD k 0 / 2 ^ bitX a p % 2 = 1 := by lia
        rcases h with h | h <;> rw [h] <;> cases t <;> rfl
      · rw [if_pos hc] at hnext
        refine xs_cons (x1_append (v := .int (11 * ((k : Int) + 1) + (p : Int))) (σ' := ⟨[("script", .list (ns.map .int)), ("numbers", .list ((numsOf ns).map .int)), ("bases", .list (bs02.map .int)), ("modes", .list (ms.map iN)), ("there", iN (bN t)), ("above", iN (bN a)), ("signs", .str (sgX a t)), ("runs", .int (runsTo a t ms ms.length)), ("k", iN k), ("place", iN p), ("bit", iN (bitX a p))], [("land", .list (LU.map .int ++ [.int (11 * ((k : Int) + 1) + (p : Int))]))]⟩) K m0 (by decide +kernel) (ev_bin (ev_bin ev_int (ev_bin (ev_name K m8 (by decide +kernel)) ev_int bin_add) (bin_mul (IntMulOk.of_left (by decide +kernel)))) (ev_name K m9 (by decide +kernel)) bin_add) (fun _ _ => rfl) (by kernel_rfl) ?_ rfl (by rw [List.length_map]; lia) rfl)
        refine xs_nil (xs_forget (σ' := ⟨[("script", .list (ns.map .int)), ("numbers", .list ((numsOf ns).map .int)), ("bases", .list (bs02.map .int)), ("modes", .list (ms.map iN)), ("there", iN (bN t)), ("above", iN (bN a)), ("signs", .str (sgX a t)), ("runs", .int (runsTo a t ms ms.length)), ("k", iN k)], [("land", .list ((landUp (lF a t ms) (11 * (k + 1) + 1 + (j + 1))).map .int))]⟩) (fun q hq => List.mem_append_left [_, _] hq) (by rw [hnext, List.map_append]; rfl) (xs_nil ⟨by lia, rfl⟩))
      · rw [if_neg (by rw [hc]; exact Bool.false_ne_true), List.append_nil] at hnext
        exact xs_nil (xs_forget (σ' := ⟨[("script", .list (ns.map .int)), ("numbers", .list ((numsOf ns).map .int)), ("bases", .list (bs02.map .int)), ("modes", .list (ms.map iN)), ("there", iN (bN t)), ("above", iN (bN a)), ("signs", .str (sgX a t)), ("runs", .int (runsTo a t ms ms.length)), ("k", iN k)], [("land", .list ((landUp (lF a t ms) (11 * (k + 1) + 1 + (j + 1))).map .int))]⟩) (fun q hq => List.mem_append_left [_, _] hq) (by rw [hnext]) (xs_nil ⟨by lia, rfl⟩))
    · rintro σ ⟨_, rfl⟩
      rw [List.length_map, List.length_range]
      have l9 : landUp (lF a t ms) (11 * (k + 1 + 1)) = landUp (lF a t ms) (11 * (k + 1) + 1 + (10 - 1)) := by
        rw [show 11 * (k + 1 + 1) = (11 * (k + 1) + 1 + (10 - 1)) + 1 by lia, landUp_succ, lF_out a t (by lia), if_neg Bool.false_ne_true, List.append_nil]
      exact xs_nil (xs_forget (σ' := ⟨[("script", .list (ns.map .int)), ("numbers", .list ((numsOf ns).map .int)), ("bases", .list (bs02.map .int)), ("modes", .list (ms.map iN)), ("there", iN (bN t)), ("above", iN (bN a)), ("signs", .str (sgX a t)), ("runs", .int (runsTo a t ms ms.length))], [("land", .list ((landUp (lF a t ms) (11 * (k + 1 + 1))).map .int))]⟩) (fun q hq => List.mem_append_left [_] hq) (by rw [l9]) (xs_nil ⟨hk, rfl⟩))
  rintro σ ⟨_, rfl⟩
  rw [List.length_map, List.length_range]
  refine xs_nil ?_
  have hVz : landUp (lF a t ms) (11 * (ms.length + 1)) = landUp (lF a t ms) (sizeZ ms.length) := by
    have key : ∀ d : Nat, landUp (lF a t ms) (11 * (ms.length + 1) + d) = landUp (lF a t ms) (11 * (ms.length + 1)) := by
      intro d
      induction d with
      | zero => rfl
      | succ d ih =>
        show landUp (lF a t ms) (11 * (ms.length + 1) + d + 1) = _
        rw [landUp_succ, lF_out a t (by lia), if_neg Bool.false_ne_true, List.append_nil, ih]
    rw [← key 11]; rfl
  rw [hVz]
  have V4s := landUp_srt (lF a t ms) (sizeZ ms.length)
  have V4m : ∀ x, x ∈ landUp (lF a t ms) (sizeZ ms.length) ↔ Lm (lF a t ms) ((sizeZ ms.length : Nat) : Int) x := fun x => by
    rw [mem_landUp]
    exact ⟨fun h => ⟨h.2.2, h.2.1⟩, fun h => ⟨by have := (pic_of a t ms).low x h.1; lia, h.2, h.1⟩⟩
  have V4l : (landUp (lF a t ms) (sizeZ ms.length)).length ≤ 66 := Nat.le_trans (landUp_len _ _) (by unfold sizeZ; lia)
  generalize landUp (lF a t ms) (sizeZ ms.length) = V4 at *
  refine xs_freeze (x := "land") (v := .list (V4.map .int)) (σ' := ⟨[("script", .list (ns.map .int)), ("numbers", .list ((numsOf ns).map .int)), ("bases", .list (bs02.map .int)), ("modes", .list (ms.map iN)), ("there", iN (bN t)), ("above", iN (bN a)), ("signs", .str (sgX a t)), ("runs", .int (runsTo a t ms ms.length)), ("land", .list (V4.map .int))], []⟩) m0 (by kernel_rfl) ?_
  -- water
  have hZl : sizeZ ms.length ≤ 66 := by unfold sizeZ; lia
  have cs := codes_srt (sizeZ ms.length)
  have w1 : ∀ x, x ∈ (dif ltI ((List.range (sizeZ ms.length)).map Int.ofNat) V4).1 ↔ Wm (lF a t ms) ms.length ((sizeZ ms.length : Nat) : Int) x := fun x => by
    rw [mem_dif1 linI (pw_ltI cs) (pw_ltI V4s), mem_codes, V4m]
    unfold Wm sizeZ
    constructor
    · rintro ⟨⟨h1, h2⟩, h3⟩; exact ⟨h1, by lia, h3⟩
    · rintro ⟨h1, h2, h3⟩; exact ⟨⟨h1, by lia⟩, h3⟩
  have w2 : (dif ltI ((List.range (sizeZ ms.length)).map Int.ofNat) V4).2 = [] := List.eq_nil_iff_forall_not_mem.mpr fun x hx => by
    obtain ⟨h1, h2⟩ := (mem_dif2 linI (pw_ltI cs) (pw_ltI V4s)).mp hx
    have h := (V4m x).mp h1
    exact h2 (mem_codes.mpr ⟨by have := (pic_of a t ms).low x h.1; lia, h.2⟩)
  have w3 : (dif ltI ((List.range (sizeZ ms.length)).map Int.ofNat) V4).1.Pairwise (· < ·) := cs.sublist (dif_sub1 _ _)
  have w4 : (dif ltI ((List.range (sizeZ ms.length)).map Int.ofNat) V4).1.length ≤ 66 := Nat.le_trans (dif_sub1 _ _).length_le (by simp; exact hZl)
  have hcall : ∀ p1 p2 p3 p4 p5 p6 p7 p8 p9 p10 p11 p12 p13 p14 k1 k2, EV C ⟨[("script", .list (ns.map .int)), ("numbers", .list ((numsOf ns).map .int)), ("bases", .list (bs02.map .int)), ("modes", .list (ms.map iN)), ("there", iN (bN t)), ("above", iN (bN a)), ("signs", .str (sgX a t)), ("runs", .int (runsTo a t ms ms.length)), ("land", .list (V4.map .int))], []⟩ (.Call (.Name "sorted_list_difference" p1) [.Call (.Name "list" p2) [.Call (.Name "range" p3) [.BinOp (.Constant (.int 11) k1 p4) .Mult (.BinOp (.Call (.Name "len" p5) [.Name "modes" p6] [] p7) .Add (.Constant (.int 2) k2 p8) p9) p10] [] p11] [] p12, .Name "land" p13] [] p14) (.tuple [.list ((dif ltI ((List.range (sizeZ ms.length)).map Int.ofNat) V4).1.map .int), .list ((dif ltI ((List.range (sizeZ ms.length)).map Int.ofNat) V4).2.map .int)]) := by
    intros
    refine ev_callF K rm1 gsd (by rw [hbase]; exact F26.at') F26.data (by decide +kernel) (evs_cons (v := .list (((List.range (sizeZ ms.length)).map Int.ofNat).map .int)) (ev_callT K gli (by decide +kernel) (evs_cons (v := .range 0 ((sizeZ ms.length : Nat) : Int)) (EV.weak (ev_cong (ev_callT K grg (by decide +kernel) (evs_cons (ev_bin ev_int (ev_bin (ev_callB K gln (by decide +kernel) (evs_cons (ev_name K m3 (by decide +kernel)).weak evs_nil (fun _ _ => rfl)) (call_lenN (by lia)) (fun _ _ => rfl) (fun _ => rfl)) ev_int bin_add) (bin_mul (IntMulOk.of_left (by decide +kernel)))).weak evs_nil (fun _ _ => rfl)) call_range1 (fun _ _ => rfl) (fun _ => rfl)) (congrArg (AVal.range 0) (by unfold sizeZ; lia)))).z evs_nil (fun _ _ => rfl)) (call_listRange hH (by lia)) (fun _ _ => rfl) (fun _ => rfl)) (evs_cons (ev_name K m8 (by decide +kernel)) evs_nil (fun _ _ => rfl)) (fun _ _ => rfl)) ?_ (fun _ _ => rfl)
    rw [hprog, hw, hbase]
    exact f_sld gl bl lim N ltI AVal.int cmpI_lt cmpI_gt cmpI_eq F26 _ _ (pw_nodupI cs) (pw_nodupI V4s) (by simp; lia) (by lia)
  rw [w2] at hcall
  generalize (dif ltI ((List.range (sizeZ ms.length)).map Int.ofNat) V4).1 = V8 at *
  refine xs_cons (x1_pair (v := .list (V8.map .int)) (u := .list (([] : List Int).map .int)) (σ' := ⟨[("script", .list (ns.map .int)), ("numbers", .list ((numsOf ns).map .int)), ("bases", .list (bs02.map .int)), ("modes", .list (ms.map iN)), ("there", iN (bN t)), ("above", iN (bN a)), ("signs", .str (sgX a t)), ("runs", .int (runsTo a t ms ms.length)), ("land", .list (V4.map .int)), ("water", .list (V8.map .int)), ("strange", .list (([] : List Int).map .int))], []⟩) K hH (hcall _ _ _ _ _ _ _ _ _ _ _ _ _ _ _ _) stwa stst (by kernel_rfl) ?_ rfl rfl)
  refine xs_cons (x1_if (c := false) (eb_cmp (ev_name K m10 (by decide +kernel)).weak (ev_list evs_nil (Nat.zero_le _)).weak (cmp_neI (ns := []) (ms := []) hu) rfl) (fun h => (nomatch h)) (fun _ => xs_nil ?_))
  -- islands and waters
  have e4 : inV V4 = Lm (lF a t ms) ((sizeZ ms.length : Nat) : Int) := funext fun x => propext (V4m x)
  have e8 : inV V8 = Wm (lF a t ms) ms.length ((sizeZ ms.length : Nat) : Int) := funext fun x => propext (w1 x)
  have hpl := plain02 a t ms
  rw [← e4, ← e8] at hpl
  have p4 := f_parts (w := w) gl bl lim N hso hse hln F26 F29 V4 S4 (sizeZ ms.length) st4 V4s (fun x hx => by have h := (V4m x).mp hx; exact ⟨by have := (pic_of a t ms).low x h.1; lia, h.2⟩) V4l (by decide)
  have p8 := f_parts (w := w) gl bl lim N hso hse hln F26 F29 V8 S8 (sizeZ ms.length) st8 w3 (fun x hx => by have h := (w1 x).mp hx; exact ⟨h.1, by have := h.2.1; unfold sizeZ; lia⟩) w4 (by decide)
  generalize cnt (sizeZ ms.length) (inV V4) S4 = c4 at *
  generalize cnt (sizeZ ms.length) (inV V8) S8 = c8 at *
  refine xs_cons (x1_set (v := iN c4) (σ' := ⟨[("script", .list (ns.map .int)), ("numbers", .list ((numsOf ns).map .int)), ("bases", .list (bs02.map .int)), ("modes", .list (ms.map iN)), ("there", iN (bN t)), ("above", iN (bN a)), ("signs", .str (sgX a t)), ("runs", .int (runsTo a t ms ms.length)), ("land", .list (V4.map .int)), ("water", .list (V8.map .int)), ("strange", .list (([] : List Int).map .int)), ("islands", iN c4)], []⟩) K (ev_callF K rm2 gpa (by rw [hbase]; exact F29.at') F29.data (by decide +kernel) (evs_cons (ev_name K m8 (by decide +kernel)) (evs_cons (v := .tuple (S4.map .int)) (ev_tuple (evs_cons ev_int (evs_cons (ev_neg ev_int) (evs_cons ev_int (evs_cons (ev_neg ev_int) evs_nil (fun _ _ => rfl)) (fun _ _ => rfl)) (fun _ _ => rfl)) (fun _ _ => rfl)) (Nat.le_trans (by decide) sz)) evs_nil (fun _ _ => rfl)) (fun _ _ => rfl)) (by rw [hprog, hw, hbase]; exact p4) (fun _ _ => rfl)) stis (by kernel_rfl) ?_ rfl)
  refine xs_cons (x1_set (v := iN c8) (σ' := ⟨[("script", .list (ns.map .int)), ("numbers", .list ((numsOf ns).map .int)), ("bases", .list (bs02.map .int)), ("modes", .list (ms.map iN)), ("there", iN (bN t)), ("above", iN (bN a)), ("signs", .str (sgX a t)), ("runs", .int (runsTo a t ms ms.length)), ("land", .list (V4.map .int)), ("water", .list (V8.map .int)), ("strange", .list (([] : List Int).map .int)), ("islands", iN c4), ("waters", iN c8)], []⟩) K (ev_callF K rm2 gpa (by rw [hbase]; exact F29.at') F29.data (by decide +kernel) (evs_cons (ev_name K m9 (by decide +kernel)) (evs_cons (v := .tuple (S8.map .int)) (ev_tuple (evs_cons ev_int (evs_cons (ev_neg ev_int) (evs_cons ev_int (evs_cons (ev_neg ev_int) (evs_cons ev_int (evs_cons (ev_neg ev_int) (evs_cons ev_int (evs_cons (ev_neg ev_int) evs_nil (fun _ _ => rfl)) (fun _ _ => rfl)) (fun _ _ => rfl)) (fun _ _ => rfl)) (fun _ _ => rfl)) (fun _ _ => rfl)) (fun _ _ => rfl)) (fun _ _ => rfl)) (Nat.le_trans (by decide) sz)) evs_nil (fun _ _ => rfl)) (fun _ _ => rfl)) (by rw [hprog, hw, hbase]; exact p8) (fun _ _ => rfl)) stws (by kernel_rfl) ?_ rfl)
  refine xs_cons (x1_return (v := .bool true) (ev_cong (ev_and_cons (ev_cmp (ev_name K m11 (by decide +kernel)).weak ev_int.weak cmp_ge rfl) (fun _ => ev_and_cons (ev_cmp (ev_name K m12 (by decide +kernel)).weak ev_int.weak cmp_ge rfl) (fun _ => ev_and_one (ev_cmp (ev_bin (ev_name K m11 (by decide +kernel)) (ev_bin (ev_name K m12 (by decide +kernel)) ev_int bin_sub) bin_sub).weak (ev_name K m7 (by decide +kernel)).weak cmp_eq rfl)))) ?_) rfl)
  rw [hpl, beq_self_eq_true, decide_eq_true (show (0 : Int) ≤ (c4 : Int) by lia), decide_eq_true (show (0 : Int) ≤ (c8 : Int) by lia)]; rfl
end
end Mine

end
open PySem PySem.W PyProof.Rows
set_option Elab.async false
set_option maxRecDepth 100000
set_option linter.unusedVariables false
namespace Mine
def IntsAre.nums {vs : List Value} {ns : List Int} (_ : IntsAre vs ns) : List Int := ns
theorem postLaw (a : List WData) : (PySem.Challenge.rw_oy0080_02.row.claim).post a (WData.bool true) a = true := by kernel_rfl
end Mine
set_option maxHeartbeats 8000000 in
theorem PySem.Challenge.cw_oy0080_02_holds : PySem.Challenge.rw_oy0080_02.Holds := by
  w_on
  o_law
  o_head Hook.none
  case hw => w_witness2
  intro w s₀ s₁ mg mb G Y fa o pm cd doc dV kV ho hd hcd hD hmg hg args vals as hpre hlay hrd hwl hlo
  have V := (Ground.X G).2
  refine Ground.open G ?_
  intro T B D TE TW
  obtain ⟨f1, o1, r1, F1⟩ := Mine.fnAt_top T (st := Mine.fnSt Mine.PW 1) (nm := "S_IFMT") (ps := ["mode"]) 0 (by kernel_rfl) (by kernel_rfl) (fun pm code doc args h => match args, h with | [a], _ => by kernel_rfl)
  obtain ⟨f22, o22, r22, F22⟩ := Mine.fnAt_top T (st := Mine.fnSt Mine.PW 22) (nm := "filemode") (ps := ["mode"]) 1 (by kernel_rfl) (by kernel_rfl) (fun pm code doc args h => match args, h with | [a], _ => by kernel_rfl)
  obtain ⟨f24, o24, r24, F24⟩ := Mine.fnAt_top T (st := Mine.fnSt Mine.PW 24) (nm := "skip_chars") (ps := ["src", "pos", "chars"]) 2 (by kernel_rfl) (by kernel_rfl) (fun pm code doc args h => match args, h with | [a, b, c], _ => by kernel_rfl)
  obtain ⟨f26, o26, r26, F26⟩ := Mine.fnAt_top T (st := Mine.fnSt Mine.PW 26) (nm := "sorted_list_difference") (ps := ["expected", "actual"]) 3 (by kernel_rfl) (by kernel_rfl) (fun pm code doc args h => match args, h with | [a, b], _ => by kernel_rfl)
  obtain ⟨f28, o28, r28, F28⟩ := Mine.fnAt_top T (st := Mine.fnSt Mine.PW 28) (nm := "_law_runs") (ps := ["mode", "signs"]) 4 (by kernel_rfl) (by kernel_rfl) (fun pm code doc args h => match args, h with | [a, b], _ => by kernel_rfl)
  obtain ⟨f29, o29, r29, F29⟩ := Mine.fnAt_top T (st := Mine.fnSt Mine.PW 29) (nm := "_law_parts") (ps := ["places", "steps"]) 5 (by kernel_rfl) (by kernel_rfl) (fun pm code doc args h => match args, h with | [a, b], _ => by kernel_rfl)
  obtain ⟨f30, o30, r30, F30⟩ := Mine.fnAt_top T (st := Mine.fnSt Mine.PW 30) (nm := "law") (ps := ["script"]) 6 (by kernel_rfl) (by kernel_rfl) (fun pm code doc args h => match args, h with | [a], _ => by kernel_rfl)
  have efa : f30 = fa := by
    have h := F30.glob.symm.trans hmg
    simpa using h
  subst efa
  have hso : mg "sorted" = none ∧ mb "sorted" = some (.builtin "sorted") := ⟨T.free _ (by decide +kernel) (by decide +kernel) (by decide +kernel) (by decide +kernel) (by decide +kernel), (T.builtins _ (by decide +kernel)).trans (by kernel_rfl)⟩
  have hrg : mg "range" = none ∧ mb "range" = some (.type "range") := ⟨T.free _ (by decide +kernel) (by decide +kernel) (by decide +kernel) (by decide +kernel) (by decide +kernel), (T.builtins _ (by decide +kernel)).trans (by kernel_rfl)⟩
  have hln : mg "len" = none ∧ mb "len" = some (.builtin "len") := ⟨T.free _ (by decide +kernel) (by decide +kernel) (by decide +kernel) (by decide +kernel) (by decide +kernel), (T.builtins _ (by decide +kernel)).trans (by kernel_rfl)⟩
  have hen : mg "enumerate" = none ∧ mb "enumerate" = some (.type "enumerate") := ⟨T.free _ (by decide +kernel) (by decide +kernel) (by decide +kernel) (by decide +kernel) (by decide +kernel), (T.builtins _ (by decide +kernel)).trans (by kernel_rfl)⟩
  have hse : mg "set" = none ∧ mb "set" = some (.type "set") := ⟨T.free _ (by decide +kernel) (by decide +kernel) (by decide +kernel) (by decide +kernel) (by decide +kernel), (T.builtins _ (by decide +kernel)).trans (by kernel_rfl)⟩
  have hsu : mg "sum" = none ∧ mb "sum" = some (.builtin "sum") := ⟨T.free _ (by decide +kernel) (by decide +kernel) (by decide +kernel) (by decide +kernel) (by decide +kernel), (T.builtins _ (by decide +kernel)).trans (by kernel_rfl)⟩
  have hli : mg "list" = none ∧ mb "list" = some (.type "list") := ⟨T.free _ (by decide +kernel) (by decide +kernel) (by decide +kernel) (by decide +kernel) (by decide +kernel), (T.builtins _ (by decide +kernel)).trans (by kernel_rfl)⟩
  have hix : mg "IndexError" = none ∧ mb "IndexError" = some (.type "IndexError") := ⟨T.free _ (by decide +kernel) (by decide +kernel) (by decide +kernel) (by decide +kernel) (by decide +kernel), (T.builtins _ (by decide +kernel)).trans (by kernel_rfl)⟩
  obtain ⟨tv, htb, hrl⟩ := V.val _ (List.mem_cons_self)
  have hVR : Mine.VR Mine.PW w (fun b => s₁.heap.get? b = none) s₁.heap Mine.fmA tv := Mine.vr_lit Mine.fmA tv [] (by decide +kernel) hrl
  wrow_args hpre hlay hrd hwl hlo
  refine enter_call ?_
  rename IntsAre _ _ => hI
  rename Heap.IsList _ _ _ => hL
  refine Mine.f_law T.g T.b T.nolimit ⟨hix⟩ hso hrg hln hen hse hsu hli htb hVR F1 F22 F24 F26 F28 F29 F30 ?ns ?hlen callerA [] (fun _ => False) s₁ _ _ ⟨rfl, by decide +kernel, by decide +kernel⟩ rfl (fun b o e => e) trivial (fun b hb => ?_) (fun b hb => hb.elim) (fun b hb => hb.elim) ?_ fun cv s' G' V' => ?_
  case ns => exact (Mine.IntsAre.nums hI)
  case hlen =>
    unfold Mine.IntsAre.nums
    rename ¬ (_ < _) => hq
    lia
  rotate_left 1
  · simp only [Mine.VRs, Mine.VR]
    exact ⟨_, _, rfl, ⟨_, _, rfl, fun q => q, hL, Mine.vrs_ints.mpr hI⟩, rfl⟩
  · simp only [Mine.VR] at V'
    subst V'
    refine GoodW.toG ⟨.inl ⟨.bool true, .bool true, [], rfl, fun _ => rfl, .bool true, ?_, fun _ => ⟨List.nodup_nil, fun a h => (nomatch h)⟩⟩, fun b o e => (G'.keep b o e).notFr (by rintro ⟨e', he', _⟩; cases he'), by rw [G'.eq], by rw [G'.eq]; exact hg⟩
    exact Mine.postLaw _
  · obtain ⟨e', he', _⟩ := hb; cases he'
